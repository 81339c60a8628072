/-
  newCycleSearch BY A CONTRACT.
-/
import Derived.Test.Qxb6613322aNcsH
namespace Go.Proofs.Qxb6613322a
open Go.RowKit Go.Shelf
set_option linter.unusedVariables false

/-- how many of the first j are not -1 -/
def cntN (C : Nat → Int) : Nat → Nat
  | 0 => 0
  | j + 1 => if C j = -1 then cntN C j else cntN C j + 1
theorem cntN_le (C : Nat → Int) : ∀ j, cntN C j ≤ j
  | 0 => Nat.le_refl _
  | j + 1 => by
    have := cntN_le C j
    rw [cntN]; split <;> omega

theorem ne_of_def {w : World} {l g : Nat} {ds : Option (List Deferred)} {c : Array Value} {t : TypeId} {z : Nat × Nat} (hl : w.heap[l]? = some (.deferred ds)) (hg : w.heap[g]? = some (.cells c t z)) : g ≠ l := by
  intro e; subst e; rw [hl] at hg; cases hg
theorem Row.put {w : World} {l g : Nat} {ds : Option (List Deferred)} {t : TypeId} {L : List Value} (h : Row w g t L) (hl : w.heap[l]? = some (.deferred ds)) (o : Obj) : Row (w.putObj l o) g t L := by
  unfold Row
  rw [World.putObj_heap_other (ne_of_def hl h)]
  exact h
theorem cell_put {w : World} {l : Nat} {ds : Option (List Deferred)} {a : Addr} {v : Value} (h : w.cell? a = some v) (hl : w.heap[l]? = some (.deferred ds)) (o : Obj) : (w.putObj l o).cell? a = some v := by
  have hne : a.block ≠ l := by
    intro e
    subst e
    simp [World.cell?, hl] at h
  exact (World.cell?_of_block (w := w) (World.putObj_heap_other hne)).trans h
theorem Fin25.put {B0 CK SB gL gP gD gR gQ m n nt q : Nat} {S : List Nat} {T E C : Nat → Int} {X : Nat → Bool} {w w' : World} (h : Fin25 B0 CK SB gL gP gD gR gQ m n nt q S T E C X w w') {l : Nat} {ds : Option (List Deferred)} (hl : w'.heap[l]? = some (.deferred ds)) (hB : B0 ≤ l) (o : Obj) : Fin25 B0 CK SB gL gP gD gR gQ m n nt q S T E C X w (w'.putObj l o) := by
  obtain ⟨⟨vC, r⟩, ⟨gC, gH, hg, hc⟩, rL, rP, rD, rR, hb⟩ := h
  refine ⟨⟨vC, r.put hl o⟩, ⟨gC, gH, ?_, fun j hj i hi => cell_put (hc j hj i hi) hl o⟩, rL.put hl o, rP.put hl o, rD.put hl o, rR.put hl o, ?_⟩
  · rcases hg with ⟨h0, h1⟩ | ⟨h0, cC, cH, h1, h2⟩
    · exact .inl ⟨h0, cell_put h1 hl o⟩
    · exact .inr ⟨h0, cC, cH, cell_put h1 hl o, cell_put h2 hl o⟩
  · exact hb.grown (grownBy_putObj' w' l o) (Nat.le_trans hB (Nat.le_of_lt (Array.getElem?_eq_some_iff.1 hl).1)) (fun k e => by cases e; exact hB)

set_option maxRecDepth 100000 in
set_option maxHeartbeats 2000000 in
theorem ncs25 (CK n nt cC hA count ne : Nat) (aC : Option Addr) (T E C : Nat → Int) (X : Nat → Bool) (w : World)
    (hn : n ≤ 4096) (hnt : nt ≤ 65536) (hcount : count ≤ 65536) (hne : ne ≤ 65536) (hLc : ∀ i, i < n → onC T C i = true → 0 ≤ C (T i).toNat ∧ C (T i).toNat < count) (hE : ∀ i, i < n → 0 ≤ E i ∧ E i < ne) (hacq : AcqH w w.heap.size CK n hA T E X) (hent : EntR w w.heap.size CK ne)
    (hC : IntRow w aC nt C) (hT : ∀ i, i < n → 0 ≤ T i ∧ T i < nt) (hCB : ∀ b off, aC = some ⟨b, off, none⟩ → b < w.heap.size) :
    Calls Try.prog 25 #[.pointer (some ⟨CK, 0, none⟩), .slice aC nt cC, .int .i64 (count : Int)] w fun e w' => ∃ v, e = .returned v ∧ Out25 w.heap.size CK ((List.range n).filter (onC T C)).length n nt (cntN C nt) (Srt25 T E C count ne ((List.range n).filter (onC T C))) T E C X w v w' := by
  refine (callsIn_wide (n := 10)).1 ?_
  refine callsIn_of_wp_marks Try.func25 rfl trivial ?_ rfl
  simp only [Try.ntmps25, List.size_toArray, List.length_cons, List.length_nil, Nat.reduceAdd, Nat.reduceSub, Array.replicate_succ, Array.replicate_zero, List.push_toArray, List.append_toArray, List.nil_append, List.cons_append]
  refine wpIn_wide.2 ?_
  refine Code.wp_mono (Q := RetOnly fun a w' => bodyPostM Fence.wide 10 Try.prog Try.f25 (fun e w' => ∃ v, e = .returned v ∧ Out25 w.heap.size CK ((List.range n).filter (onC T C)).length n nt (cntN C nt) (Srt25 T E C count ne ((List.range n).filter (onC T C))) T E C X w v w') .ret a w') (fun e a w' h => by cases e <;> first | exact h | exact h.elim) ?_
  obtain ⟨W1, hW1⟩ : ∃ W1, W1 = (w.alloc (.cells #[.slice aC nt cC] 22)).alloc (.cells #[.int .i64 0] 3) := ⟨_, rfl⟩
  have hb1 : Below w.heap.size w W1 := by rw [hW1]; exact ((Below.refl _ _).alloc (Nat.le_refl _) _).alloc (by simp) _
  have hs1 : W1.heap.size = w.heap.size + 1 + 1 := by rw [hW1]; simp
  have bx1 : Boxed W1 w.heap.size 22 (.slice aC nt cC) := by rw [hW1]; exact (Boxed.new w 22 _).alloc _
  have bk1 : Boxed W1 (w.heap.size + 1) 3 (.int .i64 0) := by
    rw [hW1]
    have h := Boxed.new (w.alloc (.cells #[.slice aC nt cC] 22)) 3 (.int .i64 0)
    rw [World.size_alloc] at h
    exact h
  refine wp_seq_k (y := tail25 1) (fun K hK => ?_)
  go_wp2_with fail
  conv => arg 2; whnf
  refine wp_seq_k (y := tail25 2) (fun K hK => ?_)
  go_wp2_with fail
  rw [← hW1]
  have HW1 : Hid (W1 = (w.alloc (.cells #[.slice aC nt cC] 22)).alloc (.cells #[.int .i64 0] 3)) := hW1
  clear hW1
  have hcx := bx1.cell
  have hC1 := hC.below hb1
  conv => arg 2; whnf
  refine wp_seq_k (y := tail25 3) (fun K hK => ?_)
  go_wp2_with fail
  go_loopg [31, 7, 10] nt (fun gk i c _ wr => ∃ j : Nat, j ≤ nt ∧ gk = nt - j ∧ i = .int .i64 (j : Int) ∧ c = .int .i64 (cntN C j : Int) ∧ wr = W1)
  case atStart => exact ⟨0, by omega, rfl, rfl, rfl, rfl⟩
  case round =>
    obtain ⟨j, hj, hgk, rfl, rfl, hwr⟩ := hrel
    subst hwr
    have hG : Hid (gk = nt - j) := hgk
    clear hgk
    by_cases hlt : j < nt
    · obtain ⟨b, off, rfl, c1, _⟩ := hC1 j hlt
      have hle := cntN_le C j
      by_cases hz : C j = -1
      · have HC : Hid (cntN C (j + 1) = cntN C j) := by show cntN C (j + 1) = _; rw [cntN, if_pos hz]
        rw [hz] at c1
        go_wp2_with fail
        go_roundg (nt - (j + 1))
        case measure => have := hG.out; omega
        case rel => exact ⟨j + 1, by omega, rfl, by go_num, by rw [HC.out], rfl⟩
      · have HC : Hid (cntN C (j + 1) = cntN C j + 1) := by show cntN C (j + 1) = _; rw [cntN, if_neg hz]
        have hz1 : (C j == -1) = false := by simp [hz]
        generalize cntN C j = kk at *
        go_wp2_with fail
        go_roundg (nt - (j + 1))
        case measure => have := hG.out; omega
        case rel => exact ⟨j + 1, by omega, rfl, by go_num, by rw [HC.out]; go_num, rfl⟩
    · have hjn : nt = j := by omega
      subst hjn
      clear hlt hj hG
      have hq := cntN_le C nt
      go_wp2_with fail
      refine tail3 CK w.heap.size (w.heap.size + 1) n nt cC (cntN C nt) hA (w.heap.size + 1) count ne aC T E C X [] _ wr hn hnt (by omega) hcount hne bk1 (Nat.le_refl _) hLc hE ((hacq.below hb1).mono (by omega)) ((hent.below hb1).mono (by omega)) (by omega) hcx (by omega) hC1 hT (fun b off e => by have := hCB b off e; omega) ?_
      · intro a2 w2 D D' hD hDD hd2 hk1 hk2 hout
        show LeavesInM Fence.wide 10 Try.prog Try.f25 a2.tmps _ a2.defers .returning w2
        rw [hd2]
        obtain ⟨SB, gL, gP, gD, gR, gQ, h6, hfin⟩ := hout
        have hfin1 := hfin.put hk2 (by omega) (.deferred none)
        have hk1' : (w2.putObj D' (.deferred none)).heap[D]? = some (.deferred (some [])) := (World.putObj_heap_other (by omega)).trans hk1
        have hfin2 := hfin1.put hk1' (by omega) (.deferred none)
        refine ⟨by simp, .inl ⟨_, _, rfl, run_takeDeferred hk2, ?_⟩⟩
        refine ⟨by simp, .inl ⟨_, _, rfl, run_takeDeferred hk1', ?_⟩⟩
        exact ⟨_, results_tmp rfl _ _ _, _, rfl, SB, gL, gP, gD, gR, gQ, h6, hfin2.row, hfin2.grps, hfin2.rL, hfin2.rP, hfin2.rD, hfin2.rR, hb1.trans (hfin2.below.mono (by omega))⟩
end Go.Proofs.Qxb6613322a

