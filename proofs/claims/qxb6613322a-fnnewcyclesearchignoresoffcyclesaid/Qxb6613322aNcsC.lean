/-
  newCycleSearch: '&cycleSearch{..}': FIVE makes IN WHATEVER ORDER, by an invariant.
-/
import Derived.Test.Qxb6613322aAnyInv
import Derived.Test.Qxb6613322aNcsB
namespace Go.Proofs.Qxb6613322a
open Go.RowKit
set_option linter.unusedVariables false

theorem Try.info82 : (Try.prog.info? 82).map (fun i => (i.zero, i.size, i.bytes)) = some (some (.agg #[.int .i32 0, .int .i32 0, .int .i32 0]), 3, 12) := by kernel_rfl
theorem made3 (m : Nat) : madeCells (.agg #[.int .i32 0, .int .i32 0, .int .i32 0] : Value).cells (m * 3) = (lcells (fun _ => 0) (fun _ => 0) (fun _ => 0) m).toArray := by
  apply Array.ext_getElem?
  intro j
  rw [show (lcells (fun _ => 0) (fun _ => 0) (fun _ => 0) m).toArray[j]? = (lcells (fun _ => 0) (fun _ => 0) (fun _ => 0) m)[j]? from by simp, lcells_at]
  unfold madeCells
  rw [Array.getElem?_map]
  by_cases hj : j < 3 * m
  · rw [if_pos hj, Array.getElem?_range, if_pos (by omega)]
    have h3 : (Value.agg #[.int .i32 0, .int .i32 0, .int .i32 0]).cells = #[.int .i32 0, .int .i32 0, .int .i32 0] := by rfl
    rw [h3]
    have : j % 3 = 0 ∨ j % 3 = 1 ∨ j % 3 = 2 := by omega
    rcases this with e | e | e <;> simp [e]
  · rw [if_neg hj]
    simp
    omega
theorem mk75 (m : Nat) (hm : m ≤ 4096) (w : World) : (Instr.makeSlice 75 (.int .i64 (m : Int)) (.int .i64 (m : Int))).run Try.prog w = .ok (.slice (some ⟨w.heap.size, 0, none⟩) m m) (w.alloc (.cells (lcells (fun _ => 0) (fun _ => 0) (fun _ => 0) m).toArray 82)) := by
  obtain ⟨i, hi, hz, hs, hb⟩ := info_parts Try.info82
  have hr := run_make (P := Try.prog) w 75 82 i (.agg #[.int .i32 0, .int .i32 0, .int .i32 0]) Try.underlying75 hi hz .i64 .i64 (m : Int) (m : Int) (by omega) (by omega) (by rw [hb]; omega) (by omega)
  rw [hs, Int.toNat_natCast, made3] at hr
  exact hr
theorem mk22 (n : Nat) (hn : n ≤ 65536) (w : World) : (Instr.makeSlice 22 (.int .i64 (n : Int)) (.int .i64 (n : Int))).run Try.prog w = .ok (.slice (some ⟨w.heap.size, 0, none⟩) n n) (w.alloc (.cells (i32s (fun _ => 0) n).toArray 21)) := by
  have h := run_make_row' (P := Try.prog) 22 21 (.int .i32 0) 4 Try.underlying22 Try.info21 rfl .i64 .i64 n (by omega) (by omega) w
  rw [made_list, i32s_zero] at h
  exact h
theorem mk22q (n : Nat) (hn : n ≤ 65536) (w : World) : (Instr.makeSlice 22 (.int .i64 0) (.int .i64 (n : Int))).run Try.prog w = .ok (.slice (some ⟨w.heap.size, 0, none⟩) 0 n) (w.alloc (.cells (i32s (fun _ => 0) n).toArray 21)) := by
  obtain ⟨i, hi, hz, hs, hb⟩ := info_parts Try.info21
  have hr := run_make (P := Try.prog) w 22 21 i (.int .i32 0) Try.underlying22 hi hz .i64 .i64 0 (n : Int) (by omega) (by omega) (by rw [hb]; omega) (by omega)
  rw [hs, Int.toNat_natCast, Nat.mul_one, show (Value.int .i32 0).cells = #[.int .i32 0] from rfl, made_list, i32s_zero] at hr
  exact hr

def MkRow (W0 w : World) (v : Value) (t : TypeId) (len cap : Nat) (L : List Value) : Prop := ∃ g, v = .slice (some ⟨g, 0, none⟩) len cap ∧ Row w g t L ∧ W0.heap.size ≤ g
theorem MkRow.mono {W0 w w' : World} {v : Value} {t : TypeId} {len cap : Nat} {L : List Value} (h : MkRow W0 w v t len cap L) (hb : Below w.heap.size w w') : MkRow W0 w' v t len cap L := by
  obtain ⟨g, e, r, l⟩ := h
  exact ⟨g, e, r.below hb r.lt, l⟩
def Five (W0 w : World) (m n nt q g1 g2 g3 g4 g5 : Nat) : Prop :=
  Row w g1 82 (lcells (fun _ => 0) (fun _ => 0) (fun _ => 0) m) ∧ Row w g2 21 (i32s (fun _ => 0) n) ∧ Row w g3 21 (i32s (fun _ => 0) nt) ∧ Row w g4 21 (i32s (fun _ => 0) nt) ∧ Row w g5 21 (i32s (fun _ => 0) q) ∧
  (W0.heap.size ≤ g1 ∧ W0.heap.size ≤ g2 ∧ W0.heap.size ≤ g3 ∧ W0.heap.size ≤ g4 ∧ W0.heap.size ≤ g5) ∧
  (g1 ≠ g2 ∧ g1 ≠ g3 ∧ g1 ≠ g4 ∧ g1 ≠ g5 ∧ g2 ≠ g3 ∧ g2 ≠ g4 ∧ g2 ≠ g5 ∧ g3 ≠ g4 ∧ g3 ≠ g5 ∧ g4 ≠ g5)
theorem Five.mono {W0 w w' : World} {m n nt q g1 g2 g3 g4 g5 : Nat} (h : Five W0 w m n nt q g1 g2 g3 g4 g5) (hb : Below w.heap.size w w') : Five W0 w' m n nt q g1 g2 g3 g4 g5 := by
  obtain ⟨a, b, c, d, e, r⟩ := h
  exact ⟨a.below hb a.lt, b.below hb b.lt, c.below hb c.lt, d.below hb d.lt, e.below hb e.lt, r⟩
def cells7 (CK m n nt q g1 g2 g3 g4 g5 : Nat) : List Value := cur0 CK g1 g2 m n (.slice (some ⟨g3, 0, none⟩) nt nt) (.slice (some ⟨g4, 0, none⟩) nt nt) (.slice (some ⟨g5, 0, none⟩) 0 q)
/-- THE SEARCH IS LAID. -/
def Laid (CK m n nt q : Nat) (W0 : World) (v : Value) (w : World) : Prop :=
  ∃ SB g1 g2 g3 g4 g5, v = .pointer (some ⟨SB, 0, none⟩) ∧ Five W0 w m n nt q g1 g2 g3 g4 g5 ∧ Row w SB 80 (cells7 CK m n nt q g1 g2 g3 g4 g5) ∧ W0.heap.size ≤ SB ∧ (g1 < SB ∧ g2 < SB ∧ g3 < SB ∧ g4 < SB ∧ g5 < SB)
theorem Laid.mono {CK m n nt q : Nat} {W0 w w' : World} {v : Value} (h : Laid CK m n nt q W0 v w) (hb : Below w.heap.size w w') : Laid CK m n nt q W0 v w' := by
  obtain ⟨SB, g1, g2, g3, g4, g5, e, f, r, x⟩ := h
  exact ⟨SB, g1, g2, g3, g4, g5, e, f.mono hb, r.below hb r.lt, x⟩

/-- WHAT OPERATION i HAS LEFT IN ITS SLOT. -/
def DoneR (CK gS m n nt cC q : Nat) (aC : Option Addr) (W0 : World) : Nat → Value → World → Prop
  | 0, v, _ => v = .pointer (some ⟨CK, 0, none⟩)
  | 1, v, _ => v = .slice (some ⟨gS, 0, none⟩) m m
  | 2, v, _ => v = .int .i64 (m : Int)
  | 3, v, w => MkRow W0 w v 82 m m (lcells (fun _ => 0) (fun _ => 0) (fun _ => 0) m)
  | 4, v, _ => v = .pointer (some ⟨CK, 0, none⟩)
  | 5, v, _ => v = .pointer (some ⟨CK, 0, none⟩)
  | 6, v, _ => v = .pointer (some ⟨CK, 12, none⟩)
  | 7, v, _ => v = .int .i64 (n : Int)
  | 8, v, w => MkRow W0 w v 21 n n (i32s (fun _ => 0) n)
  | 9, v, _ => v = .slice aC nt cC
  | 10, v, _ => v = .int .i64 (nt : Int)
  | 11, v, w => MkRow W0 w v 21 nt nt (i32s (fun _ => 0) nt)
  | 12, v, _ => v = .slice aC nt cC
  | 13, v, _ => v = .int .i64 (nt : Int)
  | 14, v, w => MkRow W0 w v 21 nt nt (i32s (fun _ => 0) nt)
  | 15, v, _ => v = .int .i64 (q : Int)
  | 16, v, w => MkRow W0 w v 21 0 q (i32s (fun _ => 0) q)
  | 17, v, w => ∃ g1 g2 g3 g4 g5, v = .agg (cells7 CK m n nt q g1 g2 g3 g4 g5).toArray ∧ Five W0 w m n nt q g1 g2 g3 g4 g5
  | 18, v, w => Laid CK m n nt q W0 v w
  | 19, v, w => Laid CK m n nt q W0 v w
  | _, _, _ => True
theorem DoneR.mono {CK gS m n nt cC q : Nat} {aC : Option Addr} {W0 w w' : World} {i : Nat} {v : Value} (h : DoneR CK gS m n nt cC q aC W0 i v w) (hb : Below w.heap.size w w') : DoneR CK gS m n nt cC q aC W0 i v w' := by
  match i, h with
  | 0, h => exact h
  | 1, h => exact h
  | 2, h => exact h
  | 3, h => exact MkRow.mono h hb
  | 4, h => exact h
  | 5, h => exact h
  | 6, h => exact h
  | 7, h => exact h
  | 8, h => exact MkRow.mono h hb
  | 9, h => exact h
  | 10, h => exact h
  | 11, h => exact MkRow.mono h hb
  | 12, h => exact h
  | 13, h => exact h
  | 14, h => exact MkRow.mono h hb
  | 15, h => exact h
  | 16, h => exact MkRow.mono h hb
  | 17, h =>
    obtain ⟨g1, g2, g3, g4, g5, e, f⟩ := h
    exact ⟨g1, g2, g3, g4, g5, e, f.mono hb⟩
  | 18, h => exact Laid.mono h hb
  | 19, h => exact Laid.mono h hb
  | k + 20, _ => trivial

def dstR : List Nat := [91, 92, 93, 94, 95, 96, 97, 98, 99, 100, 101, 102, 103, 104, 105, 106, 107, 108, 109, 18]
def dsts (i : Nat) : Nat := dstR.getD i 0
def makes (i : Nat) : Bool := [3, 8, 11, 14, 16].contains i
theorem dsts_inj : ∀ i, i < 20 → ∀ j, j < 20 → i ≠ j → dsts i ≠ dsts j := by decide
theorem dsts_lt : ∀ i, i < 20 → dsts i < 255 := by decide

structure RInv (CK gS m n nt cC q : Nat) (aC : Option Addr) (W0 : World) (a0 : Act) (L : Nat → Bool) (a : Act) (w : World) : Prop where
  df : a.defers = a0.defers
  size : a.tmps.size = 255
  rest : ∀ k, (∀ i, i < 20 → k ≠ dsts i) → a.tmps.getD k undef = a0.tmps.getD k undef
  below : Below W0.heap.size W0 w
  done : ∀ i, i < 20 → L i = true → DoneR CK gS m n nt cC q aC W0 i (a.tmps.getD (dsts i) undef) w
  apart : ∀ i j, i < 20 → j < 20 → makes i = true → makes j = true → i ≠ j → L i = true → L j = true → (a.tmps.getD (dsts i) undef).ownBlock ≠ (a.tmps.getD (dsts j) undef).ownBlock

theorem put_get {a : Act} {d k : Nat} {v : Value} (hd : d < a.tmps.size) : (a.put (some d) v).tmps.getD k undef = if k = d then v else a.tmps.getD k undef := by
  simp only [Act.put, Array.getD_eq_getD_getElem?, Array.getElem?_setIfInBounds]
  by_cases e : d = k
  · subst e; simp [hd]
  · simp [e, Ne.symm e]

theorem makes_row {CK gS m n nt cC q : Nat} {aC : Option Addr} {W0 w : World} {i : Nat} {v : Value} (hm : makes i = true) (hi : i < 20) (h : DoneR CK gS m n nt cC q aC W0 i v w) : ∃ g, v.ownBlock = some g ∧ g < w.heap.size := by
  have : i = 3 ∨ i = 8 ∨ i = 11 ∨ i = 14 ∨ i = 16 := by simpa [makes] using hm
  rcases this with rfl | rfl | rfl | rfl | rfl <;> (obtain ⟨g, rfl, r, _⟩ := h; exact ⟨g, rfl, r.lt⟩)

theorem RInv.put {CK gS m n nt cC q : Nat} {aC : Option Addr} {W0 w w' : World} {a0 a : Act} {L : Nat → Bool} (h : RInv CK gS m n nt cC q aC W0 a0 L a w) {i : Nat} (hi : i < 20) (hL : L i = false) {v : Value} (hb : Below w.heap.size w w')
    (hd : DoneR CK gS m n nt cC q aC W0 i v w') (hnew : makes i = true → v.ownBlock = some w.heap.size) : RInv CK gS m n nt cC q aC W0 a0 (fun j => if j = i then true else L j) (a.put (some (dsts i)) v) w' := by
  have hs : dsts i < a.tmps.size := by rw [h.size]; exact dsts_lt i hi
  refine ⟨h.df, by simp [Act.put, h.size], fun k hk => ?_, h.below.trans (hb.mono h.below.size), fun j hj hLj => ?_, fun j k hj hk mj mk hjk hLj hLk => ?_⟩
  · rw [put_get hs, if_neg (hk i hi)]; exact h.rest k hk
  · rw [put_get hs]
    by_cases e : j = i
    · subst e; rw [if_pos rfl]; exact hd
    · rw [if_neg (dsts_inj j hj i hi e)]
      rw [if_neg e] at hLj
      exact (h.done j hj hLj).mono hb
  · rw [put_get hs, put_get hs]
    by_cases e : j = i
    · subst e
      rw [if_pos rfl, if_neg (dsts_inj k hk j hj (Ne.symm hjk))]
      rw [if_neg (Ne.symm hjk)] at hLk
      obtain ⟨g, e1, hg⟩ := makes_row mk hk (h.done k hk hLk)
      rw [hnew mj, e1]
      intro e2
      simp at e2
      omega
    · rw [if_neg (dsts_inj j hj i hi e)]
      rw [if_neg e] at hLj
      by_cases e' : k = i
      · subst e'
        rw [if_pos rfl]
        obtain ⟨g, e1, hg⟩ := makes_row mj hj (h.done j hj hLj)
        rw [hnew mk, e1]
        intro e2
        simp at e2
        omega
      · rw [if_neg (dsts_inj k hk i hi e')]
        rw [if_neg e'] at hLk
        exact h.apart j k hj hk mj mk hjk hLj hLk
theorem dep_of {md : Region.Mode} {es : Array Edge} {L : Nat → Bool} (h : ∀ e ∈ es, Region.binds md e = true → L e.on = true) (k : Nat) (hk : es.any (fun e => Region.binds md e && e.on == k) = true) : L k = true := by
  obtain ⟨e, he, hb⟩ := Array.any_eq_true'.1 hk
  simp only [Bool.and_eq_true, beq_iff_eq] at hb
  have := h e he hb.1
  rw [hb.2] at this
  exact this
def headC : Code → Code
  | .seq a _ => a
  | c => c

set_option maxRecDepth 100000 in
set_option maxHeartbeats 1000000 in
theorem r20 (CK gS m n nt cC q bx hA B : Nat) (aC : Option Addr) (T E : Nat → Int) (X : Nat → Bool) (K : Act → World → Prop) (Q : Exit → Act → World → Prop) (a : Act) (w : World) (hm : m ≤ 4096) (hn : n ≤ 4096) (hnt : nt ≤ 65536) (hq : q ≤ 65536)
    (hs : a.tmps.size = 255) (s0 : a.tmps.getD 0 undef = .pointer (some ⟨CK, 0, none⟩)) (s4 : a.tmps.getD 4 undef = .pointer (some ⟨bx, 0, none⟩)) (s7 : a.tmps.getD 7 undef = .int .i64 (q : Int)) (s17 : a.tmps.getD 17 undef = .slice (some ⟨gS, 0, none⟩) m m)
    (hbx : w.cell? ⟨bx, 0, none⟩ = some (.slice aC nt cC)) (hacq : AcqH w B CK n hA T E X) (hB : B ≤ w.heap.size)
    (hK : ∀ a' w', a'.defers = a.defers → a'.tmps.size = 255 → (∀ k, (∀ i, i < 20 → k ≠ dsts i) → a'.tmps.getD k undef = a.tmps.getD k undef) → Below w.heap.size w w' → Laid CK m n nt q w (a'.tmps.getD 18 undef) w' → K a' w') :
    Code.wp Try.prog (headC (tail25 8)) (Exit.then K Q) a w := by
  conv => arg 2; whnf
  refine wp_region_inv mixed (RInv CK gS m n nt cC q aC w a) (by kernel_rfl) ⟨rfl, hs, fun _ _ => rfl, (Below.refl _ _).drew, fun _ _ h => absurd h (by simp), fun _ _ _ _ _ _ _ h => absurd h (by simp)⟩ ?_ ?_
  · intro L a' w' i o hI ho hL hdep
    have hi : i < 20 := by
      have := (Array.getElem?_eq_some_iff.1 ho).1
      simpa using this
    have hlb := hI.below
    have t0 : a'.tmps.getD 0 undef = .pointer (some ⟨CK, 0, none⟩) := (hI.rest 0 (by decide)).trans s0
    have t4 : a'.tmps.getD 4 undef = .pointer (some ⟨bx, 0, none⟩) := (hI.rest 4 (by decide)).trans s4
    have t7 : a'.tmps.getD 7 undef = .int .i64 (q : Int) := (hI.rest 7 (by decide)).trans s7
    have t17 : a'.tmps.getD 17 undef = .slice (some ⟨gS, 0, none⟩) m m := (hI.rest 17 (by decide)).trans s17
    have hbx' : w'.cell? ⟨bx, 0, none⟩ = some (.slice aC nt cC) := (hlb.cell (p := ⟨bx, 0, none⟩) (block_lt_of_cell hbx)).trans hbx
    have hacq' : AcqH w' B CK n hA T E X := hacq.below (hlb.mono hB)
    have hmk1 := mk75 m hm
    have hmk2 := mk22 n (by omega)
    have hmk3 := mk22 nt hnt
    have hmk4 := mk22q q hq
    have hput := fun (v : Value) (w2 : World) hb hd hn => hI.put hi hL (v := v) (w' := w2) hb hd hn
    have hc : i = 0 ∨ i = 1 ∨ i = 2 ∨ i = 3 ∨ i = 4 ∨ i = 5 ∨ i = 6 ∨ i = 7 ∨ i = 8 ∨ i = 9 ∨ i = 10 ∨ i = 11 ∨ i = 12 ∨ i = 13 ∨ i = 14 ∨ i = 15 ∨ i = 16 ∨ i = 17 ∨ i = 18 ∨ i = 19 := by omega
    rcases hc with rfl | rfl | rfl | rfl | rfl | rfl | rfl | rfl | rfl | rfl | rfl | rfl | rfl | rfl | rfl | rfl | rfl | rfl | rfl | rfl
    · cases ho
      refine wpOp_step rfl (fun K' hK' => ?_)
      simp only [Array.getD_eq_getD_getElem?] at t0
      clear hdep
      go_simp
      exact hK' _ _ (hput (.pointer (some ⟨CK, 0, none⟩)) w' (Below.refl _ _) rfl (fun h => absurd h (by decide)))
    · cases ho
      refine wpOp_step rfl (fun K' hK' => ?_)
      simp only [Array.getD_eq_getD_getElem?] at t17
      clear hdep
      go_simp
      exact hK' _ _ (hput (.slice (some ⟨gS, 0, none⟩) m m) w' (Below.refl _ _) rfl (fun h => absurd h (by decide)))
    · cases ho
      refine wpOp_step rfl (fun K' hK' => ?_)
      have d1 : a'.tmps.getD 92 undef = .slice (some ⟨gS, 0, none⟩) m m := hI.done 1 (by omega) (dep_of hdep 1 (by kernel_rfl))
      simp only [Array.getD_eq_getD_getElem?] at d1
      clear hdep
      go_simp
      exact hK' _ _ (hput (.int .i64 (m : Int)) w' (Below.refl _ _) rfl (fun h => absurd h (by decide)))
    · cases ho
      refine wpOp_step rfl (fun K' hK' => ?_)
      have d2 : a'.tmps.getD 93 undef = .int .i64 (m : Int) := hI.done 2 (by omega) (dep_of hdep 2 (by kernel_rfl))
      simp only [Array.getD_eq_getD_getElem?] at d2
      clear hdep
      go_simp
      exact hK' _ _ (hput (.slice (some ⟨w'.heap.size, 0, none⟩) m m) (w'.alloc (.cells (lcells (fun _ => 0) (fun _ => 0) (fun _ => 0) m).toArray 82)) ((Below.refl _ _).alloc (Nat.le_refl _) _) ⟨w'.heap.size, rfl, Row.new _ _ _, hlb.size⟩ (fun _ => rfl))
    · cases ho
      refine wpOp_step rfl (fun K' hK' => ?_)
      simp only [Array.getD_eq_getD_getElem?] at t0
      clear hdep
      go_simp
      exact hK' _ _ (hput (.pointer (some ⟨CK, 0, none⟩)) w' (Below.refl _ _) rfl (fun h => absurd h (by decide)))
    · cases ho
      refine wpOp_step rfl (fun K' hK' => ?_)
      have d4 : a'.tmps.getD 95 undef = .pointer (some ⟨CK, 0, none⟩) := hI.done 4 (by omega) (dep_of hdep 4 (by kernel_rfl))
      simp only [Array.getD_eq_getD_getElem?] at d4
      clear hdep
      go_simp
      exact hK' _ _ (hput (.pointer (some ⟨CK, 0, none⟩)) w' (Below.refl _ _) rfl (fun h => absurd h (by decide)))
    · cases ho
      refine wpOp_step rfl (fun K' hK' => ?_)
      have d5 : a'.tmps.getD 96 undef = .pointer (some ⟨CK, 0, none⟩) := hI.done 5 (by omega) (dep_of hdep 5 (by kernel_rfl))
      simp only [Array.getD_eq_getD_getElem?] at d5
      clear hdep
      go_simp
      exact hK' _ _ (hput (.pointer (some ⟨CK, 12, none⟩)) w' (Below.refl _ _) rfl (fun h => absurd h (by decide)))
    · cases ho
      refine wpOp_step rfl (fun K' hK' => ?_)
      have d6 : a'.tmps.getD 97 undef = .pointer (some ⟨CK, 12, none⟩) := hI.done 6 (by omega) (dep_of hdep 6 (by kernel_rfl))
      simp only [Array.getD_eq_getD_getElem?] at d6
      clear hdep
      go_simp
      refine (len31 CK n hA B T E X w' hn hacq').mono ?_
      rintro e w2 ⟨rfl, k, rfl⟩
      exact hK' _ _ (hput (.int .i64 (n : Int)) (w'.drewN k) (below_drewN (Below.refl _ _) k) rfl (fun h => absurd h (by decide)))
    · cases ho
      refine wpOp_step rfl (fun K' hK' => ?_)
      have d7 : a'.tmps.getD 98 undef = .int .i64 (n : Int) := hI.done 7 (by omega) (dep_of hdep 7 (by kernel_rfl))
      simp only [Array.getD_eq_getD_getElem?] at d7
      clear hdep
      go_simp
      exact hK' _ _ (hput (.slice (some ⟨w'.heap.size, 0, none⟩) n n) (w'.alloc (.cells (i32s (fun _ => 0) n).toArray 21)) ((Below.refl _ _).alloc (Nat.le_refl _) _) ⟨w'.heap.size, rfl, Row.new _ _ _, hlb.size⟩ (fun _ => rfl))
    · cases ho
      refine wpOp_step rfl (fun K' hK' => ?_)
      simp only [Array.getD_eq_getD_getElem?] at t4
      clear hdep
      go_simp
      exact hK' _ _ (hput (.slice aC nt cC) w' (Below.refl _ _) rfl (fun h => absurd h (by decide)))
    · cases ho
      refine wpOp_step rfl (fun K' hK' => ?_)
      have d9 : a'.tmps.getD 100 undef = .slice aC nt cC := hI.done 9 (by omega) (dep_of hdep 9 (by kernel_rfl))
      simp only [Array.getD_eq_getD_getElem?] at d9
      clear hdep
      go_simp
      exact hK' _ _ (hput (.int .i64 (nt : Int)) w' (Below.refl _ _) rfl (fun h => absurd h (by decide)))
    · cases ho
      refine wpOp_step rfl (fun K' hK' => ?_)
      have d10 : a'.tmps.getD 101 undef = .int .i64 (nt : Int) := hI.done 10 (by omega) (dep_of hdep 10 (by kernel_rfl))
      simp only [Array.getD_eq_getD_getElem?] at d10
      clear hdep
      go_simp
      exact hK' _ _ (hput (.slice (some ⟨w'.heap.size, 0, none⟩) nt nt) (w'.alloc (.cells (i32s (fun _ => 0) nt).toArray 21)) ((Below.refl _ _).alloc (Nat.le_refl _) _) ⟨w'.heap.size, rfl, Row.new _ _ _, hlb.size⟩ (fun _ => rfl))
    · cases ho
      refine wpOp_step rfl (fun K' hK' => ?_)
      simp only [Array.getD_eq_getD_getElem?] at t4
      clear hdep
      go_simp
      exact hK' _ _ (hput (.slice aC nt cC) w' (Below.refl _ _) rfl (fun h => absurd h (by decide)))
    · cases ho
      refine wpOp_step rfl (fun K' hK' => ?_)
      have d12 : a'.tmps.getD 103 undef = .slice aC nt cC := hI.done 12 (by omega) (dep_of hdep 12 (by kernel_rfl))
      simp only [Array.getD_eq_getD_getElem?] at d12
      clear hdep
      go_simp
      exact hK' _ _ (hput (.int .i64 (nt : Int)) w' (Below.refl _ _) rfl (fun h => absurd h (by decide)))
    · cases ho
      refine wpOp_step rfl (fun K' hK' => ?_)
      have d13 : a'.tmps.getD 104 undef = .int .i64 (nt : Int) := hI.done 13 (by omega) (dep_of hdep 13 (by kernel_rfl))
      simp only [Array.getD_eq_getD_getElem?] at d13
      clear hdep
      go_simp
      exact hK' _ _ (hput (.slice (some ⟨w'.heap.size, 0, none⟩) nt nt) (w'.alloc (.cells (i32s (fun _ => 0) nt).toArray 21)) ((Below.refl _ _).alloc (Nat.le_refl _) _) ⟨w'.heap.size, rfl, Row.new _ _ _, hlb.size⟩ (fun _ => rfl))
    · cases ho
      refine wpOp_step rfl (fun K' hK' => ?_)
      simp only [Array.getD_eq_getD_getElem?] at t7
      clear hdep
      go_simp
      exact hK' _ _ (hput (.int .i64 (q : Int)) w' (Below.refl _ _) rfl (fun h => absurd h (by decide)))
    · cases ho
      refine wpOp_step rfl (fun K' hK' => ?_)
      have d15 : a'.tmps.getD 106 undef = .int .i64 (q : Int) := hI.done 15 (by omega) (dep_of hdep 15 (by kernel_rfl))
      simp only [Array.getD_eq_getD_getElem?] at d15
      clear hdep
      go_simp
      exact hK' _ _ (hput (.slice (some ⟨w'.heap.size, 0, none⟩) 0 q) (w'.alloc (.cells (i32s (fun _ => 0) q).toArray 21)) ((Below.refl _ _).alloc (Nat.le_refl _) _) ⟨w'.heap.size, rfl, Row.new _ _ _, hlb.size⟩ (fun _ => rfl))
    · cases ho
      refine wpOp_step rfl (fun K' hK' => ?_)
      have l0 : L 0 = true := dep_of hdep 0 (by kernel_rfl)
      have l3 : L 3 = true := dep_of hdep 3 (by kernel_rfl)
      have l8 : L 8 = true := dep_of hdep 8 (by kernel_rfl)
      have l11 : L 11 = true := dep_of hdep 11 (by kernel_rfl)
      have l14 : L 14 = true := dep_of hdep 14 (by kernel_rfl)
      have l16 : L 16 = true := dep_of hdep 16 (by kernel_rfl)
      have d0 : a'.tmps.getD 91 undef = .pointer (some ⟨CK, 0, none⟩) := hI.done 0 (by omega) l0
      obtain ⟨g1, e1, r1, b1⟩ := hI.done 3 (by omega) l3
      obtain ⟨g2, e2, r2, b2⟩ := hI.done 8 (by omega) l8
      obtain ⟨g3, e3, r3, b3⟩ := hI.done 11 (by omega) l11
      obtain ⟨g4, e4, r4, b4⟩ := hI.done 14 (by omega) l14
      obtain ⟨g5, e5, r5, b5⟩ := hI.done 16 (by omega) l16
      have n12 : g1 ≠ g2 := by
        have h := hI.apart 3 8 (by omega) (by omega) rfl rfl (by omega) l3 l8
        rw [e1, e2] at h
        simpa [Value.ownBlock] using h
      have n13 : g1 ≠ g3 := by
        have h := hI.apart 3 11 (by omega) (by omega) rfl rfl (by omega) l3 l11
        rw [e1, e3] at h
        simpa [Value.ownBlock] using h
      have n14 : g1 ≠ g4 := by
        have h := hI.apart 3 14 (by omega) (by omega) rfl rfl (by omega) l3 l14
        rw [e1, e4] at h
        simpa [Value.ownBlock] using h
      have n15 : g1 ≠ g5 := by
        have h := hI.apart 3 16 (by omega) (by omega) rfl rfl (by omega) l3 l16
        rw [e1, e5] at h
        simpa [Value.ownBlock] using h
      have n23 : g2 ≠ g3 := by
        have h := hI.apart 8 11 (by omega) (by omega) rfl rfl (by omega) l8 l11
        rw [e2, e3] at h
        simpa [Value.ownBlock] using h
      have n24 : g2 ≠ g4 := by
        have h := hI.apart 8 14 (by omega) (by omega) rfl rfl (by omega) l8 l14
        rw [e2, e4] at h
        simpa [Value.ownBlock] using h
      have n25 : g2 ≠ g5 := by
        have h := hI.apart 8 16 (by omega) (by omega) rfl rfl (by omega) l8 l16
        rw [e2, e5] at h
        simpa [Value.ownBlock] using h
      have n34 : g3 ≠ g4 := by
        have h := hI.apart 11 14 (by omega) (by omega) rfl rfl (by omega) l11 l14
        rw [e3, e4] at h
        simpa [Value.ownBlock] using h
      have n35 : g3 ≠ g5 := by
        have h := hI.apart 11 16 (by omega) (by omega) rfl rfl (by omega) l11 l16
        rw [e3, e5] at h
        simpa [Value.ownBlock] using h
      have n45 : g4 ≠ g5 := by
        have h := hI.apart 14 16 (by omega) (by omega) rfl rfl (by omega) l14 l16
        rw [e4, e5] at h
        simpa [Value.ownBlock] using h
      clear hdep
      change a'.tmps.getD 94 undef = _ at e1
      change a'.tmps.getD 99 undef = _ at e2
      change a'.tmps.getD 102 undef = _ at e3
      change a'.tmps.getD 105 undef = _ at e4
      change a'.tmps.getD 107 undef = _ at e5
      simp only [Array.getD_eq_getD_getElem?] at d0 e1 e2 e3 e4 e5
      go_simp
      exact hK' _ _ (hput (.agg (cells7 CK m n nt q g1 g2 g3 g4 g5).toArray) w' (Below.refl _ _) ⟨g1, g2, g3, g4, g5, rfl, r1, r2, r3, r4, r5, ⟨b1, b2, b3, b4, b5⟩, ⟨n12, n13, n14, n15, n23, n24, n25, n34, n35, n45⟩⟩ (fun h => absurd h (by decide)))
    · cases ho
      refine wpOp_step rfl (fun K' hK' => ?_)
      obtain ⟨g1, g2, g3, g4, g5, e17, f5⟩ := hI.done 17 (by omega) (dep_of hdep 17 (by kernel_rfl))
      clear hdep
      change a'.tmps.getD 108 undef = _ at e17
      simp only [Array.getD_eq_getD_getElem?, cells7, cur0] at e17
      have hnew : Below w'.heap.size w' (w'.alloc (.cells (cells7 CK m n nt q g1 g2 g3 g4 g5).toArray 80)) := (Below.refl _ _).alloc (Nat.le_refl _) _
      have hlaid : Laid CK m n nt q w (.pointer (some ⟨w'.heap.size, 0, none⟩)) (w'.alloc (.cells (cells7 CK m n nt q g1 g2 g3 g4 g5).toArray 80)) := ⟨w'.heap.size, g1, g2, g3, g4, g5, rfl, f5.mono hnew, Row.new _ _ _, hlb.size, f5.1.lt, f5.2.1.lt, f5.2.2.1.lt, f5.2.2.2.1.lt, f5.2.2.2.2.1.lt⟩
      go_simp
      exact hK' _ _ (hput (.pointer (some ⟨w'.heap.size, 0, none⟩)) (w'.alloc (.cells (cells7 CK m n nt q g1 g2 g3 g4 g5).toArray 80)) hnew hlaid (fun h => absurd h (by decide)))
    · cases ho
      refine wpOp_step rfl (fun K' hK' => ?_)
      have hl := hI.done 18 (by omega) (dep_of hdep 18 (by kernel_rfl))
      clear hdep
      have hl' : Laid CK m n nt q w (a'.tmps.getD 109 undef) w' := hl
      obtain ⟨v, hv⟩ : ∃ v, a'.tmps.getD 109 undef = v := ⟨_, rfl⟩
      rw [hv] at hl'
      simp only [Array.getD_eq_getD_getElem?] at hv
      go_simp
      exact hK' _ _ (hput v w' (Below.refl _ _) hl' (fun h => absurd h (by decide)))
  · intro L a' w' hI hall
    exact hK a' w' hI.df hI.size hI.rest hI.below (hI.done 19 (by omega) (hall 19 (by simp)))
end Go.Proofs.Qxb6613322a
