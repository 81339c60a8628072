import Derived.Test.Qxb6613322aRead
import Derived.Test.Qxb6613322aCsMath
import Derived.StillTailTactics
import Derived.RegionTactic
import Derived.BigRegion
namespace Go.Proofs.Qxb6613322a
open Go.RowKit
set_option linter.unusedVariables false

theorem row_step {w : World} {g n i : Nat} {f f' : Nat → Int} {v : Int} (h : Row w g 21 (i32s f n)) (hf : ∀ k, f' k = if k = i then v else f k) : Row (w.setCell ⟨g, i, none⟩ (.int .i32 v)) g 21 (i32s f' n) := by
  have e : f' = fun k => if k = i then v else f k := funext hf
  rw [e, ← i32s_set]
  exact h.set i _

theorem below_drewN {B : Nat} {a w : World} (h : Below B a w) (n : Nat) : Below B a (w.drewN n) := ⟨h.os, h.tape, h.output, h.size, h.block⟩
/-- ids as a row that is read. -/
def IdRow (w : World) (a : Option Addr) (L : List Nat) : Prop := ∀ j (hj : j < L.length), ∃ b off, a = some ⟨b, off, none⟩ ∧ w.cell? ⟨b, off + j, none⟩ = some (.int .i32 (L[j] : Int))
theorem IdRow.below {w w' : World} {a : Option Addr} {L : List Nat} (h : IdRow w a L) (hb : Below w.heap.size w w') : IdRow w' a L := by
  intro k hk
  obtain ⟨b, off, e, hc⟩ := h k hk
  exact ⟨b, off, e, (hb.cell (p := ⟨b, off + k, none⟩) (block_lt_of_cell hc)).trans hc⟩
def idl (L : List Nat) : List Value := L.map fun (i : Nat) => Value.int .i32 (i : Int)

/-- WHAT sortAcquisitions GIVES. -/
def SortRes (w : World) (K : Nat → Nat) (keys : Nat) (L : List Nat) (e : Ending) (w' : World) : Prop :=
  ∃ g, e = .returned (.slice (some ⟨g, 0, none⟩) L.length L.length) ∧ Row w' g 21 (idl (csort K keys L)) ∧ Below w.heap.size w w'

set_option maxRecDepth 100000 in
set_option maxHeartbeats 4000000 in
theorem sort29 (CK n hA B : Nat) (T E : Nat → Int) (X : Nat → Bool) (a : Option Addr) (cap keys : Nat) (L : List Nat) (K : Nat → Nat) (w : World) (hn : n ≤ 4096) (hkeys : keys ≤ 65536) (hL : L.length ≤ 4096)
    (hacq : AcqH w B CK n hA T E X) (hB : B ≤ w.heap.size) (hids : IdRow w a L) (hLn : ∀ i ∈ L, i < n) (hK : ∀ i, i < n → E i = (K i : Int)) (hKk : ∀ i ∈ L, K i < keys) :
    Calls Try.prog 27 #[.pointer (some ⟨CK, 0, none⟩), .slice a L.length cap, .int .i64 keys, .func (.func 29) #[] #[]] w fun e w' => SortRes w K keys L e w' := by
  have hmk1 := run_make_row' (P := Try.prog) 22 21 (.int .i32 0) 4 Try.underlying22 Try.info21 rfl .i64 .i64 (keys + 1) (by omega) (by omega)
  rw [show ((keys + 1 : Nat) : Int) = (keys : Int) + 1 from by omega] at hmk1
  have hmk2 := run_make_row' (P := Try.prog) 22 21 (.int .i32 0) 4 Try.underlying22 Try.info21 rfl .i64 .i64 L.length (by omega) (by omega)
  obtain ⟨m, hm⟩ : ∃ m, m = L.length := ⟨_, rfl⟩
  have HM : Hid (m = L.length) := hm
  have hm4 : m ≤ 4096 := by omega
  rw [← hm] at hmk2 ⊢
  clear hm
  go_enter Try.func27, Try.ntmps27
  go_wp2
  go_loopg [22, 11] m (fun g i _ wr => ∃ j : Nat, j ≤ m ∧ g = m - j ∧ i = .int .i64 j ∧ Row wr w.heap.size 21 (i32s (fun k => (s1 K L j k : Int)) (keys + 1)) ∧ Below w.heap.size w wr)
  case atStart =>
    refine ⟨0, by omega, rfl, rfl, ?_, (Below.refl _ _).alloc (Nat.le_refl _) _⟩
    have h := Row.made w 21 (.int .i32 0) (keys + 1)
    rw [i32s_zero] at h
    have e : (fun k => (s1 K L 0 k : Int)) = fun _ => 0 := by funext k; simp [s1, cP]
    rw [e]; exact h
  case round =>
    obtain ⟨j, hj, hgk, rfl, hrow, hbel⟩ := hrel
    have hG : Hid (gk = m - j) := hgk
    clear hgk
    by_cases hlt : j < m
    · have hjL : j < L.length := by rw [← HM.out]; exact hlt
      obtain ⟨b, off, rfl, hc⟩ := hids j hjL
      have hcx := (hbel.cell (p := ⟨b, off + j, none⟩) (block_lt_of_cell hc)).trans hc
      have hxn := hLn L[j] (List.getElem_mem hjL)
      have hxk := hKk L[j] (List.getElem_mem hjL)
      have hst := s1_step K L hjL
      have hle := s1_le K L j (K L[j] + 1)
      rw [← HM.out] at hle
      have hacq' := hacq.below (hbel.mono hB)
      generalize hxe : L[j] = x at hcx hxn hxk hst hle
      clear hxe hc
      obtain ⟨ce0, ce, _⟩ := hacq'.cells hxn
      rw [hK x hxn] at ce
      have cs := hrow.cell (i32s_get (fun k => (s1 K L j k : Int)) (show K x + 1 < keys + 1 by omega))
      have fs := hrow.fz (K x + 1)
      have hrow1 : Row (wr.setCell ⟨w.heap.size, K x + 1, none⟩ (.int .i32 ((s1 K L j (K x + 1) : Int) + 1))) w.heap.size 21 (i32s (fun k => (s1 K L (j + 1) k : Int)) (keys + 1)) := row_step hrow (fun k => by
        rw [hst]
        by_cases e : k = K x + 1
        · subst e; simp
        · simp [e])
      clear hst
      go_wp2_with (first | (go_at_call 32; refine (at32 CK n hA B x T E X _ hn hacq' hxn).mono ?_; rintro e w' ⟨rfl, hw⟩; rw [hw]; clear hw) | (go_at_call 29; refine (key29 hA x (K x) _ ce).mono ?_; rintro e w' ⟨rfl, hw⟩; rw [hw]; clear hw))
      go_roundg (m - (j + 1))
      case measure => have := hG.out; omega
      case rel => exact ⟨j + 1, by omega, rfl, by go_num, hrow1, hbel.setCell (p := ⟨w.heap.size, K x + 1, none⟩) (Nat.le_refl _) _⟩
    · have hjm : m = j := by omega
      subst hjm
      clear hG hj
      rename World => W1
      have e2 : (fun k => (s1 K L m k : Int)) = fun k => (s2 K L 0 k : Int) := by funext k; rw [s2_start, HM.out]
      rw [e2] at hrow
      clear e2
      go_wp2
      clear hlt
      go_loopg [42, 12] keys (fun g i _ wr => ∃ t : Nat, t ≤ keys ∧ g = keys - t ∧ i = .int .i64 t ∧ Row wr w.heap.size 21 (i32s (fun k => (s2 K L t k : Int)) (keys + 1)) ∧ Below w.heap.size w wr)
      case atStart => exact ⟨0, by omega, rfl, rfl, hrow, hbel⟩
      case round =>
        clear hrow hbel
        rename World => wr
        obtain ⟨t, ht, hgk, rfl, hrow, hbel⟩ := hrel
        have hG : Hid (gk = keys - t) := hgk
        clear hgk
        by_cases hlt : t < keys
        · have c1 := hrow.cell (i32s_get (fun k => (s2 K L t k : Int)) (show t < keys + 1 by omega))
          have c2 := hrow.cell (i32s_get (fun k => (s2 K L t k : Int)) (show t + 1 < keys + 1 by omega))
          have f2 := hrow.fz (t + 1)
          have hst := s2_step K L t
          have hle : s2 K L t (t + 1) + s2 K L t t ≤ m := by
            have h1 := hst (t + 1)
            rw [if_pos rfl] at h1
            rw [← h1, HM.out]; exact s2_le _ _ _ _
          have hrow1 : Row (wr.drew.setCell ⟨w.heap.size, t + 1, none⟩ (.int .i32 ((s2 K L t (t + 1) : Int) + (s2 K L t t : Int)))) w.heap.size 21 (i32s (fun k => (s2 K L (t + 1) k : Int)) (keys + 1)) := row_step (w := wr.drew) hrow (fun k => by
            rw [hst]
            by_cases e : k = t + 1
            · subst e; simp
            · simp [e])
          have hl1 : (t : Int) < (keys : Int) + 1 := by omega
          have hl2 : (t : Int) + 1 < (keys : Int) + 1 := by omega
          clear hst
          go_wp2_with fail
          go_big_region
          go_wp2_with fail
          go_roundg (keys - (t + 1))
          case measure => have := hG.out; omega
          case rel => exact ⟨t + 1, by omega, rfl, by go_num, hrow1, (show Below w.heap.size w wr.drew from hbel.drew).setCell (p := ⟨w.heap.size, t + 1, none⟩) (Nat.le_refl _) _⟩
        · have htk : keys = t := by omega
          subst htk
          clear hG ht
          rename World => W2
          go_wp2
          clear hlt
          have hne : w.heap.size ≠ W2.heap.size := Nat.ne_of_lt hrow.lt
          have hKk' : ∀ i ∈ L, K i < keys := hKk
          have hwW : w.heap.size ≤ W2.heap.size := Nat.le_of_lt hrow.lt
          go_loopg [62, 15, 16] m (fun g i _ _ wr => ∃ j : Nat, j ≤ m ∧ g = m - j ∧ i = .int .i64 j ∧ Row wr w.heap.size 21 (i32s (fun k => (s3 K L j k : Int)) (keys + 1)) ∧ Row wr W2.heap.size 21 (idl (cont K keys L j)) ∧ Below w.heap.size w wr)
          case atStart =>
            refine ⟨0, by omega, rfl, rfl, ?_, ?_, hbel.alloc hwW _⟩
            · have e : i32s (fun k => (s2 K L keys k : Int)) (keys + 1) = i32s (fun k => (s3 K L 0 k : Int)) (keys + 1) := by
                unfold i32s
                refine List.map_congr_left fun k hk => ?_
                show Value.int .i32 ((s2 K L keys k : Nat) : Int) = _
                rw [s3_start K L (keys := keys) (by have := List.mem_range.1 hk; omega)]
              rw [← e]; exact hrow.alloc _
            · have h := Row.made W2 21 (.int .i32 0) m
              rw [cont_start hKk, ← HM.out]
              simpa [idl] using h
          case round =>
            clear hrow hbel
            rename World => wr
            obtain ⟨j, hj, hgk, rfl, hrow, hrowS, hbel⟩ := hrel
            have hG : Hid (gk = m - j) := hgk
            clear hgk
            by_cases hlt : j < m
            · have hjL : j < L.length := by rw [← HM.out]; exact hlt
              obtain ⟨b, off, rfl, hc⟩ := hids j hjL
              have hcx := (hbel.cell (p := ⟨b, off + j, none⟩) (block_lt_of_cell hc)).trans hc
              have hxn := hLn L[j] (List.getElem_mem hjL)
              have hxk := hKk L[j] (List.getElem_mem hjL)
              have hst := s3_step K L hjL
              have hcs := cont_step hjL (hKk L[j] (List.getElem_mem hjL))
              have hpl : s3 K L j (K L[j]) < L.length := place_lt hjL
              have hcl := cont_length hKk j
              rw [← HM.out] at hpl hcl
              change cont K keys L (j + 1) = (cont K keys L j).set (s3 K L j (K L[j])) L[j] at hcs
              have hacq' := hacq.below (hbel.mono hB)
              generalize hxe : L[j] = x at hcx hxn hxk hst hcs hpl
              clear hxe hc
              obtain ⟨ce0, ce, _⟩ := hacq'.cells hxn
              rw [hK x hxn] at ce
              have cs := hrow.cell (i32s_get (fun k => (s3 K L j k : Int)) (show K x < keys + 1 by omega))
              have fs := hrow.fz (K x)
              have fS := hrowS.fz (s3 K L j (K x))
              have hxI : (x : Int) < n := by omega
              have cS : wr.cell? ⟨W2.heap.size, s3 K L j (K x), none⟩ = some (.int .i32 ((cont K keys L j)[s3 K L j (K x)]'(by rw [hcl]; exact hpl) : Int)) := hrowS.cell (by simp [idl, hcl, hpl])
              have hrowS1 : Row (wr.setCell ⟨W2.heap.size, s3 K L j (K x), none⟩ (.int .i32 (x : Int))) W2.heap.size 21 (idl (cont K keys L (j + 1))) := by
                have h := hrowS.set (s3 K L j (K x)) (.int .i32 (x : Int))
                rw [hcs]
                simpa [idl, List.map_set] using h
              have hrow0 := hrow.setOther (a := ⟨W2.heap.size, s3 K L j (K x), none⟩) hne (.int .i32 (x : Int))
              have hrow1 : Row ((wr.setCell ⟨W2.heap.size, s3 K L j (K x), none⟩ (.int .i32 (x : Int))).setCell ⟨w.heap.size, K x, none⟩ (.int .i32 ((s3 K L j (K x) : Int) + 1))) w.heap.size 21 (i32s (fun k => (s3 K L (j + 1) k : Int)) (keys + 1)) := row_step hrow0 (fun k => by
                rw [hst]
                by_cases e : k = K x
                · subst e; simp
                · simp [e])
              have hrowS2 := hrowS1.setOther (a := ⟨w.heap.size, K x, none⟩) (Ne.symm hne) (.int .i32 ((s3 K L j (K x) : Int) + 1))
              have hbel2 := (hbel.setCell (p := ⟨W2.heap.size, s3 K L j (K x), none⟩) hwW (.int .i32 (x : Int))).setCell (p := ⟨w.heap.size, K x, none⟩) (Nat.le_refl _) (.int .i32 ((s3 K L j (K x) : Int) + 1))
              have cs1 := hrow0.cell (i32s_get (fun k => (s3 K L j k : Int)) (show K x < keys + 1 by omega))
              have fs1 := hrow0.fz (K x)
              clear hst hcs hrow0 hrowS1
              go_wp2_with (first | (go_at_call 32; refine (at32 CK n hA B x T E X _ hn hacq' hxn).mono ?_; rintro e w' ⟨rfl, hw⟩; rw [hw]; clear hw) | (go_at_call 29; refine (key29 hA x (K x) _ ce).mono ?_; rintro e w' ⟨rfl, hw⟩; rw [hw]; clear hw))
              go_roundg (m - (j + 1))
              case measure => have := hG.out; omega
              case rel => exact ⟨j + 1, by omega, rfl, by go_num, hrow1, hrowS2, hbel2⟩
            · have hjm : m = j := by omega
              subst hjm
              have e3 : cont K keys L m = csort K keys L := by rw [HM.out]; exact cont_end K keys L
              rw [e3] at hrowS
              go_wp2
              go_ret
              exact ⟨W2.heap.size, by rw [← HM.out]; rfl, hrowS, hbel⟩

set_option maxRecDepth 100000 in
set_option maxHeartbeats 4000000 in
theorem sort30 (CK n hA B : Nat) (T E : Nat → Int) (X : Nat → Bool) (a : Option Addr) (cap keys : Nat) (L : List Nat) (K : Nat → Nat) (bx nt cC : Nat) (aC : Option Addr) (C : Nat → Int) (w : World) (hn : n ≤ 4096) (hkeys : keys ≤ 65536) (hL : L.length ≤ 4096)
    (hacq : AcqH w B CK n hA T E X) (hB : B ≤ w.heap.size) (hids : IdRow w a L) (hLn : ∀ i ∈ L, i < n) (hbx : w.cell? ⟨bx, 0, none⟩ = some (.slice aC nt cC)) (hC : IntRow w aC nt C) (hK : ∀ i ∈ L, 0 ≤ T i ∧ T i < nt ∧ C (T i).toNat = (K i : Int)) (hKk : ∀ i ∈ L, K i < keys) :
    Calls Try.prog 27 #[.pointer (some ⟨CK, 0, none⟩), .slice a L.length cap, .int .i64 keys, .func (.func 30) #[] #[.pointer (some ⟨bx, 0, none⟩)]] w fun e w' => SortRes w K keys L e w' := by
  have hmk1 := run_make_row' (P := Try.prog) 22 21 (.int .i32 0) 4 Try.underlying22 Try.info21 rfl .i64 .i64 (keys + 1) (by omega) (by omega)
  rw [show ((keys + 1 : Nat) : Int) = (keys : Int) + 1 from by omega] at hmk1
  have hmk2 := run_make_row' (P := Try.prog) 22 21 (.int .i32 0) 4 Try.underlying22 Try.info21 rfl .i64 .i64 L.length (by omega) (by omega)
  obtain ⟨m, hm⟩ : ∃ m, m = L.length := ⟨_, rfl⟩
  have HM : Hid (m = L.length) := hm
  have hm4 : m ≤ 4096 := by omega
  rw [← hm] at hmk2 ⊢
  clear hm
  go_enter Try.func27, Try.ntmps27
  go_wp2
  go_loopg [22, 11] m (fun g i _ wr => ∃ j : Nat, j ≤ m ∧ g = m - j ∧ i = .int .i64 j ∧ Row wr w.heap.size 21 (i32s (fun k => (s1 K L j k : Int)) (keys + 1)) ∧ Below w.heap.size w wr)
  case atStart =>
    refine ⟨0, by omega, rfl, rfl, ?_, (Below.refl _ _).alloc (Nat.le_refl _) _⟩
    have h := Row.made w 21 (.int .i32 0) (keys + 1)
    rw [i32s_zero] at h
    have e : (fun k => (s1 K L 0 k : Int)) = fun _ => 0 := by funext k; simp [s1, cP]
    rw [e]; exact h
  case round =>
    obtain ⟨j, hj, hgk, rfl, hrow, hbel⟩ := hrel
    have hG : Hid (gk = m - j) := hgk
    clear hgk
    by_cases hlt : j < m
    · have hjL : j < L.length := by rw [← HM.out]; exact hlt
      obtain ⟨b, off, rfl, hc⟩ := hids j hjL
      have hcx := (hbel.cell (p := ⟨b, off + j, none⟩) (block_lt_of_cell hc)).trans hc
      have hxn := hLn L[j] (List.getElem_mem hjL)
      have hxk := hKk L[j] (List.getElem_mem hjL)
      have hKx := hK L[j] (List.getElem_mem hjL)
      have hst := s1_step K L hjL
      have hle := s1_le K L j (K L[j] + 1)
      rw [← HM.out] at hle
      have hacq' := hacq.below (hbel.mono hB)
      generalize hxe : L[j] = x at hcx hxn hxk hst hle hKx
      clear hxe hc
      obtain ⟨ce, _, _⟩ := hacq'.cells hxn
      obtain ⟨ht0, ht1, htC⟩ := hKx
      have hbx' := (hbel.cell (p := ⟨bx, 0, none⟩) (block_lt_of_cell hbx)).trans hbx
      have hC' := hC.below hbel
      have cs := hrow.cell (i32s_get (fun k => (s1 K L j k : Int)) (show K x + 1 < keys + 1 by omega))
      have fs := hrow.fz (K x + 1)
      have hrow1 : ∀ mq, Row ((wr.drewN mq).setCell ⟨w.heap.size, K x + 1, none⟩ (.int .i32 ((s1 K L j (K x + 1) : Int) + 1))) w.heap.size 21 (i32s (fun k => (s1 K L (j + 1) k : Int)) (keys + 1)) := fun mq => row_step (w := wr.drewN mq) hrow (fun k => by
        rw [hst]
        by_cases e : k = K x + 1
        · subst e; simp
        · simp [e])
      clear hst
      go_wp2_with (first | (go_at_call 32; refine (at32 CK n hA B x T E X _ hn hacq' hxn).mono ?_; rintro e w' ⟨rfl, hw⟩; rw [hw]; clear hw) | (go_at_call 30; refine (key30 hA x bx nt cC aC (T x) 0 C _ ce ht0 ht1 hbx' hC').mono ?_; rintro e w' ⟨rfl, mq, hw⟩; rw [hw, htC]; clear hw))
      go_roundg (m - (j + 1))
      case measure => have := hG.out; omega
      case rel => exact ⟨j + 1, by omega, rfl, by go_num, hrow1 _, (show Below w.heap.size w (wr.drewN _) from below_drewN hbel _).setCell (p := ⟨w.heap.size, K x + 1, none⟩) (Nat.le_refl _) _⟩
    · have hjm : m = j := by omega
      subst hjm
      clear hG hj
      rename World => W1
      have e2 : (fun k => (s1 K L m k : Int)) = fun k => (s2 K L 0 k : Int) := by funext k; rw [s2_start, HM.out]
      rw [e2] at hrow
      clear e2
      go_wp2
      clear hlt
      go_loopg [42, 12] keys (fun g i _ wr => ∃ t : Nat, t ≤ keys ∧ g = keys - t ∧ i = .int .i64 t ∧ Row wr w.heap.size 21 (i32s (fun k => (s2 K L t k : Int)) (keys + 1)) ∧ Below w.heap.size w wr)
      case atStart => exact ⟨0, by omega, rfl, rfl, hrow, hbel⟩
      case round =>
        clear hrow hbel
        rename World => wr
        obtain ⟨t, ht, hgk, rfl, hrow, hbel⟩ := hrel
        have hG : Hid (gk = keys - t) := hgk
        clear hgk
        by_cases hlt : t < keys
        · have c1 := hrow.cell (i32s_get (fun k => (s2 K L t k : Int)) (show t < keys + 1 by omega))
          have c2 := hrow.cell (i32s_get (fun k => (s2 K L t k : Int)) (show t + 1 < keys + 1 by omega))
          have f2 := hrow.fz (t + 1)
          have hst := s2_step K L t
          have hle : s2 K L t (t + 1) + s2 K L t t ≤ m := by
            have h1 := hst (t + 1)
            rw [if_pos rfl] at h1
            rw [← h1, HM.out]; exact s2_le _ _ _ _
          have hrow1 : Row (wr.drew.setCell ⟨w.heap.size, t + 1, none⟩ (.int .i32 ((s2 K L t (t + 1) : Int) + (s2 K L t t : Int)))) w.heap.size 21 (i32s (fun k => (s2 K L (t + 1) k : Int)) (keys + 1)) := row_step (w := wr.drew) hrow (fun k => by
            rw [hst]
            by_cases e : k = t + 1
            · subst e; simp
            · simp [e])
          have hl1 : (t : Int) < (keys : Int) + 1 := by omega
          have hl2 : (t : Int) + 1 < (keys : Int) + 1 := by omega
          clear hst
          go_wp2_with fail
          go_big_region
          go_wp2_with fail
          go_roundg (keys - (t + 1))
          case measure => have := hG.out; omega
          case rel => exact ⟨t + 1, by omega, rfl, by go_num, hrow1, (show Below w.heap.size w wr.drew from hbel.drew).setCell (p := ⟨w.heap.size, t + 1, none⟩) (Nat.le_refl _) _⟩
        · have htk : keys = t := by omega
          subst htk
          clear hG ht
          rename World => W2
          go_wp2
          clear hlt
          have hne : w.heap.size ≠ W2.heap.size := Nat.ne_of_lt hrow.lt
          have hKk' : ∀ i ∈ L, K i < keys := hKk
          have hwW : w.heap.size ≤ W2.heap.size := Nat.le_of_lt hrow.lt
          go_loopg [62, 15, 16] m (fun g i _ _ wr => ∃ j : Nat, j ≤ m ∧ g = m - j ∧ i = .int .i64 j ∧ Row wr w.heap.size 21 (i32s (fun k => (s3 K L j k : Int)) (keys + 1)) ∧ Row wr W2.heap.size 21 (idl (cont K keys L j)) ∧ Below w.heap.size w wr)
          case atStart =>
            refine ⟨0, by omega, rfl, rfl, ?_, ?_, hbel.alloc hwW _⟩
            · have e : i32s (fun k => (s2 K L keys k : Int)) (keys + 1) = i32s (fun k => (s3 K L 0 k : Int)) (keys + 1) := by
                unfold i32s
                refine List.map_congr_left fun k hk => ?_
                show Value.int .i32 ((s2 K L keys k : Nat) : Int) = _
                rw [s3_start K L (keys := keys) (by have := List.mem_range.1 hk; omega)]
              rw [← e]; exact hrow.alloc _
            · have h := Row.made W2 21 (.int .i32 0) m
              rw [cont_start hKk, ← HM.out]
              simpa [idl] using h
          case round =>
            clear hrow hbel
            rename World => wr
            obtain ⟨j, hj, hgk, rfl, hrow, hrowS, hbel⟩ := hrel
            have hG : Hid (gk = m - j) := hgk
            clear hgk
            by_cases hlt : j < m
            · have hjL : j < L.length := by rw [← HM.out]; exact hlt
              obtain ⟨b, off, rfl, hc⟩ := hids j hjL
              have hcx := (hbel.cell (p := ⟨b, off + j, none⟩) (block_lt_of_cell hc)).trans hc
              have hxn := hLn L[j] (List.getElem_mem hjL)
              have hxk := hKk L[j] (List.getElem_mem hjL)
              have hKx := hK L[j] (List.getElem_mem hjL)
              have hst := s3_step K L hjL
              have hcs := cont_step hjL (hKk L[j] (List.getElem_mem hjL))
              have hpl : s3 K L j (K L[j]) < L.length := place_lt hjL
              have hcl := cont_length hKk j
              rw [← HM.out] at hpl hcl
              change cont K keys L (j + 1) = (cont K keys L j).set (s3 K L j (K L[j])) L[j] at hcs
              have hacq' := hacq.below (hbel.mono hB)
              generalize hxe : L[j] = x at hcx hxn hxk hst hcs hpl hKx
              clear hxe hc
              obtain ⟨ce, _, _⟩ := hacq'.cells hxn
              obtain ⟨ht0, ht1, htC⟩ := hKx
              have hbx' := (hbel.cell (p := ⟨bx, 0, none⟩) (block_lt_of_cell hbx)).trans hbx
              have hC' := hC.below hbel
              have cs := hrow.cell (i32s_get (fun k => (s3 K L j k : Int)) (show K x < keys + 1 by omega))
              have fs := hrow.fz (K x)
              have fS := hrowS.fz (s3 K L j (K x))
              have hxI : (x : Int) < n := by omega
              have cS : wr.cell? ⟨W2.heap.size, s3 K L j (K x), none⟩ = some (.int .i32 ((cont K keys L j)[s3 K L j (K x)]'(by rw [hcl]; exact hpl) : Int)) := hrowS.cell (by simp [idl, hcl, hpl])
              have hrowS1 : ∀ mq, Row ((wr.drewN mq).setCell ⟨W2.heap.size, s3 K L j (K x), none⟩ (.int .i32 (x : Int))) W2.heap.size 21 (idl (cont K keys L (j + 1))) := by
                intro mq
                have h := (hrowS.drewN mq).set (s3 K L j (K x)) (.int .i32 (x : Int))
                rw [hcs]
                simpa [idl, List.map_set] using h
              have hrow0 := fun mq => (hrow.drewN mq).setOther (a := ⟨W2.heap.size, s3 K L j (K x), none⟩) hne (.int .i32 (x : Int))
              have hrow1 : ∀ mq, Row (((wr.drewN mq).setCell ⟨W2.heap.size, s3 K L j (K x), none⟩ (.int .i32 (x : Int))).setCell ⟨w.heap.size, K x, none⟩ (.int .i32 ((s3 K L j (K x) : Int) + 1))) w.heap.size 21 (i32s (fun k => (s3 K L (j + 1) k : Int)) (keys + 1)) := fun mq => row_step (hrow0 mq) (fun k => by
                rw [hst]
                by_cases e : k = K x
                · subst e; simp
                · simp [e])
              have hrowS2 := fun mq => (hrowS1 mq).setOther (a := ⟨w.heap.size, K x, none⟩) (Ne.symm hne) (.int .i32 ((s3 K L j (K x) : Int) + 1))
              have hbel2 := fun mq => ((below_drewN hbel mq).setCell (p := ⟨W2.heap.size, s3 K L j (K x), none⟩) hwW (.int .i32 (x : Int))).setCell (p := ⟨w.heap.size, K x, none⟩) (Nat.le_refl _) (.int .i32 ((s3 K L j (K x) : Int) + 1))
              have cs1 := fun mq => (hrow0 mq).cell (i32s_get (fun k => (s3 K L j k : Int)) (show K x < keys + 1 by omega))
              have fs1 := fun mq => (hrow0 mq).fz (K x)
              clear hst hcs hrow0 hrowS1
              go_wp2_with (first | (go_at_call 32; refine (at32 CK n hA B x T E X _ hn hacq' hxn).mono ?_; rintro e w' ⟨rfl, hw⟩; rw [hw]; clear hw) | (go_at_call 30; refine (key30 hA x bx nt cC aC (T x) 0 C _ ce ht0 ht1 hbx' hC').mono ?_; rintro e w' ⟨rfl, mq, hw⟩; rw [hw, htC]; clear hw))
              go_roundg (m - (j + 1))
              case measure => have := hG.out; omega
              case rel => exact ⟨j + 1, by omega, rfl, by go_num, hrow1 _, hrowS2 _, hbel2 _⟩
            · have hjm : m = j := by omega
              subst hjm
              have e3 : cont K keys L m = csort K keys L := by rw [HM.out]; exact cont_end K keys L
              rw [e3] at hrowS
              go_wp2
              go_ret
              exact ⟨W2.heap.size, by rw [← HM.out]; rfl, hrowS, hbel⟩
end Go.Proofs.Qxb6613322a
