/-
  (*decoder).index BY TWO CONTRACTS: a number is read, or none is.
-/
import Derived.Test.Qxb6613184aBase128
namespace Go.Proofs.Qxb6613184a
open Go.RowKit

/-- A DECODER lies in block D. -/
def DecIs (w : World) (D : Nat) (v e s : Value) : Prop := w.heap[D]? = some (.cells #[v, e, s] 53 (0, 0))
theorem DecIs.c0 {w : World} {D : Nat} {v e s : Value} (h : DecIs w D v e s) : w.cell? ⟨D, 0, none⟩ = some v := by rw [cell_of_row w D 0 _ _ _ h]; rfl
theorem DecIs.c1 {w : World} {D : Nat} {v e s : Value} (h : DecIs w D v e s) : w.cell? ⟨D, 1, none⟩ = some e := by rw [cell_of_row w D 1 _ _ _ h]; rfl
theorem DecIs.c2 {w : World} {D : Nat} {v e s : Value} (h : DecIs w D v e s) : w.cell? ⟨D, 2, none⟩ = some s := by rw [cell_of_row w D 2 _ _ _ h]; rfl
theorem DecIs.fz {w : World} {D : Nat} {v e s : Value} (h : DecIs w D v e s) (j : Nat) : w.frozen? ⟨D, j, none⟩ = false := frozen_of_row w D j _ _ h

theorem uvarint_good (ao : Option Addr) (n c k : Nat) (Z : Nat → Int) (w : World) (hn : n ≤ 1048576) (hZ : ByteRow w ao n Z) (hg : GoodStop Z n k) :
    Calls Try.prog 30 #[.slice ao n c] w fun e w' => e = .returned (.tuple #[.int .u64 (hval Z 0 (k + 1)), .int .i64 (k + 1)]) ∧ w' = w := by
  refine (uvarint_any ao n c Z w (by omega) hZ).mono ?_
  rintro e w' ⟨⟨k', h', rfl⟩ | ⟨hb, _⟩, hw⟩
  · obtain rfl := hg.uniq h'
    exact ⟨rfl, hw⟩
  · exact absurd hg (hb k)
theorem uvarint_bad (ao : Option Addr) (n c : Nat) (Z : Nat → Int) (w : World) (hn : n ≤ 1048576) (hZ : ByteRow w ao n Z) (hg : BadNum Z n) :
    Calls Try.prog 30 #[.slice ao n c] w fun e w' => ∃ m : Int, m ≤ 0 ∧ e = .returned (.tuple #[.int .u64 0, .int .i64 m]) ∧ w' = w := by
  refine (uvarint_any ao n c Z w (by omega) hZ).mono ?_
  rintro e w' ⟨⟨k', h', rfl⟩ | ⟨_, m, hm, rfl⟩, hw⟩
  · exact absurd h' (hg k')
  · exact ⟨m, hm, rfl, hw⟩

/-- One too large for the index is clamped. -/
def clamp (x : Int) : Int := if x ≤ 2147483648 then x else 2147483648

/-- BEHIND A READING: the decoder holds the rest; there is no error. -/
def RestIs (w : World) (D n k : Nat) (s : Value) (Z : Nat → Int) (w' : World) : Prop :=
  ∃ ao' c', DecIs w' D (.slice ao' (n - (k + 1)) c') .nilIface s ∧ ByteRow w' ao' (n - (k + 1)) (fun j => Z (j + (k + 1))) ∧ Below D w w'
theorem DecIs.set0 {w : World} {D : Nat} {v e s : Value} (h : DecIs w D v e s) (u : Value) : DecIs (w.setCell ⟨D, 0, none⟩ u) D u e s := by
  have := heap_setCell_same w D 0 _ 53 u h
  simpa [DecIs] using this
theorem DecIs.set1 {w : World} {D : Nat} {v e s : Value} (h : DecIs w D v e s) (u : Value) : DecIs (w.setCell ⟨D, 1, none⟩ u) D v u s := by
  have := heap_setCell_same w D 1 _ 53 u h
  simpa [DecIs] using this
theorem DecIs.alloc {w : World} {D : Nat} {v e s : Value} (h : DecIs w D v e s) (o : Obj) : DecIs (w.alloc o) D v e s := by
  unfold DecIs; rw [Below.heap_alloc _ _ _ (lt_of_block h)]; exact h
theorem rest_none {w : World} {D k : Nat} {s v : Value} {Z : Nat → Int} {ao : Option Addr} {c : Nat} (h : DecIs w D v .nilIface s) : RestIs w D (k + 1) k s Z (w.setCell ⟨D, 0, none⟩ (.slice ao 0 c)) :=
  ⟨ao, c, by simpa using h.set0 (.slice ao 0 c), fun j hj => absurd hj (by omega), (Below.refl _ _).setCell (p := ⟨D, 0, none⟩) (Nat.le_refl _) _⟩
theorem rest_some {w : World} {D n k b off c : Nat} {s v : Value} {Z : Nat → Int} (h : DecIs w D v .nilIface s) (hb : b < D) (hZ : ByteRow w (some ⟨b, off, none⟩) n Z) :
    RestIs w D n k s Z (w.setCell ⟨D, 0, none⟩ (.slice (some ⟨b, off + (k + 1), none⟩) (n - (k + 1)) c)) := by
  refine ⟨_, _, h.set0 _, fun j hj => ?_, (Below.refl _ _).setCell (p := ⟨D, 0, none⟩) (Nat.le_refl _) _⟩
  obtain ⟨b', off', e, hc, hz⟩ := hZ (j + (k + 1)) (by omega)
  cases e
  refine ⟨_, _, rfl, ?_, hz⟩
  rw [show off + (k + 1) + j = off + (j + (k + 1)) by omega]
  exact (((Below.refl D w).setCell (p := ⟨D, 0, none⟩) (Nat.le_refl _) _).cell (p := ⟨b, off + (j + (k + 1)), none⟩) hb).trans hc

set_option maxHeartbeats 1000000 in
theorem index_good (D : Nat) (ao : Option Addr) (n k : Nat) (s : Value) (Z : Nat → Int) (w : World) (hn : n ≤ 1048576) (hD : DecIs w D (.slice ao n n) .nilIface s) (hZ : ByteRow w ao n Z) (hao : ∀ a, ao = some a → a.block < D) (hg : GoodStop Z n k) :
    Calls Try.prog 15 #[.pointer (some ⟨D, 0, none⟩)] w fun e w' => e = .returned (.int .i64 (clamp (hval Z 0 (k + 1)))) ∧ RestIs w D n k s Z w' := by
  have c0 := hD.c0
  have c1 := hD.c1
  have f0 := hD.fz 0
  have f1 := hD.fz 1
  obtain ⟨hbd, _⟩ := hval_bd Z (k + 1) 0
  have hk : k < n := hg.1
  obtain ⟨b, off, rfl, _⟩ := hZ k hk
  have hbD : b < D := hao _ rfl
  clear hao
  by_cases hnk : n = k + 1
  · subst hnk
    by_cases hv : hval Z 0 (k + 1) ≤ 2147483648
    all_goals
      go_enter Try.func15, Try.ntmps15
      go_wp2_with (first | (go_at_call 30; refine (uvarint_good _ _ _ k Z _ hn hZ hg).mono ?_; rintro e w' ⟨rfl, hw⟩; rw [hw]; clear hw) | go_in)
      go_ret
      refine ⟨ret_int (by unfold clamp; split <;> omega), ?_⟩
      exact rest_none hD
  · by_cases hv : hval Z 0 (k + 1) ≤ 2147483648
    all_goals
      go_enter Try.func15, Try.ntmps15
      go_wp2_with (first | (go_at_call 30; refine (uvarint_good _ _ _ k Z _ hn hZ hg).mono ?_; rintro e w' ⟨rfl, hw⟩; rw [hw]; clear hw) | go_in)
      go_ret
      refine ⟨ret_int (by unfold clamp; split <;> omega), ?_⟩
      exact rest_some hD hbD hZ

/-- BEHIND A READING THAT FAILED: the decoder holds what it held; there is an error. -/
def FailIs (w : World) (D : Nat) (v s : Value) (w' : World) : Prop := ∃ g, DecIs w' D v (.iface 64 (.pointer (some ⟨g, 0, none⟩))) s ∧ Below D w w'
theorem fail_is {w : World} {D : Nat} {v e s : Value} {o : Obj} {g : Nat} (h : DecIs w D v e s) : FailIs w D v s ((w.alloc o).setCell ⟨D, 1, none⟩ (.iface 64 (.pointer (some ⟨g, 0, none⟩)))) :=
  ⟨g, (h.alloc o).set1 _, ((Below.refl _ _).alloc (Nat.le_of_lt (lt_of_block h)) _).setCell (p := ⟨D, 1, none⟩) (Nat.le_refl _) _⟩

set_option maxHeartbeats 1000000 in
theorem index_bad (D : Nat) (ao : Option Addr) (n : Nat) (s : Value) (Z : Nat → Int) (w : World) (hn : n ≤ 1048576) (hD : DecIs w D (.slice ao n n) .nilIface s) (hZ : ByteRow w ao n Z) (hg : BadNum Z n) :
    Calls Try.prog 15 #[.pointer (some ⟨D, 0, none⟩)] w fun e w' => e = .returned (.int .i64 0) ∧ FailIs w D (.slice ao n n) s w' := by
  have c0 := hD.c0
  have c1 := hD.c1
  have f0 := hD.fz 0
  have f1 := hD.fz 1
  have ca : ∀ o, (w.alloc o).cell? ⟨D, 1, none⟩ = some .nilIface := fun o => (hD.alloc o).c1
  have fa : ∀ o, (w.alloc o).frozen? ⟨D, 1, none⟩ = false := fun o => (hD.alloc o).fz 1
  go_enter Try.func15, Try.ntmps15
  go_wp2_with (first | (go_at_call 30; refine (uvarint_bad _ _ _ Z _ hn hZ hg).mono ?_; rintro e w' ⟨m, hm, rfl, hw⟩; rw [hw]; clear hw) | go_in)
  go_ret
  exact ⟨rfl, fail_is hD⟩
end Go.Proofs.Qxb6613184a
