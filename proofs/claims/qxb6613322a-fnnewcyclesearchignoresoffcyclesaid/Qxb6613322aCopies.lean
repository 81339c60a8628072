/-
  COPIES of slices that came in (for FnNewCycleSearchIgnoresOffCycle; the same laws stand in LawF: never import both).
-/
import Derived.Test.Qxb6613322aLawA
namespace Go.Proofs.Qxb6613322a
open Go.RowKit
set_option linter.unusedVariables false

theorem IntRow.copy {w : World} {a : Option Addr} {len : Nat} {Z : Nat → Int} (h : IntRow w a len Z) : IntRow (w.alloc (.cells (i32s Z len).toArray 21)) (some ⟨w.heap.size, 0, none⟩) len Z := by
  intro k hk
  obtain ⟨_, _, _, _, hz⟩ := h k hk
  exact ⟨_, 0, rfl, by rw [Nat.zero_add]; exact (Row.new w 21 (i32s Z len)).cell (i32s_get Z hk), hz⟩
def bools (X : Nat → Bool) (n : Nat) : List Value := (List.range n).map fun j => .bool (X j)
theorem bools_length (X : Nat → Bool) (n : Nat) : (bools X n).length = n := by simp [bools]
theorem bools_get (X : Nat → Bool) {n k : Nat} (hk : k < n) : (bools X n)[k]? = some (.bool (X k)) := by simp [bools, hk]
theorem bools_one (X : Nat → Bool) (n : Nat) : ∀ v ∈ bools X n, v.oneCell' = true := by
  intro u hu
  obtain ⟨_, _, rfl⟩ := List.mem_map.1 hu
  rfl
theorem BoolRow.cells {w : World} {a : Option Addr} {len : Nat} {X : Nat → Bool} (h : BoolRow w a len X) : ∀ j, j < len → ∃ b off, a = some ⟨b, off, none⟩ ∧ w.cell? ⟨b, off + j, none⟩ = (bools X len)[j]? := by
  intro j hj
  obtain ⟨b, off, e, hc⟩ := h j hj
  exact ⟨b, off, e, by rw [hc, bools_get X hj]⟩
theorem BoolRow.copy {w : World} {a : Option Addr} {len : Nat} {X : Nat → Bool} (h : BoolRow w a len X) : BoolRow (w.alloc (.cells (bools X len).toArray 4)) (some ⟨w.heap.size, 0, none⟩) len X := by
  intro k hk
  exact ⟨_, 0, rfl, by rw [Nat.zero_add]; exact (Row.new w 4 (bools X len)).cell (bools_get X hk)⟩
theorem neq22 : ∀ (w : World) (a : Option Addr) (n c n' c' : Nat), (binOp .neq 22 (.slice a n c) (.slice none n' c')).run Try.prog w = .ok (.bool (!a.isNone)) w := fun w a n c n' c' => run_neq_slice_nil_any w _ _ a n c n' c' Try.underlying22
theorem neq26 : ∀ (w : World) (a : Option Addr) (n c n' c' : Nat), (binOp .neq 26 (.slice a n c) (.slice none n' c')).run Try.prog w = .ok (.bool (!a.isNone)) w := fun w a n c n' c' => run_neq_slice_nil_any w _ _ a n c n' c' Try.underlying26
theorem below_alloc1 (w : World) (o : Obj) : Below w.heap.size w (w.alloc o) := (Below.refl _ _).alloc (Nat.le_refl _) _
end Go.Proofs.Qxb6613322a
