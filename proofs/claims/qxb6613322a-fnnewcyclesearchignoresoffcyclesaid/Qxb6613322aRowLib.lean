/-
  A ROW OF CELLS of the call's own, told by the list of its values; a slice that came in, told by an index function.
-/
import Derived.Test.Qxb6613322aRows
import Derived.WalkKit
import Derived.WalkSpells
import Derived.WalkLawsBesides
import Derived.Deep.OwnRows
import Derived.Deep.QuietTactic
import Derived.BigQuiet
import Derived.Deep.LoopGhost
import Derived.Deep.DeepCutAuto
import Derived.Laws.CopyOwn
namespace Go.Proofs.Qxb6613322a
open Go.RowKit

theorem ret_int {k : IntKind} {a b : Int} (h : a = b) : Ending.returned (.int k a) = .returned (.int k b) := by rw [h]
theorem ret_bool {a b : Bool} (h : a = b) : Ending.returned (.bool a) = .returned (.bool b) := by rw [h]

/-- Block g is a row of cells of type t that holds the values L; none is frozen. -/
def Row (w : World) (g : Nat) (t : TypeId) (L : List Value) : Prop := w.heap[g]? = some (.cells L.toArray t (0, 0))
theorem Row.cell {w : World} {g : Nat} {t : TypeId} {L : List Value} (h : Row w g t L) {k : Nat} {v : Value} (hk : L[k]? = some v) : w.cell? ⟨g, k, none⟩ = some v := by
  rw [cell_of_row w g k _ _ _ h]; simpa using hk
theorem Row.fz {w : World} {g : Nat} {t : TypeId} {L : List Value} (h : Row w g t L) (k : Nat) : w.frozen? ⟨g, k, none⟩ = false := frozen_of_row w g k _ _ h
theorem Row.lt {w : World} {g : Nat} {t : TypeId} {L : List Value} (h : Row w g t L) : g < w.heap.size := lt_of_block h
theorem Row.set {w : World} {g : Nat} {t : TypeId} {L : List Value} (h : Row w g t L) (k : Nat) (v : Value) : Row (w.setCell ⟨g, k, none⟩ v) g t (L.set k v) := by
  have := heap_setCell_same w g k _ t v h
  simpa [Row] using this
theorem Row.setOther {w : World} {g : Nat} {t : TypeId} {L : List Value} (h : Row w g t L) {a : Addr} (ha : g ≠ a.block) (v : Value) : Row (w.setCell a v) g t L := by
  unfold Row; rw [heap_setCell_other w a g v ha]; exact h
theorem Row.alloc {w : World} {g : Nat} {t : TypeId} {L : List Value} (h : Row w g t L) (o : Obj) : Row (w.alloc o) g t L := by
  unfold Row; rw [Below.heap_alloc _ _ _ h.lt]; exact h
theorem Row.drewN {w : World} {g : Nat} {t : TypeId} {L : List Value} (h : Row w g t L) (n : Nat) : Row (w.drewN n) g t L := h
theorem Row.below {w w' : World} {g B : Nat} {t : TypeId} {L : List Value} (h : Row w g t L) (hb : Below B w w') (hg : g < B) : Row w' g t L := by
  unfold Row; rw [hb.block g hg]; exact h
theorem Row.grown {w w' : World} {g : Nat} {r : Option Nat} {t : TypeId} {L : List Value} (h : Row w g t L) (hb : w.grownBy w' r) (hg : some g ≠ r) : Row w' g t L := by
  unfold Row; rw [hb.block g h.lt hg]; exact h
theorem Row.new (w : World) (t : TypeId) (L : List Value) : Row (w.alloc (.cells L.toArray t)) w.heap.size t L := heap_alloc_new _ _
theorem made_list (z : Value) (n : Nat) : madeCells #[z] n = (List.replicate n z).toArray := by
  apply Array.ext_getElem?
  intro i
  by_cases hi : i < n
  · simp [madeCells, hi, Nat.mod_one]
  · simp [madeCells, hi]
theorem Row.made (w : World) (t : TypeId) (z : Value) (n : Nat) : Row (w.alloc (.cells (madeCells #[z] n) t)) w.heap.size t (List.replicate n z) := by
  rw [made_list]; exact Row.new _ _ _
theorem Row.of_rowIs {w : World} {g n : Nat} {t : TypeId} {f : Nat → Value} (h : w.rowIs g t n f) : Row w g t ((List.range n).map f) := by
  obtain ⟨c, hc, hs, hf⟩ := h
  unfold Row
  rw [hc]
  have e : c = ((List.range n).map f).toArray := by
    apply Array.ext_getElem?
    intro i
    by_cases hi : i < n
    · rw [hf i hi]; simp [hi]
    · rw [Array.getElem?_eq_none (by omega), Array.getElem?_eq_none (by simp; omega)]
  rw [e]

theorem grown_setCell {w wr : World} {g : Nat} (h : w.grownBy wr (some g)) (k : Nat) (v : Value) : w.grownBy (wr.setCell ⟨g, k, none⟩ v) (some g) := by
  refine ⟨h.os, h.tape, h.output, ?_, fun b hb hne => ?_⟩
  · have : (wr.setCell ⟨g, k, none⟩ v).heap.size = wr.heap.size := by simp
    rw [this]; exact h.size
  · rw [heap_setCell_other wr _ b v (by intro e; exact hne (by simp [e]))]
    exact h.block b hb hne

/-- WHAT A WALK IS TOLD OF A SLICE OF int32's THAT CAME IN: its first 'len' cells hold the numbers 'Z k'. -/
def IntRow (w : World) (a : Option Addr) (len : Nat) (Z : Nat → Int) : Prop :=
  ∀ k, k < len → ∃ b off, a = some ⟨b, off, none⟩ ∧ w.cell? ⟨b, off + k, none⟩ = some (.int .i32 (Z k)) ∧ -2147483648 ≤ Z k ∧ Z k ≤ 2147483647
theorem IntRow.below {w w' : World} {a : Option Addr} {len : Nat} {Z : Nat → Int} (h : IntRow w a len Z) (hb : Below w.heap.size w w') : IntRow w' a len Z := by
  intro k hk
  obtain ⟨b, off, e, hc, hz⟩ := h k hk
  exact ⟨b, off, e, (hb.cell (p := ⟨b, off + k, none⟩) (block_lt_of_cell hc)).trans hc, hz⟩

theorem setRow_alloc (w : World) (c c' : Array Value) (t : TypeId) : (w.alloc (.cells c t)).setRow w.heap.size c' = w.alloc (.cells c' t) := by
  show { w with heap := (w.heap.push (.cells c t)).modify w.heap.size _ } = { w with heap := w.heap.push (.cells c' t) }
  congr 1
  apply Array.ext_getElem?
  intro i
  rw [Array.getElem?_modify]
  by_cases h : w.heap.size = i
  · subst h; simp
  · rw [if_neg h]
    simp only [Array.getElem?_push]
    rw [if_neg (Ne.symm h), if_neg (Ne.symm h)]

/-- 'c := make([]T, len(a)); copy(c, a)': the new row holds a's elements. -/
theorem copied {P : Program} (w : World) (T E ty : TypeId) (z : Value) (a : Option Addr) (len cap : Nat) (vs : List Value) (hv : vs.length = len) (hu : P.underlying T = some (.slice E)) (hs : (P.info? E).map (·.size) = some 1)
    (hc : ∀ j, j < len → ∃ b off, a = some ⟨b, off, none⟩ ∧ w.cell? ⟨b, off + j, none⟩ = vs[j]?) (h1 : ∀ v ∈ vs, v.oneCell' = true) :
    (Builtin.copy_ #[T, T] ty #[.slice (some ⟨w.heap.size, 0, none⟩) len len, .slice a len cap]).run P (w.alloc (.cells (madeCells #[z] len) E)) = .ok (.int .i64 len) (w.alloc (.cells vs.toArray E)) := by
  by_cases h0 : len = 0
  · subst h0
    have h := run_copy_none (P := P) (w.alloc (.cells (madeCells #[z] 0) E)) T T ty E (some ⟨w.heap.size, 0, none⟩) a 0 0 0 cap hu hs rfl
    rw [h]
    have e : madeCells #[z] 0 = #[] := Array.eq_empty_of_size_eq_zero (size_madeCells _ _)
    obtain rfl : vs = [] := List.eq_nil_of_length_eq_zero hv
    rw [e]; rfl
  · obtain ⟨b, off, rfl, _⟩ := hc 0 (by omega)
    have h := run_copy_row (P := P) (w.alloc (.cells (madeCells #[z] len) E)) T T ty E w.heap.size 0 len len ⟨b, off, none⟩ len cap (madeCells #[z] len) E vs hu hs (heap_alloc_new w _) (by simp [hv])
      (fun j v hj => by
        have hjl : j < len := by have := (List.getElem?_eq_some_iff.1 hj).1; omega
        obtain ⟨b', off', e, hx⟩ := hc j hjl
        cases e
        rw [hj] at hx
        have hb : b < w.heap.size := block_lt_of_cell hx
        rw [Addr.add_lit]
        exact ((Below.refl w.heap.size w).alloc (Nat.le_refl _) _ |>.cell (p := ⟨b, off + j, none⟩) hb).trans hx)
      (by simp [hv, size_madeCells]) h1
    rw [h, hv]
    congr 1
    rw [show (List.take 0 (madeCells #[z] len).toList ++ vs ++ List.drop (0 + len) (madeCells #[z] len).toList) = vs by simp [size_madeCells]]
    exact setRow_alloc _ _ _ _

/-- Numbers as cells. -/
def i32s (Z : Nat → Int) (n : Nat) : List Value := (List.range n).map fun j => .int .i32 (Z j)
theorem i32s_length (Z : Nat → Int) (n : Nat) : (i32s Z n).length = n := by simp [i32s]
theorem i32s_get (Z : Nat → Int) {n k : Nat} (hk : k < n) : (i32s Z n)[k]? = some (.int .i32 (Z k)) := by simp [i32s, hk]
theorem i32s_one (Z : Nat → Int) (n : Nat) : ∀ v ∈ i32s Z n, v.oneCell' = true := by
  intro u hu
  obtain ⟨_, _, rfl⟩ := List.mem_map.1 hu
  rfl
theorem IntRow.cells {w : World} {a : Option Addr} {len : Nat} {Z : Nat → Int} (h : IntRow w a len Z) : ∀ j, j < len → ∃ b off, a = some ⟨b, off, none⟩ ∧ w.cell? ⟨b, off + j, none⟩ = (i32s Z len)[j]? := by
  intro j hj
  obtain ⟨b, off, e, hc, _⟩ := h j hj
  exact ⟨b, off, e, by rw [hc, i32s_get Z hj]⟩

theorem Try.info21 : (Try.prog.info? 21).map (fun i => (i.zero, i.size, i.bytes)) = some (some (.int .i32 0), 1, 4) := by kernel_rfl
theorem Try.info4 : (Try.prog.info? 4).map (fun i => (i.zero, i.size, i.bytes)) = some (some (.bool false), 1, 1) := by kernel_rfl
theorem Try.info3 : (Try.prog.info? 3).map (fun i => (i.zero, i.size, i.bytes)) = some (some (.int .i64 0), 1, 8) := by kernel_rfl
end Go.Proofs.Qxb6613322a
