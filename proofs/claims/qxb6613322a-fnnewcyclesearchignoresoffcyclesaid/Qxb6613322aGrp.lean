/-
  THE GROUPS of a cycleSearch as they are read: len and at, by contracts.
-/
import Derived.Test.Qxb6613322aRead
namespace Go.Proofs.Qxb6613322a
open Go.RowKit
set_option linter.unusedVariables false

/-- k groups in cell 3 of SB; the chunk's block gH named. -/
def GrpH (w : World) (SB k gC gH : Nat) : Prop :=
  (k = 0 ∧ w.cell? ⟨SB, 3, none⟩ = some (.slice none 0 0)) ∨ (0 < k ∧ ∃ cC cH, w.cell? ⟨SB, 3, none⟩ = some (.slice (some ⟨gC, 0, none⟩) 1 cC) ∧ w.cell? ⟨gC, 0, none⟩ = some (.slice (some ⟨gH, 0, none⟩) k cH))

set_option maxHeartbeats 400000 in
theorem at24 (SB k gC gH j : Nat) (w : World) (hk : k ≤ 4096) (h : GrpH w SB k gC gH) (hj : j < k) :
    Calls Try.prog 24 #[.pointer (some ⟨SB, 3, none⟩), .int .i64 j] w fun e w' => e = .returned (.pointer (some ⟨gH, j * 4, none⟩)) ∧ w' = w := by
  obtain h | ⟨h1, cC, cH, a, d⟩ := h
  · omega
  have hq : (j : Int) / 4096 = 0 := by omega
  have hr : (j : Int) % 4096 = j := by omega
  go_enter Try.func24, Try.ntmps24
  go_wp2
  go_ret
  exact ⟨rfl, rfl⟩

set_option maxHeartbeats 400000 in
theorem len23 (SB k gC gH : Nat) (w : World) (hn : k ≤ 4096) (h : GrpH w SB k gC gH) :
    Calls Try.prog 23 #[.pointer (some ⟨SB, 3, none⟩)] w fun e w' => e = .returned (.int .i64 k) ∧ ∃ m, w' = w.drewN m := by
  obtain ⟨rfl, h⟩ | ⟨h1, cC, cH, a, d⟩ := h
  · go_enter Try.func23, Try.ntmps23
    go_wp2
    go_ret
    exact ⟨rfl, 0, rfl⟩
  · go_enter Try.func23, Try.ntmps23
    go_wp2
    go_quiet (fail)
    go_wp2
    go_ret
    exact ⟨ret_int (by omega), _, rfl⟩

/-- A group's four marks. -/
def grpCells (L : List Nat) : List Value := L.flatMap fun (e : Nat) => [.int .i32 (e : Int), .int .i32 (e : Int), .int .i32 (e : Int), .int .i32 (e : Int)]
theorem grpCells_length : ∀ L : List Nat, (grpCells L).length = 4 * L.length
  | [] => rfl
  | a :: L => by
    have := grpCells_length L
    simp only [grpCells, List.flatMap_cons, List.length_append, List.length_cons, List.length_nil] at this ⊢
    omega
theorem grpCells_append (L M : List Nat) : grpCells (L ++ M) = grpCells L ++ grpCells M := by simp [grpCells]
theorem grpCells_get : ∀ (L : List Nat) (g j : Nat) (hg : g < L.length) (hj : j < 4), (grpCells L)[g * 4 + j]? = some (.int .i32 (L[g] : Int))
  | a :: L, 0, j, _, hj => by
    have : j = 0 ∨ j = 1 ∨ j = 2 ∨ j = 3 := by omega
    rcases this with rfl | rfl | rfl | rfl <;> simp [grpCells]
  | a :: L, g + 1, j, hg, hj => by
    have h := grpCells_get L g j (by simpa using hg) hj
    have e : grpCells (a :: L) = [.int .i32 (a : Int), .int .i32 (a : Int), .int .i32 (a : Int), .int .i32 (a : Int)] ++ grpCells L := by simp [grpCells]
    rw [e, List.getElem?_append_right (by simp; omega)]
    simp only [List.length_cons, List.length_nil, List.getElem_cons_succ]
    rw [show (g + 1) * 4 + j - (0 + 1 + 1 + 1 + 1) = g * 4 + j by omega]
    exact h
theorem grpCells_set : ∀ (L : List Nat) (g v : Nat), g < L.length → ((((grpCells L).set (g * 4) (.int .i32 (v : Int))).set (g * 4 + 1) (.int .i32 (v : Int))).set (g * 4 + 2) (.int .i32 (v : Int))).set (g * 4 + 3) (.int .i32 (v : Int)) = grpCells (L.set g v)
  | a :: L, 0, v, _ => by simp [grpCells]
  | a :: L, g + 1, v, hg => by
    have h := grpCells_set L g v (by simpa using hg)
    have e : ∀ (a : Nat) (L : List Nat), grpCells (a :: L) = .int .i32 (a : Int) :: .int .i32 (a : Int) :: .int .i32 (a : Int) :: .int .i32 (a : Int) :: grpCells L := by intro a L; simp [grpCells]
    rw [List.set_cons_succ, e, e, show (g + 1) * 4 = g * 4 + 1 + 1 + 1 + 1 by omega, show g * 4 + 1 + 1 + 1 + 1 + 1 = (g * 4 + 1) + 1 + 1 + 1 + 1 by omega, show g * 4 + 1 + 1 + 1 + 1 + 2 = (g * 4 + 2) + 1 + 1 + 1 + 1 by omega, show g * 4 + 1 + 1 + 1 + 1 + 3 = (g * 4 + 3) + 1 + 1 + 1 + 1 by omega]
    simp only [List.set_cons_succ]
    rw [h]
end Go.Proofs.Qxb6613322a
