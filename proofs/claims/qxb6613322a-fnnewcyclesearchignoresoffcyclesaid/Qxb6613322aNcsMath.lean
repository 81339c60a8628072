/-
  PLAIN: what newCycleSearch lays over its sorted list: runs, ends, the next exclusive place; listings as cells.
-/
import Derived.Test.Qxb6613322aGrp
import Derived.Test.Qxb6613322aSrt
namespace Go.Proofs.Qxb6613322a
open Go.RowKit
set_option linter.unusedVariables false

/-- the first place from k on where P holds, else m -/
def nxf (P : Nat → Bool) (m : Nat) : Nat → Nat
  | 0 => m
  | d + 1 => if P (m - (d + 1)) then m - (d + 1) else nxf P m d
def nxt (P : Nat → Bool) (m k : Nat) : Nat := nxf P m (m - k)
theorem nxt_end (P : Nat → Bool) (m : Nat) : nxt P m m = m := by simp [nxt, nxf]
theorem nxt_step (P : Nat → Bool) {m k : Nat} (h : k < m) : nxt P m k = if P k then k else nxt P m (k + 1) := by
  unfold nxt
  rw [show m - k = (m - (k + 1)) + 1 by omega, nxf, show m - ((m - (k + 1)) + 1) = k by omega]
theorem nxf_le (P : Nat → Bool) (m : Nat) : ∀ d, nxf P m d ≤ m
  | 0 => Nat.le_refl _
  | d + 1 => by
    rw [nxf]; split
    · omega
    · exact nxf_le P m d
theorem nxt_le (P : Nat → Bool) (m k : Nat) : nxt P m k ≤ m := nxf_le P m _

/-- a new run begins at i -/
def isNew (E K : Nat → Int) (S : List Nat) (i : Nat) : Bool := decide (i = 0 ∨ E (S.getD i 0) ≠ E (S.getD (i - 1) 0) ∨ K (S.getD i 0) ≠ K (S.getD (i - 1) 0))
/-- each run's end, after i places -/
def ends (E K : Nat → Int) (S : List Nat) : Nat → List Nat
  | 0 => []
  | i + 1 => (if isNew E K S i then ends E K S i ++ [0] else ends E K S i).set ((if isNew E K S i then ends E K S i ++ [0] else ends E K S i).length - 1) (i + 1)
def lifted (E K : Nat → Int) (S : List Nat) (i : Nat) : List Nat := if isNew E K S i then ends E K S i ++ [0] else ends E K S i
theorem ends_succ (E K : Nat → Int) (S : List Nat) (i : Nat) : ends E K S (i + 1) = (lifted E K S i).set ((lifted E K S i).length - 1) (i + 1) := rfl
theorem ends_len_succ (E K : Nat → Int) (S : List Nat) (i : Nat) : (ends E K S (i + 1)).length = (lifted E K S i).length := by rw [ends_succ, List.length_set]
theorem ends_le (E K : Nat → Int) (S : List Nat) : ∀ i, (ends E K S i).length ≤ i
  | 0 => Nat.le_refl _
  | i + 1 => by
    have h := ends_le E K S i
    rw [ends_len_succ, lifted]
    split
    · simp; omega
    · omega
theorem lifted_pos (E K : Nat → Int) (S : List Nat) : ∀ i, 0 < (lifted E K S i).length
  | 0 => by simp [lifted, isNew]
  | i + 1 => by
    have h := lifted_pos E K S i
    unfold lifted
    split
    · simp
    · rw [ends_len_succ]; exact h
/-- the run of place i -/
def grp (E K : Nat → Int) (S : List Nat) (i : Nat) : Nat := (ends E K S (i + 1)).length - 1
/-- each acquisition's place, after i places -/
def plc (S : List Nat) : Nat → Nat → Nat
  | 0, _ => 0
  | i + 1, a => if a = S.getD i 0 then i else plc S i a
theorem plc_le (S : List Nat) (a : Nat) : ∀ i, plc S i a ≤ i
  | 0 => Nat.le_refl _
  | i + 1 => by
    rw [plc]
    have := plc_le S a i
    split <;> omega

/-- listings as cells -/
def lcells (f g h : Nat → Int) (m : Nat) : List Value := (List.range m).flatMap fun k => [.int .i32 (f k), .int .i32 (g k), .int .i32 (h k)]
theorem lcells_succ (f g h : Nat → Int) (m : Nat) : lcells f g h (m + 1) = lcells f g h m ++ [.int .i32 (f m), .int .i32 (g m), .int .i32 (h m)] := by simp [lcells, List.range_succ]
theorem lcells_length (f g h : Nat → Int) : ∀ m, (lcells f g h m).length = 3 * m
  | 0 => rfl
  | m + 1 => by rw [lcells_succ, List.length_append, lcells_length f g h m]; simp; omega
theorem lcells_get (f g h : Nat → Int) : ∀ (m k : Nat), k < m → (lcells f g h m)[k * 3]? = some (.int .i32 (f k)) ∧ (lcells f g h m)[k * 3 + 1]? = some (.int .i32 (g k)) ∧ (lcells f g h m)[k * 3 + 2]? = some (.int .i32 (h k))
  | 0, _, hk => absurd hk (by omega)
  | m + 1, k, hk => by
    have hl := lcells_length f g h m
    rw [lcells_succ]
    by_cases e : k = m
    · subst e
      refine ⟨?_, ?_, ?_⟩
      · rw [List.getElem?_append_right (by omega), hl, show k * 3 - 3 * k = 0 by omega]; rfl
      · rw [List.getElem?_append_right (by omega), hl, show k * 3 + 1 - 3 * k = 1 by omega]; rfl
      · rw [List.getElem?_append_right (by omega), hl, show k * 3 + 2 - 3 * k = 2 by omega]; rfl
    · obtain ⟨a, b, c⟩ := lcells_get f g h m k (by omega)
      refine ⟨?_, ?_, ?_⟩
      · rw [List.getElem?_append_left (by omega)]; exact a
      · rw [List.getElem?_append_left (by omega)]; exact b
      · rw [List.getElem?_append_left (by omega)]; exact c
def upd (f : Nat → Int) (k : Nat) (v : Int) : Nat → Int := fun i => if i = k then v else f i
theorem lcells_ext {f g h f' g' h' : Nat → Int} {m : Nat} (e : ∀ k, k < m → f k = f' k ∧ g k = g' k ∧ h k = h' k) : lcells f g h m = lcells f' g' h' m := by
  unfold lcells
  refine flatMap_congr' fun k hk => ?_
  obtain ⟨a, b, c⟩ := e k (List.mem_range.1 hk)
  rw [a, b, c]
theorem lcells_at (f g h : Nat → Int) (m j : Nat) : (lcells f g h m)[j]? = if j < 3 * m then some (if j % 3 = 0 then .int .i32 (f (j / 3)) else if j % 3 = 1 then .int .i32 (g (j / 3)) else .int .i32 (h (j / 3))) else none := by
  by_cases hj : j < 3 * m
  · rw [if_pos hj]
    obtain ⟨a, b, c⟩ := lcells_get f g h m (j / 3) (by omega)
    have : j % 3 = 0 ∨ j % 3 = 1 ∨ j % 3 = 2 := by omega
    rcases this with e | e | e
    · rw [if_pos e]; rw [show j / 3 * 3 = j by omega] at a; exact a
    · rw [if_neg (by omega), if_pos e]; rw [show j / 3 * 3 + 1 = j by omega] at b; exact b
    · rw [if_neg (by omega), if_neg (by omega)]; rw [show j / 3 * 3 + 2 = j by omega] at c; exact c
  · rw [if_neg hj]
    exact List.getElem?_eq_none (by rw [lcells_length]; omega)
theorem lcells_set2 (f g h : Nat → Int) (m k : Nat) (v : Int) (hk : k < m) : (lcells f g h m).set (k * 3 + 2) (.int .i32 v) = lcells f g (upd h k v) m := by
  apply List.ext_getElem?
  intro j
  rw [List.getElem?_set, lcells_length, lcells_at, lcells_at]
  by_cases e : k * 3 + 2 = j
  · subst e
    rw [if_pos rfl, if_pos (by omega), if_pos (by omega), if_neg (by omega), if_neg (by omega), show (k * 3 + 2) / 3 = k by omega]
    simp [upd]
  · rw [if_neg e]
    by_cases hj : j < 3 * m
    · rw [if_pos hj, if_pos hj]
      by_cases e0 : j % 3 = 0
      · rw [if_pos e0, if_pos e0]
      · rw [if_neg e0, if_neg e0]
        by_cases e1 : j % 3 = 1
        · rw [if_pos e1, if_pos e1]
        · rw [if_neg e1, if_neg e1, upd, if_neg (by omega)]
    · rw [if_neg hj, if_neg hj]
theorem lcells_set1 (f g h : Nat → Int) (m k : Nat) (v : Int) (hk : k < m) : (lcells f g h m).set (k * 3 + 1) (.int .i32 v) = lcells f (upd g k v) h m := by
  apply List.ext_getElem?
  intro j
  rw [List.getElem?_set, lcells_length, lcells_at, lcells_at]
  by_cases e : k * 3 + 1 = j
  · subst e
    rw [if_pos rfl, if_pos (by omega), if_pos (by omega), if_neg (by omega), if_pos (by omega), show (k * 3 + 1) / 3 = k by omega]
    simp [upd]
  · rw [if_neg e]
    by_cases hj : j < 3 * m
    · rw [if_pos hj, if_pos hj]
      by_cases e0 : j % 3 = 0
      · rw [if_pos e0, if_pos e0]
      · rw [if_neg e0, if_neg e0]
        by_cases e1 : j % 3 = 1
        · rw [if_pos e1, if_pos e1, upd, if_neg (by omega)]
        · rw [if_neg e1, if_neg e1]
    · rw [if_neg hj, if_neg hj]
theorem lcells_set0 (f g h : Nat → Int) (m k : Nat) (v : Int) (hk : k < m) : (lcells f g h m).set (k * 3) (.int .i32 v) = lcells (upd f k v) g h m := by
  apply List.ext_getElem?
  intro j
  rw [List.getElem?_set, lcells_length, lcells_at, lcells_at]
  by_cases e : k * 3 = j
  · subst e
    rw [if_pos rfl, if_pos (by omega), if_pos (by omega), if_pos (by omega), show (k * 3) / 3 = k by omega]
    simp [upd]
  · rw [if_neg e]
    by_cases hj : j < 3 * m
    · rw [if_pos hj, if_pos hj]
      by_cases e0 : j % 3 = 0
      · rw [if_pos e0, if_pos e0, upd, if_neg (by omega)]
      · rw [if_neg e0, if_neg e0]
    · rw [if_neg hj, if_neg hj]
end Go.Proofs.Qxb6613322a
