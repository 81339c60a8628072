/-
  WHAT ZZbuildChecker LEAVES IN MEMORY, and how its three loops build it. No walk here.
-/
import Derived.Test.Qxb6613322aAddsA
import Derived.Test.Qxb6613322aAddsB
import Derived.Test.Qxb6613322aDomain
namespace Go.Proofs.Qxb6613322a
open Go.RowKit
set_option linter.unusedVariables false

theorem mixed : Try.prog.follows .mixedOrders = true := by kernel_rfl

/-- A new checker's cells. -/
def ck0 : List Value := [.slice none 0 0, .slice none 0 0, .slice none 0 0, .slice none 0 0, .int .u64 0, .slice none 0 0, .slice none 0 0, .slice none 0 0, .int .u64 0, .slice none 0 0, .slice none 0 0, .map none, .slice none 0 0]

/-- k acquisitions' cells. -/
def acqCells (T E : Nat → Int) (X : Nat → Bool) (PV : Nat → Int) : Nat → List Value
  | 0 => []
  | k + 1 => acqCells T E X PV k ++ [.int .i32 (T k), .int .i32 (E k), .bool (X k), .int .i32 (PV k)]
theorem acqCells_length (T E : Nat → Int) (X : Nat → Bool) (PV : Nat → Int) : ∀ k, (acqCells T E X PV k).length = 4 * k
  | 0 => rfl
  | k + 1 => by simp [acqCells, acqCells_length T E X PV k]; omega
theorem acqCells_get (T E : Nat → Int) (X : Nat → Bool) (PV : Nat → Int) : ∀ (k j : Nat), j < k → (acqCells T E X PV k)[4 * j]? = some (.int .i32 (T j)) ∧ (acqCells T E X PV k)[4 * j + 1]? = some (.int .i32 (E j)) ∧ (acqCells T E X PV k)[4 * j + 2]? = some (.bool (X j))
  | 0, j, h => absurd h (by omega)
  | k + 1, j, h => by
    have hl := acqCells_length T E X PV k
    by_cases e : j = k
    · subst e
      refine ⟨?_, ?_, ?_⟩
      · rw [acqCells, List.getElem?_append_right (by omega), hl, Nat.sub_self]; rfl
      · rw [acqCells, List.getElem?_append_right (by omega), hl, show 4 * j + 1 - 4 * j = 1 by omega]; rfl
      · rw [acqCells, List.getElem?_append_right (by omega), hl, show 4 * j + 2 - 4 * j = 2 by omega]; rfl
    · obtain ⟨a, b, c⟩ := acqCells_get T E X PV k j (by omega)
      refine ⟨?_, ?_, ?_⟩
      · rw [acqCells, List.getElem?_append_left (by omega)]; exact a
      · rw [acqCells, List.getElem?_append_left (by omega)]; exact b
      · rw [acqCells, List.getElem?_append_left (by omega)]; exact c

/-- m chunks, q in the last: k in all. -/
def Cnt (m q k : Nat) : Prop := (m = 0 ∧ q = 0 ∧ k = 0) ∨ (0 < m ∧ 1 ≤ q ∧ q ≤ 4096 ∧ (m - 1) * 4096 + q = k)

/-- BETWEEN TWO ROUNDS of a loop that adds k elements to the list in cell o of the checker CK: W, cur: the world and the checker's cells when the loop began. -/
def Grows (W : World) (CK : Nat) (ot : TypeId) (cur : List Value) (o : Nat) (S1 EL : TypeId) (sz k : Nat) (wr : World) : Prop :=
  ∃ vC m q xs, Row wr CK ot (cur.set o vC) ∧ LSt wr W.heap.size S1 EL sz vC m q xs ∧ Cnt m q k ∧ Kept W.heap.size CK W wr
/-- The same with the cells told, one chunk at most. -/
def GrowsTo (W : World) (B CK : Nat) (ot : TypeId) (cur : List Value) (o : Nat) (S1 EL : TypeId) (sz k : Nat) (xs : List Value) (wr : World) : Prop :=
  ∃ vC m, Row wr CK ot (cur.set o vC) ∧ LSt wr B S1 EL sz vC m k xs ∧ ((m = 0 ∧ k = 0) ∨ (m = 1 ∧ 0 < k)) ∧ Kept B CK W wr

theorem GrowsTo.start {W : World} {B CK : Nat} {ot : TypeId} {cur : List Value} {o : Nat} {S1 EL : TypeId} {sz : Nat} (hr : Row W CK ot cur) (hc : cur[o]? = some (.slice none 0 0)) : GrowsTo W B CK ot cur o S1 EL sz 0 [] W := by
  refine ⟨.slice none 0 0, 0, ?_, .inl ⟨rfl, rfl, rfl, rfl⟩, .inl ⟨rfl, rfl⟩, Kept.refl _ _ _⟩
  have e : cur.set o (.slice none 0 0) = cur := by
    obtain ⟨h1, h2⟩ := List.getElem?_eq_some_iff.1 hc
    rw [← h2]; exact List.set_getElem_self h1
  rw [e]; exact hr
theorem Grows.start {W : World} {CK : Nat} {ot : TypeId} {cur : List Value} {o : Nat} {S1 EL : TypeId} {sz : Nat} (hr : Row W CK ot cur) (hc : cur[o]? = some (.slice none 0 0)) : Grows W CK ot cur o S1 EL sz 0 W := by
  refine ⟨.slice none 0 0, 0, 0, [], ?_, .inl ⟨rfl, rfl, rfl, rfl⟩, .inl ⟨rfl, rfl, rfl⟩, Kept.refl _ _ _⟩
  have e : cur.set o (.slice none 0 0) = cur := by
    obtain ⟨h1, h2⟩ := List.getElem?_eq_some_iff.1 hc
    rw [← h2]; exact List.set_getElem_self h1
  rw [e]; exact hr

theorem GrowsTo.added {W wr w' : World} {B CK : Nat} {ot : TypeId} {cur : List Value} {o : Nat} {S1 EL : TypeId} {sz k m' : Nat} {ys : List Value} {vC : Value} (hm : m' = 0) (hk : Kept B CK W wr)
    (ha : Added wr B CK ot (cur.set o vC) o S1 EL sz (m' + 1) (k + 1) ys w') : GrowsTo W B CK ot cur o S1 EL sz (k + 1) ys w' := by
  obtain ⟨vC', hr, hl, hk'⟩ := ha
  subst hm
  exact ⟨vC', 1, by rw [List.set_set] at hr; exact hr, hl, .inr ⟨rfl, by omega⟩, hk.trans hk'⟩
theorem Grows.added {W wr w' : World} {CK : Nat} {ot : TypeId} {cur : List Value} {o : Nat} {S1 EL : TypeId} {sz k m q : Nat} {ys : List Value} {vC : Value} (hk : Kept W.heap.size CK W wr) (hc : Cnt m q k)
    {m' q' : Nat} (hcase : (m = 0 ∧ m' = 0 ∧ q' = 0) ∨ (m = m' + 1 ∧ q < 4096 ∧ q' = q) ∨ (0 < m ∧ q = 4096 ∧ m' = m ∧ q' = 0))
    (ha : Added wr W.heap.size CK ot (cur.set o vC) o S1 EL sz (m' + 1) (q' + 1) ys w') : Grows W CK ot cur o S1 EL sz (k + 1) w' := by
  obtain ⟨vC', hr, hl, hk'⟩ := ha
  refine ⟨vC', m' + 1, q' + 1, ys, by rw [List.set_set] at hr; exact hr, hl, .inr ?_, hk.trans hk'⟩
  unfold Cnt at hc
  simp only [Nat.add_sub_cancel]
  omega
/-- Which of the three ways add goes. -/
theorem cnt_case {m q k : Nat} {xs : List Value} (hc : Cnt m q k) (hk : k < 65536) : ∃ m' q' xs', ((m = 0 ∧ m' = 0 ∧ q' = 0 ∧ xs' = []) ∨ (m = m' + 1 ∧ q < 4096 ∧ q' = q ∧ xs' = xs) ∨ (0 < m ∧ q = 4096 ∧ m' = m ∧ q' = 0 ∧ xs' = ([] : List Value))) ∧
    ((m = 0 ∧ m' = 0 ∧ q' = 0) ∨ (m = m' + 1 ∧ q < 4096 ∧ q' = q) ∨ (0 < m ∧ q = 4096 ∧ m' = m ∧ q' = 0)) ∧ m ≤ 65536 := by
  rcases hc with ⟨h, _, _⟩ | ⟨h1, h2, h3, h4⟩
  · exact ⟨0, 0, [], .inl ⟨h, rfl, rfl, rfl⟩, .inl ⟨h, rfl, rfl⟩, by omega⟩
  · by_cases e : q = 4096
    · exact ⟨m, 0, [], .inr (.inr ⟨h1, e, rfl, rfl, rfl⟩), .inr (.inr ⟨h1, e, rfl, rfl⟩), by omega⟩
    · exact ⟨m - 1, q, xs, .inr (.inl ⟨by omega, by omega, rfl, rfl⟩), .inr (.inl ⟨by omega, by omega, rfl⟩), by omega⟩

/-- THE ACQUISITIONS as they are read; all lies below B. -/
def AcqR (w : World) (B CK n : Nat) (T E : Nat → Int) (X : Nat → Bool) : Prop :=
  CK < B ∧ ((n = 0 ∧ w.cell? ⟨CK, 12, none⟩ = some (.slice none 0 0)) ∨
    (0 < n ∧ ∃ gA hA cA cH, w.cell? ⟨CK, 12, none⟩ = some (.slice (some ⟨gA, 0, none⟩) 1 cA) ∧ gA < B ∧ hA < B ∧ CK < gA ∧ CK < hA ∧ w.cell? ⟨gA, 0, none⟩ = some (.slice (some ⟨hA, 0, none⟩) n cH) ∧
      ∀ k, k < n → w.cell? ⟨hA, 4 * k, none⟩ = some (.int .i32 (T k)) ∧ w.cell? ⟨hA, 4 * k + 1, none⟩ = some (.int .i32 (E k)) ∧ w.cell? ⟨hA, 4 * k + 2, none⟩ = some (.bool (X k))))
theorem AcqR.below {w w' : World} {B CK n : Nat} {T E : Nat → Int} {X : Nat → Bool} (h : AcqR w B CK n T E X) (hb : Below B w w') : AcqR w' B CK n T E X := by
  obtain ⟨h0, h | ⟨h1, gA, hA, cA, cH, a, b, c, b', c', d, e⟩⟩ := h
  · exact ⟨h0, .inl ⟨h.1, (hb.cell (p := ⟨CK, 12, none⟩) h0).trans h.2⟩⟩
  · refine ⟨h0, .inr ⟨h1, gA, hA, cA, cH, (hb.cell (p := ⟨CK, 12, none⟩) h0).trans a, b, c, b', c', (hb.cell (p := ⟨gA, 0, none⟩) b).trans d, fun k hk => ?_⟩⟩
    obtain ⟨x, y, z⟩ := e k hk
    exact ⟨(hb.cell (p := ⟨hA, 4 * k, none⟩) c).trans x, (hb.cell (p := ⟨hA, 4 * k + 1, none⟩) c).trans y, (hb.cell (p := ⟨hA, 4 * k + 2, none⟩) c).trans z⟩
theorem AcqR.mono {w : World} {B B' CK n : Nat} {T E : Nat → Int} {X : Nat → Bool} (h : AcqR w B CK n T E X) (hb : B ≤ B') : AcqR w B' CK n T E X := by
  obtain ⟨h0, h | ⟨h1, gA, hA, cA, cH, a, b, c, b', c', d, e⟩⟩ := h
  · exact ⟨by omega, .inl h⟩
  · exact ⟨by omega, .inr ⟨h1, gA, hA, cA, cH, a, by omega, by omega, b', c', d, e⟩⟩
/-- THE ENTITIES, as they are counted. -/
def EntR (w : World) (B CK ne : Nat) : Prop :=
  CK < B ∧ ((ne = 0 ∧ w.cell? ⟨CK, 10, none⟩ = some (.slice none 0 0)) ∨
    (0 < ne ∧ ∃ g cap m aL q c, w.cell? ⟨CK, 10, none⟩ = some (.slice (some ⟨g, 0, none⟩) (m + 1) cap) ∧ g < B ∧ w.cell? ⟨g, m, none⟩ = some (.slice aL q c) ∧ m * 4096 + q = ne ∧ m ≤ 65536 ∧ q ≤ 4096))
theorem EntR.below {w w' : World} {B CK ne : Nat} (h : EntR w B CK ne) (hb : Below B w w') : EntR w' B CK ne := by
  obtain ⟨h0, h | ⟨h1, g, cap, m, aL, q, c, a, b, d, e⟩⟩ := h
  · exact ⟨h0, .inl ⟨h.1, (hb.cell (p := ⟨CK, 10, none⟩) h0).trans h.2⟩⟩
  · exact ⟨h0, .inr ⟨h1, g, cap, m, aL, q, c, (hb.cell (p := ⟨CK, 10, none⟩) h0).trans a, b, (hb.cell (p := ⟨g, m, none⟩) b).trans d, e⟩⟩
theorem EntR.mono {w : World} {B B' CK ne : Nat} (h : EntR w B CK ne) (hb : B ≤ B') : EntR w B' CK ne := by
  obtain ⟨h0, h | ⟨h1, g, cap, m, aL, q, c, a, b, d⟩⟩ := h
  · exact ⟨by omega, .inl h⟩
  · exact ⟨by omega, .inr ⟨h1, g, cap, m, aL, q, c, a, by omega, d⟩⟩

theorem acqR_of {W wr : World} {B CK n : Nat} {cur : List Value} {T E : Nat → Int} {X : Nat → Bool} {PV : Nat → Int} (hlen : 12 < cur.length) (hn : n ≤ 4096) (hBC : CK < B) (h : GrowsTo W B CK 63 cur 12 92 68 4 n (acqCells T E X PV n) wr) : AcqR wr wr.heap.size CK n T E X := by
  obtain ⟨vC, m, hr, hl, hm, hk⟩ := h
  have hc : wr.cell? ⟨CK, 12, none⟩ = some vC := hr.cell (by rw [List.getElem?_set_self hlen])
  refine ⟨hr.lt, ?_⟩
  rcases hl with ⟨rfl, rfl, _, rfl⟩ | ⟨hm0, chs, vL, hch, hlast, hlr⟩
  · exact .inl ⟨rfl, hc⟩
  · obtain ⟨rfl, hn0⟩ : m = 1 ∧ 0 < n := by omega
    obtain ⟨gA, cA, rfl, hgB, hgl, _⟩ := ownsRow_shape hch (by omega)
    obtain ⟨hA, cH, rfl, hhB, hhl, _⟩ := ownsRow_shape hlr (by omega)
    refine .inr ⟨hn0, gA, hA, cA, cH, hc, hgl, hhl, by omega, by omega, ?_, fun k hk => ?_⟩
    · rw [hch.cellAt 0 (by omega)]; exact hlast
    · obtain ⟨a, b, c⟩ := acqCells_get T E X PV n k hk
      exact ⟨by rw [hlr.cellAt _ (by omega)]; exact a, by rw [hlr.cellAt _ (by omega)]; exact b, by rw [hlr.cellAt _ (by omega)]; exact c⟩
theorem entR_of {W wr : World} {CK ne : Nat} {cur : List Value} (hlen : 10 < cur.length) (hne : ne ≤ 65536) (h : Grows W CK 63 cur 10 98 74 2 ne wr) : EntR wr wr.heap.size CK ne := by
  obtain ⟨vC, m, q, xs, hr, hl, hm, hk⟩ := h
  have hc : wr.cell? ⟨CK, 10, none⟩ = some vC := hr.cell (by rw [List.getElem?_set_self hlen])
  refine ⟨hr.lt, ?_⟩
  rcases hm with ⟨rfl, rfl, rfl⟩ | ⟨h1, h2, h3, h4⟩
  · rcases hl with ⟨_, _, _, rfl⟩ | ⟨h0, _⟩
    · exact .inl ⟨rfl, hc⟩
    · omega
  · rcases hl with ⟨h0, _⟩ | ⟨hm0, chs, vL, hch, hlast, hlr⟩
    · omega
    obtain ⟨g, cap, rfl, _, hgl, _⟩ := ownsRow_shape hch (by omega)
    obtain ⟨hA, cH, rfl, _, hhl, _⟩ := ownsRow_shape hlr (by omega)
    refine .inr ⟨by omega, g, cap, m - 1, some ⟨hA, 0, none⟩, q, cH, ?_, hgl, ?_, h4, by omega, h3⟩
    · rw [show m - 1 + 1 = m by omega]; exact hc
    · rw [hch.cellAt _ (by omega)]; exact hlast
end Go.Proofs.Qxb6613322a
