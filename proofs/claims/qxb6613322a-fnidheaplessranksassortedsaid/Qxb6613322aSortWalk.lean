/-
  lsInsertionSort BY A CONTRACT.
-/
import Derived.Test.Qxb6613322aRowLib
import Derived.Test.Qxb6613322aSortMath
namespace Go.Proofs.Qxb6613322a
open Go.RowKit

def i32l (L : List Int) : List Value := L.map (Value.int .i32)

/-- BEHIND lsInsertionSort: block g holds the same numbers in order; nothing else has turned. -/
def SortedIs (w : World) (g : Nat) (xs : List Int) (w' : World) : Prop := ∃ ys, Ord ys ∧ ys.Perm xs ∧ Row w' g 21 (i32l ys) ∧ w.grownBy w' (some g)

/-- BETWEEN TWO ROUNDS of the outer loop. -/
def OutIn (w : World) (g n : Nat) (xs : List Int) (a : Nat) (wr : World) : Prop := ∃ L, L.length = n ∧ Ord (L.take a) ∧ L.Perm xs ∧ Row wr g 21 (i32l L) ∧ w.grownBy wr (some g)
/-- BETWEEN TWO ROUNDS of the inner loop: the hole stands at b. -/
def InIn (w : World) (g n : Nat) (xs : List Int) (x : Int) (a b : Nat) (wr : World) : Prop :=
  ∃ P y Q R, Ins xs x P Q R ∧ P.length = b ∧ b + Q.length = a ∧ a + 1 + R.length = n ∧ Row wr g 21 (i32l (P ++ y :: (Q ++ R))) ∧ w.grownBy wr (some g)

theorem OutIn.get {w wr : World} {g n a : Nat} {xs : List Int} (h : OutIn w g n xs a wr) (ha : a < n) : ∃ x, wr.cell? ⟨g, a, none⟩ = some (.int .i32 x) ∧ InIn w g n xs x a a wr := by
  obtain ⟨L, hl, ho, hp, hr, hg⟩ := h
  have haL : a < L.length := by omega
  refine ⟨L[a], hr.cell (by simp [i32l, haL]), L.take a, L[a], [], L.drop (a + 1), Ins.start haL ho hp, by simp; omega, by simp, by simp; omega, ?_, hg⟩
  have e : L.take a ++ L[a] :: ([] ++ L.drop (a + 1)) = L := by
    rw [List.nil_append, ← List.drop_eq_getElem_cons haL, List.take_append_drop]
  rw [e]; exact hr

theorem snoc_of {P : List Int} {b : Nat} (h : P.length = b + 1) : ∃ P' z, P = P' ++ [z] ∧ P'.length = b := by
  refine ⟨P.dropLast, P.getLast (by intro e; simp [e] at h), (List.dropLast_concat_getLast _).symm, by simp; omega⟩

theorem InIn.peek {w wr : World} {g n a b : Nat} {xs : List Int} {x : Int} (h : InIn w g n xs x a (b + 1) wr) :
    ∃ z, wr.cell? ⟨g, b, none⟩ = some (.int .i32 z) ∧ (x < z → InIn w g n xs x a b (wr.setCell ⟨g, b + 1, none⟩ (.int .i32 z))) ∧ (z ≤ x → OutIn w g n xs (a + 1) (wr.setCell ⟨g, b + 1, none⟩ (.int .i32 x))) ∧ ∃ y, wr.cell? ⟨g, b + 1, none⟩ = some y := by
  obtain ⟨P, y, Q, R, hi, hP, hb, hn, hr, hg⟩ := h
  obtain ⟨P', z, rfl, hP'⟩ := snoc_of hP
  refine ⟨z, hr.cell ?_, fun hz => ?_, fun hz => ?_, _, hr.cell (k := b + 1) (v := .int .i32 y) ?_⟩
  · simp [i32l, hP']
  · refine ⟨P', z, z :: Q, R, hi.shift hz, hP', by simp; omega, hn, ?_, grown_setCell hg _ _⟩
    have := hr.set (b + 1) (.int .i32 z)
    have e : (i32l (P' ++ [z] ++ y :: (Q ++ R))).set (b + 1) (.int .i32 z) = i32l (P' ++ z :: (z :: Q ++ R)) := by
      simp [i32l, hP']
    rw [e] at this
    exact this
  · obtain ⟨ho, hp⟩ := hi.done (ord_last (by have := hi.1; rw [Ord, List.pairwise_append] at this; exact this.1) hz)
    refine ⟨P' ++ [z] ++ x :: (Q ++ R), by simp; omega, ?_, by simpa using hp, ?_, grown_setCell hg _ _⟩
    · have e : (P' ++ [z] ++ x :: (Q ++ R)).take (a + 1) = P' ++ [z] ++ x :: Q := by
        rw [show P' ++ [z] ++ x :: (Q ++ R) = (P' ++ [z] ++ x :: Q) ++ R by simp]
        exact List.take_left' (by simp; omega)
      rw [e]; exact ho
    · have := hr.set (b + 1) (.int .i32 x)
      have e : (i32l (P' ++ [z] ++ y :: (Q ++ R))).set (b + 1) (.int .i32 x) = i32l (P' ++ [z] ++ x :: (Q ++ R)) := by
        simp [i32l, hP']
      rw [e] at this
      exact this
  · simp [i32l, hP']

theorem InIn.zero {w wr : World} {g n a : Nat} {xs : List Int} {x : Int} (h : InIn w g n xs x a 0 wr) : OutIn w g n xs (a + 1) (wr.setCell ⟨g, 0, none⟩ (.int .i32 x)) ∧ ∃ y, wr.cell? ⟨g, 0, none⟩ = some y := by
  obtain ⟨P, y, Q, R, hi, hP, hb, hn, hr, hg⟩ := h
  obtain rfl : P = [] := List.eq_nil_of_length_eq_zero hP
  obtain ⟨ho, hp⟩ := hi.done (by simp)
  refine ⟨⟨x :: (Q ++ R), by simp; omega, ?_, by simpa using hp, ?_, grown_setCell hg _ _⟩, _, hr.cell (k := 0) (v := .int .i32 y) (by simp [i32l])⟩
  · have e : (x :: (Q ++ R)).take (a + 1) = x :: Q := by
      rw [show x :: (Q ++ R) = (x :: Q) ++ R by simp]
      exact List.take_left' (by simp; omega)
    rw [e]; simpa using ho
  · have := hr.set 0 (.int .i32 x)
    simpa [i32l] using this
theorem InIn.fz {w wr : World} {g n a b : Nat} {xs : List Int} {x : Int} (h : InIn w g n xs x a b wr) (k : Nat) : wr.frozen? ⟨g, k, none⟩ = false := by
  obtain ⟨P, y, Q, R, hi, hP, hb, hn, hr, hg⟩ := h
  exact hr.fz k

set_option maxHeartbeats 1000000 in
theorem sort_any (g n : Nat) (xs : List Int) (w : World) (hl : xs.length = n) (hn : n ≤ 4096) (hR : Row w g 21 (i32l xs)) :
    Calls Try.prog 7 #[.slice (some ⟨g, 0, none⟩) n n] w fun e w' => e = .returned (.tuple #[]) ∧ SortedIs w g xs w' := by
  have h0 : OutIn w g n xs 1 w := ⟨xs, hl, by
    match xs with
    | [] => exact List.Pairwise.nil
    | [x] => simp [Ord]
    | x :: y :: r => simp [Ord], List.Perm.refl _, hR, World.grownBy.refl _ _⟩
  have h00 : Hid (OutIn w g n xs 1 w) := h0
  clear h0 hR hl
  go_enter Try.func7, Try.ntmps7
  go_wp2
  go_loopg [2, 3, 4] n (fun gh va vx vb wr => ∃ a : Nat, 1 ≤ a ∧ a ≤ n + 1 ∧ gh = n + 1 - a ∧ va = .int .i64 a ∧ Hid (OutIn w g n xs a wr))
  case atStart => exact ⟨1, by omega, by omega, by omega, rfl, h00⟩
  case round =>
    obtain ⟨a, ha1, ha2, hgk, rfl, hin⟩ := hrel
    have hG : Hid (gk = n + 1 - a) := hgk
    clear hgk
    by_cases hlt : a < n
    · obtain ⟨x, hcx, hin2⟩ := hin.out.get hlt
      have hIN : Hid (InIn w g n xs x a a wr) := hin2
      clear hin2 hin
      go_wp2
      go_loopg [4] a (fun gh vb wq => ∃ b : Nat, b ≤ a ∧ gh = b ∧ vb = .int .i64 b ∧ Hid (InIn w g n xs x a b wq))
      case atStart => exact ⟨a, by omega, rfl, rfl, hIN⟩
      case round =>
        clear hcx
        rename World => wq
        obtain ⟨b, hb, hgk2, rfl, hin⟩ := hrel
        have hG2 : Hid (gk = b) := hgk2
        clear hgk2
        have hf := hin.out.fz b
        cases b with
        | zero =>
          obtain ⟨hout, y, hy⟩ := hin.out.zero
          have hO : Hid (OutIn w g n xs (a + 1) (wq.setCell ⟨g, 0, none⟩ (.int .i32 x))) := hout
          clear hout hin
          go_wp2
          go_roundg (n + 1 - (a + 1))
          case measure => have := hG.out; omega
          case rel => exact ⟨a + 1, by omega, by omega, rfl, by go_num, hO⟩
        | succ b =>
          obtain ⟨z, hcz, hnext, hdone, y, hy⟩ := hin.out.peek
          clear hin
          by_cases hz : x < z
          · have hO : Hid (InIn w g n xs x a b (wq.setCell ⟨g, b + 1, none⟩ (.int .i32 z))) := hnext hz
            clear hnext hdone
            go_wp2
            go_roundg b
            case measure => have := hG2.out; omega
            case rel => exact ⟨b, by omega, rfl, by go_num, hO⟩
          · have hO : Hid (OutIn w g n xs (a + 1) (wq.setCell ⟨g, b + 1, none⟩ (.int .i32 x))) := hdone (by omega)
            clear hnext hdone
            go_wp2
            go_roundg (n + 1 - (a + 1))
            case measure => have := hG.out; omega
            case rel => exact ⟨a + 1, by omega, by omega, rfl, by go_num, hO⟩
    · have hout : Hid (SortedIs w g xs wr) := by
        obtain ⟨L, h1, h2, h3, h4, h5⟩ := hin.out
        exact ⟨L, by rwa [List.take_of_length_le (by omega)] at h2, h3, h4, h5⟩
      clear hin
      go_wp2
      go_end0
      exact ⟨rfl, hout.out⟩
end Go.Proofs.Qxb6613322a
