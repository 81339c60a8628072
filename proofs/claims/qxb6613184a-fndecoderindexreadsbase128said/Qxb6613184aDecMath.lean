/-
  PLAIN LAWS for FnDecoderIndexReadsBase128: what groups of seven bits spell; where a number stops; none is to be read.
-/
import Derived.Lib.VarintBits
import Derived.WalkKit
namespace Go.Proofs.Qxb6613184a
open Go.RowKit

/-- WHAT m GROUPS OF SEVEN BITS SPELL, the least first, from place j on. -/
def hval (Z : Nat → Int) : Nat → Nat → Int
  | _, 0 => 0
  | j, m + 1 => Z j % 128 + 128 * hval Z (j + 1) m

theorem hval_snoc (Z : Nat → Int) : ∀ (m j : Nat), hval Z j (m + 1) = hval Z j m + Z (j + m) % 128 * 128 ^ m
  | 0, j => by simp [hval]
  | m + 1, j => by
    have ih := hval_snoc Z m (j + 1)
    rw [hval, ih]
    conv => rhs; rw [hval]
    have e : j + 1 + m = j + (m + 1) := by omega
    rw [e, Int.pow_succ, Int.mul_add]
    have e2 : 128 * (Z (j + (m + 1)) % 128 * 128 ^ m) = Z (j + (m + 1)) % 128 * (128 ^ m * 128) := by
      rw [← Int.mul_assoc, Int.mul_comm 128 (Z (j + (m + 1)) % 128), Int.mul_assoc, Int.mul_comm 128 (128 ^ m)]
    rw [e2]
    omega

theorem hval_bd (Z : Nat → Int) : ∀ (m j : Nat), 0 ≤ hval Z j m ∧ hval Z j m < 128 ^ m
  | 0, j => by simp [hval]
  | m + 1, j => by
    have ih := hval_bd Z m (j + 1)
    rw [hval, Int.pow_succ]
    omega

/-- The number's stop byte lies at k. -/
def GoodStop (Z : Nat → Int) (n k : Nat) : Prop := k < n ∧ k ≤ 9 ∧ (∀ j, j < k → 128 ≤ Z j) ∧ Z k < 128 ∧ (k = 9 → Z 9 ≤ 1)

theorem GoodStop.uniq {Z : Nat → Int} {n k k' : Nat} (h : GoodStop Z n k) (h' : GoodStop Z n k') : k = k' := by
  obtain ⟨_, _, a, b, _⟩ := h
  obtain ⟨_, _, a', b', _⟩ := h'
  rcases Nat.lt_trichotomy k k' with hl | hl | hl
  · have := a' k hl; omega
  · exact hl
  · have := a k' hl; omega

/-- No number is to be read. -/
def BadNum (Z : Nat → Int) (n : Nat) : Prop := ∀ k, ¬ GoodStop Z n k

theorem bad_end {Z : Nat → Int} {n : Nat} (h : ∀ j, j < n → 128 ≤ Z j) : BadNum Z n := fun k ⟨a, _, _, b, _⟩ => by have := h k a; omega
theorem bad_ten {Z : Nat → Int} {n : Nat} (h : ∀ j, j < 10 → 128 ≤ Z j) : BadNum Z n := fun k ⟨_, a, _, b, _⟩ => by have := h k (by omega); omega
theorem bad_nine {Z : Nat → Int} {n : Nat} (h : ∀ j, j < 9 → 128 ≤ Z j) (h9 : 1 < Z 9) : BadNum Z n := fun k ⟨_, a, _, b, c⟩ => by
  by_cases e : k = 9
  · have := c e; omega
  · have := h k (by omega); omega

theorem or_hi (v d : Int) (hv : 0 ≤ v) (hv1 : v * 128 < 18446744073709551616) (hd : 0 ≤ d) (hd1 : d < 128) : bits .or .u64 (v * 128) d = v * 128 + d := by
  rw [u64_or _ _ (by omega) hv1 hd (by omega), Nat.or_comm, ← u64_or _ _ hd (by omega) (by omega) hv1, u64_orv7 _ _ hd hd1 (by omega) (by omega) hv1]
  omega
end Go.Proofs.Qxb6613184a
