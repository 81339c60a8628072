/-
  THE CALLEES of FnTagSizeRoomsEveryTagOfItsWriter, each by a contract: zzBytes_.., ZZtagSize, uvarintLen.
-/
import Derived.Test.Qxb6613184aRows
import Derived.WalkKit
import Derived.WalkSpells
import Derived.WalkLawsBesides
namespace Go.Proofs.Qxb6613184a
open Go.RowKit
theorem ret_int {k : IntKind} {a b : Int} (h : a = b) : Ending.returned (.int k a) = .returned (.int k b) := by rw [h]
theorem ret_bool {a b : Bool} (h : a = b) : Ending.returned (.bool a) = .returned (.bool b) := by rw [h]
set_option maxHeartbeats 400000 in
theorem zzBytesTag_any (s : ByteArray) (a b c d : Int) (hs : s.size ≤ maxLen) (w : World) :
    Calls Try.prog 23 #[.string s, .int .u64 a, .int .u64 b, .int .u64 c, .int .u64 d] w fun e w' => e = .returned (.bool (decide (s.size ≤ 1048576))) ∧ w' = w := by
  unfold maxLen at hs
  by_cases h : s.size ≤ 1048576
  · go_enter Try.func23, Try.ntmps23
    go_wp2
    go_ret
    exact ⟨ret_bool (by simp [h]), rfl⟩
  · go_enter Try.func23, Try.ntmps23
    go_wp2
    go_ret
    exact ⟨ret_bool (by simp [h]), rfl⟩

set_option maxHeartbeats 400000 in
theorem tagSize_any (s : ByteArray) (a b : Int) (hs : s.size ≤ 1048576) (w : World) :
    Calls Try.prog 22 #[.int .u64 a, .string s, .int .u64 b] w fun e w' => e = .returned (.int .i64 (s.size + 29)) ∧ ∃ c, w' = w.alloc (.cells c 59) := by
  go_enter Try.func22, Try.ntmps22
  go_wp2
  go_ret
  exact ⟨ret_int (by omega), _, rfl⟩

theorem uv_step (x : Int) (n : Nat) (h0 : 128 ≤ x) (h : x * 128 ^ n < 18446744073709551616) : n ≤ 8 ∧ x / 128 * 128 ^ (n + 1) < 18446744073709551616 := by
  have hp : (0 : Int) < 128 ^ n := Int.pow_pos (by omega)
  constructor
  · by_cases hn : n ≤ 8
    · exact hn
    · exfalso
      have h9 : (128 : Int) ^ 9 ≤ 128 ^ n := by
        have : n = 9 + (n - 9) := by omega
        rw [this, Int.pow_add]
        have hq : (0 : Int) < 128 ^ (n - 9) := Int.pow_pos (by omega)
        have : (128 : Int) ^ 9 * 1 ≤ 128 ^ 9 * 128 ^ (n - 9) := Int.mul_le_mul_of_nonneg_left (by omega) (by decide)
        omega
      have h1 : (128 : Int) * 128 ^ n ≤ x * 128 ^ n := Int.mul_le_mul_of_nonneg_right h0 (by omega)
      have h2 : (128 : Int) ^ 9 = 9223372036854775808 := by decide
      omega
  · have e : (128 : Int) ^ (n + 1) = 128 * 128 ^ n := by rw [Int.pow_succ, Int.mul_comm]
    rw [e, ← Int.mul_assoc]
    have h1 : x / 128 * 128 ≤ x := by omega
    have h2 : x / 128 * 128 * 128 ^ n ≤ x * 128 ^ n := Int.mul_le_mul_of_nonneg_right h1 (by omega)
    omega

set_option maxHeartbeats 400000 in
theorem uvarintLen_any (x : Int) (h0 : 0 ≤ x) (h1 : x < 18446744073709551616) (w : World) :
    Calls Try.prog 24 #[.int .u64 x] w fun e w' => ∃ r : Int, e = .returned (.int .i64 r) ∧ 1 ≤ r ∧ r ≤ 10 ∧ w' = w := by
  have hx : x * 128 ^ 0 < 18446744073709551616 := by simpa using h1
  go_enter Try.func24, Try.ntmps24
  go_wp2
  go_loop [0, 3] (fun x n => ∃ (y : Int) (k : Nat), x = .int .u64 y ∧ n = .int .i64 (k + 1) ∧ 0 ≤ y ∧ y < 18446744073709551616 ∧ k ≤ 9 ∧ Hid (y * 128 ^ k < 18446744073709551616)) (fun x _ => (intOf x).toNat)
  case atStart => exact ⟨x, 0, rfl, rfl, h0, h1, by omega, hx⟩
  case round =>
    obtain ⟨y, k, rfl, rfl, hy0, hy1, hk, hH⟩ := hrel
    by_cases hc : 128 ≤ y
    · have hu := uv_step y k hc hH.out
      obtain ⟨hk8, hu⟩ := hu
      have hH2 : Hid (y / 128 * 128 ^ (k + 1) < 18446744073709551616) := hu
      clear hu hH
      go_wp2
      go_round
      case rel => exact ⟨y / 128, k + 1, by go_num, by go_num, by omega, by omega, by omega, hH2⟩
      case measure => simp [intOf]; omega
    · go_wp2
      go_ret
      exact ⟨_, rfl, by omega, by omega, rfl⟩
end Go.Proofs.Qxb6613184a
