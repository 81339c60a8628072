/-
  firstStop AND base128 BY CONTRACTS: Horner from the stop byte back spells the same number.
-/
import Derived.Test.Qxb6613184aDecCalls
namespace Go.Proofs.Qxb6613184a
open Go.RowKit

/-- What firstStop answers: the first place below 128 among the first ten; or -1. -/
def StopRes (Z : Nat → Int) (n : Nat) (e : Ending) : Prop :=
  (∃ k : Nat, k < n ∧ k ≤ 9 ∧ (∀ j, j < k → 128 ≤ Z j) ∧ Z k < 128 ∧ e = .returned (.int .i64 k)) ∨ (BadNum Z n ∧ e = .returned (.int .i64 (-1)))
theorem stop_at {Z : Nat → Int} {n k : Nat} (a : k < n) (b : k ≤ 9) (c : Hid (∀ j, j < k → 128 ≤ Z j)) (d : Z k < 128) : StopRes Z n (.returned (.int .i64 k)) := .inl ⟨k, a, b, c, d, rfl⟩
theorem stop_none {Z : Nat → Int} {n : Nat} (a : BadNum Z n) : StopRes Z n (.returned (.int .i64 (-1))) := .inr ⟨a, rfl⟩

set_option maxHeartbeats 400000 in
theorem firstStop_any (a : Option Addr) (n c : Nat) (Z : Nat → Int) (w : World) (hn : n ≤ 1048576) (hZ : ByteRow w a n Z) :
    Calls Try.prog 27 #[.slice a n c] w fun e w' => StopRes Z n e ∧ w' = w := by
  go_enter Try.func27, Try.ntmps27
  go_wp2
  go_loop [3] (fun i => ∃ k : Nat, k ≤ n ∧ k ≤ 10 ∧ i = .int .i64 k ∧ Hid (∀ j, j < k → 128 ≤ Z j)) (fun i => n - (intOf i).toNat)
  case atStart => exact ⟨0, by omega, by omega, rfl, fun j hj => absurd hj (by omega)⟩
  case round =>
    obtain ⟨k, hk, hk10, rfl, hin⟩ := hrel
    by_cases hlt : k < n
    · by_cases h10 : k < 10
      · obtain ⟨b, off, rfl, hc, hz0, hz1⟩ := hZ k hlt
        by_cases hz : Z k < 128
        · go_wp2
          go_ret
          exact ⟨stop_at hlt (by omega) hin hz, rfl⟩
        · have hin1 : Hid (∀ j, j < k + 1 → 128 ≤ Z j) := big_next hin.out (by omega)
          go_wp2
          go_round
          case rel => exact ⟨k + 1, by omega, by omega, by go_num, hin1⟩
          case measure => simp [intOf]; omega
      · obtain rfl : k = 10 := by omega
        have hB : Hid (BadNum Z n) := bad_ten hin.out
        clear hin
        go_wp2
        go_ret
        exact ⟨stop_none hB.out, rfl⟩
    · obtain rfl : k = n := by omega
      have hB : Hid (BadNum Z k) := bad_end hin.out
      clear hin
      go_wp2
      go_ret
      exact ⟨stop_none hB.out, rfl⟩

/-- What base128 answers. -/
def B128Res (Z : Nat → Int) (n : Nat) (e : Ending) : Prop :=
  (∃ k, GoodStop Z n k ∧ e = .returned (.tuple #[.bool true, .int .u64 (hval Z 0 (k + 1)), .int .i64 (k + 1)])) ∨ (BadNum Z n ∧ e = .returned (.tuple #[.bool false, .int .u64 0, .int .i64 0]))

theorem b128_good {Z : Nat → Int} {n k : Nat} {v m : Int} (h : GoodStop Z n k) (hv : v = hval Z 0 (k + 1)) (hm : m = k + 1) : B128Res Z n (.returned (.tuple #[.bool true, .int .u64 v, .int .i64 m])) := by
  subst hv hm; exact .inl ⟨k, h, rfl⟩
theorem b128_bad {Z : Nat → Int} {n : Nat} (h : BadNum Z n) : B128Res Z n (.returned (.tuple #[.bool false, .int .u64 0, .int .i64 0])) := .inr ⟨h, rfl⟩

/-- BETWEEN TWO ROUNDS of base128: the places from p on, up to k, are read. -/
def HornerIn (Z : Nat → Int) (k p : Nat) (v : Int) : Prop :=
  v = hval Z p (k + 1 - p) ∧ ((v + 1) * 128 ^ p ≤ 18446744073709551616 ∨ (v = 0 ∧ p = 10))
theorem HornerIn.start (Z : Nat → Int) (k : Nat) (hk : k ≤ 9) : HornerIn Z k (k + 1) 0 := by
  refine ⟨by simp [hval], ?_⟩
  by_cases h9 : k = 9
  · exact .inr ⟨rfl, by omega⟩
  · left
    have hs : k = 0 ∨ k = 1 ∨ k = 2 ∨ k = 3 ∨ k = 4 ∨ k = 5 ∨ k = 6 ∨ k = 7 ∨ k = 8 := by omega
    rcases hs with rfl | rfl | rfl | rfl | rfl | rfl | rfl | rfl | rfl <;> decide
theorem HornerIn.bd {Z : Nat → Int} {k p : Nat} {v : Int} (h : HornerIn Z k (p + 1) v) : 0 ≤ v ∧ v * 128 < 18446744073709551616 := by
  have h0 := (hval_bd Z (k + 1 - (p + 1)) (p + 1)).1
  rw [← h.1] at h0
  refine ⟨h0, ?_⟩
  rcases h.2 with hb | ⟨rfl, _⟩
  · have hp : (1 : Int) ≤ 128 ^ p := Int.pow_pos (by omega)
    rw [Int.pow_succ, Int.mul_comm (128 ^ p) 128, ← Int.mul_assoc] at hb
    have := Int.mul_le_mul_of_nonneg_left hp (show 0 ≤ (v + 1) * 128 by omega)
    omega
  · omega
theorem HornerIn.next {Z : Nat → Int} {k p : Nat} {v : Int} (hpk : p ≤ k) (hk : k ≤ 9) (h9 : k = 9 → Z 9 ≤ 1) (h90 : 0 ≤ Z p) (h : HornerIn Z k (p + 1) v) : HornerIn Z k p (v * 128 + Z p % 128) := by
  refine ⟨?_, .inl ?_⟩
  · rw [show k + 1 - p = (k + 1 - (p + 1)) + 1 by omega, hval, h.1]; omega
  · rcases h.2 with hb | ⟨rfl, hp⟩
    · have hp : (0 : Int) ≤ 128 ^ p := Int.le_of_lt (Int.pow_pos (by omega))
      rw [Int.pow_succ, Int.mul_comm (128 ^ p) 128, ← Int.mul_assoc] at hb
      have := Int.mul_le_mul_of_nonneg_right (show v * 128 + Z p % 128 + 1 ≤ (v + 1) * 128 by omega) hp
      omega
    · obtain rfl : p = 9 := by omega
      have hz := h9 (by omega)
      have e : (128 : Int) ^ 9 = 9223372036854775808 := by decide
      rw [e]; omega
theorem HornerIn.done {Z : Nat → Int} {k : Nat} {v : Int} (h : HornerIn Z k 0 v) : v = hval Z 0 (k + 1) := h.1

theorem or_low7 (x y : Int) (hb0 : 0 ≤ x) (hb1 : x * 128 < 18446744073709551616) (hz0 : 0 ≤ y) (hz1 : y ≤ 255) : bits .or .u64 (x * 128) (IntKind.u64.wrap (bits .and .u8 y 127)) = x * 128 + y % 128 := by
  rw [u8_and127 _ hz0 (by omega), u64_wrap_id _ (by omega) (by omega)]
  exact or_hi _ _ hb0 hb1 (by omega) (by omega)

set_option maxHeartbeats 400000 in
theorem base128_any (a : Option Addr) (n c : Nat) (Z : Nat → Int) (w : World) (hn : n ≤ 1048576) (hZ : ByteRow w a n Z) :
    Calls Try.prog 19 #[.slice a n c] w fun e w' => B128Res Z n e ∧ w' = w := by
  go_enter Try.func19, Try.ntmps19
  go_wp2_with fail
  refine (firstStop_any a n c Z _ hn hZ).mono ?_
  rintro e w' ⟨hr, hw⟩
  rw [hw]
  clear hw
  rcases hr with ⟨k, h1, h2, h3, h4, rfl⟩ | ⟨hbad, rfl⟩
  · have hA : Hid (∀ j, j < k → 128 ≤ Z j) := h3
    clear h3
    by_cases h9 : k = 9 ∧ 1 < Z 9
    · obtain ⟨rfl, hz9⟩ := h9
      have hB : Hid (BadNum Z n) := bad_nine hA.out hz9
      obtain ⟨b, off, rfl, hc, hz0, hz1⟩ := hZ 9 h1
      go_wp2
      go_ret3
      exact ⟨b128_bad hB.out, rfl⟩
    · have h9' : k = 9 → Z 9 ≤ 1 := fun e => by omega
      have hGS : Hid (GoodStop Z n k) := ⟨h1, h2, hA.out, h4, h9'⟩
      have hH9 : Hid (k = 9 → Z 9 ≤ 1) := h9'
      clear h9 h9'
      by_cases hk9 : k = 9
      · subst hk9
        have hz9 := hH9.out rfl
        obtain ⟨b9, off9, e9, hc9, _, _⟩ := hZ 9 h1
        have hZ' : Hid (ByteRow w a n Z) := hZ
        clear hZ
        subst e9
        go_wp2
        go_loop [6, 7] (fun v j => ∃ (p : Nat) (x : Int), p ≤ 10 ∧ v = .int .u64 x ∧ j = .int .i64 ((p : Int) - 1) ∧ Hid (HornerIn Z 9 p x)) (fun _ j => (intOf j + 1).toNat)
        case atStart => exact ⟨10, 0, by omega, rfl, by go_num, HornerIn.start Z 9 (by omega)⟩
        case round =>
          obtain ⟨p, x, hp, rfl, rfl, hin⟩ := hrel
          cases p with
          | zero =>
            have hd : Hid (x = hval Z 0 (9 + 1)) := hin.out.done
            clear hin
            go_wp2
            go_ret3
            exact ⟨b128_good hGS.out hd.out (by omega), rfl⟩
          | succ p =>
            obtain ⟨b, off, e, hc, hz0, hz1⟩ := hZ'.out p (by omega)
            cases e
            obtain ⟨hb0, hb1⟩ := hin.out.bd
            have hin1 : Hid (HornerIn Z 9 p (x * 128 + Z p % 128)) := hin.out.next (by omega) (by omega) (fun _ => hz9) hz0
            clear hin
            obtain ⟨y, hy⟩ : ∃ y, y = Z p := ⟨_, rfl⟩
            rw [← hy] at hin1 hc hz0 hz1
            clear hy
            have hor := or_low7 x y hb0 hb1 hz0 hz1
            go_wp2
            go_round
            case rel => exact ⟨p, _, by omega, rfl, by go_num, hin1⟩
            case measure => simp [intOf]
      · have hk9' : ((k : Int) == 9) = false := by simp; omega
        have hZ' : Hid (ByteRow w a n Z) := hZ
        clear hZ
        go_wp2
        go_loop [6, 7] (fun v j => ∃ (p : Nat) (x : Int), p ≤ k + 1 ∧ v = .int .u64 x ∧ j = .int .i64 ((p : Int) - 1) ∧ Hid (HornerIn Z k p x)) (fun _ j => (intOf j + 1).toNat)
        case atStart => exact ⟨k + 1, 0, by omega, rfl, by go_num, HornerIn.start Z k h2⟩
        case round =>
          obtain ⟨p, x, hp, rfl, rfl, hin⟩ := hrel
          cases p with
          | zero =>
            have hd : Hid (x = hval Z 0 (k + 1)) := hin.out.done
            clear hin
            go_wp2
            go_ret3
            exact ⟨b128_good hGS.out hd.out (by omega), rfl⟩
          | succ p =>
            obtain ⟨b, off, e, hc, hz0, hz1⟩ := hZ'.out p (by omega)
            subst e
            obtain ⟨hb0, hb1⟩ := hin.out.bd
            have hin1 : Hid (HornerIn Z k p (x * 128 + Z p % 128)) := hin.out.next (by omega) (by omega) (fun e => absurd e hk9) hz0
            clear hin
            obtain ⟨y, hy⟩ : ∃ y, y = Z p := ⟨_, rfl⟩
            rw [← hy] at hin1 hc hz0 hz1
            clear hy
            have hor := or_low7 x y hb0 hb1 hz0 hz1
            go_wp2
            go_round
            case rel => exact ⟨p, _, by omega, rfl, by go_num, hin1⟩
            case measure => simp [intOf]
  · have hB : Hid (BadNum Z n) := hbad
    clear hbad
    go_wp2
    go_ret3
    exact ⟨b128_bad hB.out, rfl⟩
end Go.Proofs.Qxb6613184a
