/-
  encoding/binary.Uvarint BY A CONTRACT, over this dump: the ten places of a shift are walked one by one (laid by program).
-/
import Derived.Test.Qxb6613184aRows
import Derived.Test.Qxb6613184aDecMath
import Derived.WalkSpells
import Derived.WalkLawsBesides
namespace Go.Proofs.Qxb6613184a
open Go.RowKit

/-- WHAT A WALK IS TOLD OF A SLICE OF BYTES: its first 'len' cells hold the numbers 'Z k'. -/
def ByteRow (w : World) (a : Option Addr) (len : Nat) (Z : Nat → Int) : Prop :=
  ∀ k, k < len → ∃ b off, a = some ⟨b, off, none⟩ ∧ w.cell? ⟨b, off + k, none⟩ = some (.int .u8 (Z k)) ∧ 0 ≤ Z k ∧ Z k ≤ 255

/-- WHAT Uvarint ANSWERS: the number and its length; or 0 and no length. -/
def UvRes (Z : Nat → Int) (n : Nat) (e : Ending) : Prop :=
  (∃ k, GoodStop Z n k ∧ e = .returned (.tuple #[.int .u64 (hval Z 0 (k + 1)), .int .i64 (k + 1)])) ∨ (BadNum Z n ∧ ∃ m : Int, m ≤ 0 ∧ e = .returned (.tuple #[.int .u64 0, .int .i64 m]))

theorem uv_good {Z : Nat → Int} {n k : Nat} {v m : Int} (h : GoodStop Z n k) (hv : v = hval Z 0 (k + 1)) (hm : m = k + 1) : UvRes Z n (.returned (.tuple #[.int .u64 v, .int .i64 m])) := by
  subst hv hm; exact .inl ⟨k, h, rfl⟩
theorem uv_bad {Z : Nat → Int} {n : Nat} {m : Int} (h : BadNum Z n) (hm : m ≤ 0) : UvRes Z n (.returned (.tuple #[.int .u64 0, .int .i64 m])) := .inr ⟨h, m, hm, rfl⟩

theorem hval_next (Z : Nat → Int) (k : Nat) (acc C : Int) (hC : C = 128 ^ k) (h : acc = hval Z 0 k) : acc + Z k % 128 * C = hval Z 0 (k + 1) := by
  rw [hval_snoc, h, hC]; simp

theorem big_next {Z : Nat → Int} {k : Nat} (h : ∀ j, j < k → 128 ≤ Z j) (hk : 128 ≤ Z k) : ∀ j, j < k + 1 → 128 ≤ Z j := fun j hj => by
  by_cases e : j = k
  · rw [e]; exact hk
  · exact h j (by omega)

/-- BETWEEN TWO ROUNDS of Uvarint: k bytes are read, each with the bit 128. -/
def UvIn (Z : Nat → Int) (k : Nat) (acc : Int) : Prop := (∀ j, j < k → 128 ≤ Z j) ∧ (k ≤ 9 → acc = hval Z 0 k)

set_option maxHeartbeats 4000000 in
set_option maxRecDepth 100000 in
theorem uvarint_any (a : Option Addr) (n c : Nat) (Z : Nat → Int) (w : World) (hn : n ≤ 9223372036854775807) (hZ : ByteRow w a n Z) :
    Calls Try.prog 30 #[.slice a n c] w fun e w' => UvRes Z n e ∧ w' = w := by
  go_enter Try.func30, Try.ntmps30
  go_wp2
  go_loop [4, 5, 10] (fun vx vs vi => ∃ (k : Nat) (acc : Int), vi = .int .i64 k ∧ vs = .int .u64 ((7 * k : Nat) : Int) ∧ vx = .int .u64 acc ∧ k ≤ 10 ∧ k ≤ n ∧ Hid (UvIn Z k acc))
    (fun _ _ vi => n - (intOf vi).toNat)
  case atStart => exact ⟨0, 0, rfl, rfl, rfl, by omega, by omega, ⟨fun j hj => absurd hj (by omega), fun _ => rfl⟩⟩
  case round =>
    obtain ⟨k, acc, rfl, rfl, rfl, hk10, hkn, hin⟩ := hrel
    by_cases hk : k < n
    · obtain ⟨g, o, rfl, hc, hb0, hb1⟩ := hZ k hk
      clear hZ
      have hks : k = 0 ∨ k = 1 ∨ k = 2 ∨ k = 3 ∨ k = 4 ∨ k = 5 ∨ k = 6 ∨ k = 7 ∨ k = 8 ∨ k = 9 ∨ k = 10 := by omega
      rcases hks with rfl | rfl | rfl | rfl | rfl | rfl | rfl | rfl | rfl | rfl | rfl
      · have hbd := hval_bd Z 0 0
        obtain ⟨hbig, hacc0⟩ := hin.out
        have hacc := hacc0 (by omega)
        rw [← hacc] at hbd
        have hbd0 : 0 ≤ acc := hbd.1
        have hbd1 : acc < 1 := by have := hbd.2; simpa using this
        have hnx : Hid (acc + Z 0 % 128 * 1 = hval Z 0 1) := hval_next Z 0 acc 1 (by decide) hacc
        have hBG : Hid (∀ j, j < 0 → 128 ≤ Z j) := hbig
        clear hbig hacc hacc0 hbd hin
        obtain ⟨b, hb⟩ : ∃ b, b = Z 0 := ⟨_, rfl⟩
        rw [← hb] at hc hb0 hb1
        have hB : Hid (b = Z 0) := hb
        clear hb
        have hc0 : w.cell? ⟨g, o, none⟩ = some (.int .u8 b) := hc
        by_cases hlt : b < 128
        · have hor : bits .or .u64 acc (b) = acc + b := u64_orv0 _ _ hbd0 hbd1 (by omega) (by omega) (by omega)
          go_wp2
          go_ret2
          exact ⟨uv_good (k := 0) ⟨hk, by omega, hBG.out, by rw [← hB.out]; exact hlt, by omega⟩ (by rw [← hnx.out, ← hB.out]; omega) (by omega), rfl⟩
        · have hv : bits .or .u64 acc (IntKind.u64.wrap (IntKind.u64.wrap (bits .and .u8 b 127))) = acc + b % 128 * 1 := by
            simp (disch := omega) only [u8_and127, u64_wrap_id, u64_orv0]
            omega
          go_wp2
          go_round
          case rel => exact ⟨1, acc + b % 128 * 1, by go_num, by go_num, by go_num, by omega, by omega, ⟨big_next hBG.out (by rw [← hB.out]; omega), fun _ => by rw [hB.out]; exact hnx.out⟩⟩
          case measure => simp [intOf]; omega
      · have hbd := hval_bd Z 1 0
        obtain ⟨hbig, hacc0⟩ := hin.out
        have hacc := hacc0 (by omega)
        rw [← hacc] at hbd
        have hbd0 : 0 ≤ acc := hbd.1
        have hbd1 : acc < 128 := by have := hbd.2; simpa using this
        have hnx : Hid (acc + Z 1 % 128 * 128 = hval Z 0 2) := hval_next Z 1 acc 128 (by decide) hacc
        have hBG : Hid (∀ j, j < 1 → 128 ≤ Z j) := hbig
        clear hbig hacc hacc0 hbd hin
        obtain ⟨b, hb⟩ : ∃ b, b = Z 1 := ⟨_, rfl⟩
        rw [← hb] at hc hb0 hb1
        have hB : Hid (b = Z 1) := hb
        clear hb
        by_cases hlt : b < 128
        · have hor : bits .or .u64 acc (b * 128) = acc + b * 128 := u64_orv7 _ _ hbd0 hbd1 (by omega) (by omega) (by omega)
          go_wp2
          go_ret2
          exact ⟨uv_good (k := 1) ⟨hk, by omega, hBG.out, by rw [← hB.out]; exact hlt, by omega⟩ (by rw [← hnx.out, ← hB.out]; omega) (by omega), rfl⟩
        · have hv : bits .or .u64 acc (IntKind.u64.wrap (IntKind.u64.wrap (bits .and .u8 b 127) * 128)) = acc + b % 128 * 128 := by
            simp (disch := omega) only [u8_and127, u64_wrap_id, u64_orv7]
          go_wp2
          go_round
          case rel => exact ⟨2, acc + b % 128 * 128, by go_num, by go_num, rfl, by omega, by omega, ⟨big_next hBG.out (by rw [← hB.out]; omega), fun _ => by rw [hB.out]; exact hnx.out⟩⟩
          case measure => simp [intOf]; omega
      · have hbd := hval_bd Z 2 0
        obtain ⟨hbig, hacc0⟩ := hin.out
        have hacc := hacc0 (by omega)
        rw [← hacc] at hbd
        have hbd0 : 0 ≤ acc := hbd.1
        have hbd1 : acc < 16384 := by have := hbd.2; simpa using this
        have hnx : Hid (acc + Z 2 % 128 * 16384 = hval Z 0 3) := hval_next Z 2 acc 16384 (by decide) hacc
        have hBG : Hid (∀ j, j < 2 → 128 ≤ Z j) := hbig
        clear hbig hacc hacc0 hbd hin
        obtain ⟨b, hb⟩ : ∃ b, b = Z 2 := ⟨_, rfl⟩
        rw [← hb] at hc hb0 hb1
        have hB : Hid (b = Z 2) := hb
        clear hb
        by_cases hlt : b < 128
        · have hor : bits .or .u64 acc (b * 16384) = acc + b * 16384 := u64_orv14 _ _ hbd0 hbd1 (by omega) (by omega) (by omega)
          go_wp2
          go_ret2
          exact ⟨uv_good (k := 2) ⟨hk, by omega, hBG.out, by rw [← hB.out]; exact hlt, by omega⟩ (by rw [← hnx.out, ← hB.out]; omega) (by omega), rfl⟩
        · have hv : bits .or .u64 acc (IntKind.u64.wrap (IntKind.u64.wrap (bits .and .u8 b 127) * 16384)) = acc + b % 128 * 16384 := by
            simp (disch := omega) only [u8_and127, u64_wrap_id, u64_orv14]
          go_wp2
          go_round
          case rel => exact ⟨3, acc + b % 128 * 16384, by go_num, by go_num, rfl, by omega, by omega, ⟨big_next hBG.out (by rw [← hB.out]; omega), fun _ => by rw [hB.out]; exact hnx.out⟩⟩
          case measure => simp [intOf]; omega
      · have hbd := hval_bd Z 3 0
        obtain ⟨hbig, hacc0⟩ := hin.out
        have hacc := hacc0 (by omega)
        rw [← hacc] at hbd
        have hbd0 : 0 ≤ acc := hbd.1
        have hbd1 : acc < 2097152 := by have := hbd.2; simpa using this
        have hnx : Hid (acc + Z 3 % 128 * 2097152 = hval Z 0 4) := hval_next Z 3 acc 2097152 (by decide) hacc
        have hBG : Hid (∀ j, j < 3 → 128 ≤ Z j) := hbig
        clear hbig hacc hacc0 hbd hin
        obtain ⟨b, hb⟩ : ∃ b, b = Z 3 := ⟨_, rfl⟩
        rw [← hb] at hc hb0 hb1
        have hB : Hid (b = Z 3) := hb
        clear hb
        by_cases hlt : b < 128
        · have hor : bits .or .u64 acc (b * 2097152) = acc + b * 2097152 := u64_orv21 _ _ hbd0 hbd1 (by omega) (by omega) (by omega)
          go_wp2
          go_ret2
          exact ⟨uv_good (k := 3) ⟨hk, by omega, hBG.out, by rw [← hB.out]; exact hlt, by omega⟩ (by rw [← hnx.out, ← hB.out]; omega) (by omega), rfl⟩
        · have hv : bits .or .u64 acc (IntKind.u64.wrap (IntKind.u64.wrap (bits .and .u8 b 127) * 2097152)) = acc + b % 128 * 2097152 := by
            simp (disch := omega) only [u8_and127, u64_wrap_id, u64_orv21]
          go_wp2
          go_round
          case rel => exact ⟨4, acc + b % 128 * 2097152, by go_num, by go_num, rfl, by omega, by omega, ⟨big_next hBG.out (by rw [← hB.out]; omega), fun _ => by rw [hB.out]; exact hnx.out⟩⟩
          case measure => simp [intOf]; omega
      · have hbd := hval_bd Z 4 0
        obtain ⟨hbig, hacc0⟩ := hin.out
        have hacc := hacc0 (by omega)
        rw [← hacc] at hbd
        have hbd0 : 0 ≤ acc := hbd.1
        have hbd1 : acc < 268435456 := by have := hbd.2; simpa using this
        have hnx : Hid (acc + Z 4 % 128 * 268435456 = hval Z 0 5) := hval_next Z 4 acc 268435456 (by decide) hacc
        have hBG : Hid (∀ j, j < 4 → 128 ≤ Z j) := hbig
        clear hbig hacc hacc0 hbd hin
        obtain ⟨b, hb⟩ : ∃ b, b = Z 4 := ⟨_, rfl⟩
        rw [← hb] at hc hb0 hb1
        have hB : Hid (b = Z 4) := hb
        clear hb
        by_cases hlt : b < 128
        · have hor : bits .or .u64 acc (b * 268435456) = acc + b * 268435456 := u64_orv28 _ _ hbd0 hbd1 (by omega) (by omega) (by omega)
          go_wp2
          go_ret2
          exact ⟨uv_good (k := 4) ⟨hk, by omega, hBG.out, by rw [← hB.out]; exact hlt, by omega⟩ (by rw [← hnx.out, ← hB.out]; omega) (by omega), rfl⟩
        · have hv : bits .or .u64 acc (IntKind.u64.wrap (IntKind.u64.wrap (bits .and .u8 b 127) * 268435456)) = acc + b % 128 * 268435456 := by
            simp (disch := omega) only [u8_and127, u64_wrap_id, u64_orv28]
          go_wp2
          go_round
          case rel => exact ⟨5, acc + b % 128 * 268435456, by go_num, by go_num, rfl, by omega, by omega, ⟨big_next hBG.out (by rw [← hB.out]; omega), fun _ => by rw [hB.out]; exact hnx.out⟩⟩
          case measure => simp [intOf]; omega
      · have hbd := hval_bd Z 5 0
        obtain ⟨hbig, hacc0⟩ := hin.out
        have hacc := hacc0 (by omega)
        rw [← hacc] at hbd
        have hbd0 : 0 ≤ acc := hbd.1
        have hbd1 : acc < 34359738368 := by have := hbd.2; simpa using this
        have hnx : Hid (acc + Z 5 % 128 * 34359738368 = hval Z 0 6) := hval_next Z 5 acc 34359738368 (by decide) hacc
        have hBG : Hid (∀ j, j < 5 → 128 ≤ Z j) := hbig
        clear hbig hacc hacc0 hbd hin
        obtain ⟨b, hb⟩ : ∃ b, b = Z 5 := ⟨_, rfl⟩
        rw [← hb] at hc hb0 hb1
        have hB : Hid (b = Z 5) := hb
        clear hb
        by_cases hlt : b < 128
        · have hor : bits .or .u64 acc (b * 34359738368) = acc + b * 34359738368 := u64_orv35 _ _ hbd0 hbd1 (by omega) (by omega) (by omega)
          go_wp2
          go_ret2
          exact ⟨uv_good (k := 5) ⟨hk, by omega, hBG.out, by rw [← hB.out]; exact hlt, by omega⟩ (by rw [← hnx.out, ← hB.out]; omega) (by omega), rfl⟩
        · have hv : bits .or .u64 acc (IntKind.u64.wrap (IntKind.u64.wrap (bits .and .u8 b 127) * 34359738368)) = acc + b % 128 * 34359738368 := by
            simp (disch := omega) only [u8_and127, u64_wrap_id, u64_orv35]
          go_wp2
          go_round
          case rel => exact ⟨6, acc + b % 128 * 34359738368, by go_num, by go_num, rfl, by omega, by omega, ⟨big_next hBG.out (by rw [← hB.out]; omega), fun _ => by rw [hB.out]; exact hnx.out⟩⟩
          case measure => simp [intOf]; omega
      · have hbd := hval_bd Z 6 0
        obtain ⟨hbig, hacc0⟩ := hin.out
        have hacc := hacc0 (by omega)
        rw [← hacc] at hbd
        have hbd0 : 0 ≤ acc := hbd.1
        have hbd1 : acc < 4398046511104 := by have := hbd.2; simpa using this
        have hnx : Hid (acc + Z 6 % 128 * 4398046511104 = hval Z 0 7) := hval_next Z 6 acc 4398046511104 (by decide) hacc
        have hBG : Hid (∀ j, j < 6 → 128 ≤ Z j) := hbig
        clear hbig hacc hacc0 hbd hin
        obtain ⟨b, hb⟩ : ∃ b, b = Z 6 := ⟨_, rfl⟩
        rw [← hb] at hc hb0 hb1
        have hB : Hid (b = Z 6) := hb
        clear hb
        by_cases hlt : b < 128
        · have hor : bits .or .u64 acc (b * 4398046511104) = acc + b * 4398046511104 := u64_orv42 _ _ hbd0 hbd1 (by omega) (by omega) (by omega)
          go_wp2
          go_ret2
          exact ⟨uv_good (k := 6) ⟨hk, by omega, hBG.out, by rw [← hB.out]; exact hlt, by omega⟩ (by rw [← hnx.out, ← hB.out]; omega) (by omega), rfl⟩
        · have hv : bits .or .u64 acc (IntKind.u64.wrap (IntKind.u64.wrap (bits .and .u8 b 127) * 4398046511104)) = acc + b % 128 * 4398046511104 := by
            simp (disch := omega) only [u8_and127, u64_wrap_id, u64_orv42]
          go_wp2
          go_round
          case rel => exact ⟨7, acc + b % 128 * 4398046511104, by go_num, by go_num, rfl, by omega, by omega, ⟨big_next hBG.out (by rw [← hB.out]; omega), fun _ => by rw [hB.out]; exact hnx.out⟩⟩
          case measure => simp [intOf]; omega
      · have hbd := hval_bd Z 7 0
        obtain ⟨hbig, hacc0⟩ := hin.out
        have hacc := hacc0 (by omega)
        rw [← hacc] at hbd
        have hbd0 : 0 ≤ acc := hbd.1
        have hbd1 : acc < 562949953421312 := by have := hbd.2; simpa using this
        have hnx : Hid (acc + Z 7 % 128 * 562949953421312 = hval Z 0 8) := hval_next Z 7 acc 562949953421312 (by decide) hacc
        have hBG : Hid (∀ j, j < 7 → 128 ≤ Z j) := hbig
        clear hbig hacc hacc0 hbd hin
        obtain ⟨b, hb⟩ : ∃ b, b = Z 7 := ⟨_, rfl⟩
        rw [← hb] at hc hb0 hb1
        have hB : Hid (b = Z 7) := hb
        clear hb
        by_cases hlt : b < 128
        · have hor : bits .or .u64 acc (b * 562949953421312) = acc + b * 562949953421312 := u64_orv49 _ _ hbd0 hbd1 (by omega) (by omega) (by omega)
          go_wp2
          go_ret2
          exact ⟨uv_good (k := 7) ⟨hk, by omega, hBG.out, by rw [← hB.out]; exact hlt, by omega⟩ (by rw [← hnx.out, ← hB.out]; omega) (by omega), rfl⟩
        · have hv : bits .or .u64 acc (IntKind.u64.wrap (IntKind.u64.wrap (bits .and .u8 b 127) * 562949953421312)) = acc + b % 128 * 562949953421312 := by
            simp (disch := omega) only [u8_and127, u64_wrap_id, u64_orv49]
          go_wp2
          go_round
          case rel => exact ⟨8, acc + b % 128 * 562949953421312, by go_num, by go_num, rfl, by omega, by omega, ⟨big_next hBG.out (by rw [← hB.out]; omega), fun _ => by rw [hB.out]; exact hnx.out⟩⟩
          case measure => simp [intOf]; omega
      · have hbd := hval_bd Z 8 0
        obtain ⟨hbig, hacc0⟩ := hin.out
        have hacc := hacc0 (by omega)
        rw [← hacc] at hbd
        have hbd0 : 0 ≤ acc := hbd.1
        have hbd1 : acc < 72057594037927936 := by have := hbd.2; simpa using this
        have hnx : Hid (acc + Z 8 % 128 * 72057594037927936 = hval Z 0 9) := hval_next Z 8 acc 72057594037927936 (by decide) hacc
        have hBG : Hid (∀ j, j < 8 → 128 ≤ Z j) := hbig
        clear hbig hacc hacc0 hbd hin
        obtain ⟨b, hb⟩ : ∃ b, b = Z 8 := ⟨_, rfl⟩
        rw [← hb] at hc hb0 hb1
        have hB : Hid (b = Z 8) := hb
        clear hb
        by_cases hlt : b < 128
        · have hor : bits .or .u64 acc (b * 72057594037927936) = acc + b * 72057594037927936 := u64_orv56 _ _ hbd0 hbd1 (by omega) (by omega) (by omega)
          go_wp2
          go_ret2
          exact ⟨uv_good (k := 8) ⟨hk, by omega, hBG.out, by rw [← hB.out]; exact hlt, by omega⟩ (by rw [← hnx.out, ← hB.out]; omega) (by omega), rfl⟩
        · have hv : bits .or .u64 acc (IntKind.u64.wrap (IntKind.u64.wrap (bits .and .u8 b 127) * 72057594037927936)) = acc + b % 128 * 72057594037927936 := by
            simp (disch := omega) only [u8_and127, u64_wrap_id, u64_orv56]
          go_wp2
          go_round
          case rel => exact ⟨9, acc + b % 128 * 72057594037927936, by go_num, by go_num, rfl, by omega, by omega, ⟨big_next hBG.out (by rw [← hB.out]; omega), fun _ => by rw [hB.out]; exact hnx.out⟩⟩
          case measure => simp [intOf]; omega
      · have hbd := hval_bd Z 9 0
        obtain ⟨hbig, hacc0⟩ := hin.out
        have hacc := hacc0 (by omega)
        rw [← hacc] at hbd
        have hbd0 : 0 ≤ acc := hbd.1
        have hbd1 : acc < 9223372036854775808 := by have := hbd.2; simpa using this
        have hnx : Hid (acc + Z 9 % 128 * 9223372036854775808 = hval Z 0 10) := hval_next Z 9 acc 9223372036854775808 (by decide) hacc
        have hBG : Hid (∀ j, j < 9 → 128 ≤ Z j) := hbig
        clear hbig hacc hacc0 hbd hin
        obtain ⟨b, hb⟩ : ∃ b, b = Z 9 := ⟨_, rfl⟩
        rw [← hb] at hc hb0 hb1
        have hB : Hid (b = Z 9) := hb
        clear hb
        by_cases hlt : b < 128
        · by_cases h1 : 1 < b
          · go_wp2
            go_ret2
            exact ⟨uv_bad (bad_nine hBG.out (by rw [← hB.out]; exact h1)) (by omega), rfl⟩
          · have hor : bits .or .u64 acc (b * 9223372036854775808) = acc + b * 9223372036854775808 := u64_orv63 _ _ hbd0 hbd1 (by omega) (by omega) (by omega)
            go_wp2
            go_ret2
            exact ⟨uv_good (k := 9) ⟨hk, by omega, hBG.out, by rw [← hB.out]; exact hlt, fun _ => by rw [← hB.out]; omega⟩ (by rw [← hnx.out, ← hB.out]; omega) (by omega), rfl⟩
        · go_wp2
          go_round
          case rel => exact ⟨10, _, by go_num, by go_num, rfl, by omega, by omega, ⟨big_next hBG.out (by rw [← hB.out]; omega), fun h => absurd h (by omega)⟩⟩
          case measure => simp [intOf]; omega
      · have hT : Hid (∀ j, j < 10 → 128 ≤ Z j) := hin.out.1
        clear hin
        go_wp2
        go_ret2
        exact ⟨uv_bad (bad_ten hT.out) (by omega), rfl⟩
    · have hT : Hid (∀ j, j < n → 128 ≤ Z j) := fun j hj => hin.out.1 j (by omega)
      clear hin
      go_wp2
      go_ret2
      exact ⟨uv_bad (bad_end hT.out) (by omega), rfl⟩
end Go.Proofs.Qxb6613184a
