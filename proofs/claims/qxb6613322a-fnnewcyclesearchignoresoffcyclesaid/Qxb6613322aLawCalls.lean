/-
  SMALL CALLEES of the two laws, each by a contract.
-/
import Derived.Test.Qxb6613322aNcsI
import Derived.Test.Qxb6613322aParts
namespace Go.Proofs.Qxb6613322a
open Go.RowKit
set_option linter.unusedVariables false

def SomeBool (w : World) (e : Ending) (w' : World) : Prop := ∃ b, e = .returned (.bool b) ∧ w' = w
set_option maxHeartbeats 1000000 in
theorem bytes9 (a1 a2 a3 a4 : Option Addr) (n1 n2 n3 n4 c1 c2 c3 c4 : Nat) (x y : Int) (w : World) : Calls Try.prog 9 #[.slice a1 n1 c1, .slice a2 n2 c2, .slice a3 n3 c3, .slice a4 n4 c4, .int .i64 x, .int .i64 y] w fun e w' => SomeBool w e w' := by
  go_enter Try.func9, Try.ntmps9
  go_wp2
  all_goals (go_ret; exact ⟨_, rfl, rfl⟩)
set_option maxHeartbeats 1000000 in
theorem bytes17 (a1 a2 a3 a4 : Option Addr) (n1 n2 n3 n4 c1 c2 c3 c4 : Nat) (x y : Int) (w : World) : Calls Try.prog 17 #[.slice a1 n1 c1, .slice a2 n2 c2, .slice a3 n3 c3, .slice a4 n4 c4, .int .i64 x, .int .i64 y] w fun e w' => SomeBool w e w' := by
  go_enter Try.func17, Try.ntmps17
  go_wp2
  all_goals (go_ret; exact ⟨_, rfl, rfl⟩)

theorem ncs14 (CK n nt cC hA count ne : Nat) (aC : Option Addr) (T E C : Nat → Int) (X : Nat → Bool) (w : World)
    (hn : n ≤ 4096) (hnt : nt ≤ 65536) (hcount : count ≤ 65536) (hne : ne ≤ 65536) (hLc : ∀ i, i < n → onC T C i = true → 0 ≤ C (T i).toNat ∧ C (T i).toNat < count) (hE : ∀ i, i < n → 0 ≤ E i ∧ E i < ne) (hacq : AcqH w w.heap.size CK n hA T E X) (hent : EntR w w.heap.size CK ne)
    (hC : IntRow w aC nt C) (hT : ∀ i, i < n → 0 ≤ T i ∧ T i < nt) (hCB : ∀ b off, aC = some ⟨b, off, none⟩ → b < w.heap.size) :
    Calls Try.prog 14 #[.pointer (some ⟨CK, 0, none⟩), .slice aC nt cC, .int .i64 (count : Int)] w fun e w' => ∃ v, e = .returned v ∧ Out25 w.heap.size CK ((List.range n).filter (onC T C)).length n nt (cntN C nt) (Srt25 T E C count ne ((List.range n).filter (onC T C))) T E C X w v w' := by
  have h25 := ncs25 CK n nt cC hA count ne aC T E C X w hn hnt hcount hne hLc hE hacq hent hC hT hCB
  go_enter Try.func14, Try.ntmps14
  go_wp2_with ((go_at_call 25; refine h25.mono ?_; rintro e w2 ⟨v, rfl, hout⟩))
  go_ret
  exact ⟨v, rfl, hout⟩

/-- csKeyLess -/
def kl (T E C : Nat → Int) (a b : Nat) : Bool :=
  if C (T a).toNat = C (T b).toNat then (if E a = E b then decide (a < b) else decide (E a < E b)) else decide (C (T a).toNat < C (T b).toNat)
set_option maxHeartbeats 1000000 in
theorem key15 (aT aE aC : Option Addr) (n nt cT cE cC a b : Nat) (T E C : Nat → Int) (w : World) (hn : n ≤ 4096) (rT : IntRow w aT n T) (rE : IntRow w aE n E) (rC : IntRow w aC nt C) (hT : ∀ i, i < n → 0 ≤ T i ∧ T i < nt) (ha : a < n) (hb : b < n) :
    Calls Try.prog 15 #[.slice aT n cT, .slice aE n cE, .slice aC nt cC, .int .i64 (a : Int), .int .i64 (b : Int)] w fun e w' => e = .returned (.bool (kl T E C a b)) ∧ ∃ k, w' = w.drewN k := by
  obtain ⟨bT, oT, rfl, tA, _⟩ := rT a ha
  obtain ⟨bT2, oT2, eT, tB, _⟩ := rT b hb
  cases eT
  obtain ⟨bE, oE, rfl, eA, _⟩ := rE a ha
  obtain ⟨bE2, oE2, eE, eB, _⟩ := rE b hb
  cases eE
  have hA := hT a ha
  have hB := hT b hb
  obtain ⟨bC, oC, rfl, kA, _⟩ := rC (T a).toNat (by omega)
  obtain ⟨bC2, oC2, eC, kB, _⟩ := rC (T b).toNat (by omega)
  cases eC
  have hai : (a : Int) < (n : Int) := by omega
  have hbi : (b : Int) < (n : Int) := by omega
  by_cases hk : C (T a).toNat = C (T b).toNat
  · by_cases he : E a = E b
    · have HK : Hid (kl T E C a b = decide (a < b)) := by simp [Hid, kl, hk, he]
      rw [hk] at kA
      rw [he] at eA
      clear hk he
      go_enter Try.func15, Try.ntmps15
      go_wp2
      go_quiet (fail)
      go_wp2
      go_ret
      exact ⟨ret_bool (by rw [HK.out]), _, rfl⟩
    · have HK : Hid (kl T E C a b = decide (E a < E b)) := by simp [Hid, kl, hk, he]
      rw [hk] at kA
      have he1 : (E a == E b) = false := by simp [he]
      clear hk
      go_enter Try.func15, Try.ntmps15
      go_wp2
      go_quiet (fail)
      go_wp2
      go_quiet (fail)
      go_wp2
      go_ret
      exact ⟨ret_bool (by rw [HK.out]), _, World.drewN_drewN _ _ _⟩
  · have HK : Hid (kl T E C a b = decide (C (T a).toNat < C (T b).toNat)) := by simp [Hid, kl, hk]
    have hk1 : (C (T a).toNat == C (T b).toNat) = false := by simp [hk]
    go_enter Try.func15, Try.ntmps15
    go_wp2
    go_ret
    exact ⟨ret_bool (by rw [HK.out]), 0, rfl⟩

set_option maxHeartbeats 1000000 in
theorem all16 (v : Value) (len : Nat) (x : Int) (Z : Nat → Int) (w : World) (hl : len ≤ 65536) (h : Rd w v len Z) (hz : ∀ k, k < len → Z k = x) :
    Calls Try.prog 16 #[v, .int .i32 x] w fun e w' => e = .returned (.bool true) ∧ w' = w := by
  obtain ⟨a, cap, rfl, hc⟩ := h
  go_enter Try.func16, Try.ntmps16
  go_wp2
  go_loopg [8, 5] len (fun g i _ wr => ∃ j : Nat, j ≤ len ∧ g = len - j ∧ i = .int .i64 (j : Int) ∧ wr = w)
  case atStart => exact ⟨0, by omega, rfl, rfl, rfl⟩
  case round =>
    obtain ⟨j, hj, hgk, rfl, rfl⟩ := hrel
    by_cases hlt : j < len
    · obtain ⟨b, off, rfl, c1⟩ := hc j hlt
      rw [hz j hlt] at c1
      clear hz
      go_wp2
      go_roundg (len - (j + 1))
      case measure => omega
      case rel => exact ⟨j + 1, by omega, rfl, by go_num, rfl⟩
    · go_wp2
      go_ret
      exact ⟨rfl, rfl⟩

set_option maxHeartbeats 1000000 in
theorem same18 (v1 v2 : Value) (len : Nat) (Z : Nat → Int) (w : World) (hl : len ≤ 65536) (h1 : Rd w v1 len Z) (h2 : Rd w v2 len Z) :
    Calls Try.prog 18 #[v1, v2] w fun e w' => e = .returned (.bool true) ∧ ∃ k, w' = w.drewN k := by
  obtain ⟨a1, cap1, rfl, hc1⟩ := h1
  obtain ⟨a2, cap2, rfl, hc2⟩ := h2
  go_enter Try.func18, Try.ntmps18
  go_wp2
  go_loopg [13, 5] len (fun g i _ wr => ∃ j : Nat, j ≤ len ∧ g = len - j ∧ i = .int .i64 (j : Int) ∧ ∃ k, wr = w.drewN k)
  case atStart => exact ⟨0, by omega, rfl, rfl, 0, rfl⟩
  case round =>
    obtain ⟨j, hj, hgk, rfl, kq, rfl⟩ := hrel
    by_cases hlt : j < len
    · obtain ⟨b1, off1, rfl, c1⟩ := hc1 j hlt
      obtain ⟨b2, off2, rfl, c2⟩ := hc2 j hlt
      go_wp2
      go_quiet (fail)
      go_wp2
      go_roundg (len - (j + 1))
      case measure => omega
      case rel => exact ⟨j + 1, by omega, rfl, by go_num, _, rfl⟩
    · go_wp2
      go_ret
      exact ⟨rfl, _, rfl⟩
end Go.Proofs.Qxb6613322a
