/-
  READERS of a checker: at, len, the two sort keys, each by a contract.
-/
import Derived.Test.Qxb6613322aBuild
namespace Go.Proofs.Qxb6613322a
open Go.RowKit
set_option linter.unusedVariables false

/-- THE ACQUISITIONS, their chunk's block hA named. -/
def AcqH (w : World) (B CK n hA : Nat) (T E : Nat → Int) (X : Nat → Bool) : Prop :=
  CK < B ∧ ((n = 0 ∧ w.cell? ⟨CK, 12, none⟩ = some (.slice none 0 0)) ∨
    (0 < n ∧ ∃ gA cA cH, w.cell? ⟨CK, 12, none⟩ = some (.slice (some ⟨gA, 0, none⟩) 1 cA) ∧ gA < B ∧ hA < B ∧ w.cell? ⟨gA, 0, none⟩ = some (.slice (some ⟨hA, 0, none⟩) n cH) ∧
      ∀ k, k < n → w.cell? ⟨hA, k * 4, none⟩ = some (.int .i32 (T k)) ∧ w.cell? ⟨hA, k * 4 + 1, none⟩ = some (.int .i32 (E k)) ∧ w.cell? ⟨hA, k * 4 + 2, none⟩ = some (.bool (X k))))
theorem AcqR.named {w : World} {B CK n : Nat} {T E : Nat → Int} {X : Nat → Bool} (h : AcqR w B CK n T E X) : ∃ hA, AcqH w B CK n hA T E X := by
  obtain ⟨h0, h | ⟨h1, gA, hA, cA, cH, a, b, c, b', c', d, e⟩⟩ := h
  · exact ⟨0, h0, .inl h⟩
  · exact ⟨hA, h0, .inr ⟨h1, gA, cA, cH, a, b, c, d, fun k hk => by rw [Nat.mul_comm k 4]; exact e k hk⟩⟩
theorem AcqH.below {w w' : World} {B CK n hA : Nat} {T E : Nat → Int} {X : Nat → Bool} (h : AcqH w B CK n hA T E X) (hb : Below B w w') : AcqH w' B CK n hA T E X := by
  obtain ⟨h0, h | ⟨h1, gA, cA, cH, a, b, c, d, e⟩⟩ := h
  · exact ⟨h0, .inl ⟨h.1, (hb.cell (p := ⟨CK, 12, none⟩) h0).trans h.2⟩⟩
  · refine ⟨h0, .inr ⟨h1, gA, cA, cH, (hb.cell (p := ⟨CK, 12, none⟩) h0).trans a, b, c, (hb.cell (p := ⟨gA, 0, none⟩) b).trans d, fun k hk => ?_⟩⟩
    obtain ⟨x, y, z⟩ := e k hk
    exact ⟨(hb.cell (p := ⟨hA, k * 4, none⟩) c).trans x, (hb.cell (p := ⟨hA, k * 4 + 1, none⟩) c).trans y, (hb.cell (p := ⟨hA, k * 4 + 2, none⟩) c).trans z⟩
theorem AcqH.cells {w : World} {B CK n hA : Nat} {T E : Nat → Int} {X : Nat → Bool} (h : AcqH w B CK n hA T E X) {k : Nat} (hk : k < n) : w.cell? ⟨hA, k * 4, none⟩ = some (.int .i32 (T k)) ∧ w.cell? ⟨hA, k * 4 + 1, none⟩ = some (.int .i32 (E k)) ∧ w.cell? ⟨hA, k * 4 + 2, none⟩ = some (.bool (X k)) := by
  obtain ⟨h0, h | ⟨h1, gA, cA, cH, a, b, c, d, e⟩⟩ := h
  · omega
  · exact e k hk
theorem AcqH.lt {w : World} {B CK n hA : Nat} {T E : Nat → Int} {X : Nat → Bool} (h : AcqH w B CK n hA T E X) (hn : 0 < n) : hA < B := by
  obtain ⟨h0, h | ⟨h1, gA, cA, cH, a, b, c, d, e⟩⟩ := h
  · omega
  · exact c

set_option maxHeartbeats 400000 in
theorem at32 (CK n hA B k : Nat) (T E : Nat → Int) (X : Nat → Bool) (w : World) (hn : n ≤ 4096) (h : AcqH w B CK n hA T E X) (hk : k < n) :
    Calls Try.prog 32 #[.pointer (some ⟨CK, 12, none⟩), .int .i64 k] w fun e w' => e = .returned (.pointer (some ⟨hA, k * 4, none⟩)) ∧ w' = w := by
  obtain ⟨h0, h | ⟨h1, gA, cA, cH, a, b, c, d, e⟩⟩ := h
  · omega
  have hq : (k : Int) / 4096 = 0 := by omega
  have hr : (k : Int) % 4096 = k := by omega
  go_enter Try.func32, Try.ntmps32
  go_wp2
  go_ret
  exact ⟨rfl, rfl⟩

set_option maxHeartbeats 400000 in
theorem len31 (CK n hA B : Nat) (T E : Nat → Int) (X : Nat → Bool) (w : World) (hn : n ≤ 4096) (h : AcqH w B CK n hA T E X) :
    Calls Try.prog 31 #[.pointer (some ⟨CK, 12, none⟩)] w fun e w' => e = .returned (.int .i64 n) ∧ ∃ m, w' = w.drewN m := by
  obtain ⟨h0, ⟨rfl, h⟩ | ⟨h1, gA, cA, cH, a, b, c, d, e⟩⟩ := h
  · go_enter Try.func31, Try.ntmps31
    go_wp2
    go_ret
    exact ⟨rfl, 0, rfl⟩
  · go_enter Try.func31, Try.ntmps31
    go_wp2
    go_quiet (fail)
    go_wp2
    go_ret
    exact ⟨ret_int (by omega), _, rfl⟩

set_option maxHeartbeats 400000 in
theorem len28 (CK ne B : Nat) (w : World) (hne : ne ≤ 65536) (h : EntR w B CK ne) :
    Calls Try.prog 28 #[.pointer (some ⟨CK, 10, none⟩)] w fun e w' => e = .returned (.int .i64 ne) ∧ ∃ m, w' = w.drewN m := by
  obtain ⟨h0, ⟨rfl, h⟩ | ⟨h1, g, cap, m, aL, q, c, a, b, d, e, hm, hq⟩⟩ := h
  · go_enter Try.func28, Try.ntmps28
    go_wp2
    go_ret
    exact ⟨rfl, 0, rfl⟩
  · have hli : (m : Int) < (m : Int) + 1 := by omega
    have hm0 : ((m : Int) + 1 == 0) = false := by simp; omega
    have hH : Hid (m * 4096 + q = ne) := e
    clear e
    go_enter Try.func28, Try.ntmps28
    go_wp2
    go_quiet (fail)
    go_wp2
    go_ret
    exact ⟨ret_int (by have := hH.out; omega), _, rfl⟩

set_option maxHeartbeats 400000 in
theorem key29 (hA k : Nat) (v : Int) (w : World) (h : w.cell? ⟨hA, k * 4 + 1, none⟩ = some (.int .i32 v)) :
    Calls Try.prog 29 #[.pointer (some ⟨hA, k * 4, none⟩)] w fun e w' => e = .returned (.int .i32 v) ∧ w' = w := by
  go_enter Try.func29, Try.ntmps29
  go_wp2
  go_ret
  exact ⟨rfl, rfl⟩

set_option maxHeartbeats 400000 in
theorem key30 (hA k bx nt cC : Nat) (aC : Option Addr) (t v : Int) (C : Nat → Int) (w : World) (h : w.cell? ⟨hA, k * 4, none⟩ = some (.int .i32 t)) (ht0 : 0 ≤ t) (ht : t < nt) (hbx : w.cell? ⟨bx, 0, none⟩ = some (.slice aC nt cC)) (hC : IntRow w aC nt C) :
    Calls Try.prog 30 #[.pointer (some ⟨hA, k * 4, none⟩), .pointer (some ⟨bx, 0, none⟩)] w fun e w' => e = .returned (.int .i32 (C t.toNat)) ∧ ∃ m, w' = w.drewN m := by
  obtain ⟨b, off, rfl, hc, _⟩ := hC t.toNat (by omega)
  go_enter Try.func30, Try.ntmps30
  go_wp2
  go_quiet (fail)
  go_wp2
  go_ret
  exact ⟨rfl, _, rfl⟩
end Go.Proofs.Qxb6613322a
