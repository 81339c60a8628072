/-
  csDomain AND csChains, each by a contract.
-/
import Derived.Test.Qxb6613322aRowLib
namespace Go.Proofs.Qxb6613322a
open Go.RowKit
set_option linter.unusedVariables false

/-- A slice of bools that came in. -/
def BoolRow (w : World) (a : Option Addr) (len : Nat) (B : Nat → Bool) : Prop :=
  ∀ k, k < len → ∃ b off, a = some ⟨b, off, none⟩ ∧ w.cell? ⟨b, off + k, none⟩ = some (.bool (B k))
theorem BoolRow.below {w w' : World} {a : Option Addr} {len : Nat} {X : Nat → Bool} (h : BoolRow w a len X) (hb : Below w.heap.size w w') : BoolRow w' a len X := by
  intro k hk
  obtain ⟨b, off, e, hc⟩ := h k hk
  exact ⟨b, off, e, (hb.cell (p := ⟨b, off + k, none⟩) (block_lt_of_cell hc)).trans hc⟩

/-- WHAT csDomain SAYS. -/
def Dom (n nt : Nat) (T E C : Nat → Int) (cnt ne : Int) : Prop :=
  (∀ t, t < nt → C t = -1 ∨ (0 ≤ C t ∧ C t < cnt)) ∧ ∀ p, p < n → 0 ≤ T p ∧ T p < nt ∧ 0 ≤ E p ∧ E p < ne
def DomRes (n nt : Nat) (T E C : Nat → Int) (cnt ne : Int) (e : Ending) : Prop :=
  e = .returned (.bool false) ∨ (e = .returned (.bool true) ∧ Dom n nt T E C cnt ne)
/-- The first k hold. -/
def Upto (k : Nat) (p : Nat → Prop) : Prop := ∀ j, j < k → p j
theorem Upto.zero (p : Nat → Prop) : Upto 0 p := fun j hj => absurd hj (by omega)
theorem Upto.succ {k : Nat} {p : Nat → Prop} (h : Upto k p) (hk : p k) : Upto (k + 1) p := fun j hj => by
  by_cases e : j = k
  · subst e; exact hk
  · exact h j (by omega)

set_option maxRecDepth 100000 in
set_option maxHeartbeats 2000000 in
theorem csDomain_any (a0 a1 a2 : Option Addr) (n c0 c1 nt c2 : Nat) (T E C : Nat → Int) (cnt ne : Int) (w : World) (hn : n ≤ 4096) (hnt : nt ≤ 65536) (hcnt : 0 ≤ cnt) (hne : 0 ≤ ne)
    (rT : IntRow w a0 n T) (rE : IntRow w a1 n E) (rC : IntRow w a2 nt C) :
    Calls Try.prog 10 #[.slice a0 n c0, .slice a1 n c1, .slice a2 nt c2, .int .i64 cnt, .int .i64 ne] w fun e w' => DomRes n nt T E C cnt ne e ∧ w' = w := by
  go_enter Try.func10, Try.ntmps10
  go_wp2
  go_loop [15, 11] (fun i _ => ∃ k : Nat, k ≤ nt ∧ i = .int .i64 k ∧ Hid (Upto k fun t => C t = -1 ∨ (0 ≤ C t ∧ C t < cnt))) (fun i _ => nt - (intOf i).toNat)
  case atStart => exact ⟨0, by omega, rfl, Upto.zero _⟩
  case round =>
    obtain ⟨k, hk, rfl, hin⟩ := hrel
    by_cases hlt : k < nt
    · obtain ⟨b, off, rfl, hc, hz0, hz1⟩ := rC k hlt
      by_cases h1 : C k = -1
      · have hin1 : Hid (Upto (k + 1) fun t => C t = -1 ∨ (0 ≤ C t ∧ C t < cnt)) := hin.out.succ (.inl h1)
        have e1 : (C k == -1) = true := by simp [h1]
        have e2 : (C k != -1) = false := by simp [h1]
        clear h1 hin
        go_wp2
        go_round
        case rel => exact ⟨k + 1, by omega, by go_num, hin1⟩
        case measure => simp [intOf]; omega
      · have e2 : (C k != -1) = true := by simp [h1]
        by_cases h2 : C k < 0
        · clear h1 hin
          go_wp2
          go_ret
          exact ⟨.inl rfl, rfl⟩
        · by_cases h3 : cnt ≤ C k
          · clear h1 hin
            go_wp2
            go_ret
            exact ⟨.inl rfl, rfl⟩
          · have hin1 : Hid (Upto (k + 1) fun t => C t = -1 ∨ (0 ≤ C t ∧ C t < cnt)) := hin.out.succ (.inr ⟨by omega, by omega⟩)
            clear h1 hin
            go_wp2
            go_round
            case rel => exact ⟨k + 1, by omega, by go_num, hin1⟩
            case measure => simp [intOf]; omega
    · have hD : Hid (Upto nt fun t => C t = -1 ∨ (0 ≤ C t ∧ C t < cnt)) := fun j hj => hin.out j (by omega)
      clear hin
      go_wp2
      go_loop [42, 12] (fun i _ => ∃ k : Nat, k ≤ n ∧ i = .int .i64 k ∧ Hid (Upto k fun p => 0 ≤ T p ∧ T p < nt ∧ 0 ≤ E p ∧ E p < ne)) (fun i _ => n - (intOf i).toNat)
      case atStart => exact ⟨0, by omega, rfl, Upto.zero _⟩
      case round =>
        clear hk hlt
        obtain ⟨k2, hk2, rfl, hin2⟩ := hrel
        by_cases hlt : k2 < n
        · obtain ⟨b, off, rfl, hc, hz0, hz1⟩ := rT k2 hlt
          obtain ⟨b', off', rfl, hc', hz0', hz1'⟩ := rE k2 hlt
          by_cases h1 : T k2 < 0
          · clear hin2
            go_wp2
            go_ret
            exact ⟨.inl rfl, rfl⟩
          by_cases h2 : (nt : Int) ≤ T k2
          · clear hin2
            go_wp2
            go_ret
            exact ⟨.inl rfl, rfl⟩
          by_cases h3 : E k2 < 0
          · clear hin2
            go_wp2
            go_ret
            exact ⟨.inl rfl, rfl⟩
          by_cases h4 : ne ≤ E k2
          · clear hin2
            go_wp2
            go_ret
            exact ⟨.inl rfl, rfl⟩
          have hin1 : Hid (Upto (k2 + 1) fun p => 0 ≤ T p ∧ T p < nt ∧ 0 ≤ E p ∧ E p < ne) := hin2.out.succ ⟨by omega, by omega, by omega, by omega⟩
          clear hin2
          go_wp2
          go_round
          case rel => exact ⟨k2 + 1, by omega, by go_num, hin1⟩
          case measure => simp [intOf]; omega
        · have hD2 : Hid (Upto n fun p => 0 ≤ T p ∧ T p < nt ∧ 0 ≤ E p ∧ E p < ne) := fun j hj => hin2.out j (by omega)
          clear hin2
          go_wp2
          go_ret
          exact ⟨.inr ⟨rfl, hD.out, hD2.out⟩, rfl⟩

/-- A row of int32's of the call's own, whatever they are. -/
def SomeRow (w : World) (g n : Nat) : Prop := ∃ Z : Nat → Int, Row w g 21 (i32s Z n) ∧ ∀ k, k < n → -2147483648 ≤ Z k ∧ Z k ≤ 2147483647
theorem i32s_set (Z : Nat → Int) (n i : Nat) (v : Int) : (i32s Z n).set i (.int .i32 v) = i32s (fun j => if j = i then v else Z j) n := by
  apply List.ext_getElem?
  intro j
  rw [List.getElem?_set]
  by_cases hj : j < n
  · rw [i32s_get _ hj, i32s_get _ hj, i32s_length]
    by_cases e : i = j
    · subst e; simp [hj]
    · simp [e, Ne.symm e]
  · have h1 : ∀ Y : Nat → Int, (i32s Y n)[j]? = none := fun Y => List.getElem?_eq_none (by rw [i32s_length]; omega)
    rw [h1, h1, i32s_length]
    by_cases e : i = j
    · subst e; simp [hj]
    · simp [e]
theorem SomeRow.set {w : World} {g n : Nat} (h : SomeRow w g n) (i : Nat) (v : Int) (hv : -2147483648 ≤ v ∧ v ≤ 2147483647) : SomeRow (w.setCell ⟨g, i, none⟩ (.int .i32 v)) g n := by
  obtain ⟨Z, hr, hb⟩ := h
  refine ⟨fun j => if j = i then v else Z j, ?_, fun k hk => ?_⟩
  · rw [← i32s_set]; exact hr.set i _
  · by_cases e : k = i
    · simp [e, hv]
    · simp [e]; exact hb k hk
theorem SomeRow.setOther {w : World} {g n : Nat} (h : SomeRow w g n) {a : Addr} (ha : g ≠ a.block) (v : Value) : SomeRow (w.setCell a v) g n := by
  obtain ⟨Z, hr, hb⟩ := h
  exact ⟨Z, hr.setOther ha v, hb⟩
theorem SomeRow.get {w : World} {g n : Nat} (h : SomeRow w g n) {i : Nat} (hi : i < n) : ∃ v, w.cell? ⟨g, i, none⟩ = some (.int .i32 v) ∧ -2147483648 ≤ v ∧ v ≤ 2147483647 := by
  obtain ⟨Z, hr, hb⟩ := h
  exact ⟨Z i, hr.cell (i32s_get Z hi), hb i hi⟩
theorem SomeRow.fz {w : World} {g n : Nat} (h : SomeRow w g n) (i : Nat) : w.frozen? ⟨g, i, none⟩ = false := by
  obtain ⟨Z, hr, hb⟩ := h
  exact hr.fz i
theorem SomeRow.alloc {w : World} {g n : Nat} (h : SomeRow w g n) (o : Obj) : SomeRow (w.alloc o) g n := by
  obtain ⟨Z, hr, hb⟩ := h
  exact ⟨Z, hr.alloc o, hb⟩
theorem i32s_zero (n : Nat) : List.replicate n (Value.int .i32 0) = i32s (fun _ => 0) n := by
  apply List.ext_getElem?
  intro j
  by_cases hj : j < n
  · rw [i32s_get _ hj]; simp [hj]
  · rw [List.getElem?_eq_none (by simp; omega), List.getElem?_eq_none (by rw [i32s_length]; omega)]
theorem SomeRow.made (w : World) (n : Nat) : SomeRow (w.alloc (.cells (madeCells #[.int .i32 0] n) 21)) w.heap.size n :=
  ⟨fun _ => 0, by rw [← i32s_zero]; exact Row.made _ _ _ _, fun k hk => ⟨by show (-2147483648 : Int) ≤ 0; omega, by show (0 : Int) ≤ 2147483647; omega⟩⟩

/-- WHAT csChains GIVES: two rows of int32's of its own. -/
def Chains (w : World) (n nt : Nat) (e : Ending) (w' : World) : Prop :=
  ∃ g h, e = .returned (.tuple #[.slice (some ⟨g, 0, none⟩) n n, .slice (some ⟨h, 0, none⟩) nt nt]) ∧ SomeRow w' g n ∧ SomeRow w' h nt ∧ Below w.heap.size w w'

set_option maxRecDepth 100000 in
set_option maxHeartbeats 2000000 in
theorem csChains_any (a0 : Option Addr) (n c0 nt : Nat) (T : Nat → Int) (w : World) (hn : n ≤ 4096) (hnt : nt ≤ 65536)
    (rT : IntRow w a0 n T) (hT : ∀ p, p < n → 0 ≤ T p ∧ T p < nt) :
    Calls Try.prog 11 #[.slice a0 n c0, .int .i64 nt] w fun e w' => Chains w n nt e w' := by
  have hmk1 := run_make_row' (P := Try.prog) 22 21 (.int .i32 0) 4 Try.underlying22 Try.info21 rfl .i64 .i64 nt (by omega) (by omega)
  have hmk2 := run_make_row' (P := Try.prog) 22 21 (.int .i32 0) 4 Try.underlying22 Try.info21 rfl .i64 .i64 n (by omega) (by omega)
  go_enter Try.func11, Try.ntmps11
  go_wp2
  go_loopg [14, 7] nt (fun g i _ wr => ∃ k : Nat, k ≤ nt ∧ g = nt - k ∧ i = .int .i64 k ∧ SomeRow wr w.heap.size nt ∧ wr.heap.size = w.heap.size + 1 ∧ Below w.heap.size w wr)
  case atStart => exact ⟨0, by omega, rfl, rfl, SomeRow.made _ _, by simp, (Below.refl _ _).alloc (Nat.le_refl _) _⟩
  case round =>
    obtain ⟨k, hk, hgk, rfl, hr, hsz, hB⟩ := hrel
    have hG : Hid (gk = nt - k) := hgk
    have hS : Hid (wr.heap.size = w.heap.size + 1) := hsz
    clear hgk hsz
    by_cases hlt : k < nt
    · obtain ⟨v, hc, hv⟩ := hr.get hlt
      have hf := hr.fz k
      have hr1 := hr.set k (-1) (by omega)
      go_wp2
      go_roundg (nt - (k + 1))
      case measure => have := hG.out; omega
      case rel => exact ⟨k + 1, by omega, rfl, by go_num, hr1, by simpa using hS.out, hB.setCell (p := ⟨w.heap.size, k, none⟩) (Nat.le_refl _) _⟩
    · clear hG
      rename World => w1
      have hS1 := hS.out
      go_wp2
      have e1 : w1.heap.size = w.heap.size + 1 := hS.out
      go_loopg [26, 9] n (fun g i _ wr => ∃ k : Nat, k ≤ n ∧ g = n - k ∧ i = .int .i64 k ∧ SomeRow wr w.heap.size nt ∧ SomeRow wr (w.heap.size + 1) n ∧ Below w.heap.size w wr)
      case atStart =>
        have h2 := SomeRow.made w1 n
        rw [e1] at h2
        exact ⟨0, by omega, rfl, rfl, hr.alloc _, h2, hB.alloc hB.size _⟩
      case round =>
        rename World => w2
        clear e1 hS1 hr hB hlt hk
        obtain ⟨k, hk, hgk, rfl, hr1, hr2, hB⟩ := hrel
        have hG : Hid (gk = n - k) := hgk
        clear hgk
        by_cases hlt : k < n
        · obtain ⟨b, off, rfl, hc, hz0, hz1⟩ := rT k hlt
          have hcx := (hB.cell (p := ⟨b, off + k, none⟩) (block_lt_of_cell hc)).trans hc
          obtain ⟨ht0, ht1⟩ := hT k hlt
          obtain ⟨v, hv, hvb⟩ := hr1.get (i := (T k).toNat) (by omega)
          obtain ⟨u, hu, hub⟩ := hr2.get hlt
          have f1 := hr1.fz (T k).toNat
          have f2 := hr2.fz k
          have s2 := hr2.set k v hvb
          have s1 := hr1.setOther (a := ⟨w.heap.size + 1, k, none⟩) (by simp) (.int .i32 v)
          have s3 := s1.set (T k).toNat k (by omega)
          have s4 := s2.setOther (a := ⟨w.heap.size, (T k).toNat, none⟩) (by simp) (.int .i32 k)
          have hB' := (hB.setCell (p := ⟨w.heap.size + 1, k, none⟩) (by simp) (.int .i32 v)).setCell (p := ⟨w.heap.size, (T k).toNat, none⟩) (by simp) (.int .i32 k)
          have hcy : (w2.setCell ⟨w.heap.size + 1, k, none⟩ (.int .i32 v)).cell? ⟨b, off + k, none⟩ = some (.int .i32 (T k)) := by
            have hb : b < w.heap.size := block_lt_of_cell hc
            exact ((hB.setCell (p := ⟨w.heap.size + 1, k, none⟩) (by simp) (.int .i32 v)).cell (p := ⟨b, off + k, none⟩) hb).trans hc
          go_wp2
          go_roundg (n - (k + 1))
          case measure => have := hG.out; omega
          case rel => exact ⟨k + 1, by omega, rfl, by go_num, s3, s4, hB'⟩
        · go_wp2
          go_ret2
          exact ⟨_, _, rfl, hr2, hr1, hB⟩
end Go.Proofs.Qxb6613322a
