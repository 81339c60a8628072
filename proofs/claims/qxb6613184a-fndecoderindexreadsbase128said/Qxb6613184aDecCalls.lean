/-
  CALLEES of FnDecoderIndexReadsBase128: zzBytes_.., cloneBytes, sameBytes, each by a contract.
-/
import Derived.Test.Qxb6613184aUvarint
import Derived.Deep.OwnRows
import Derived.Deep.QuietTactic
import Derived.BigQuiet
import Derived.Deep.LoopGhost
namespace Go.Proofs.Qxb6613184a
open Go.RowKit
theorem ret_int {k : IntKind} {a b : Int} (h : a = b) : Ending.returned (.int k a) = .returned (.int k b) := by rw [h]
theorem ret_bool {a b : Bool} (h : a = b) : Ending.returned (.bool a) = .returned (.bool b) := by rw [h]
theorem Try.info5 : (Try.prog.info? 5).map (fun i => (i.zero, i.size, i.bytes)) = some (some (.int .u8 0), 1, 1) := by kernel_rfl

theorem ByteRow.below {w w' : World} {a : Option Addr} {len : Nat} {Z : Nat → Int} (h : ByteRow w a len Z) (hb : Below w.heap.size w w') : ByteRow w' a len Z := by
  intro k hk
  obtain ⟨b, off, e, hc, hz⟩ := h k hk
  exact ⟨b, off, e, (hb.cell (p := ⟨b, off + k, none⟩) (block_lt_of_cell hc)).trans hc, hz⟩

set_option maxHeartbeats 400000 in
theorem zzBytesDec_any (a : Option Addr) (len cap : Nat) (s : ByteArray) (w : World) (hl : len ≤ 9223372036854775807) (hs : s.size ≤ 9223372036854775807) :
    Calls Try.prog 12 #[.slice a len cap, .string s] w fun e w' => e = .returned (.bool (decide (len + s.size ≤ 1048576))) ∧ w' = w := by
  by_cases h1 : 1048576 < len
  · go_enter Try.func12, Try.ntmps12
    go_wp2
    go_ret
    exact ⟨ret_bool (by simp; omega), rfl⟩
  by_cases h2 : 1048576 < s.size
  · go_enter Try.func12, Try.ntmps12
    go_wp2
    go_ret
    exact ⟨ret_bool (by simp; omega), rfl⟩
  by_cases h3 : 1048576 < len + s.size
  · go_enter Try.func12, Try.ntmps12
    go_wp2
    go_ret
    exact ⟨ret_bool (by simp; omega), rfl⟩
  · go_enter Try.func12, Try.ntmps12
    go_wp2
    go_ret
    exact ⟨ret_bool (by simp; omega), rfl⟩

/-- BETWEEN TWO ROUNDS of cloneBytes: block g is a row of len bytes of which the first k are copied. -/
def CloneIn (w : World) (len : Nat) (Z : Nat → Int) (k : Nat) (wr : World) : Prop :=
  wr.rowIs w.heap.size 5 len (fun j => .int .u8 (if j < k then Z j else 0)) ∧ Below w.heap.size w wr
theorem CloneIn.start (w : World) (len : Nat) (Z : Nat → Int) : CloneIn w len Z 0 (w.alloc (.cells (madeCells #[.int .u8 0] len) 5)) :=
  ⟨(World.rowIs_made w (.int .u8 0) len 5).congr (fun i hi => by simp), (Below.refl _ _).alloc (Nat.le_refl _) _⟩
theorem CloneIn.step {w wr : World} {len k : Nat} {Z : Nat → Int} (h : CloneIn w len Z k wr) : CloneIn w len Z (k + 1) (wr.setCell ⟨w.heap.size, k, none⟩ (.int .u8 (Z k))) :=
  ⟨(h.1.set k (.int .u8 (Z k))).congr (fun i hi => by
    by_cases e : i = k
    · subst e; simp
    · by_cases e2 : i < k
      · simp [e, e2, show i < k + 1 by omega]
      · simp [e, e2, show ¬ i < k + 1 by omega]), h.2.setCell (p := ⟨w.heap.size, k, none⟩) (Nat.le_refl _) _⟩

/-- What cloneBytes gives: a slice with the same bytes in memory of its own. -/
def Cloned (w : World) (len : Nat) (Z : Nat → Int) (e : Ending) (w' : World) : Prop :=
  ∃ ao, e = .returned (.slice ao len len) ∧ ByteRow w' ao len Z ∧ Below w.heap.size w w' ∧ (ao = none → len = 0) ∧ ∀ z, ao = some z → z.block < w'.heap.size

set_option maxHeartbeats 400000 in
theorem clone_any (a : Option Addr) (len cap : Nat) (Z : Nat → Int) (w : World) (hl : len ≤ 1048576) (ha : a = none → len = 0) (hZ : ByteRow w a len Z) :
    Calls Try.prog 13 #[.slice a len cap] w fun e w' => Cloned w len Z e w' := by
  have q27 : ∀ (w : World) (a : Option Addr) (n c n' c' : Nat), (binOp .eql 27 (.slice a n c) (.slice none n' c')).run Try.prog w = .ok (.bool a.isNone) w := fun w a n c n' c' => Lib.run_eql_slice_nil w _ _ a n c n' c' Try.underlying27
  cases a with
  | none =>
    have h0 := ha rfl
    subst h0
    go_enter Try.func13, Try.ntmps13
    go_wp2
    go_ret
    exact ⟨none, rfl, fun k hk => absurd hk (by omega), Below.refl _ _, fun _ => rfl, fun _ e => by cases e⟩
  | some z =>
    clear ha
    have hmk := run_make_row' (P := Try.prog) 27 5 (.int .u8 0) 1 Try.underlying27 Try.info5 rfl .i64 .i64 len (by omega) (by omega)
    go_enter Try.func13, Try.ntmps13
    go_wp2
    go_loopg [4] len (fun g i wr => ∃ k : Nat, k ≤ len ∧ g = len - k ∧ i = .int .i64 k ∧ CloneIn w len Z k wr)
    case atStart => exact ⟨0, by omega, rfl, rfl, CloneIn.start _ _ _⟩
    case round =>
      obtain ⟨k, hk, hgk, rfl, hin⟩ := hrel
      have hG : Hid (gk = len - k) := hgk
      clear hgk
      by_cases hlt : k < len
      · obtain ⟨b, off, e, hc, hz0, hz1⟩ := hZ k hlt
        cases e
        have hcx := (hin.2.cell (p := ⟨b, off + k, none⟩) (block_lt_of_cell hc)).trans hc
        have hcd := hin.1.cell (i := k) hlt
        have hcf := hin.1.frozen k
        have hin1 := hin.step
        go_wp2
        go_roundg (len - (k + 1))
        case measure => have := hG.out; omega
        case rel => exact ⟨k + 1, by omega, rfl, by go_num, hin1⟩
      · have hkl : len = k := by omega
        subst hkl
        clear hlt hG
        go_wp2
        go_ret
        refine ⟨_, rfl, fun j hj => ?_, hin.2, fun e => (by cases e), fun z e => (by cases e; exact hin.1.lt)⟩
        obtain ⟨_, _, _, _, hz⟩ := hZ j hj
        refine ⟨_, _, rfl, ?_, hz⟩
        have := hin.1.cell (i := j) hj
        simpa [hj] using this

set_option maxHeartbeats 400000 in
theorem same_any (a b : Option Addr) (len ca cb : Nat) (Z : Nat → Int) (w : World) (hl : len ≤ 1048576) (hZ : ByteRow w a len Z) (hY : ByteRow w b len Z) :
    Calls Try.prog 20 #[.slice a len ca, .slice b len cb] w fun e w' => e = .returned (.bool true) ∧ ∃ n, w' = w.drewN n := by
  go_enter Try.func20, Try.ntmps20
  go_wp2
  go_loopg [5] len (fun g i wr => ∃ k n : Nat, k ≤ len ∧ g = len - k ∧ i = .int .i64 k ∧ wr = w.drewN n)
  case atStart => exact ⟨0, 0, by omega, rfl, rfl, rfl⟩
  case round =>
    obtain ⟨k, n, hk, hgk, rfl, rfl⟩ := hrel
    have hG : Hid (gk = len - k) := hgk
    clear hgk
    by_cases hlt : k < len
    · obtain ⟨b1, off1, rfl, hc1, hz0, hz1⟩ := hZ k hlt
      obtain ⟨b2, off2, rfl, hc2, _, _⟩ := hY k hlt
      have hli : (k : Int) < (len : Int) := by omega
      go_wp2
      go_quiet (fail)
      go_wp2
      go_roundg (len - (k + 1))
      case measure => have := hG.out; omega
      case rel => exact ⟨k + 1, _, by omega, rfl, by go_num, rfl⟩
    · go_wp2
      go_ret
      exact ⟨rfl, n, rfl⟩
end Go.Proofs.Qxb6613184a
