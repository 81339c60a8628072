/-
  CALLEES of the two laws over anyAnswer, each by a contract: namesBytes, ZZanyAnswer, zzBytes_..
-/
import Derived.Test.Qxb6613184aRows
import Derived.WalkKit
import Derived.WalkSpells
import Derived.WalkLawsBesides
import Derived.Deep.OwnRows
import Derived.Laws.CopyOwn
namespace Go.Proofs.Qxb6613184a
open Go.RowKit

theorem ret_bool {a b : Bool} (h : a = b) : Ending.returned (.bool a) = .returned (.bool b) := by rw [h]

/-- WHAT A WALK IS TOLD OF A SLICE OF STRINGS: its first 'len' cells hold strings 'S k'. -/
def StrRow (w : World) (a : Option Addr) (len : Nat) (S : Nat → ByteArray) : Prop :=
  ∀ k, k < len → ∃ b off, a = some ⟨b, off, none⟩ ∧ w.cell? ⟨b, off + k, none⟩ = some (.string (S k)) ∧ (S k).size ≤ 9223372036854775807

/-- It returned some bool. (A name of its own: the walk's simp parts a bare '∃ r : Bool'.) -/
def SomeBool (e : Ending) : Prop := ∃ r : Bool, e = .returned (.bool r)

set_option maxHeartbeats 400000 in
theorem namesBytes_any (n : Int) (a : Option Addr) (len cap : Nat) (S : Nat → ByteArray) (w : World) (hn0 : 0 ≤ n) (hn1 : n ≤ 1048576) (hl : len ≤ 9223372036854775807) (hS : StrRow w a len S) :
    Calls Try.prog 9 #[.int .i64 n, .slice a len cap] w fun e w' => ∃ r : Int, e = .returned (.int .i64 r) ∧ -1 ≤ r ∧ r ≤ 1048576 ∧ w' = w := by
  by_cases h0 : (1048576 - n) / 16 < len
  · go_enter Try.func9, Try.ntmps9
    go_wp2
    go_ret
    exact ⟨_, rfl, by omega, by omega, rfl⟩
  · have hlen : len ≤ 65536 := by omega
    go_enter Try.func9, Try.ntmps9
    go_wp2
    go_loop [0, 5] (fun n i => ∃ (y : Int) (k : Nat), n = .int .i64 y ∧ i = .int .i64 k ∧ 0 ≤ y ∧ y ≤ 1048576 ∧ k ≤ len) (fun _ i => len - (intOf i).toNat)
    case atStart => exact ⟨_, 0, rfl, rfl, by omega, by omega, by omega⟩
    case round =>
      obtain ⟨y, k, rfl, rfl, hy0, hy1, hk⟩ := hrel
      by_cases hlt : k < len
      · obtain ⟨b, off, rfl, hc, hz⟩ := hS k hlt
        by_cases hbig : 1048576 - y < (S k).size
        · go_wp2
          go_ret
          exact ⟨_, rfl, by omega, by omega, rfl⟩
        · go_wp2
          go_round
          case rel => exact ⟨_, k + 1, rfl, by go_num, by omega, by omega, by omega⟩
          case measure => simp [intOf]; omega
      · go_wp2
        go_ret
        exact ⟨_, rfl, by omega, by omega, rfl⟩

set_option maxHeartbeats 400000 in
theorem anyAnswer_any (i : Int) (a : Option Addr) (len cap : Nat) (w : World) (_hl : len ≤ 9223372036854775807) :
    Calls Try.prog 10 #[.int .i64 i, .slice a len cap] w fun e w' => e = .returned (.bool (decide (0 < len))) ∧ Below w.heap.size w w' := by
  go_enter Try.func10, Try.ntmps10
  go_wp2
  go_ret
  exact ⟨rfl, (Below.refl _ _).alloc (Nat.le_refl _) _⟩

set_option maxHeartbeats 400000 in
theorem zzBytesDrop_any (i j : Int) (a : Option Addr) (len cap : Nat) (S : Nat → ByteArray) (w : World) (hl : len ≤ 9223372036854775807) (hS : StrRow w a len S) :
    Calls Try.prog 11 #[.int .i64 i, .slice a len cap, .int .i64 j] w fun e w' => SomeBool e ∧ w' = w := by
  by_cases h0 : 1048576 < len
  · go_enter Try.func11, Try.ntmps11
    go_wp2
    go_ret
    exact ⟨⟨_, rfl⟩, rfl⟩
  · have hlen : len ≤ 1048576 := by omega
    go_enter Try.func11, Try.ntmps11
    go_wp2
    go_loop [7, 8] (fun n i => ∃ (y : Int) (k : Nat), n = .int .i64 y ∧ i = .int .i64 k ∧ 0 ≤ y ∧ y ≤ 1048576 ∧ k ≤ len) (fun _ i => len - (intOf i).toNat)
    case atStart => exact ⟨_, 0, rfl, rfl, by omega, by omega, by omega⟩
    case round =>
      obtain ⟨y, k, rfl, rfl, hy0, hy1, hk⟩ := hrel
      by_cases hlt : k < len
      · obtain ⟨b, off, rfl, hc, hz⟩ := hS k hlt
        by_cases hbig : 1048576 < (S k).size
        · go_wp2
          go_ret
          exact ⟨⟨_, rfl⟩, rfl⟩
        · by_cases hbig2 : 1048576 < y + (S k).size
          · go_wp2
            go_ret
            exact ⟨⟨_, rfl⟩, rfl⟩
          · go_wp2
            go_round
            case rel => exact ⟨_, k + 1, rfl, by go_num, by omega, by omega, by omega⟩
            case measure => simp [intOf]; omega
      · go_wp2
        go_ret
        exact ⟨⟨_, rfl⟩, rfl⟩
theorem Try.info9 : (Try.prog.info? 9).map (fun i => (i.zero, i.size, i.bytes)) = some (some (.string ByteArray.empty), 1, 16) := by kernel_rfl


theorem setRow_alloc (w : World) (c c' : Array Value) (t : TypeId) : (w.alloc (.cells c t)).setRow w.heap.size c' = w.alloc (.cells c' t) := by
  show { w with heap := (w.heap.push (.cells c t)).modify w.heap.size _ } = { w with heap := w.heap.push (.cells c' t) }
  congr 1
  apply Array.ext_getElem?
  intro i
  rw [Array.getElem?_modify]
  by_cases h : w.heap.size = i
  · subst h; simp
  · rw [if_neg h]
    simp only [Array.getElem?_push]
    rw [if_neg (Ne.symm h), if_neg (Ne.symm h)]

theorem copied {P : Program} (w : World) (T E ty : TypeId) (z : Value) (b off len cap : Nat) (vs : List Value) (hv : vs.length = len) (hu : P.underlying T = some (.slice E)) (hs : (P.info? E).map (·.size) = some 1)
    (hc : ∀ j v, vs[j]? = some v → w.cell? ⟨b, off + j, none⟩ = some v) (h1 : ∀ v ∈ vs, v.oneCell' = true) :
    (Builtin.copy_ #[T, T] ty #[.slice (some ⟨w.heap.size, 0, none⟩) len len, .slice (some ⟨b, off, none⟩) len cap]).run P (w.alloc (.cells (madeCells #[z] len) E)) = .ok (goInt len) (w.alloc (.cells vs.toArray E)) := by
  have h := run_copy_row (P := P) (w.alloc (.cells (madeCells #[z] len) E)) T T ty E w.heap.size 0 len len ⟨b, off, none⟩ len cap (madeCells #[z] len) E vs hu hs (heap_alloc_new w _) (by simp [hv])
    (fun j v hj => by
      have hx := hc j v hj
      have hb : b < w.heap.size := block_lt_of_cell hx
      rw [Addr.add_lit]
      exact ((Below.refl w.heap.size w).alloc (Nat.le_refl _) _ |>.cell (p := ⟨b, off + j, none⟩) hb).trans hx)
    (by simp [hv, size_madeCells]) h1
  rw [h, hv]
  congr 1
  rw [show (List.take 0 (madeCells #[z] len).toList ++ vs ++ List.drop (0 + len) (madeCells #[z] len).toList) = vs by simp [size_madeCells]]
  exact setRow_alloc _ _ _ _

theorem make_zero_row {P : Program} (t e : TypeId) (z : Value) (bytes : Nat) (ht : P.underlying t = some (.slice e)) (hinfo : (P.info? e).map (fun i => (i.zero, i.size, i.bytes)) = some (some z, 1, bytes)) (hz1 : z.cells = #[z])
    (kl kc : IntKind) (n : Nat) (hbytes : bytes * n ≤ 281474976710656) (h63 : n ≤ 9223372036854775807) (w : World) :
    (Instr.makeSlice t (.int kl 0) (.int kc (n : Int))).run P w = .ok (.slice (some ⟨w.heap.size, 0, none⟩) 0 n) (w.alloc (.cells (madeCells #[z] n) e)) := by
  obtain ⟨i, hi, hz, hs, hb⟩ := info_parts hinfo
  have hb' : (i.bytes : Int) * (n : Int) ≤ 281474976710656 := by
    have h : ((i.bytes * n : Nat) : Int) ≤ 281474976710656 := by rw [hb]; omega
    rwa [Int.natCast_mul] at h
  have hr := run_make (P := P) w t e i z ht hi hz kl kc 0 n (by omega) (by omega) hb' (by omega)
  simp only [Int.toNat_natCast, hs, Nat.mul_one, hz1] at hr
  exact hr

theorem str_cells {w : World} {b off len : Nat} {S : Nat → ByteArray} (hS : StrRow w (some ⟨b, off, none⟩) len S) (j : Nat) (v : Value) (h : ((List.range len).map fun j => Value.string (S j))[j]? = some v) : w.cell? ⟨b, off + j, none⟩ = some v := by
  obtain ⟨hj, he⟩ := List.getElem?_eq_some_iff.1 h
  simp at hj he
  obtain ⟨b', off', e, hc, _⟩ := hS j hj
  cases e
  rw [hc, he]
theorem strs_oneCell (l : List Nat) (S : Nat → ByteArray) : ∀ v ∈ l.map (fun j => Value.string (S j)), v.oneCell' = true := by
  intro u hu
  obtain ⟨_, _, rfl⟩ := List.mem_map.1 hu
  rfl

end Go.Proofs.Qxb6613184a
