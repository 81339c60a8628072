/-
  THE WALK of FnAnyAnswerDroppingOneName: for every slice of strings and every index the Go text returns true; nothing that was there is written.
-/
import Derived.Test.Qxb6613184aNames
namespace Go.Proofs.Qxb6613184a
open Go.RowKit

/-- BETWEEN TWO ROUNDS of 'rest = append(rest, names[k])': block g holds the copied names, block g + 1 is rest's own row. -/
def DropIn (w : World) (g len : Nat) (S : Nat → ByteArray) (m : Nat) (wr : World) : Prop :=
  (∃ xs, wr.ownsRow (g + 1) 9 1 (.slice (some ⟨g + 1, 0, none⟩) m len) m xs) ∧ wr.heap[g]? = some (.cells ((List.range len).map fun j => Value.string (S j)).toArray 9 (0, 0)) ∧ Below g w wr
theorem DropIn.start (w : World) (len : Nat) (S : Nat → ByteArray) (z : Value) (hl : len ≤ maxLen) : DropIn w w.heap.size len S 0 ((w.alloc (.cells ((List.range len).map fun j => Value.string (S j)).toArray 9)).alloc (.cells (madeCells #[z] len) 9)) := by
  refine ⟨⟨[], ?_⟩, ?_, ((Below.refl _ _).alloc (Nat.le_refl _) _).alloc (by simp) _⟩
  · have := World.ownsRow_made (base := w.heap.size + 1) (e := 9) (size := 1) (w.alloc (.cells ((List.range len).map fun j => Value.string (S j)).toArray 9)) (madeCells #[z] len) len (by simp) hl (by simp [size_madeCells])
    simpa using this
  · rw [Below.heap_alloc _ _ _ (by simp)]; exact heap_alloc_new _ _
theorem DropIn.cell {w wr : World} {g len m : Nat} {S : Nat → ByteArray} (h : DropIn w g len S m wr) (k : Nat) (hk : k < len) : wr.cell? ⟨g, k, none⟩ = some (.string (S k)) := by
  rw [cell_of_row wr g k _ _ _ h.2.1]; simp [hk]
theorem DropIn.step {w wr w1 : World} {g len m : Nat} {S : Nat → ByteArray} {xs : List Value} {o : Obj} (h : DropIn w g len S m wr)
    (ho : w1.ownsRow (g + 1) 9 1 (.slice (some ⟨g + 1, 0, none⟩) (m + 1) len) (m + 1) xs) (hg : (wr.alloc o).grownBy w1 (some (g + 1))) : DropIn w g len S (m + 1) w1 := by
  have hlt : g < wr.heap.size := lt_of_block h.2.1
  refine ⟨⟨_, ho⟩, ?_, ?_⟩
  · rw [hg.block g (by simp; omega) (by simp), Below.heap_alloc _ _ _ hlt]; exact h.2.1
  · exact (h.2.2.alloc (by omega) _).grown hg (by simp; omega) (fun k e => by cases e; omega)

set_option maxHeartbeats 1000000 in
theorem dropWalk (idx i : Int) (a : Option Addr) (len cap : Nat) (S : Nat → ByteArray) (w : World) (hl : len ≤ 9223372036854775807) (hS : StrRow w a len S) :
    Calls Try.prog 4 #[.int .i64 idx, .slice a len cap, .int .i64 i] w fun e w' => e = .returned (.bool true) ∧ Below w.heap.size w w' := by
  have q22 : ∀ (w : World) (a : Option Addr) (n c n' c' : Nat), (binOp .neq 22 (.slice a n c) (.slice none n' c')).run Try.prog w = .ok (.bool (!a.isNone)) w := fun w a n c n' c' => run_neq_slice_nil_any w _ _ a n c n' c' Try.underlying22
  by_cases h1 : 65536 < len
  · go_enter Try.func4, Try.ntmps4
    go_wp2_with fail
    refine (zzBytesDrop_any idx i a len cap S _ hl hS).mono ?_
    rintro e w' ⟨⟨r, rfl⟩, rfl⟩
    cases r
    all_goals
      go_wp2
      go_ret
      exact ⟨rfl, Below.refl _ _⟩
  · go_enter Try.func4, Try.ntmps4
    go_wp2_with fail
    refine (zzBytesDrop_any idx i a len cap S _ hl hS).mono ?_
    rintro e w' ⟨⟨r, rfl⟩, rfl⟩
    cases r
    · go_wp2
      go_ret
      exact ⟨rfl, Below.refl _ _⟩
    · go_wp2_with fail
      refine (namesBytes_any 0 a len cap S _ (by omega) (by omega) hl hS).mono ?_
      rintro e w'' ⟨r, rfl, hr1, hr2, rfl⟩
      by_cases hr : r < 0
      · go_wp2
        go_ret
        exact ⟨rfl, Below.refl _ _⟩
      by_cases hi0 : i < 0
      · go_wp2
        go_ret
        exact ⟨rfl, Below.refl _ _⟩
      by_cases hi1 : (len : Int) ≤ i
      · go_wp2
        go_ret
        exact ⟨rfl, Below.refl _ _⟩
      obtain ⟨b, off, rfl, hc, hz⟩ := hS 0 (by omega)
      have hmk := run_make_row' (P := Try.prog) 22 9 (.string ByteArray.empty) 16 Try.underlying22 Try.info9 rfl .i64 .i64 len (by omega) (by omega)
      have hcp := fun ty => copied (P := Try.prog) w'' 22 9 ty (.string ByteArray.empty) b off len cap ((List.range len).map fun j => .string (S j)) (by simp) Try.underlying22 (by kernel_rfl) (fun j v hj => str_cells hS j v hj) (strs_oneCell _ _)
      have hmz := make_zero_row (P := Try.prog) 22 9 (.string ByteArray.empty) 16 Try.underlying22 Try.info9 rfl .i64 .i64 len (by omega) (by omega)
      obtain ⟨i0, hi', hz0, hz1, hz2⟩ := info_parts Try.info9
      go_wp2_with fail
      go_loopw [8, 9] (fun v c wr => ∃ k m : Nat, k ≤ len ∧ c = .int .i64 k ∧ v = .slice (some ⟨w''.heap.size + 1, 0, none⟩) m len ∧ DropIn w'' w''.heap.size len S m wr ∧ m ≤ k ∧ ((k : Int) ≤ i → m = k) ∧ (i < k → m + 1 = k)) (fun _ c _ => len - (intOf c).toNat)
      case atStart => 
        exact ⟨0, 0, by omega, rfl, rfl, DropIn.start _ _ _ _ (by unfold maxLen; omega), by omega, by omega, by omega⟩
      case round =>
        obtain ⟨k, m, hk, rfl, rfl, hin, hmk1, hmk2, hmk3⟩ := hrel
        by_cases hlt : k < len
        · have hcx := hin.cell k hlt
          by_cases hki : (k : Int) = i
          · have hki' : ((k : Int) != i) = false := by simp [hki]
            have hH : Hid ((k : Int) = i) := hki
            clear hki
            go_wp2
            go_roundw
            case rel => exact ⟨k + 1, m, by omega, by go_num, rfl, hin, by omega, by have := hH.out; omega, by have := hH.out; omega⟩
            case measure => simp [intOf]; omega
          · have hki' : ((k : Int) != i) = true := by simp [hki]
            obtain ⟨xs, hown⟩ := hin.1
            go_wp2_with (at_builtin; refine wpList_append_fits _ rfl (.tmp 51) (.tmp 56) 22 rfl (w''.heap.size + 1) 9 i0 1 Try.underlying22 hi' hz1 (w''.heap.size + 1) m len xs rfl (hown.alloc _) ⟨wr.heap.size, 0, none⟩ 1 1 [.string (S k)] rfl rfl (cell_one_new _ _ _) (by simp [Value.oneCell']) (by omega) ?_; intro w1 hown1 hgrow1)
            have hin1 := hin.step hown1 hgrow1
            clear hown1 hgrow1 hown
            go_wp2
            go_roundw
            case rel => exact ⟨k + 1, m + 1, by omega, by go_num, rfl, hin1, by omega, by omega, by omega⟩
            case measure => simp [intOf]; omega
        · have hm : m + 1 = len := by omega
          have hB := hin.2.2
          by_cases h2 : 2 ≤ len
          · go_wp2_with fail
            refine (anyAnswer_any idx _ m len _ (by omega)).mono ?_
            rintro e w1 ⟨rfl, hb1⟩
            have hd : decide (0 < m) = true := by simp; omega
            rw [hd]
            clear hd hm
            go_wp2_with fail
            refine (anyAnswer_any idx _ len len _ (by omega)).mono ?_
            rintro e w2 ⟨rfl, hb2⟩
            have hd2 : decide (0 < len) = true := by simp; omega
            rw [hd2]
            clear hd2
            go_wp2
            go_ret
            exact ⟨rfl, hB.trans ((hb1.mono hB.size).trans (hb2.mono (by have := hB.size; have := hb1.size; omega)))⟩
          · go_wp2_with fail
            refine (anyAnswer_any idx _ m len _ (by omega)).mono ?_
            rintro e w1 ⟨rfl, hb1⟩
            have hd : decide (0 < m) = false := by simp; omega
            rw [hd]
            clear hd hm
            go_wp2
            go_ret
            exact ⟨ret_bool (by simp; omega), hB.trans (hb1.mono hB.size)⟩
end Go.Proofs.Qxb6613184a
