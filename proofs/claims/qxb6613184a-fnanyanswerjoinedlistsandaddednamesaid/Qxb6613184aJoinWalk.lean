/-
  THE WALK of FnAnyAnswerJoinedListsAndAddedName: for every two slices of strings, every index and every name the Go text returns true; nothing that was there is written.
-/
import Derived.Test.Qxb6613184aNames
import Derived.Deep.DeepCutAuto
namespace Go.Proofs.Qxb6613184a
open Go.RowKit

theorem StrRow.below {w w' : World} {a : Option Addr} {len : Nat} {S : Nat → ByteArray} (h : StrRow w a len S) (hb : Below w.heap.size w w') : StrRow w' a len S := by
  intro k hk
  obtain ⟨b, off, e, hc, hz⟩ := h k hk
  exact ⟨b, off, e, (hb.cell (p := ⟨b, off + k, none⟩) (block_lt_of_cell hc)).trans hc, hz⟩

/-- A ROW OF THE CALL's OWN, laid at the end of W: m of its cap cells are filled; nothing of W has turned. -/
def OwnIn (W : World) (cap m : Nat) (wr : World) : Prop :=
  (∃ xs, wr.ownsRow W.heap.size 9 1 (.slice (some ⟨W.heap.size, 0, none⟩) m cap) m xs) ∧ Below W.heap.size W wr
theorem OwnIn.start (W : World) (cap : Nat) (z : Value) (hl : cap ≤ maxLen) : OwnIn W cap 0 (W.alloc (.cells (madeCells #[z] cap) 9)) :=
  ⟨⟨[], World.ownsRow_made _ _ _ (Nat.le_refl _) hl (by simp [size_madeCells])⟩, (Below.refl _ _).alloc (Nat.le_refl _) _⟩
theorem OwnIn.step {W wr w1 : World} {cap m : Nat} {xs : List Value} {o : Obj} (h : OwnIn W cap m wr)
    (ho : w1.ownsRow W.heap.size 9 1 (.slice (some ⟨W.heap.size, 0, none⟩) (m + 1) cap) (m + 1) xs) (hg : (wr.alloc o).grownBy w1 (some W.heap.size)) : OwnIn W cap (m + 1) w1 :=
  ⟨⟨_, ho⟩, (h.2.alloc h.2.size _).grown hg (by have := h.2.size; simp; omega) (fun k e => by cases e; omega)⟩

set_option maxHeartbeats 400000 in
theorem zzBytesJoin_any (i1 i2 i : Int) (x : ByteArray) (a : Option Addr) (len cap : Nat) (S : Nat → ByteArray) (b : Option Addr) (lenb capb : Nat) (T : Nat → ByteArray) (w : World) (hl : len ≤ 9223372036854775807) (hlb : lenb ≤ 9223372036854775807) (hx : x.size ≤ 9223372036854775807) (hS : StrRow w a len S) (hT : StrRow w b lenb T) :
    Calls Try.prog 8 #[.int .i64 i1, .int .i64 i2, .slice a len cap, .slice b lenb capb, .int .i64 i, .string x] w fun e w' => SomeBool e ∧ w' = w := by
  by_cases h0 : 1048576 < len
  · go_enter Try.func8, Try.ntmps8
    go_wp2
    go_ret
    exact ⟨⟨_, rfl⟩, rfl⟩
  · have hlen : len ≤ 1048576 := by omega
    go_enter Try.func8, Try.ntmps8
    go_wp2
    go_loop [13, 14] (fun n i => ∃ (y : Int) (k : Nat), n = .int .i64 y ∧ i = .int .i64 k ∧ 0 ≤ y ∧ y ≤ 1048576 ∧ k ≤ len) (fun _ i => len - (intOf i).toNat)
    case atStart => exact ⟨_, 0, rfl, rfl, by omega, by omega, by omega⟩
    case round =>
      obtain ⟨y, k, rfl, rfl, hy0, hy1, hk⟩ := hrel
      by_cases hlt : k < len
      · obtain ⟨b, off, rfl, hc, hz⟩ := hS k hlt
        by_cases hbig : 1048576 < (S k).size
        · go_wp2
          go_ret
          exact ⟨⟨_, rfl⟩, rfl⟩
        · by_cases hbig2 : 1048576 < y + (S k).size
          · go_wp2
            go_ret
            exact ⟨⟨_, rfl⟩, rfl⟩
          · go_wp2
            go_round
            case rel => exact ⟨_, k + 1, rfl, by go_num, by omega, by omega, by omega⟩
            case measure => simp [intOf]; omega
      · by_cases hb0 : 1048576 < lenb
        · go_wp2
          go_ret
          exact ⟨⟨_, rfl⟩, rfl⟩
        by_cases hb1 : 1048576 < y + lenb
        · go_wp2
          go_ret
          exact ⟨⟨_, rfl⟩, rfl⟩
        go_wp2
        go_loop [13, 15] (fun n i => ∃ (y : Int) (k : Nat), n = .int .i64 y ∧ i = .int .i64 k ∧ 0 ≤ y ∧ y ≤ 1048576 ∧ k ≤ lenb) (fun _ i => lenb - (intOf i).toNat)
        case atStart => exact ⟨_, 0, rfl, rfl, by omega, by omega, by omega⟩
        case round =>
          obtain ⟨y2, k2, rfl, rfl, hy20, hy21, hk2⟩ := hrel
          by_cases hlt2 : k2 < lenb
          · obtain ⟨b, off, rfl, hc, hz⟩ := hT k2 hlt2
            by_cases hbig : 1048576 < (T k2).size
            · go_wp2
              go_ret
              exact ⟨⟨_, rfl⟩, rfl⟩
            · by_cases hbig2 : 1048576 < y2 + (T k2).size
              · go_wp2
                go_ret
                exact ⟨⟨_, rfl⟩, rfl⟩
              · go_wp2
                go_round
                case rel => exact ⟨_, k2 + 1, rfl, by go_num, by omega, by omega, by omega⟩
                case measure => simp [intOf]; omega
          · by_cases hx1 : 1048576 < x.size
            · go_wp2
              go_ret
              exact ⟨⟨_, rfl⟩, rfl⟩
            by_cases hx2 : 1048576 < y2 + x.size
            · go_wp2
              go_ret
              exact ⟨⟨_, rfl⟩, rfl⟩
            · go_wp2
              go_ret
              exact ⟨⟨_, rfl⟩, rfl⟩

theorem copiedStr (w : World) (ty : TypeId) (z : Addr) (len cap : Nat) (S : Nat → ByteArray) (hS : StrRow w (some z) len S) :
    (Builtin.copy_ #[22, 22] ty #[.slice (some ⟨w.heap.size, 0, none⟩) len len, .slice (some z) len cap]).run Try.prog (w.alloc (.cells (madeCells #[.string ByteArray.empty] len) 9)) = .ok (.int .i64 len) (w.alloc (.cells ((List.range len).map fun j => Value.string (S j)).toArray 9)) := by
  by_cases h0 : len = 0
  · subst h0
    have h := run_copy_none (P := Try.prog) (w.alloc (.cells (madeCells #[.string ByteArray.empty] 0) 9)) 22 22 ty 9 (some ⟨w.heap.size, 0, none⟩) (some z) 0 0 0 cap Try.underlying22 (by kernel_rfl) rfl
    rw [h]
    have e : madeCells #[.string ByteArray.empty] 0 = #[] := Array.eq_empty_of_size_eq_zero (size_madeCells _ _)
    rw [e]; rfl
  · obtain ⟨b, off, e, _, _⟩ := hS 0 (by omega)
    cases e
    exact copied (P := Try.prog) w 22 9 ty (.string ByteArray.empty) b off len cap _ (by simp) Try.underlying22 (by kernel_rfl) (fun j v hj => str_cells hS j v hj) (strs_oneCell _ _)
theorem strRow_new (w : World) (z : Option Addr) (len : Nat) (S : Nat → ByteArray) (hS : StrRow w z len S) : StrRow (w.alloc (.cells ((List.range len).map fun j => Value.string (S j)).toArray 9)) (some ⟨w.heap.size, 0, none⟩) len S := by
  intro k hk
  obtain ⟨_, _, _, _, hz⟩ := hS k hk
  refine ⟨_, _, rfl, ?_, hz⟩
  rw [cell_of_row _ w.heap.size (0 + k) _ _ _ (heap_alloc_new w _)]
  simp [hk]

set_option maxRecDepth 100000 in
set_option maxHeartbeats 2000000 in
theorem joinWalk (i1 i2 i : Int) (x : ByteArray) (a : Option Addr) (la ca : Nat) (S : Nat → ByteArray) (b : Option Addr) (lb cb : Nat) (T : Nat → ByteArray) (w : World) (hl : la ≤ 9223372036854775807) (hlb : lb ≤ 9223372036854775807) (hx : x.size ≤ 9223372036854775807)
    (hS : StrRow w a la S) (hT : StrRow w b lb T) :
    Calls Try.prog 3 #[.int .i64 i1, .int .i64 i2, .slice a la ca, .slice b lb cb, .int .i64 i, .string x] w fun e w' => e = .returned (.bool true) ∧ Below w.heap.size w w' := by
  have q22 : ∀ (w : World) (a : Option Addr) (n c n' c' : Nat), (binOp .neq 22 (.slice a n c) (.slice none n' c')).run Try.prog w = .ok (.bool (!a.isNone)) w := fun w a n c n' c' => run_neq_slice_nil_any w _ _ a n c n' c' Try.underlying22
  by_cases h1 : 65536 < la
  · go_enter Try.func3, Try.ntmps3
    go_wp2_with fail
    refine (zzBytesJoin_any i1 i2 i x a la ca S b lb cb T _ hl hlb hx hS hT).mono ?_
    rintro e w' ⟨⟨r, rfl⟩, rfl⟩
    cases r
    all_goals
      go_wp2
      go_ret
      exact ⟨rfl, Below.refl _ _⟩
  by_cases h2 : 65536 < lb
  · go_enter Try.func3, Try.ntmps3
    go_wp2_with fail
    refine (zzBytesJoin_any i1 i2 i x a la ca S b lb cb T _ hl hlb hx hS hT).mono ?_
    rintro e w' ⟨⟨r, rfl⟩, rfl⟩
    cases r
    all_goals
      go_wp2
      go_ret
      exact ⟨rfl, Below.refl _ _⟩
  go_enter Try.func3, Try.ntmps3
  go_wp2_with fail
  refine (zzBytesJoin_any i1 i2 i x a la ca S b lb cb T _ hl hlb hx hS hT).mono ?_
  rintro e w' ⟨⟨r, rfl⟩, rfl⟩
  cases r
  · go_wp2
    go_ret
    exact ⟨rfl, Below.refl _ _⟩
  go_upto_if 37 with fail
  go_cut [2, 13] (fun v _ wx => ∃ ao cp, v = .slice ao la cp ∧ StrRow wx ao la S ∧ Below w'.heap.size w' wx)
  case first =>
    cases a with
    | none =>
      go_wp2_with fail
      go_meet
      case rel => exact ⟨_, _, rfl, hS, Below.refl _ _⟩
    | some z =>
      have hmk := run_make_row' (P := Try.prog) 22 9 (.string ByteArray.empty) 16 Try.underlying22 Try.info9 rfl .i64 .i64 la (by omega) (by omega)
      have hcp := fun ty => copiedStr w' ty z la ca S hS
      go_wp2_with fail
      go_meet
      case rel => exact ⟨_, _, rfl, strRow_new _ _ _ _ hS, (Below.refl _ _).alloc (Nat.le_refl _) _⟩
  case rest =>
    rename World => W1
    obtain ⟨ao, cpa, rfl, hSa, hBa⟩ := hcut
    have hTa := hT.below hBa
    clear hS hT
    go_upto_if 46 with fail
    go_cut [3, 14] (fun v _ wx => ∃ bo cp, v = .slice bo lb cp ∧ StrRow wx bo lb T ∧ Below W1.heap.size W1 wx)
    case first =>
      cases b with
      | none =>
        go_wp2_with fail
        go_meet
        case rel => exact ⟨_, _, rfl, hTa, Below.refl _ _⟩
      | some z =>
        have hmk := run_make_row' (P := Try.prog) 22 9 (.string ByteArray.empty) 16 Try.underlying22 Try.info9 rfl .i64 .i64 lb (by omega) (by omega)
        have hcp := fun ty => copiedStr W1 ty z lb cb T hTa
        go_wp2_with fail
        go_meet
        case rel => exact ⟨_, _, rfl, strRow_new _ _ _ _ hTa, (Below.refl _ _).alloc (Nat.le_refl _) _⟩
    case rest =>
      rename World => W2
      obtain ⟨bo, cpb, rfl, hTb, hBb⟩ := hcut
      have hSb := hSa.below hBb
      have hB2 : Below w'.heap.size w' W2 := hBa.trans (hBb.mono hBa.size)
      clear hSa hTa hBa hBb
      go_wp2_with fail
      refine (namesBytes_any 0 ao la cpa S _ (by omega) (by omega) hl hSb).mono ?_
      rintro e w'' ⟨r, rfl, hr1, hr2, hw⟩
      rw [hw]
      clear hw
      by_cases hr : r < 0
      · go_wp2
        go_ret
        exact ⟨rfl, hB2⟩
      go_wp2_with fail
      refine (namesBytes_any r bo lb cpb T _ (by omega) (by omega) hlb hTb).mono ?_
      rintro e w'' ⟨r', rfl, hr1', hr2', hw⟩
      rw [hw]
      clear hw
      by_cases hr' : r' < 0
      · go_wp2
        go_ret
        exact ⟨rfl, hB2⟩
      by_cases hxs : 1048576 - r' < x.size
      · go_wp2
        go_ret
        exact ⟨rfl, hB2⟩
      by_cases hi0 : i < 0
      · go_wp2
        go_ret
        exact ⟨rfl, hB2⟩
      by_cases hi1 : la < i
      · go_wp2
        go_ret
        exact ⟨rfl, hB2⟩
      obtain ⟨n, hn⟩ := Int.eq_ofNat_of_zero_le (show 0 ≤ i by omega)
      have hnl : n ≤ la := by omega
      have hN : Hid (i = (n : Int)) := hn
      clear hn
      have hmz := make_zero_row (P := Try.prog) 22 9 (.string ByteArray.empty) 16 Try.underlying22 Try.info9 rfl .i64 .i64 (la + lb) (by omega) (by omega)
      have hmz2 := make_zero_row (P := Try.prog) 22 9 (.string ByteArray.empty) 16 Try.underlying22 Try.info9 rfl .i64 .i64 (la + 1) (by omega) (by omega)
      rw [show ((la + lb : Nat) : Int) = (la : Int) + (lb : Int) from by omega] at hmz
      rw [show ((la + 1 : Nat) : Int) = (la : Int) + 1 from by omega] at hmz2
      obtain ⟨i0, hi', hz0, hz1, hz2⟩ := info_parts Try.info9
      go_wp2_with fail
      go_loopg [16, 17] la (fun g v c wr => ∃ k : Nat, 0 ≤ k ∧ k ≤ la ∧ g = la - k ∧ c = .int .i64 k ∧ v = .slice (some ⟨W2.heap.size, 0, none⟩) (k) (la + lb) ∧ OwnIn W2 (la + lb) (k) wr)
      case atStart => exact ⟨0, by omega, by omega, rfl, rfl, rfl, OwnIn.start _ _ _ (by unfold maxLen; omega)⟩
      case round =>
        obtain ⟨k, hk0, hk, hgk, rfl, rfl, hin⟩ := hrel
        have hG : Hid (gk = la - k) := hgk
        clear hgk
        by_cases hlt : k < la
        · obtain ⟨b, off, rfl, hc, hz⟩ := hSb k (by omega)
          have hcx := (hin.2.cell (p := ⟨b, off + k, none⟩) (block_lt_of_cell hc)).trans hc
          obtain ⟨xs, hown⟩ := hin.1
          go_wp2_with (at_builtin; refine wpList_append_fits _ rfl (.tmp 88) (.tmp 93) 22 rfl W2.heap.size 9 i0 1 Try.underlying22 hi' hz1 W2.heap.size (k) (la + lb) xs rfl (hown.alloc _) ⟨wr.heap.size, 0, none⟩ 1 1 [.string (S k)] rfl rfl (cell_one_new _ _ _) (by simp [Value.oneCell']) (by omega) ?_; intro w1 hown1 hgrow1)
          have hin1 := hin.step hown1 hgrow1
          clear hown1 hgrow1 hown
          go_wp2
          go_roundg (la - (k + 1))
          case measure => have := hG.out; omega
          case rel => exact ⟨k + 1, by omega, by omega, rfl, by go_num, rfl, hin1⟩
        · have hkl : la = k := by omega
          subst hkl
          clear hlt hk hk0 hG
          go_wp2_with fail
          go_loopg [16, 18] lb (fun g v c wr => ∃ k : Nat, k ≤ lb ∧ g = lb - k ∧ c = .int .i64 k ∧ v = .slice (some ⟨W2.heap.size, 0, none⟩) (la + k) (la + lb) ∧ OwnIn W2 (la + lb) (la + k) wr)
          case atStart => exact ⟨0, by omega, rfl, rfl, rfl, hin⟩
          case round =>
            clear hin
            rename World => wr2
            obtain ⟨k, hk, hgk, rfl, rfl, hin⟩ := hrel
            have hG : Hid (gk = lb - k) := hgk
            clear hgk
            by_cases hlt : k < lb
            · obtain ⟨b, off, rfl, hc, hz⟩ := hTb k hlt
              have hcx := (hin.2.cell (p := ⟨b, off + k, none⟩) (block_lt_of_cell hc)).trans hc
              obtain ⟨xs, hown⟩ := hin.1
              go_wp2_with (at_builtin; refine wpList_append_fits _ rfl (.tmp 101) (.tmp 106) 22 rfl W2.heap.size 9 i0 1 Try.underlying22 hi' hz1 W2.heap.size (la + k) (la + lb) xs rfl (hown.alloc _) ⟨wr2.heap.size, 0, none⟩ 1 1 [.string (T k)] rfl rfl (cell_one_new _ _ _) (by simp [Value.oneCell']) (by omega) ?_; intro w1 hown1 hgrow1)
              have hin1 := hin.step hown1 hgrow1
              clear hown1 hgrow1 hown
              go_wp2
              go_roundg (lb - (k + 1))
              case measure => have := hG.out; omega
              case rel => exact ⟨k + 1, by omega, rfl, by go_num, rfl, hin1⟩
            · have hkl : lb = k := by omega
              subst hkl
              clear hlt hk hG
              have hS3 := hSb.below hin.2
              have hB3 : Below w'.heap.size w' wr2 := hB2.trans (hin.2.mono hB2.size)
              clear hSb hTb hB2 hin
              go_wp2_with fail
              go_loopg [19, 20] n (fun g v c wr => ∃ k : Nat, k ≤ n ∧ g = n - k ∧ c = .int .i64 k ∧ v = .slice (some ⟨wr2.heap.size, 0, none⟩) k (la + 1) ∧ OwnIn wr2 (la + 1) k wr)
              case atStart => exact ⟨0, by omega, rfl, rfl, rfl, OwnIn.start _ _ _ (by unfold maxLen; omega)⟩
              case round =>
                rename World => wr3
                obtain ⟨k, hk, hgk, rfl, rfl, hin⟩ := hrel
                have hG : Hid (gk = n - k) := hgk
                clear hgk
                by_cases hlt : k < n
                · have hlti : (k : Int) < i := by have := hN.out; omega
                  obtain ⟨b, off, rfl, hc, hz⟩ := hS3 k (by omega)
                  have hcx := (hin.2.cell (p := ⟨b, off + k, none⟩) (block_lt_of_cell hc)).trans hc
                  obtain ⟨xs, hown⟩ := hin.1
                  go_wp2_with (at_builtin; refine wpList_append_fits _ rfl (.tmp 117) (.tmp 122) 22 rfl wr2.heap.size 9 i0 1 Try.underlying22 hi' hz1 wr2.heap.size k (la + 1) xs rfl (hown.alloc _) ⟨wr3.heap.size, 0, none⟩ 1 1 [.string (S k)] rfl rfl (cell_one_new _ _ _) (by simp [Value.oneCell']) (by omega) ?_; intro w1 hown1 hgrow1)
                  have hin1 := hin.step hown1 hgrow1
                  clear hown1 hgrow1 hown
                  go_wp2
                  go_roundg (n - (k + 1))
                  case measure => have := hG.out; omega
                  case rel => exact ⟨k + 1, by omega, rfl, by go_num, rfl, hin1⟩
                · have hkl : n = k := by omega
                  subst hkl
                  have hlti : i ≤ (n : Int) := by have := hN.out; omega
                  clear hlt hk hG
                  obtain ⟨xs, hown⟩ := hin.1
                  go_wp2_with (at_builtin; refine wpList_append_fits _ rfl (.tmp 124) (.tmp 126) 22 rfl wr2.heap.size 9 i0 1 Try.underlying22 hi' hz1 wr2.heap.size n (la + 1) xs rfl (hown.alloc _) ⟨wr3.heap.size, 0, none⟩ 1 1 [.string x] rfl rfl (cell_one_new _ _ _) (by simp [Value.oneCell']) (by omega) ?_; intro w1 hown1 hgrow1)
                  have hin1 := hin.step hown1 hgrow1
                  clear hown1 hgrow1 hown hin
                  go_wp2_with fail
                  go_loopg [19, 21] (la - n) (fun g v c wr => ∃ k : Nat, n ≤ k ∧ k ≤ la ∧ g = la - k ∧ c = .int .i64 k ∧ v = .slice (some ⟨wr2.heap.size, 0, none⟩) (k + 1) (la + 1) ∧ OwnIn wr2 (la + 1) (k + 1) wr)
                  case atStart => exact ⟨n, by omega, by omega, rfl, by rw [hN.out], rfl, hin1⟩
                  case round =>
                    clear hin1
                    rename World => wr4
                    obtain ⟨k, hk0, hk, hgk, rfl, rfl, hin⟩ := hrel
                    have hG : Hid (gk = la - k) := hgk
                    clear hgk
                    by_cases hlt : k < la
                    · obtain ⟨b, off, rfl, hc, hz⟩ := hS3 k hlt
                      have hcx := (hin.2.cell (p := ⟨b, off + k, none⟩) (block_lt_of_cell hc)).trans hc
                      obtain ⟨xs, hown⟩ := hin.1
                      go_wp2_with (at_builtin; refine wpList_append_fits _ rfl (.tmp 135) (.tmp 140) 22 rfl wr2.heap.size 9 i0 1 Try.underlying22 hi' hz1 wr2.heap.size (k + 1) (la + 1) xs rfl (hown.alloc _) ⟨wr4.heap.size, 0, none⟩ 1 1 [.string (S k)] rfl rfl (cell_one_new _ _ _) (by simp [Value.oneCell']) (by omega) ?_; intro w1 hown1 hgrow1)
                      have hin1 := hin.step hown1 hgrow1
                      clear hown1 hgrow1 hown
                      go_wp2
                      go_roundg (la - (k + 1))
                      case measure => have := hG.out; omega
                      case rel => exact ⟨k + 1, by omega, by omega, rfl, by go_num, rfl, hin1⟩
                    · have hB4 : Below w'.heap.size w' wr4 := hB3.trans (hin.2.mono hB3.size)
                      clear hin hB3 hG
                      go_wp2_with fail
                      refine (anyAnswer_any i1 _ (la + lb) (la + lb) _ (by omega)).mono ?_
                      rintro e w1 ⟨rfl, hb1⟩
                      have hB5 : Below w'.heap.size w' w1 := hB4.trans (hb1.mono hB4.size)
                      clear hb1 hB4
                      go_wp2_with fail
                      refine (anyAnswer_any i2 _ la cpa _ (by omega)).mono ?_
                      rintro e w2 ⟨rfl, hb2⟩
                      have hB6 : Below w'.heap.size w' w2 := hB5.trans (hb2.mono hB5.size)
                      clear hb2 hB5
                      by_cases ha0 : 0 < la
                      · have e1 : decide (0 < la) = true := by simp; omega
                        have e2 : decide (0 < la + lb) = true := by simp; omega
                        rw [e1, e2]
                        clear e1 e2
                        go_wp2_with fail
                        refine (anyAnswer_any i2 _ (k + 1) (la + 1) _ (by omega)).mono ?_
                        rintro e w3 ⟨rfl, hb3⟩
                        have e3 : decide (0 < k + 1) = true := by simp
                        rw [e3]
                        clear e3
                        go_wp2
                        go_ret
                        exact ⟨rfl, hB6.trans (hb3.mono hB6.size)⟩
                      · have e1 : decide (0 < la) = false := by simp; omega
                        rw [e1]
                        clear e1
                        go_wp2_with fail
                        refine (anyAnswer_any i1 _ lb cpb _ (by omega)).mono ?_
                        rintro e w3 ⟨rfl, hb3⟩
                        have hB7 : Below w'.heap.size w' w3 := hB6.trans (hb3.mono hB6.size)
                        clear hb3 hB6
                        have e4 : decide (0 < la + lb) = decide (0 < lb) := by congr 1; simp; omega
                        rw [e4]
                        clear e4
                        go_wp2_with fail
                        refine (anyAnswer_any i2 _ (k + 1) (la + 1) _ (by omega)).mono ?_
                        rintro e w4 ⟨rfl, hb4⟩
                        have e3 : decide (0 < k + 1) = true := by simp
                        rw [e3]
                        clear e3
                        go_wp2
                        go_ret
                        exact ⟨rfl, hB7.trans (hb4.mono hB7.size)⟩
end Go.Proofs.Qxb6613184a
