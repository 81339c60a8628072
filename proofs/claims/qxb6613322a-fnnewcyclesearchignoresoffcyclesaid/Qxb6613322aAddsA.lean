/-
  chunkList.add of acquisitions (20) and of groups (33), each by a contract. Laid by program out of one text.
-/
import Derived.Test.Qxb6613322aListLib
namespace Go.Proofs.Qxb6613322a
open Go.RowKit
set_option linter.unusedVariables false

theorem Try.info68 : (Try.prog.info? 68).map (fun i => (i.zero, i.size, i.bytes)) = some (some (.agg #[.int .i32 0, .int .i32 0, .bool false, .int .i32 0]), 4, 16) := by kernel_rfl
theorem Try.info92 : (Try.prog.info? 92).map (fun i => (i.zero, i.size, i.bytes)) = some (some (.slice none 0 0), 1, 24) := by kernel_rfl

set_option maxHeartbeats 2000000 in
/-- add, function 20. -/
theorem add20 (CK B : Nat) (cur : List Value) (a b d : Int) (c : Bool) (vC : Value) (m q m' q' : Nat) (xs xs' : List Value) (w : World) (hCK : Row w CK 63 cur) (hc : cur[12]? = some vC) (hB : CK < B) (hBw : B ≤ w.heap.size)
    (hL : LSt w B 92 68 4 vC m q xs) (hm : m ≤ 65536) (hcase : (m = 0 ∧ m' = 0 ∧ q' = 0 ∧ xs' = []) ∨ (m = m' + 1 ∧ q < 4096 ∧ q' = q ∧ xs' = xs)) :
    Calls Try.prog 20 #[.pointer (some ⟨CK, 12, none⟩), .agg #[.int .i32 a, .int .i32 b, .bool c, .int .i32 d]] w fun e w' => e = .returned (.tuple #[]) ∧ Added w B CK 63 cur 12 92 68 4 (m' + 1) (q' + 1) (xs' ++ [.int .i32 a, .int .i32 b, .bool c, .int .i32 d]) w' := by
  have hol : 12 < cur.length := (List.getElem?_eq_some_iff.1 hc).1
  have f0 := hCK.fz 12
  have hm' : m' ≤ 65536 := by rcases hcase with h | h <;> omega
  have hq' : q' < 4096 := by rcases hcase with h | h <;> omega
  go_enter Try.func20, Try.ntmps20
  go_upto_block 0 with fail
  go_cut [5, 21] (fun _ _ wx => Mid w B CK 63 cur 12 92 68 4 m' q' xs' [.int .i32 a, .int .i32 b, .bool c, .int .i32 d] wx)
  case first =>
    have cA : (w.alloc (.cells #[.int .i32 a, .int .i32 b, .bool c, .int .i32 d] 68)).cell? ⟨CK, 12, none⟩ = some vC := (hCK.alloc _).cell hc
    have fA : (w.alloc (.cells #[.int .i32 a, .int .i32 b, .bool c, .int .i32 d] 68)).frozen? ⟨CK, 12, none⟩ = false := (hCK.alloc _).fz 12
    rcases hcase with ⟨rfl, rfl, rfl, rfl⟩ | ⟨rfl, hq, rfl, rfl⟩
    · rcases hL with ⟨_, rfl, rfl, rfl⟩ | ⟨h0, _⟩
      rotate_left
      · exact absurd h0 (by omega)
      obtain ⟨i0, hi, hz0, hz1, hz2⟩ := info_parts Try.info92
      go_wp2_with (at_builtin; refine wpList_append_own _ rfl (.tmp 16) (.tmp 17) 59 rfl B 92 i0 (.slice none 0 0) 1 24 Try.underlying59 hi hz0 hz1 hz2 rfl (by decide) _ 0 [] rfl (World.ownsRow_nil _ _ _ _) ⟨w.heap.size + 1, 0, none⟩ 1 1 [.slice none 0 0] rfl rfl (by have := cell_one_new (w.alloc (.cells #[.int .i32 a, .int .i32 b, .bool c, .int .i32 d] 68)) (.slice none 0 0) 92; simpa using this) (by simp [Value.oneCell']) (by unfold maxLen; omega) (by omega) (by simp; omega) ?_; intro v' w1 hown1 hgrow1 _; obtain ⟨g', cap', rfl⟩ := ownsRow_succ hown1; obtain ⟨d1, d2, hmid⟩ := Mid.first (o := 12) (EL := 68) (sz := 4) (vs := [.int .i32 a, .int .i32 b, .bool c, .int .i32 d]) hB hBw hCK hown1 hgrow1; have d3 := d1 _ hc)
      go_meet
      case rel => exact hmid
    · rcases hL with ⟨h0, _⟩ | ⟨_, chs, vL, hch, hlast, hlr⟩
      · exact absurd h0 (by omega)
      simp only [Nat.add_sub_cancel] at hlast
      obtain ⟨gC, cap, rfl, hgB, hgl, hcap⟩ := ownsRow_shape hch (by omega)
      have c2 : (w.alloc (.cells #[.int .i32 a, .int .i32 b, .bool c, .int .i32 d] 68)).cell? ⟨gC, m', none⟩ = some vL := by rw [(hch.alloc _).cellAt m' (by omega)]; exact hlast
      have hvL : ∃ aL cL, vL = .slice aL q' cL := by
        rcases hlr.2 with ⟨h, h0⟩ | ⟨g, c, _, h, _⟩
        · exact ⟨none, 0, by rw [h, h0]⟩
        · exact ⟨_, c, h⟩
      obtain ⟨aL, cL, hvL'⟩ := hvL
      subst hvL'
      have hq0 : ((q' : Int) == 4096) = false := by simp; omega
      have hmm : ((m' : Int) + 1 == 0) = false := by simp; omega
      have hli : (m' : Int) < (m' : Int) + 1 := by omega
      go_wp2_with fail
      go_quiet (fail)
      go_wp2_with fail
      go_meet
      case rel => exact Mid.more hBw hCK hc hch hlast hlr
  case rest =>
    clear hcase hL hc hCK f0
    obtain ⟨gC, cap, chs, vL, hr, hch, hlast, hlr, hVr, hkept⟩ := hcut
    obtain ⟨c1, c2, c2a⟩ := Mid.facts (q := q') (xs := xs') (EL := 68) (sz := 4) (w := w) hr hol hch hlast
    have v0 : wc.cell? ⟨w.heap.size, 0, none⟩ = some (.int .i32 a) := hVr.cell rfl
    have v1 : wc.cell? ⟨w.heap.size, 1, none⟩ = some (.int .i32 b) := hVr.cell rfl
    have v2 : wc.cell? ⟨w.heap.size, 2, none⟩ = some (.bool c) := hVr.cell rfl
    have v3 : wc.cell? ⟨w.heap.size, 3, none⟩ = some (.int .i32 d) := hVr.cell rfl
    have hli : (m' : Int) < (m' : Int) + 1 := by omega
    have hz : B ≤ wc.heap.size := Nat.le_trans hBw hkept.size
    obtain ⟨i0, hi, hz0, hz1, hz2⟩ := info_parts Try.info68
    go_wp2_with fail
    go_quiet (fail)
    go_wp2_with fail
    go_region_law (refine step_append_own rfl (.tmp 60) (.tmp 62) 92 rfl B 68 i0 (.agg #[.int .i32 0, .int .i32 0, .bool false, .int .i32 0]) 4 16 Try.underlying92 hi hz0 hz1 hz2 rfl (by decide) vL q' xs' (by simp [Act.eval]) (hlr.alloc _) ⟨wc.heap.size, 0, none⟩ 1 1 [.int .i32 a, .int .i32 b, .bool c, .int .i32 d] (by simp [Act.eval]) rfl (cells_new _ _ _) (by simp [Value.oneCell']) (by unfold maxLen; omega) (by omega) (by exact Nat.le_trans hz (by simp)) ?_; intro v' w1 hown1 hgrow1 _; obtain ⟨g', cap', rfl⟩ := ownsRow_succ hown1; obtain ⟨d1, d2, hadd⟩ := Mid.tail hB hz (by decide) hr hch hlast hlr hkept hown1 hgrow1)
    all_goals
      go_end0
      exact ⟨rfl, hadd⟩

theorem Try.info87 : (Try.prog.info? 87).map (fun i => (i.zero, i.size, i.bytes)) = some (some (.agg #[.int .i32 0, .int .i32 0, .int .i32 0, .int .i32 0]), 4, 16) := by kernel_rfl
theorem Try.info101 : (Try.prog.info? 101).map (fun i => (i.zero, i.size, i.bytes)) = some (some (.slice none 0 0), 1, 24) := by kernel_rfl

set_option maxHeartbeats 2000000 in
/-- add, function 33. -/
theorem add33 (CK B : Nat) (cur : List Value) (a b c d : Int) (vC : Value) (m q m' q' : Nat) (xs xs' : List Value) (w : World) (hCK : Row w CK 80 cur) (hc : cur[3]? = some vC) (hB : CK < B) (hBw : B ≤ w.heap.size)
    (hL : LSt w B 101 87 4 vC m q xs) (hm : m ≤ 65536) (hcase : (m = 0 ∧ m' = 0 ∧ q' = 0 ∧ xs' = []) ∨ (m = m' + 1 ∧ q < 4096 ∧ q' = q ∧ xs' = xs)) :
    Calls Try.prog 33 #[.pointer (some ⟨CK, 3, none⟩), .agg #[.int .i32 a, .int .i32 b, .int .i32 c, .int .i32 d]] w fun e w' => e = .returned (.tuple #[]) ∧ Added w B CK 80 cur 3 101 87 4 (m' + 1) (q' + 1) (xs' ++ [.int .i32 a, .int .i32 b, .int .i32 c, .int .i32 d]) w' := by
  have hol : 3 < cur.length := (List.getElem?_eq_some_iff.1 hc).1
  have f0 := hCK.fz 3
  have hm' : m' ≤ 65536 := by rcases hcase with h | h <;> omega
  have hq' : q' < 4096 := by rcases hcase with h | h <;> omega
  go_enter Try.func33, Try.ntmps33
  go_upto_block 0 with fail
  go_cut [5, 21] (fun _ _ wx => Mid w B CK 80 cur 3 101 87 4 m' q' xs' [.int .i32 a, .int .i32 b, .int .i32 c, .int .i32 d] wx)
  case first =>
    have cA : (w.alloc (.cells #[.int .i32 a, .int .i32 b, .int .i32 c, .int .i32 d] 87)).cell? ⟨CK, 3, none⟩ = some vC := (hCK.alloc _).cell hc
    have fA : (w.alloc (.cells #[.int .i32 a, .int .i32 b, .int .i32 c, .int .i32 d] 87)).frozen? ⟨CK, 3, none⟩ = false := (hCK.alloc _).fz 3
    rcases hcase with ⟨rfl, rfl, rfl, rfl⟩ | ⟨rfl, hq, rfl, rfl⟩
    · rcases hL with ⟨_, rfl, rfl, rfl⟩ | ⟨h0, _⟩
      rotate_left
      · exact absurd h0 (by omega)
      obtain ⟨i0, hi, hz0, hz1, hz2⟩ := info_parts Try.info101
      go_wp2_with (at_builtin; refine wpList_append_own _ rfl (.tmp 16) (.tmp 17) 76 rfl B 101 i0 (.slice none 0 0) 1 24 Try.underlying76 hi hz0 hz1 hz2 rfl (by decide) _ 0 [] rfl (World.ownsRow_nil _ _ _ _) ⟨w.heap.size + 1, 0, none⟩ 1 1 [.slice none 0 0] rfl rfl (by have := cell_one_new (w.alloc (.cells #[.int .i32 a, .int .i32 b, .int .i32 c, .int .i32 d] 87)) (.slice none 0 0) 101; simpa using this) (by simp [Value.oneCell']) (by unfold maxLen; omega) (by omega) (by simp; omega) ?_; intro v' w1 hown1 hgrow1 _; obtain ⟨g', cap', rfl⟩ := ownsRow_succ hown1; obtain ⟨d1, d2, hmid⟩ := Mid.first (o := 3) (EL := 87) (sz := 4) (vs := [.int .i32 a, .int .i32 b, .int .i32 c, .int .i32 d]) hB hBw hCK hown1 hgrow1; have d3 := d1 _ hc)
      go_meet
      case rel => exact hmid
    · rcases hL with ⟨h0, _⟩ | ⟨_, chs, vL, hch, hlast, hlr⟩
      · exact absurd h0 (by omega)
      simp only [Nat.add_sub_cancel] at hlast
      obtain ⟨gC, cap, rfl, hgB, hgl, hcap⟩ := ownsRow_shape hch (by omega)
      have c2 : (w.alloc (.cells #[.int .i32 a, .int .i32 b, .int .i32 c, .int .i32 d] 87)).cell? ⟨gC, m', none⟩ = some vL := by rw [(hch.alloc _).cellAt m' (by omega)]; exact hlast
      have hvL : ∃ aL cL, vL = .slice aL q' cL := by
        rcases hlr.2 with ⟨h, h0⟩ | ⟨g, c, _, h, _⟩
        · exact ⟨none, 0, by rw [h, h0]⟩
        · exact ⟨_, c, h⟩
      obtain ⟨aL, cL, hvL'⟩ := hvL
      subst hvL'
      have hq0 : ((q' : Int) == 4096) = false := by simp; omega
      have hmm : ((m' : Int) + 1 == 0) = false := by simp; omega
      have hli : (m' : Int) < (m' : Int) + 1 := by omega
      go_wp2_with fail
      go_quiet (fail)
      go_wp2_with fail
      go_meet
      case rel => exact Mid.more hBw hCK hc hch hlast hlr
  case rest =>
    clear hcase hL hc hCK f0
    obtain ⟨gC, cap, chs, vL, hr, hch, hlast, hlr, hVr, hkept⟩ := hcut
    obtain ⟨c1, c2, c2a⟩ := Mid.facts (q := q') (xs := xs') (EL := 87) (sz := 4) (w := w) hr hol hch hlast
    have v0 : wc.cell? ⟨w.heap.size, 0, none⟩ = some (.int .i32 a) := hVr.cell rfl
    have v1 : wc.cell? ⟨w.heap.size, 1, none⟩ = some (.int .i32 b) := hVr.cell rfl
    have v2 : wc.cell? ⟨w.heap.size, 2, none⟩ = some (.int .i32 c) := hVr.cell rfl
    have v3 : wc.cell? ⟨w.heap.size, 3, none⟩ = some (.int .i32 d) := hVr.cell rfl
    have hli : (m' : Int) < (m' : Int) + 1 := by omega
    have hz : B ≤ wc.heap.size := Nat.le_trans hBw hkept.size
    obtain ⟨i0, hi, hz0, hz1, hz2⟩ := info_parts Try.info87
    go_wp2_with fail
    go_quiet (fail)
    go_wp2_with fail
    go_region_law (refine step_append_own rfl (.tmp 60) (.tmp 62) 101 rfl B 87 i0 (.agg #[.int .i32 0, .int .i32 0, .int .i32 0, .int .i32 0]) 4 16 Try.underlying101 hi hz0 hz1 hz2 rfl (by decide) vL q' xs' (by simp [Act.eval]) (hlr.alloc _) ⟨wc.heap.size, 0, none⟩ 1 1 [.int .i32 a, .int .i32 b, .int .i32 c, .int .i32 d] (by simp [Act.eval]) rfl (cells_new _ _ _) (by simp [Value.oneCell']) (by unfold maxLen; omega) (by omega) (by exact Nat.le_trans hz (by simp)) ?_; intro v' w1 hown1 hgrow1 _; obtain ⟨g', cap', rfl⟩ := ownsRow_succ hown1; obtain ⟨d1, d2, hadd⟩ := Mid.tail hB hz (by decide) hr hch hlast hlr hkept hown1 hgrow1)
    all_goals
      go_end0
      exact ⟨rfl, hadd⟩
end Go.Proofs.Qxb6613322a
