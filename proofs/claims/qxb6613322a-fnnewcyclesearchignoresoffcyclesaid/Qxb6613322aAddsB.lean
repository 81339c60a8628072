/-
  chunkList.add of transactions (21) and of entities (22), each by a contract. Laid by program out of one text.
-/
import Derived.Test.Qxb6613322aListLib
namespace Go.Proofs.Qxb6613322a
open Go.RowKit
set_option linter.unusedVariables false

theorem Try.info71 : (Try.prog.info? 71).map (fun i => (i.zero, i.size, i.bytes)) = some (some (.agg #[.int .i32 0, .bool false, .int .i32 0, .int .i32 0]), 4, 16) := by kernel_rfl
theorem Try.info95 : (Try.prog.info? 95).map (fun i => (i.zero, i.size, i.bytes)) = some (some (.slice none 0 0), 1, 24) := by kernel_rfl
theorem mk95 (w : World) : (Instr.makeSlice 95 (.int .i64 0) (.int .i64 4096)).run Try.prog w = .ok (.slice (some ⟨w.heap.size, 0, none⟩) 0 4096) (w.alloc (.cells (madeCells (.agg #[.int .i32 0, .bool false, .int .i32 0, .int .i32 0] : Value).cells (4096 * 4)) 71)) := by
  obtain ⟨i, hi, hz, hs, hb⟩ := info_parts Try.info71
  have hr := run_make (P := Try.prog) w 95 71 i (.agg #[.int .i32 0, .bool false, .int .i32 0, .int .i32 0]) Try.underlying95 hi hz .i64 .i64 0 4096 (by omega) (by omega) (by rw [hb]; omega) (by omega)
  rw [hs] at hr
  exact hr

set_option maxHeartbeats 2000000 in
/-- add, function 21. -/
theorem add21 (CK B : Nat) (cur : List Value) (a c d : Int) (b : Bool) (vC : Value) (m q m' q' : Nat) (xs xs' : List Value) (w : World) (hCK : Row w CK 63 cur) (hc : cur[9]? = some vC) (hB : CK < B) (hBw : B ≤ w.heap.size)
    (hL : LSt w B 95 71 4 vC m q xs) (hm : m ≤ 65536) (hcase : (m = 0 ∧ m' = 0 ∧ q' = 0 ∧ xs' = []) ∨ (m = m' + 1 ∧ q < 4096 ∧ q' = q ∧ xs' = xs) ∨ (0 < m ∧ q = 4096 ∧ m' = m ∧ q' = 0 ∧ xs' = [])) :
    Calls Try.prog 21 #[.pointer (some ⟨CK, 9, none⟩), .agg #[.int .i32 a, .bool b, .int .i32 c, .int .i32 d]] w fun e w' => e = .returned (.tuple #[]) ∧ Added w B CK 63 cur 9 95 71 4 (m' + 1) (q' + 1) (xs' ++ [.int .i32 a, .bool b, .int .i32 c, .int .i32 d]) w' := by
  have hol : 9 < cur.length := (List.getElem?_eq_some_iff.1 hc).1
  have f0 := hCK.fz 9
  have hm' : m' ≤ 65536 := by rcases hcase with h | h | h <;> omega
  have hq' : q' < 4096 := by rcases hcase with h | h | h <;> omega
  go_enter Try.func21, Try.ntmps21
  go_upto_block 0 with fail
  go_cut [5, 21] (fun _ _ wx => Mid w B CK 63 cur 9 95 71 4 m' q' xs' [.int .i32 a, .bool b, .int .i32 c, .int .i32 d] wx)
  case first =>
    have cA : (w.alloc (.cells #[.int .i32 a, .bool b, .int .i32 c, .int .i32 d] 71)).cell? ⟨CK, 9, none⟩ = some vC := (hCK.alloc _).cell hc
    have fA : (w.alloc (.cells #[.int .i32 a, .bool b, .int .i32 c, .int .i32 d] 71)).frozen? ⟨CK, 9, none⟩ = false := (hCK.alloc _).fz 9
    rcases hcase with ⟨rfl, rfl, rfl, rfl⟩ | ⟨rfl, hq, rfl, rfl⟩ | ⟨hm0, rfl, rfl, rfl, rfl⟩
    · rcases hL with ⟨_, rfl, rfl, rfl⟩ | ⟨h0, _⟩
      rotate_left
      · exact absurd h0 (by omega)
      obtain ⟨i0, hi, hz0, hz1, hz2⟩ := info_parts Try.info95
      go_wp2_with (at_builtin; refine wpList_append_own _ rfl (.tmp 16) (.tmp 17) 52 rfl B 95 i0 (.slice none 0 0) 1 24 Try.underlying52 hi hz0 hz1 hz2 rfl (by decide) _ 0 [] rfl (World.ownsRow_nil _ _ _ _) ⟨w.heap.size + 1, 0, none⟩ 1 1 [.slice none 0 0] rfl rfl (by have := cell_one_new (w.alloc (.cells #[.int .i32 a, .bool b, .int .i32 c, .int .i32 d] 71)) (.slice none 0 0) 95; simpa using this) (by simp [Value.oneCell']) (by unfold maxLen; omega) (by omega) (by simp; omega) ?_; intro v' w1 hown1 hgrow1 _; obtain ⟨g', cap', rfl⟩ := ownsRow_succ hown1; obtain ⟨d1, d2, hmid⟩ := Mid.first (o := 9) (EL := 71) (sz := 4) (vs := [.int .i32 a, .bool b, .int .i32 c, .int .i32 d]) hB hBw hCK hown1 hgrow1; have d3 := d1 _ hc)
      go_meet
      case rel => exact hmid
    · rcases hL with ⟨h0, _⟩ | ⟨_, chs, vL, hch, hlast, hlr⟩
      · exact absurd h0 (by omega)
      simp only [Nat.add_sub_cancel] at hlast
      obtain ⟨gC, cap, rfl, hgB, hgl, hcap⟩ := ownsRow_shape hch (by omega)
      have c2 : (w.alloc (.cells #[.int .i32 a, .bool b, .int .i32 c, .int .i32 d] 71)).cell? ⟨gC, m', none⟩ = some vL := by rw [(hch.alloc _).cellAt m' (by omega)]; exact hlast
      have hvL : ∃ aL cL, vL = .slice aL q' cL := by
        rcases hlr.2 with ⟨h, h0⟩ | ⟨g, c, _, h, _⟩
        · exact ⟨none, 0, by rw [h, h0]⟩
        · exact ⟨_, c, h⟩
      obtain ⟨aL, cL, hvL'⟩ := hvL
      subst hvL'
      have hq0 : ((q' : Int) == 4096) = false := by simp; omega
      have hmm : ((m' : Int) + 1 == 0) = false := by simp; omega
      have hli : (m' : Int) < (m' : Int) + 1 := by omega
      go_wp2_with fail
      go_quiet (fail)
      go_wp2_with fail
      go_meet
      case rel => exact Mid.more hBw hCK hc hch hlast hlr
    · rcases hL with ⟨h0, _⟩ | ⟨_, chs, vL, hch, hlast, hlr⟩
      · exact absurd h0 (by omega)
      obtain ⟨m'', rfl⟩ : ∃ m'', m' = m'' + 1 := ⟨m' - 1, by omega⟩
      simp only [Nat.add_sub_cancel] at hlast
      obtain ⟨gC, cap, rfl, hgB, hgl, hcap⟩ := ownsRow_shape hch (by omega)
      have c2 : (w.alloc (.cells #[.int .i32 a, .bool b, .int .i32 c, .int .i32 d] 71)).cell? ⟨gC, m'', none⟩ = some vL := by rw [(hch.alloc _).cellAt m'' (by omega)]; exact hlast
      have hvL : ∃ aL cL, vL = .slice aL 4096 cL := by
        obtain ⟨g, c, h, _⟩ := ownsRow_shape hlr (by omega)
        exact ⟨_, c, h⟩
      obtain ⟨aL, cL, hvL'⟩ := hvL
      subst hvL'
      have hmm : ((m'' : Int) + 1 == 0) = false := by simp; omega
      have hli : (m'' : Int) < (m'' : Int) + 1 := by omega
      obtain ⟨i0, hi, hz0, hz1, hz2⟩ := info_parts Try.info95
      have hmk := mk95
      obtain ⟨zs, hzs⟩ : ∃ zs, zs = madeCells (.agg #[.int .i32 0, .bool false, .int .i32 0, .int .i32 0] : Value).cells (4096 * 4) := ⟨_, rfl⟩
      have hzsz : zs.size = 4096 * 4 := by rw [hzs]; exact size_madeCells _ _
      simp only [← hzs] at hmk
      clear hzs
      have cB : ∀ (k : Nat) (o1 : Obj), (((w.alloc (.cells #[.int .i32 a, .bool b, .int .i32 c, .int .i32 d] 71)).drewN k).alloc o1).cell? ⟨CK, 9, none⟩ = some (.slice (some ⟨gC, 0, none⟩) (m'' + 1) cap) := fun k o1 => (((hCK.alloc _).drewN k).alloc _).cell hc
      have cB2 : ∀ (k : Nat) (o1 o2 : Obj), ((((w.alloc (.cells #[.int .i32 a, .bool b, .int .i32 c, .int .i32 d] 71)).drewN k).alloc o1).alloc o2).cell? ⟨CK, 9, none⟩ = some (.slice (some ⟨gC, 0, none⟩) (m'' + 1) cap) := fun k o1 o2 => ((((hCK.alloc _).drewN k).alloc _).alloc _).cell hc
      go_wp2_with fail
      go_quiet (fail)
      go_wp2_with fail
      go_region_law (refine step_append_own rfl (.tmp 40) (.tmp 42) 52 rfl B 95 i0 (.slice none 0 0) 1 24 Try.underlying52 hi hz0 hz1 hz2 rfl (by decide) (.slice (some ⟨gC, 0, none⟩) (m'' + 1) cap) (m'' + 1) chs (by simp [Act.eval]) (by exact World.ownsRow.alloc (World.ownsRow.alloc (hch.alloc _) _) _) ⟨w.heap.size + 1 + 1, 0, none⟩ 1 1 [.slice (some ⟨w.heap.size + 1, 0, none⟩) 0 4096] (by simp [Act.eval]) rfl (by have := cell_one_new (((w.alloc (.cells #[.int .i32 a, .bool b, .int .i32 c, .int .i32 d] 71)).drewN (nq + 1)).alloc (.cells zs 71)) (.slice (some ⟨w.heap.size + 1, 0, none⟩) 0 4096) 95; simpa using this) (by simp [Value.oneCell']) (by unfold maxLen; omega) (by omega) (by simp; omega) ?_; intro v' w1 hown1 hgrow1 _; obtain ⟨g', cap', rfl⟩ := ownsRow_succ hown1; obtain ⟨d1, d2, hmid⟩ := Mid.full (o := 9) (EL := 71) (sz := 4) (vs := [.int .i32 a, .bool b, .int .i32 c, .int .i32 d]) (zs := zs) (k := nq + 1) hB hBw hCK hch hzsz (by unfold maxLen; omega) (by decide) rfl hown1 hgrow1; have d3 := d1 _ hc)
      all_goals go_wp2_with fail
      all_goals
        go_meet
        case rel => exact hmid
  case rest =>
    clear hcase hL hc hCK f0
    obtain ⟨gC, cap, chs, vL, hr, hch, hlast, hlr, hVr, hkept⟩ := hcut
    obtain ⟨c1, c2, c2a⟩ := Mid.facts (q := q') (xs := xs') (EL := 71) (sz := 4) (w := w) hr hol hch hlast
    have v0 : wc.cell? ⟨w.heap.size, 0, none⟩ = some (.int .i32 a) := hVr.cell rfl
    have v1 : wc.cell? ⟨w.heap.size, 1, none⟩ = some (.bool b) := hVr.cell rfl
    have v2 : wc.cell? ⟨w.heap.size, 2, none⟩ = some (.int .i32 c) := hVr.cell rfl
    have v3 : wc.cell? ⟨w.heap.size, 3, none⟩ = some (.int .i32 d) := hVr.cell rfl
    have hli : (m' : Int) < (m' : Int) + 1 := by omega
    have hz : B ≤ wc.heap.size := Nat.le_trans hBw hkept.size
    obtain ⟨i0, hi, hz0, hz1, hz2⟩ := info_parts Try.info71
    go_wp2_with fail
    go_quiet (fail)
    go_wp2_with fail
    go_region_law (refine step_append_own rfl (.tmp 60) (.tmp 62) 95 rfl B 71 i0 (.agg #[.int .i32 0, .bool false, .int .i32 0, .int .i32 0]) 4 16 Try.underlying95 hi hz0 hz1 hz2 rfl (by decide) vL q' xs' (by simp [Act.eval]) (hlr.alloc _) ⟨wc.heap.size, 0, none⟩ 1 1 [.int .i32 a, .bool b, .int .i32 c, .int .i32 d] (by simp [Act.eval]) rfl (cells_new _ _ _) (by simp [Value.oneCell']) (by unfold maxLen; omega) (by omega) (by exact Nat.le_trans hz (by simp)) ?_; intro v' w1 hown1 hgrow1 _; obtain ⟨g', cap', rfl⟩ := ownsRow_succ hown1; obtain ⟨d1, d2, hadd⟩ := Mid.tail hB hz (by decide) hr hch hlast hlr hkept hown1 hgrow1)
    all_goals
      go_end0
      exact ⟨rfl, hadd⟩

theorem Try.info74 : (Try.prog.info? 74).map (fun i => (i.zero, i.size, i.bytes)) = some (some (.agg #[.int .i32 0, .slice none 0 0]), 2, 32) := by kernel_rfl
theorem Try.info98 : (Try.prog.info? 98).map (fun i => (i.zero, i.size, i.bytes)) = some (some (.slice none 0 0), 1, 24) := by kernel_rfl
theorem mk98 (w : World) : (Instr.makeSlice 98 (.int .i64 0) (.int .i64 4096)).run Try.prog w = .ok (.slice (some ⟨w.heap.size, 0, none⟩) 0 4096) (w.alloc (.cells (madeCells (.agg #[.int .i32 0, .slice none 0 0] : Value).cells (4096 * 2)) 74)) := by
  obtain ⟨i, hi, hz, hs, hb⟩ := info_parts Try.info74
  have hr := run_make (P := Try.prog) w 98 74 i (.agg #[.int .i32 0, .slice none 0 0]) Try.underlying98 hi hz .i64 .i64 0 4096 (by omega) (by omega) (by rw [hb]; omega) (by omega)
  rw [hs] at hr
  exact hr

set_option maxHeartbeats 2000000 in
/-- add, function 22. -/
theorem add22 (CK B : Nat) (cur : List Value) (a : Int) (vC : Value) (m q m' q' : Nat) (xs xs' : List Value) (w : World) (hCK : Row w CK 63 cur) (hc : cur[10]? = some vC) (hB : CK < B) (hBw : B ≤ w.heap.size)
    (hL : LSt w B 98 74 2 vC m q xs) (hm : m ≤ 65536) (hcase : (m = 0 ∧ m' = 0 ∧ q' = 0 ∧ xs' = []) ∨ (m = m' + 1 ∧ q < 4096 ∧ q' = q ∧ xs' = xs) ∨ (0 < m ∧ q = 4096 ∧ m' = m ∧ q' = 0 ∧ xs' = [])) :
    Calls Try.prog 22 #[.pointer (some ⟨CK, 10, none⟩), .agg #[.int .i32 a, .slice none 0 0]] w fun e w' => e = .returned (.tuple #[]) ∧ Added w B CK 63 cur 10 98 74 2 (m' + 1) (q' + 1) (xs' ++ [.int .i32 a, .slice none 0 0]) w' := by
  have hol : 10 < cur.length := (List.getElem?_eq_some_iff.1 hc).1
  have f0 := hCK.fz 10
  have hm' : m' ≤ 65536 := by rcases hcase with h | h | h <;> omega
  have hq' : q' < 4096 := by rcases hcase with h | h | h <;> omega
  go_enter Try.func22, Try.ntmps22
  go_upto_block 0 with fail
  go_cut [5, 21] (fun _ _ wx => Mid w B CK 63 cur 10 98 74 2 m' q' xs' [.int .i32 a, .slice none 0 0] wx)
  case first =>
    have cA : (w.alloc (.cells #[.int .i32 a, .slice none 0 0] 74)).cell? ⟨CK, 10, none⟩ = some vC := (hCK.alloc _).cell hc
    have fA : (w.alloc (.cells #[.int .i32 a, .slice none 0 0] 74)).frozen? ⟨CK, 10, none⟩ = false := (hCK.alloc _).fz 10
    rcases hcase with ⟨rfl, rfl, rfl, rfl⟩ | ⟨rfl, hq, rfl, rfl⟩ | ⟨hm0, rfl, rfl, rfl, rfl⟩
    · rcases hL with ⟨_, rfl, rfl, rfl⟩ | ⟨h0, _⟩
      rotate_left
      · exact absurd h0 (by omega)
      obtain ⟨i0, hi, hz0, hz1, hz2⟩ := info_parts Try.info98
      go_wp2_with (at_builtin; refine wpList_append_own _ rfl (.tmp 16) (.tmp 17) 55 rfl B 98 i0 (.slice none 0 0) 1 24 Try.underlying55 hi hz0 hz1 hz2 rfl (by decide) _ 0 [] rfl (World.ownsRow_nil _ _ _ _) ⟨w.heap.size + 1, 0, none⟩ 1 1 [.slice none 0 0] rfl rfl (by have := cell_one_new (w.alloc (.cells #[.int .i32 a, .slice none 0 0] 74)) (.slice none 0 0) 98; simpa using this) (by simp [Value.oneCell']) (by unfold maxLen; omega) (by omega) (by simp; omega) ?_; intro v' w1 hown1 hgrow1 _; obtain ⟨g', cap', rfl⟩ := ownsRow_succ hown1; obtain ⟨d1, d2, hmid⟩ := Mid.first (o := 10) (EL := 74) (sz := 2) (vs := [.int .i32 a, .slice none 0 0]) hB hBw hCK hown1 hgrow1; have d3 := d1 _ hc)
      go_meet
      case rel => exact hmid
    · rcases hL with ⟨h0, _⟩ | ⟨_, chs, vL, hch, hlast, hlr⟩
      · exact absurd h0 (by omega)
      simp only [Nat.add_sub_cancel] at hlast
      obtain ⟨gC, cap, rfl, hgB, hgl, hcap⟩ := ownsRow_shape hch (by omega)
      have c2 : (w.alloc (.cells #[.int .i32 a, .slice none 0 0] 74)).cell? ⟨gC, m', none⟩ = some vL := by rw [(hch.alloc _).cellAt m' (by omega)]; exact hlast
      have hvL : ∃ aL cL, vL = .slice aL q' cL := by
        rcases hlr.2 with ⟨h, h0⟩ | ⟨g, c, _, h, _⟩
        · exact ⟨none, 0, by rw [h, h0]⟩
        · exact ⟨_, c, h⟩
      obtain ⟨aL, cL, hvL'⟩ := hvL
      subst hvL'
      have hq0 : ((q' : Int) == 4096) = false := by simp; omega
      have hmm : ((m' : Int) + 1 == 0) = false := by simp; omega
      have hli : (m' : Int) < (m' : Int) + 1 := by omega
      go_wp2_with fail
      go_quiet (fail)
      go_wp2_with fail
      go_meet
      case rel => exact Mid.more hBw hCK hc hch hlast hlr
    · rcases hL with ⟨h0, _⟩ | ⟨_, chs, vL, hch, hlast, hlr⟩
      · exact absurd h0 (by omega)
      obtain ⟨m'', rfl⟩ : ∃ m'', m' = m'' + 1 := ⟨m' - 1, by omega⟩
      simp only [Nat.add_sub_cancel] at hlast
      obtain ⟨gC, cap, rfl, hgB, hgl, hcap⟩ := ownsRow_shape hch (by omega)
      have c2 : (w.alloc (.cells #[.int .i32 a, .slice none 0 0] 74)).cell? ⟨gC, m'', none⟩ = some vL := by rw [(hch.alloc _).cellAt m'' (by omega)]; exact hlast
      have hvL : ∃ aL cL, vL = .slice aL 4096 cL := by
        obtain ⟨g, c, h, _⟩ := ownsRow_shape hlr (by omega)
        exact ⟨_, c, h⟩
      obtain ⟨aL, cL, hvL'⟩ := hvL
      subst hvL'
      have hmm : ((m'' : Int) + 1 == 0) = false := by simp; omega
      have hli : (m'' : Int) < (m'' : Int) + 1 := by omega
      obtain ⟨i0, hi, hz0, hz1, hz2⟩ := info_parts Try.info98
      have hmk := mk98
      obtain ⟨zs, hzs⟩ : ∃ zs, zs = madeCells (.agg #[.int .i32 0, .slice none 0 0] : Value).cells (4096 * 2) := ⟨_, rfl⟩
      have hzsz : zs.size = 4096 * 2 := by rw [hzs]; exact size_madeCells _ _
      simp only [← hzs] at hmk
      clear hzs
      have cB : ∀ (k : Nat) (o1 : Obj), (((w.alloc (.cells #[.int .i32 a, .slice none 0 0] 74)).drewN k).alloc o1).cell? ⟨CK, 10, none⟩ = some (.slice (some ⟨gC, 0, none⟩) (m'' + 1) cap) := fun k o1 => (((hCK.alloc _).drewN k).alloc _).cell hc
      have cB2 : ∀ (k : Nat) (o1 o2 : Obj), ((((w.alloc (.cells #[.int .i32 a, .slice none 0 0] 74)).drewN k).alloc o1).alloc o2).cell? ⟨CK, 10, none⟩ = some (.slice (some ⟨gC, 0, none⟩) (m'' + 1) cap) := fun k o1 o2 => ((((hCK.alloc _).drewN k).alloc _).alloc _).cell hc
      go_wp2_with fail
      go_quiet (fail)
      go_wp2_with fail
      go_region_law (refine step_append_own rfl (.tmp 40) (.tmp 42) 55 rfl B 98 i0 (.slice none 0 0) 1 24 Try.underlying55 hi hz0 hz1 hz2 rfl (by decide) (.slice (some ⟨gC, 0, none⟩) (m'' + 1) cap) (m'' + 1) chs (by simp [Act.eval]) (by exact World.ownsRow.alloc (World.ownsRow.alloc (hch.alloc _) _) _) ⟨w.heap.size + 1 + 1, 0, none⟩ 1 1 [.slice (some ⟨w.heap.size + 1, 0, none⟩) 0 4096] (by simp [Act.eval]) rfl (by have := cell_one_new (((w.alloc (.cells #[.int .i32 a, .slice none 0 0] 74)).drewN (nq + 1)).alloc (.cells zs 74)) (.slice (some ⟨w.heap.size + 1, 0, none⟩) 0 4096) 98; simpa using this) (by simp [Value.oneCell']) (by unfold maxLen; omega) (by omega) (by simp; omega) ?_; intro v' w1 hown1 hgrow1 _; obtain ⟨g', cap', rfl⟩ := ownsRow_succ hown1; obtain ⟨d1, d2, hmid⟩ := Mid.full (o := 10) (EL := 74) (sz := 2) (vs := [.int .i32 a, .slice none 0 0]) (zs := zs) (k := nq + 1) hB hBw hCK hch hzsz (by unfold maxLen; omega) (by decide) rfl hown1 hgrow1; have d3 := d1 _ hc)
      all_goals go_wp2_with fail
      all_goals
        go_meet
        case rel => exact hmid
  case rest =>
    clear hcase hL hc hCK f0
    obtain ⟨gC, cap, chs, vL, hr, hch, hlast, hlr, hVr, hkept⟩ := hcut
    obtain ⟨c1, c2, c2a⟩ := Mid.facts (q := q') (xs := xs') (EL := 74) (sz := 2) (w := w) hr hol hch hlast
    have v0 : wc.cell? ⟨w.heap.size, 0, none⟩ = some (.int .i32 a) := hVr.cell rfl
    have v1 : wc.cell? ⟨w.heap.size, 1, none⟩ = some (.slice none 0 0) := hVr.cell rfl
    have hli : (m' : Int) < (m' : Int) + 1 := by omega
    have hz : B ≤ wc.heap.size := Nat.le_trans hBw hkept.size
    obtain ⟨i0, hi, hz0, hz1, hz2⟩ := info_parts Try.info74
    go_wp2_with fail
    go_quiet (fail)
    go_wp2_with fail
    go_region_law (refine step_append_own rfl (.tmp 60) (.tmp 62) 98 rfl B 74 i0 (.agg #[.int .i32 0, .slice none 0 0]) 2 32 Try.underlying98 hi hz0 hz1 hz2 rfl (by decide) vL q' xs' (by simp [Act.eval]) (hlr.alloc _) ⟨wc.heap.size, 0, none⟩ 1 1 [.int .i32 a, .slice none 0 0] (by simp [Act.eval]) rfl (cells_new _ _ _) (by simp [Value.oneCell']) (by unfold maxLen; omega) (by omega) (by exact Nat.le_trans hz (by simp)) ?_; intro v' w1 hown1 hgrow1 _; obtain ⟨g', cap', rfl⟩ := ownsRow_succ hown1; obtain ⟨d1, d2, hadd⟩ := Mid.tail hB hz (by decide) hr hch hlast hlr hkept hown1 hgrow1)
    all_goals
      go_end0
      exact ⟨rfl, hadd⟩
end Go.Proofs.Qxb6613322a
