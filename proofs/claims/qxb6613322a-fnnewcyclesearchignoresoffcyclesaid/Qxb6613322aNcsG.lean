/-
  newCycleSearch: the acquisitions on cycles are collected; then what follows.
-/
import Derived.RangeFuncNested
import Derived.RangeFuncBound
import Derived.RangeFuncCalls
import Derived.RangeFuncLeaves
import Derived.RangeFuncWrites
import Derived.RangeFuncBox
import Derived.Shelf.Abstract
import Derived.Shelf.RegionOpen
import Derived.WalkKit
import Derived.OwnWalkIn
import Derived.TacticsInMore
import Derived.LoopNIn
import Derived.LoopIn
import Derived.BigRegionIn
import Derived.Maps.AppendAt
import Derived.Test.Qxb6613322aAll
import Derived.Test.Qxb6613322aNcsF
namespace Go.Proofs.Qxb6613322a
open Go.RowKit Go.Shelf
set_option linter.unusedVariables false
attribute [local go_sem] Oper.semAt_some

theorem AcqH.mono {w : World} {B B' CK n hA : Nat} {T E : Nat → Int} {X : Nat → Bool} (h : AcqH w B CK n hA T E X) (hb : B ≤ B') : AcqH w B' CK n hA T E X := by
  obtain ⟨h0, h | ⟨h1, gA, cA, cH, a, b, c, d, e⟩⟩ := h
  · exact ⟨by omega, .inl h⟩
  · exact ⟨by omega, .inr ⟨h1, gA, cA, cH, a, by omega, by omega, d, e⟩⟩

def onC (T C : Nat → Int) (i : Nat) : Bool := decide (C (T i).toNat ≠ -1)
/-- those on cycles among the first that came -/
def onL {n : Nat} (T C : Nat → Int) (pre : List (Fin n)) : List Nat := (pre.map Fin.val).filter (onC T C)
theorem onL_hit {n : Nat} {T C : Nat → Int} (pre : List (Fin n)) {x : Fin n} (h : onC T C x.val = true) : onL T C (pre ++ [x]) = onL T C pre ++ [x.val] := by simp [onL, h]
theorem onL_miss {n : Nat} {T C : Nat → Int} (pre : List (Fin n)) {x : Fin n} (h : onC T C x.val = false) : onL T C (pre ++ [x]) = onL T C pre := by simp [onL, h]
theorem onL_all (T C : Nat → Int) (n : Nat) : onL T C (firsts n n) = (List.range n).filter (onC T C) := by
  unfold onL firsts
  rw [List.take_of_length_le (by simp)]
  congr 1
  apply List.ext_getElem
  · simp
  · intro i h1 h2; simp

set_option maxRecDepth 100000 in
set_option maxHeartbeats 2000000 in
theorem tail5 (CK bx bo n nt cC q hA n₀ count ne : Nat) (v0 : Value) (aC : Option Addr) (T E C : Nat → Int) (X : Nat → Bool) {u1 u3 u5 u6 u8 u9 u10 u11 u12 u14 u15 u16 u17 u18 u19 u20 u21 u22 u23 u24 u25 u26 u27 u28 u29 u30 u31 u32 u33 u34 u35 u36 u37 u38 u39 u40 u41 u42 u43 u44 u45 u46 u47 u48 u49 u50 u51 u52 u53 u54 u55 u56 u57 u58 u59 u60 u61 u62 u63 u64 u65 u66 u67 u68 u69 u70 u71 u72 u73 u74 u75 u76 u77 u78 u79 u80 u81 u82 u83 u84 u85 u86 u87 u88 u89 u90 u91 u92 u93 u94 u95 u96 u97 u98 u99 u100 u101 u102 u103 u104 u105 u106 u107 u108 u109 u110 u111 u112 u113 u114 u115 u116 u117 u118 u119 u120 u121 u122 u123 u124 u125 u126 u127 u128 u129 u130 u131 u132 u133 u134 u135 u136 u137 u138 u139 u140 u141 u142 u143 u144 u145 u146 u147 u148 u149 u150 u151 u152 u153 u154 u155 u156 u157 u158 u159 u160 u161 u162 u163 u164 u165 u166 u167 u168 u169 u170 u171 u172 u173 u174 u175 u176 u177 u178 u179 u180 u181 u182 u183 u184 u185 u186 u187 u188 u189 u190 u191 u192 u193 u194 u195 u196 u197 u198 u199 u200 u201 u202 u203 u204 u205 u206 u207 u208 u209 u210 u211 u212 u213 u214 u215 u216 u217 u218 u219 u220 u221 u222 u223 u224 u225 u226 u227 u228 u229 u230 u231 u232 u233 u234 u235 u236 u237 u238 u239 u240 u241 u242 u243 u244 u245 u246 u247 u248 u249 u250 u251 u252 u253 u254 : Value} (df : List Deferred) (G : Act → World → Prop) (w : World)
    (hn : n ≤ 4096) (hnt : nt ≤ 65536) (hq : q ≤ 65536) (hcount : count ≤ 65536) (hne : ne ≤ 65536) (hbo : Boxed w bo 22 v0) (hv0 : w.ownsRow n₀ 21 1 v0 0 []) (hnb : n₀ ≤ bo) (hB : n₀ ≤ w.heap.size) (hLc : ∀ i, i < n → onC T C i = true → 0 ≤ C (T i).toNat ∧ C (T i).toNat < count) (hE : ∀ i, i < n → 0 ≤ E i ∧ E i < ne) (hacq : AcqH w n₀ CK n hA T E X) (hent : EntR w n₀ CK ne)
    (hbx : w.cell? ⟨bx, 0, none⟩ = some (.slice aC nt cC)) (hbB : bx < n₀) (hC : IntRow w aC nt C) (hT : ∀ i, i < n → 0 ≤ T i ∧ T i < nt) (hCB : ∀ b off, aC = some ⟨b, off, none⟩ → b < n₀)
    (hQ : ∀ a w' D, w.heap.size ≤ D → a.defers = ⟨.collected D, #[]⟩ :: df → w'.heap[D]? = some (.deferred (some [])) → Out25 n₀ CK ((List.range n).filter (onC T C)).length n nt q (Srt25 T E C count ne ((List.range n).filter (onC T C))) T E C X w (a.tmps.getD 6 undef) w' → G a w') :
    Code.wp Try.prog (tail25 5) (RetOnly G) ⟨((.pointer (some ⟨CK, 0, none⟩)) :: u1 :: (.int .i64 (count : Int)) :: u3 :: (.pointer (some ⟨bx, 0, none⟩)) :: u5 :: u6 :: (.int .i64 (q : Int)) :: u8 :: u9 :: u10 :: u11 :: u12 :: (.pointer (some ⟨bo, 0, none⟩)) :: u14 :: u15 :: u16 :: u17 :: u18 :: u19 :: u20 :: u21 :: u22 :: u23 :: u24 :: u25 :: u26 :: u27 :: u28 :: u29 :: u30 :: u31 :: u32 :: u33 :: u34 :: u35 :: u36 :: u37 :: u38 :: u39 :: u40 :: u41 :: u42 :: u43 :: u44 :: u45 :: u46 :: u47 :: u48 :: u49 :: u50 :: u51 :: u52 :: u53 :: u54 :: u55 :: u56 :: u57 :: u58 :: u59 :: u60 :: u61 :: u62 :: u63 :: u64 :: u65 :: u66 :: u67 :: u68 :: u69 :: u70 :: u71 :: u72 :: u73 :: u74 :: u75 :: u76 :: u77 :: u78 :: u79 :: u80 :: u81 :: u82 :: u83 :: u84 :: u85 :: u86 :: u87 :: u88 :: u89 :: u90 :: u91 :: u92 :: u93 :: u94 :: u95 :: u96 :: u97 :: u98 :: u99 :: u100 :: u101 :: u102 :: u103 :: u104 :: u105 :: u106 :: u107 :: u108 :: u109 :: u110 :: u111 :: u112 :: u113 :: u114 :: u115 :: u116 :: u117 :: u118 :: u119 :: u120 :: u121 :: u122 :: u123 :: u124 :: u125 :: u126 :: u127 :: u128 :: u129 :: u130 :: u131 :: u132 :: u133 :: u134 :: u135 :: u136 :: u137 :: u138 :: u139 :: u140 :: u141 :: u142 :: u143 :: u144 :: u145 :: u146 :: u147 :: u148 :: u149 :: u150 :: u151 :: u152 :: u153 :: u154 :: u155 :: u156 :: u157 :: u158 :: u159 :: u160 :: u161 :: u162 :: u163 :: u164 :: u165 :: u166 :: u167 :: u168 :: u169 :: u170 :: u171 :: u172 :: u173 :: u174 :: u175 :: u176 :: u177 :: u178 :: u179 :: u180 :: u181 :: u182 :: u183 :: u184 :: u185 :: u186 :: u187 :: u188 :: u189 :: u190 :: u191 :: u192 :: u193 :: u194 :: u195 :: u196 :: u197 :: u198 :: u199 :: u200 :: u201 :: u202 :: u203 :: u204 :: u205 :: u206 :: u207 :: u208 :: u209 :: u210 :: u211 :: u212 :: u213 :: u214 :: u215 :: u216 :: u217 :: u218 :: u219 :: u220 :: u221 :: u222 :: u223 :: u224 :: u225 :: u226 :: u227 :: u228 :: u229 :: u230 :: u231 :: u232 :: u233 :: u234 :: u235 :: u236 :: u237 :: u238 :: u239 :: u240 :: u241 :: u242 :: u243 :: u244 :: u245 :: u246 :: u247 :: u248 :: u249 :: u250 :: u251 :: u252 :: u253 :: u254 :: []).toArray, df⟩ w := by
  obtain ⟨i0, hi, hz0, hz1, hz2⟩ := info_parts Try.info21
  conv => arg 2; whnf
  refine wp_seq_k (y := tail25 6) (fun K hK => ?_)
  go_wp2_with ((go_at_call 26; refine (all26 CK w).mono ?_; rintro e w' ⟨rfl, rfl⟩))
  have hB0 : Below w.heap.size w (w.alloc (.cells #[.pointer (some ⟨CK, 12, none⟩)] 91)) := (Below.refl _ w).alloc (Nat.le_refl _) _
  have bN := Boxed.new w 91 (.pointer (some ⟨CK, 12, none⟩))
  refine wpIn_wide.1 (wpIn_rangeFunc_ownG (n := 10) rfl (by omega) (gf := 34) (lb := #[.pointer (some ⟨w.heap.size, 0, none⟩)]) rfl trivial (enters_of Try.func34 (by kernel_rfl) rfl)
    (all_stops n hn CK hA n₀ w.heap.size 8 T E X _ (by simp) (by simp; omega) bN.cell (hacq.below (hB0.mono hB))) belowK_t (belowK_b (by simp; omega)) (Below.refl _ _) (fun _ => rfl)
    (fun pre W => (∃ v, Boxed W bo 22 v ∧ W.ownsRow n₀ 21 1 v (onL T C pre).length (idl (onL T C pre)) ∧ True) ∧ Below n₀ w W)
    (fun _ _ _ => False)
    (OwnFrom.and (Own.from (holdsRow_own n₀ bo 22 21 1 (fun pre => (onL T C pre).length) (fun pre => idl (onL T C pre)) (fun _ _ => True)) _) (ownFrom_below hB (by simp; omega)))
    (fun _ _ _ _ _ hs _ _ => hs)
    ⟨⟨v0, hbo.alloc _, hv0.alloc _, trivial⟩, hB0.mono hB⟩
    (fun x => ⟨((.pointer (some ⟨CK, 0, none⟩)) :: u1 :: (.int .i64 (count : Int)) :: u3 :: (.pointer (some ⟨bx, 0, none⟩)) :: u5 :: u6 :: (.int .i64 (q : Int)) :: u8 :: u9 :: u10 :: u11 :: u12 :: (.pointer (some ⟨bo, 0, none⟩)) :: (.int .i64 (x.val : Int)) :: (.pointer (some ⟨hA, x.val * 4, none⟩)) :: u16 :: u17 :: u18 :: u19 :: u20 :: u21 :: u22 :: u23 :: u24 :: u25 :: u26 :: u27 :: u28 :: u29 :: u30 :: u31 :: u32 :: u33 :: u34 :: u35 :: u36 :: u37 :: u38 :: u39 :: u40 :: u41 :: u42 :: u43 :: u44 :: u45 :: u46 :: u47 :: u48 :: u49 :: u50 :: u51 :: u52 :: u53 :: u54 :: u55 :: u56 :: u57 :: u58 :: (.pointer (some ⟨CK, 0, none⟩)) :: (.pointer (some ⟨CK, 0, none⟩)) :: (.pointer (some ⟨CK, 12, none⟩)) :: (.func (.func 34) #[] #[.pointer (some ⟨w.heap.size, 0, none⟩)]) :: (.int .i64 (x.val : Int)) :: (.pointer (some ⟨hA, x.val * 4, none⟩)) :: u65 :: u66 :: u67 :: u68 :: u69 :: u70 :: u71 :: u72 :: u73 :: u74 :: u75 :: u76 :: u77 :: u78 :: u79 :: u80 :: u81 :: u82 :: u83 :: u84 :: u85 :: u86 :: u87 :: u88 :: u89 :: u90 :: u91 :: u92 :: u93 :: u94 :: u95 :: u96 :: u97 :: u98 :: u99 :: u100 :: u101 :: u102 :: u103 :: u104 :: u105 :: u106 :: u107 :: u108 :: u109 :: u110 :: u111 :: u112 :: u113 :: u114 :: u115 :: u116 :: u117 :: u118 :: u119 :: u120 :: u121 :: u122 :: u123 :: u124 :: u125 :: u126 :: u127 :: u128 :: u129 :: u130 :: u131 :: u132 :: u133 :: u134 :: u135 :: u136 :: u137 :: u138 :: u139 :: u140 :: u141 :: u142 :: u143 :: u144 :: u145 :: u146 :: u147 :: u148 :: u149 :: u150 :: u151 :: u152 :: u153 :: u154 :: u155 :: u156 :: u157 :: u158 :: u159 :: u160 :: u161 :: u162 :: u163 :: u164 :: u165 :: u166 :: u167 :: u168 :: u169 :: u170 :: u171 :: u172 :: u173 :: u174 :: u175 :: u176 :: u177 :: u178 :: u179 :: u180 :: u181 :: u182 :: u183 :: u184 :: u185 :: u186 :: u187 :: u188 :: u189 :: u190 :: u191 :: u192 :: u193 :: u194 :: u195 :: u196 :: u197 :: u198 :: u199 :: u200 :: u201 :: u202 :: u203 :: u204 :: u205 :: u206 :: u207 :: u208 :: u209 :: u210 :: u211 :: u212 :: u213 :: u214 :: u215 :: u216 :: u217 :: u218 :: u219 :: u220 :: u221 :: u222 :: u223 :: u224 :: u225 :: u226 :: u227 :: u228 :: u229 :: u230 :: u231 :: u232 :: u233 :: u234 :: u235 :: u236 :: u237 :: u238 :: u239 :: u240 :: u241 :: u242 :: u243 :: u244 :: u245 :: u246 :: u247 :: u248 :: u249 :: u250 :: u251 :: u252 :: u253 :: u254 :: []).toArray, []⟩) ?assign ?body ?done ?stop)
  case assign =>
    intro l x W K hK
    simp only [encA]
    gi_wp2
    exact hK
  case body =>
    rintro l pre x W ⟨⟨v, hv, hrow, _⟩, hBW⟩ hlt
    have hxn := x.isLt
    have hc := hv.cell
    obtain ⟨cT, cE, _⟩ := (hacq.below hBW).cells hxn
    have hbx' := (hBW.cell (p := ⟨bx, 0, none⟩) hbB).trans hbx
    obtain ⟨ht0, ht1⟩ := hT _ hxn
    obtain ⟨b1, o1, rfl, c1, _⟩ := (hC.belowB hCB hBW) (T x.val).toNat (by omega)
    have hpl : (onL T C pre).length ≤ pre.length := by
      refine Nat.le_trans (List.length_filter_le _ _) (by simp)
    by_cases hon : C (T x.val).toNat = -1
    · have HM : Hid (onL T C (pre ++ [x]) = onL T C pre) := onL_miss pre (by simp [onC, hon])
      rw [hon] at c1
      clear hon
      gi_wp2
      gi_region
      all_goals (
        gi_wp2
        exact ⟨(KeepsOthers.drew W).from _, (Below.refl _ _).drew, ⟨v, hv, by rw [HM.out]; exact hrow, trivial⟩, hBW.drew⟩)
    · have HM : Hid (onL T C (pre ++ [x]) = onL T C pre ++ [x.val]) := onL_hit pre (by simp [onC, hon])
      have hon1 : (C (T x.val).toNat == -1) = false := by simp [hon]
      have hxi : (x.val : Int) < 4096 := by omega
      gi_wp2
      gi_region
      all_goals (
        have hvd : Boxed W.drew bo 22 v := hv
        have hrowd : W.drew.ownsRow n₀ 21 1 v (onL T C pre).length (idl (onL T C pre)) := hrow
        have hcd := hvd.cell
        have hbd : Below n₀ w W.drew := hBW.drew
        have hkd := KeepsOthers.drew W
        have hb0d : Below n₀ W W.drew := (Below.refl _ _).drew
        clear hv hrow hc hBW cT cE hbx' c1
        generalize W.drew = Wd at *
        gi_wp2_with (gi_at_builtin; refine wpListIn_append_own _ rfl _ _ 22 rfl n₀ 21 i0 (.int .i32 0) 1 4 Try.underlying22 hi hz0 hz1 hz2 rfl (by decide) _ _ _ rfl (hrowd.alloc _) ⟨Wd.heap.size, 0, none⟩ 1 1 [.int .i32 (x.val : Int)] rfl rfl (cell_one_new _ _ _) (by simp [Value.oneCell']) (by unfold maxLen; omega) (by omega) (by have := hbd.size; simp; omega) ?_; intro v' w1 hown' hgrow _; obtain ⟨g', cap', rfl⟩ := ownsRow_succ hown'; obtain ⟨hv1, hv2, hr2, hk2, hb2⟩ := hvd.appended (by decide) hrowd (Nat.le_trans hB hbd.size) hnb hown' hgrow; have hc1 := hv1.cell; have hf1 := hv1.frozen)
        refine ⟨(hkd.trans hk2).from _, hb0d.trans hb2, ⟨_, hv2, ?_, trivial⟩, hbd.trans hb2⟩
        rw [HM.out, List.length_append]
        simpa [idl] using hr2)
  case done =>
    rintro D ys W hD rfl ⟨⟨v, hv, hrow, _⟩, hBW⟩ hKD
    have hc := hv.cell
    rw [onL_all] at hrow
    have hsz : w.heap.size + 1 ≤ D := by simpa using hD
    obtain ⟨aO, cO, rfl, hids⟩ : ∃ aO cO, v = .slice aO ((List.range n).filter (onC T C)).length cO ∧ IdRow W aO ((List.range n).filter (onC T C)) := by
      rcases hrow.2 with ⟨rfl, h0⟩ | ⟨g, cap, cur, rfl, hb, hh, hcp, _⟩
      · exact ⟨none, 0, by rw [h0], fun j hj => absurd hj (by omega)⟩
      · refine ⟨_, _, rfl, fun j hj => ⟨g, 0, rfl, ?_⟩⟩
        rw [Nat.zero_add, hrow.cellAt j (by omega)]
        simp [idl, hj]
    have hlen : ((List.range n).filter (onC T C)).length ≤ 4096 := Nat.le_trans (List.length_filter_le _ _) (by simpa using hn)
    have hmem : ∀ i ∈ (List.range n).filter (onC T C), i < n ∧ onC T C i = true := fun i hi => ⟨List.mem_range.1 (List.mem_filter.1 hi).1, (List.mem_filter.1 hi).2⟩
    have hacqW := (hacq.below hBW).mono (Nat.le_trans hB hBW.size)
    have hentW := (hent.below hBW).mono (Nat.le_trans hB hBW.size)
    have hbxW := (hBW.cell (p := ⟨bx, 0, none⟩) hbB).trans hbx
    have hCW := hC.belowB hCB hBW
    have hszW := hBW.size
    go_wp2_with fail
    refine tail6 CK bx bo _ n nt cC cO q hA W.heap.size count ne aC aO ((List.range n).filter (onC T C)) T E C X _ G W hn hnt hq hcount hne rfl hlen hc hids (fun i hi => (hmem i hi).1) (fun i hi => hLc i (hmem i hi).1 (hmem i hi).2) hE hacqW hentW (Nat.le_refl _) hbxW (by omega) hCW hT (fun b off e => by have := hCB b off e; omega) ?_
    intro a2 w2 hd2 hout
    obtain ⟨SB, gL, gP, gD, gR, gQ, h6, hfin⟩ := hout
    have hDW : D < W.heap.size := (Array.getElem?_eq_some_iff.1 hKD).1
    refine hQ a2 w2 D (by omega) hd2 ((hfin.below.block D hDW).trans hKD) ⟨SB, gL, gP, gD, gR, gQ, h6, hfin.row, hfin.grps, hfin.rL, hfin.rP, hfin.rD, hfin.rR, hBW.trans (hfin.below.mono (Nat.le_trans hB hszW))⟩
  case stop =>
    rintro D c pre W _ _ h _
    exact h.elim
end Go.Proofs.Qxb6613322a

