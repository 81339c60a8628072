/-
  newCycleSearch: the acquisitions on cycles are counted; then what follows.
-/
import Derived.Test.Qxb6613322aNcsG
namespace Go.Proofs.Qxb6613322a
open Go.RowKit Go.Shelf
set_option linter.unusedVariables false
attribute [local go_sem] Oper.semAt_some

set_option maxRecDepth 100000 in
set_option maxHeartbeats 2000000 in
theorem tail4 (CK bx bk k n nt cC q hA B count ne : Nat) (aC : Option Addr) (T E C : Nat → Int) (X : Nat → Bool) {u1 u3 u5 u6 u9 u10 u11 u12 u13 u14 u15 u16 u17 u18 u19 u20 u21 u22 u23 u24 u25 u26 u27 u28 u29 u30 u31 u32 u33 u34 u35 u36 u37 u38 u39 u40 u41 u42 u43 u44 u45 u46 u47 u48 u49 u50 u51 u52 u53 u54 u55 u56 u57 u58 u59 u60 u61 u62 u63 u64 u65 u66 u67 u68 u69 u70 u71 u72 u73 u74 u75 u76 u77 u78 u79 u80 u81 u82 u83 u84 u85 u86 u87 u88 u89 u90 u91 u92 u93 u94 u95 u96 u97 u98 u99 u100 u101 u102 u103 u104 u105 u106 u107 u108 u109 u110 u111 u112 u113 u114 u115 u116 u117 u118 u119 u120 u121 u122 u123 u124 u125 u126 u127 u128 u129 u130 u131 u132 u133 u134 u135 u136 u137 u138 u139 u140 u141 u142 u143 u144 u145 u146 u147 u148 u149 u150 u151 u152 u153 u154 u155 u156 u157 u158 u159 u160 u161 u162 u163 u164 u165 u166 u167 u168 u169 u170 u171 u172 u173 u174 u175 u176 u177 u178 u179 u180 u181 u182 u183 u184 u185 u186 u187 u188 u189 u190 u191 u192 u193 u194 u195 u196 u197 u198 u199 u200 u201 u202 u203 u204 u205 u206 u207 u208 u209 u210 u211 u212 u213 u214 u215 u216 u217 u218 u219 u220 u221 u222 u223 u224 u225 u226 u227 u228 u229 u230 u231 u232 u233 u234 u235 u236 u237 u238 u239 u240 u241 u242 u243 u244 u245 u246 u247 u248 u249 u250 u251 u252 u253 u254 : Value} (df : List Deferred) (G : Act → World → Prop) (w : World)
    (hn : n ≤ 4096) (hnt : nt ≤ 65536) (hq : q ≤ 65536) (hcount : count ≤ 65536) (hne : ne ≤ 65536) (hk : k ≤ 4096) (hbk : Boxed w bk 3 (.int .i64 (k : Int))) (hLc : ∀ i, i < n → onC T C i = true → 0 ≤ C (T i).toNat ∧ C (T i).toNat < count) (hE : ∀ i, i < n → 0 ≤ E i ∧ E i < ne) (hacq : AcqH w B CK n hA T E X) (hent : EntR w B CK ne) (hB : B ≤ w.heap.size)
    (hbx : w.cell? ⟨bx, 0, none⟩ = some (.slice aC nt cC)) (hbB : bx < B) (hC : IntRow w aC nt C) (hT : ∀ i, i < n → 0 ≤ T i ∧ T i < nt) (hCB : ∀ b off, aC = some ⟨b, off, none⟩ → b < B)
    (hQ : ∀ a w' D, w.heap.size ≤ D → a.defers = ⟨.collected D, #[]⟩ :: df → w'.heap[D]? = some (.deferred (some [])) → Out25 w.heap.size CK ((List.range n).filter (onC T C)).length n nt q (Srt25 T E C count ne ((List.range n).filter (onC T C))) T E C X w (a.tmps.getD 6 undef) w' → G a w') :
    Code.wp Try.prog (tail25 4) (RetOnly G) ⟨((.pointer (some ⟨CK, 0, none⟩)) :: u1 :: (.int .i64 (count : Int)) :: u3 :: (.pointer (some ⟨bx, 0, none⟩)) :: u5 :: u6 :: (.int .i64 (q : Int)) :: (.pointer (some ⟨bk, 0, none⟩)) :: u9 :: u10 :: u11 :: u12 :: u13 :: u14 :: u15 :: u16 :: u17 :: u18 :: u19 :: u20 :: u21 :: u22 :: u23 :: u24 :: u25 :: u26 :: u27 :: u28 :: u29 :: u30 :: u31 :: u32 :: u33 :: u34 :: u35 :: u36 :: u37 :: u38 :: u39 :: u40 :: u41 :: u42 :: u43 :: u44 :: u45 :: u46 :: u47 :: u48 :: u49 :: u50 :: u51 :: u52 :: u53 :: u54 :: u55 :: u56 :: u57 :: u58 :: u59 :: u60 :: u61 :: u62 :: u63 :: u64 :: u65 :: u66 :: u67 :: u68 :: u69 :: u70 :: u71 :: u72 :: u73 :: u74 :: u75 :: u76 :: u77 :: u78 :: u79 :: u80 :: u81 :: u82 :: u83 :: u84 :: u85 :: u86 :: u87 :: u88 :: u89 :: u90 :: u91 :: u92 :: u93 :: u94 :: u95 :: u96 :: u97 :: u98 :: u99 :: u100 :: u101 :: u102 :: u103 :: u104 :: u105 :: u106 :: u107 :: u108 :: u109 :: u110 :: u111 :: u112 :: u113 :: u114 :: u115 :: u116 :: u117 :: u118 :: u119 :: u120 :: u121 :: u122 :: u123 :: u124 :: u125 :: u126 :: u127 :: u128 :: u129 :: u130 :: u131 :: u132 :: u133 :: u134 :: u135 :: u136 :: u137 :: u138 :: u139 :: u140 :: u141 :: u142 :: u143 :: u144 :: u145 :: u146 :: u147 :: u148 :: u149 :: u150 :: u151 :: u152 :: u153 :: u154 :: u155 :: u156 :: u157 :: u158 :: u159 :: u160 :: u161 :: u162 :: u163 :: u164 :: u165 :: u166 :: u167 :: u168 :: u169 :: u170 :: u171 :: u172 :: u173 :: u174 :: u175 :: u176 :: u177 :: u178 :: u179 :: u180 :: u181 :: u182 :: u183 :: u184 :: u185 :: u186 :: u187 :: u188 :: u189 :: u190 :: u191 :: u192 :: u193 :: u194 :: u195 :: u196 :: u197 :: u198 :: u199 :: u200 :: u201 :: u202 :: u203 :: u204 :: u205 :: u206 :: u207 :: u208 :: u209 :: u210 :: u211 :: u212 :: u213 :: u214 :: u215 :: u216 :: u217 :: u218 :: u219 :: u220 :: u221 :: u222 :: u223 :: u224 :: u225 :: u226 :: u227 :: u228 :: u229 :: u230 :: u231 :: u232 :: u233 :: u234 :: u235 :: u236 :: u237 :: u238 :: u239 :: u240 :: u241 :: u242 :: u243 :: u244 :: u245 :: u246 :: u247 :: u248 :: u249 :: u250 :: u251 :: u252 :: u253 :: u254 :: []).toArray, df⟩ w := by
  have hc := hbk.cell
  have hmk := mk22q k (by omega)
  obtain ⟨W2, hW2⟩ : ∃ W2, W2 = (w.alloc (.cells (i32s (fun _ => 0) k).toArray 21)).alloc (.cells #[.slice (some ⟨w.heap.size, 0, none⟩) 0 k] 22) := ⟨_, rfl⟩
  have hb2 : Below w.heap.size w W2 := by rw [hW2]; exact ((Below.refl _ _).alloc (Nat.le_refl _) _).alloc (by simp) _
  have hbo : Boxed W2 (w.heap.size + 1) 22 (.slice (some ⟨w.heap.size, 0, none⟩) 0 k) := by
    rw [hW2]
    have h := Boxed.new (w.alloc (.cells (i32s (fun _ => 0) k).toArray 21)) 22 (.slice (some ⟨w.heap.size, 0, none⟩) 0 k)
    rw [World.size_alloc] at h
    exact h
  have hv0 : W2.ownsRow w.heap.size 21 1 (.slice (some ⟨w.heap.size, 0, none⟩) 0 k) 0 [] := by
    rw [hW2]
    exact (World.ownsRow_made (base := w.heap.size) (e := 21) (size := 1) w (i32s (fun _ => 0) k).toArray k (Nat.le_refl _) (by unfold maxLen; omega) (by simp [i32s_length])).alloc _
  conv => arg 2; whnf
  refine wp_seq_k (y := tail25 5) (fun K hK => ?_)
  go_wp2_with fail
  rw [← hW2]
  have hs2 : W2.heap.size = w.heap.size + 1 + 1 := by rw [hW2]; simp
  clear hW2
  have hb2' : Below B w W2 := hb2.mono hB
  refine tail5 CK bx (w.heap.size + 1) n nt cC q hA w.heap.size count ne _ aC T E C X df G W2 hn hnt hq hcount hne hbo hv0 (by omega) (by omega) hLc hE ((hacq.below hb2').mono hB) ((hent.below hb2').mono hB) ((hb2'.cell (p := ⟨bx, 0, none⟩) hbB).trans hbx) (by omega) (hC.belowB hCB hb2') hT (fun b off e => by have := hCB b off e; omega) ?_
  intro a2 w2 D hD hd2 hKD hout
  obtain ⟨SB, gL, gP, gD, gR, gQ, h6, hfin⟩ := hout
  exact hQ a2 w2 D (by omega) hd2 hKD ⟨SB, gL, gP, gD, gR, gQ, h6, hfin.row, hfin.grps, hfin.rL, hfin.rP, hfin.rD, hfin.rR, hb2.trans hfin.below⟩

set_option maxRecDepth 100000 in
set_option maxHeartbeats 2000000 in
theorem tail3 (CK bx bk n nt cC q hA B count ne : Nat) (aC : Option Addr) (T E C : Nat → Int) (X : Nat → Bool) {u1 u3 u5 u6 u9 u10 u11 u12 u13 u14 u15 u16 u17 u18 u19 u20 u21 u22 u23 u24 u25 u26 u27 u28 u29 u30 u31 u32 u33 u34 u35 u36 u37 u38 u39 u40 u41 u42 u43 u44 u45 u46 u47 u48 u49 u50 u51 u52 u53 u54 u55 u56 u57 u58 u59 u60 u61 u62 u63 u64 u65 u66 u67 u68 u69 u70 u71 u72 u73 u74 u75 u76 u77 u78 u79 u80 u81 u82 u83 u84 u85 u86 u87 u88 u89 u90 u91 u92 u93 u94 u95 u96 u97 u98 u99 u100 u101 u102 u103 u104 u105 u106 u107 u108 u109 u110 u111 u112 u113 u114 u115 u116 u117 u118 u119 u120 u121 u122 u123 u124 u125 u126 u127 u128 u129 u130 u131 u132 u133 u134 u135 u136 u137 u138 u139 u140 u141 u142 u143 u144 u145 u146 u147 u148 u149 u150 u151 u152 u153 u154 u155 u156 u157 u158 u159 u160 u161 u162 u163 u164 u165 u166 u167 u168 u169 u170 u171 u172 u173 u174 u175 u176 u177 u178 u179 u180 u181 u182 u183 u184 u185 u186 u187 u188 u189 u190 u191 u192 u193 u194 u195 u196 u197 u198 u199 u200 u201 u202 u203 u204 u205 u206 u207 u208 u209 u210 u211 u212 u213 u214 u215 u216 u217 u218 u219 u220 u221 u222 u223 u224 u225 u226 u227 u228 u229 u230 u231 u232 u233 u234 u235 u236 u237 u238 u239 u240 u241 u242 u243 u244 u245 u246 u247 u248 u249 u250 u251 u252 u253 u254 : Value} (df : List Deferred) (G : Act → World → Prop) (w : World)
    (hn : n ≤ 4096) (hnt : nt ≤ 65536) (hq : q ≤ 65536) (hcount : count ≤ 65536) (hne : ne ≤ 65536) (hbk : Boxed w bk 3 (.int .i64 0)) (hBk : B ≤ bk) (hLc : ∀ i, i < n → onC T C i = true → 0 ≤ C (T i).toNat ∧ C (T i).toNat < count) (hE : ∀ i, i < n → 0 ≤ E i ∧ E i < ne) (hacq : AcqH w B CK n hA T E X) (hent : EntR w B CK ne) (hB : B ≤ w.heap.size)
    (hbx : w.cell? ⟨bx, 0, none⟩ = some (.slice aC nt cC)) (hbB : bx < B) (hC : IntRow w aC nt C) (hT : ∀ i, i < n → 0 ≤ T i ∧ T i < nt) (hCB : ∀ b off, aC = some ⟨b, off, none⟩ → b < B)
    (hQ : ∀ a w' D D', w.heap.size ≤ D → D < D' → a.defers = ⟨.collected D', #[]⟩ :: ⟨.collected D, #[]⟩ :: df → w'.heap[D]? = some (.deferred (some [])) → w'.heap[D']? = some (.deferred (some [])) → Out25 B CK ((List.range n).filter (onC T C)).length n nt q (Srt25 T E C count ne ((List.range n).filter (onC T C))) T E C X w (a.tmps.getD 6 undef) w' → G a w') :
    Code.wp Try.prog (tail25 3) (RetOnly G) ⟨((.pointer (some ⟨CK, 0, none⟩)) :: u1 :: (.int .i64 (count : Int)) :: u3 :: (.pointer (some ⟨bx, 0, none⟩)) :: u5 :: u6 :: (.int .i64 (q : Int)) :: (.pointer (some ⟨bk, 0, none⟩)) :: u9 :: u10 :: u11 :: u12 :: u13 :: u14 :: u15 :: u16 :: u17 :: u18 :: u19 :: u20 :: u21 :: u22 :: u23 :: u24 :: u25 :: u26 :: u27 :: u28 :: u29 :: u30 :: u31 :: u32 :: u33 :: u34 :: u35 :: u36 :: u37 :: u38 :: u39 :: u40 :: u41 :: u42 :: u43 :: u44 :: u45 :: u46 :: u47 :: u48 :: u49 :: u50 :: u51 :: u52 :: u53 :: u54 :: u55 :: u56 :: u57 :: u58 :: u59 :: u60 :: u61 :: u62 :: u63 :: u64 :: u65 :: u66 :: u67 :: u68 :: u69 :: u70 :: u71 :: u72 :: u73 :: u74 :: u75 :: u76 :: u77 :: u78 :: u79 :: u80 :: u81 :: u82 :: u83 :: u84 :: u85 :: u86 :: u87 :: u88 :: u89 :: u90 :: u91 :: u92 :: u93 :: u94 :: u95 :: u96 :: u97 :: u98 :: u99 :: u100 :: u101 :: u102 :: u103 :: u104 :: u105 :: u106 :: u107 :: u108 :: u109 :: u110 :: u111 :: u112 :: u113 :: u114 :: u115 :: u116 :: u117 :: u118 :: u119 :: u120 :: u121 :: u122 :: u123 :: u124 :: u125 :: u126 :: u127 :: u128 :: u129 :: u130 :: u131 :: u132 :: u133 :: u134 :: u135 :: u136 :: u137 :: u138 :: u139 :: u140 :: u141 :: u142 :: u143 :: u144 :: u145 :: u146 :: u147 :: u148 :: u149 :: u150 :: u151 :: u152 :: u153 :: u154 :: u155 :: u156 :: u157 :: u158 :: u159 :: u160 :: u161 :: u162 :: u163 :: u164 :: u165 :: u166 :: u167 :: u168 :: u169 :: u170 :: u171 :: u172 :: u173 :: u174 :: u175 :: u176 :: u177 :: u178 :: u179 :: u180 :: u181 :: u182 :: u183 :: u184 :: u185 :: u186 :: u187 :: u188 :: u189 :: u190 :: u191 :: u192 :: u193 :: u194 :: u195 :: u196 :: u197 :: u198 :: u199 :: u200 :: u201 :: u202 :: u203 :: u204 :: u205 :: u206 :: u207 :: u208 :: u209 :: u210 :: u211 :: u212 :: u213 :: u214 :: u215 :: u216 :: u217 :: u218 :: u219 :: u220 :: u221 :: u222 :: u223 :: u224 :: u225 :: u226 :: u227 :: u228 :: u229 :: u230 :: u231 :: u232 :: u233 :: u234 :: u235 :: u236 :: u237 :: u238 :: u239 :: u240 :: u241 :: u242 :: u243 :: u244 :: u245 :: u246 :: u247 :: u248 :: u249 :: u250 :: u251 :: u252 :: u253 :: u254 :: []).toArray, df⟩ w := by
  conv => arg 2; whnf
  refine wp_seq_k (y := tail25 4) (fun K hK => ?_)
  go_wp2_with ((go_at_call 26; refine (all26 CK w).mono ?_; rintro e w' ⟨rfl, rfl⟩))
  have hB0 : Below w.heap.size w (w.alloc (.cells #[.pointer (some ⟨CK, 12, none⟩)] 91)) := (Below.refl _ w).alloc (Nat.le_refl _) _
  have bN := Boxed.new w 91 (.pointer (some ⟨CK, 12, none⟩))
  refine wpIn_wide.1 (wpIn_rangeFunc_ownG (n := 10) rfl (by omega) (gf := 34) (lb := #[.pointer (some ⟨w.heap.size, 0, none⟩)]) rfl trivial (enters_of Try.func34 (by kernel_rfl) rfl)
    (all_stops n hn CK hA B w.heap.size 8 T E X _ (by simp) (by simp; omega) bN.cell (hacq.below (hB0.mono hB))) belowK_t (belowK_b (by simp; omega)) (Below.refl _ _) (fun _ => rfl)
    (fun pre W => Boxed W bk 3 (.int .i64 ((onL T C pre).length : Int)) ∧ Below B w W)
    (fun _ _ _ => False)
    (OwnFrom.and (Own.from (boxed_own bk 3 (fun pre => .int .i64 ((onL T C pre).length : Int))) _) (ownFrom_below hB (by simp; omega)))
    (fun _ _ _ _ _ hs _ _ => hs)
    ⟨hbk.alloc _, hB0.mono hB⟩
    (fun x => ⟨((.pointer (some ⟨CK, 0, none⟩)) :: u1 :: (.int .i64 (count : Int)) :: u3 :: (.pointer (some ⟨bx, 0, none⟩)) :: u5 :: u6 :: (.int .i64 (q : Int)) :: (.pointer (some ⟨bk, 0, none⟩)) :: u9 :: u10 :: u11 :: (.pointer (some ⟨hA, x.val * 4, none⟩)) :: u13 :: u14 :: u15 :: u16 :: u17 :: u18 :: u19 :: u20 :: u21 :: u22 :: u23 :: u24 :: u25 :: u26 :: u27 :: u28 :: u29 :: u30 :: u31 :: u32 :: u33 :: u34 :: u35 :: u36 :: u37 :: u38 :: u39 :: (.pointer (some ⟨CK, 0, none⟩)) :: (.pointer (some ⟨CK, 0, none⟩)) :: (.pointer (some ⟨CK, 12, none⟩)) :: (.func (.func 34) #[] #[.pointer (some ⟨w.heap.size, 0, none⟩)]) :: (.int .i64 (x.val : Int)) :: (.pointer (some ⟨hA, x.val * 4, none⟩)) :: u46 :: u47 :: u48 :: u49 :: u50 :: u51 :: u52 :: u53 :: u54 :: u55 :: u56 :: u57 :: u58 :: u59 :: u60 :: u61 :: u62 :: u63 :: u64 :: u65 :: u66 :: u67 :: u68 :: u69 :: u70 :: u71 :: u72 :: u73 :: u74 :: u75 :: u76 :: u77 :: u78 :: u79 :: u80 :: u81 :: u82 :: u83 :: u84 :: u85 :: u86 :: u87 :: u88 :: u89 :: u90 :: u91 :: u92 :: u93 :: u94 :: u95 :: u96 :: u97 :: u98 :: u99 :: u100 :: u101 :: u102 :: u103 :: u104 :: u105 :: u106 :: u107 :: u108 :: u109 :: u110 :: u111 :: u112 :: u113 :: u114 :: u115 :: u116 :: u117 :: u118 :: u119 :: u120 :: u121 :: u122 :: u123 :: u124 :: u125 :: u126 :: u127 :: u128 :: u129 :: u130 :: u131 :: u132 :: u133 :: u134 :: u135 :: u136 :: u137 :: u138 :: u139 :: u140 :: u141 :: u142 :: u143 :: u144 :: u145 :: u146 :: u147 :: u148 :: u149 :: u150 :: u151 :: u152 :: u153 :: u154 :: u155 :: u156 :: u157 :: u158 :: u159 :: u160 :: u161 :: u162 :: u163 :: u164 :: u165 :: u166 :: u167 :: u168 :: u169 :: u170 :: u171 :: u172 :: u173 :: u174 :: u175 :: u176 :: u177 :: u178 :: u179 :: u180 :: u181 :: u182 :: u183 :: u184 :: u185 :: u186 :: u187 :: u188 :: u189 :: u190 :: u191 :: u192 :: u193 :: u194 :: u195 :: u196 :: u197 :: u198 :: u199 :: u200 :: u201 :: u202 :: u203 :: u204 :: u205 :: u206 :: u207 :: u208 :: u209 :: u210 :: u211 :: u212 :: u213 :: u214 :: u215 :: u216 :: u217 :: u218 :: u219 :: u220 :: u221 :: u222 :: u223 :: u224 :: u225 :: u226 :: u227 :: u228 :: u229 :: u230 :: u231 :: u232 :: u233 :: u234 :: u235 :: u236 :: u237 :: u238 :: u239 :: u240 :: u241 :: u242 :: u243 :: u244 :: u245 :: u246 :: u247 :: u248 :: u249 :: u250 :: u251 :: u252 :: u253 :: u254 :: []).toArray, []⟩) ?assign ?body ?done ?stop)
  case assign =>
    intro l x W K hK
    simp only [encA]
    gi_wp2
    exact hK
  case body =>
    rintro l pre x W ⟨hv, hBW⟩ hlt
    have hxn := x.isLt
    obtain ⟨cT, cE, _⟩ := (hacq.below hBW).cells hxn
    have hbx' := (hBW.cell (p := ⟨bx, 0, none⟩) hbB).trans hbx
    obtain ⟨ht0, ht1⟩ := hT _ hxn
    obtain ⟨b1, o1, rfl, c1, _⟩ := (hC.belowB hCB hBW) (T x.val).toNat (by omega)
    have hpl : (onL T C pre).length ≤ pre.length := by
      refine Nat.le_trans (List.length_filter_le _ _) (by simp)
    by_cases hon : C (T x.val).toNat = -1
    · have HM : Hid (onL T C (pre ++ [x]) = onL T C pre) := onL_miss pre (by simp [onC, hon])
      rw [hon] at c1
      clear hon
      gi_wp2
      gi_region
      all_goals (
        gi_wp2
        exact ⟨(KeepsOthers.drew W).from _, (Below.refl _ _).drew, by rw [HM.out]; exact hv, hBW.drew⟩)
    · have HM : Hid (onL T C (pre ++ [x]) = onL T C pre ++ [x.val]) := onL_hit pre (by simp [onC, hon])
      have hon1 : (C (T x.val).toNat == -1) = false := by simp [hon]
      have hvd : Boxed W.drew bk 3 (.int .i64 ((onL T C pre).length : Int)) := hv
      have hcd := hvd.cell
      have hfd := hvd.frozen
      have hset := hvd.set (.int .i64 (((onL T C pre).length : Int) + 1))
      have HS : Hid (Boxed (W.drew.setCell ⟨bk, 0, none⟩ (.int .i64 (((onL T C pre).length : Int) + 1))) bk 3 (.int .i64 (((onL T C (pre ++ [x])).length : Nat) : Int))) := by
        show Boxed _ _ _ _
        rw [HM.out, List.length_append]
        exact hset
      generalize (onL T C pre).length = kk at *
      have hk4 : kk ≤ 4096 := by omega
      gi_wp2
      gi_region
      all_goals (
        gi_wp2
        exact ⟨((KeepsOthers.drew W).trans (KeepsOthers.setCell _ _ _)).from _, ((Below.refl B W).drew).setCell (p := ⟨bk, 0, none⟩) hBk _, HS.out, (hBW.drew).setCell (p := ⟨bk, 0, none⟩) hBk _⟩)
  case done =>
    rintro D ys W hD rfl ⟨hv, hBW⟩ hKD
    rw [onL_all] at hv
    have hsz : w.heap.size + 1 ≤ D := by simpa using hD
    have hlen : ((List.range n).filter (onC T C)).length ≤ 4096 := Nat.le_trans (List.length_filter_le _ _) (by simpa using hn)
    have hDW : D < W.heap.size := (Array.getElem?_eq_some_iff.1 hKD).1
    have hszW := hBW.size
    go_wp2_with fail
    refine tail4 CK bx bk _ n nt cC q hA B count ne aC T E C X _ G W hn hnt hq hcount hne hlen hv hLc hE (hacq.below hBW) (hent.below hBW) (by omega) ((hBW.cell (p := ⟨bx, 0, none⟩) hbB).trans hbx) hbB (hC.belowB hCB hBW) hT hCB ?_
    intro a2 w2 D2 hD2 hd2 hKD2 hout
    obtain ⟨SB, gL, gP, gD, gR, gQ, h6, hfin⟩ := hout
    exact hQ a2 w2 D D2 (by omega) (by omega) hd2 ((hfin.below.block D hDW).trans hKD) hKD2 ⟨SB, gL, gP, gD, gR, gQ, h6, hfin.row, hfin.grps, hfin.rL, hfin.rP, hfin.rD, hfin.rR, hBW.trans (hfin.below.mono (Nat.le_trans hB hszW))⟩
  case stop =>
    rintro D c pre W _ _ h _
    exact h.elim
end Go.Proofs.Qxb6613322a

