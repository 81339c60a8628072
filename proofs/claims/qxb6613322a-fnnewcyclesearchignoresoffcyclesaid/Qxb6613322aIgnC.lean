/-
  FnNewCycleSearchIgnoresOffCycle: the count, the shorter schedule; then what follows.
-/
import Derived.Deep.DeepCutAuto
import Derived.Deep.CutRange
import Derived.Maps.AppendAt
import Derived.Test.Qxb6613322aIgnB
namespace Go.Proofs.Qxb6613322a
open Go.RowKit
set_option linter.unusedVariables false

set_option maxRecDepth 100000 in
set_option maxHeartbeats 1000000 in
theorem k16 (aT aE aX aC : Option Addr) (n nt m cT cE cX cC count ne : Nat) (T E C : Nat → Int) (X : Nat → Bool) (v21 v22 v23 v24 v25 v26 v27 v28 v29 v30 : Value) {u6 u7 u8 u9 u10 u11 u12 u13 u14 u15 u16 u17 u18 u19 u33 u34 u35 u36 u37 u38 u39 u40 u41 u42 u43 u44 u45 u46 u47 u48 u49 u50 u51 u52 u53 u54 u55 u56 u57 u58 u59 u60 u61 u62 u63 u64 u65 u66 u67 u68 u69 u70 u71 u72 u73 u74 u75 u76 u77 u78 u79 u80 u81 u82 u83 u84 u85 u86 u87 u88 u89 u90 u91 u92 u93 u94 u95 u96 u97 u98 u99 u100 u101 u102 u103 u104 u105 u106 u107 u108 u109 u110 u111 u112 u113 u114 u115 u116 u117 u118 u119 u120 u121 u122 u123 u124 u125 u126 u127 u128 u129 u130 u131 u132 u133 u134 u135 u136 u137 u138 u139 u140 u141 u142 u143 u144 u145 u146 u147 u148 u149 u150 u151 u152 u153 u154 u155 u156 u157 u158 u159 u160 u161 u162 u163 u164 u165 u166 u167 u168 u169 u170 u171 u172 u173 u174 u175 u176 u177 u178 u179 u180 u181 u182 u183 u184 u185 u186 u187 u188 u189 u190 u191 u192 u193 u194 u195 u196 u197 u198 u199 u200 u201 u202 u203 u204 u205 u206 u207 u208 u209 u210 u211 u212 u213 u214 u215 u216 u217 u218 u219 u220 u221 u222 u223 u224 u225 u226 u227 u228 u229 u230 u231 u232 u233 u234 u235 u236 u237 u238 u239 u240 u241 u242 u243 u244 u245 u246 u247 u248 u249 u250 u251 u252 u253 u254 u255 u256 u257 u258 u259 u260 u261 u262 u263 u264 u265 u266 u267 u268 u269 u270 u271 u272 u273 u274 u275 u276 u277 u278 u279 u280 u281 u282 u283 u284 u285 u286 u287 u288 u289 u290 u291 u292 u293 u294 u295 u296 u297 u298 u299 u300 u301 u302 u303 u304 u305 u306 u307 u308 u309 u310 u311 u312 u313 u314 u315 u316 u317 u318 u319 u320 u321 u322 u323 u324 u325 u326 u327 u328 u329 u330 u331 u332 u333 u334 u335 u336 u337 u338 u339 u340 u341 u342 u343 u344 u345 u346 u347 u348 u349 u350 u351 u352 u353 u354 u355 u356 u357 u358 u359 u360 u361 u362 u363 u364 u365 u366 u367 u368 u369 u370 u371 u372 u373 u374 u375 u376 u377 u378 u379 u380 u381 u382 u383 u384 u385 u386 u387 u388 u389 u390 u391 u392 u393 u394 u395 u396 u397 : Value} (G : Act → World → Prop) (w : World)
    (hn : n ≤ 4096) (hnt : nt ≤ 65536) (hcount : count ≤ 65536) (hne : ne ≤ 65536) (hm : m = (onR T C n).length) (hf : Fits T E C n nt count ne) (henv : Env w aT aE aX aC n nt T E C X) (hCB : ∀ b off, aC = some ⟨b, off, none⟩ → b < w.heap.size)
    (hsh : Shown w m n nt (Srt25 T E C count ne (onR T C n)) T E C X v21 v22 v23 v24 v25 v26 v27 v28 v29 v30)
    (hQ : ∀ a w', Below w.heap.size w w' → a.defers = [] → a.tmps.getD 12 undef = .bool true → G a w') :
    Code.wp Try.prog (tl5 16) (RetOnly G) ⟨((.slice aT n cT) :: (.slice aE n cE) :: (.slice aX n cX) :: (.slice aC nt cC) :: (.int .i64 (count : Int)) :: (.int .i64 (ne : Int)) :: u6 :: u7 :: u8 :: u9 :: u10 :: u11 :: u12 :: u13 :: u14 :: u15 :: u16 :: u17 :: u18 :: u19 :: (.bool true) :: v21 :: v22 :: v23 :: v24 :: v25 :: v26 :: v27 :: v28 :: v29 :: v30 :: (.int .i64 0) :: (.int .i64 (m : Int)) :: u33 :: u34 :: u35 :: u36 :: u37 :: u38 :: u39 :: u40 :: u41 :: u42 :: u43 :: u44 :: u45 :: u46 :: u47 :: u48 :: u49 :: u50 :: u51 :: u52 :: u53 :: u54 :: u55 :: u56 :: u57 :: u58 :: u59 :: u60 :: u61 :: u62 :: u63 :: u64 :: u65 :: u66 :: u67 :: u68 :: u69 :: u70 :: u71 :: u72 :: u73 :: u74 :: u75 :: u76 :: u77 :: u78 :: u79 :: u80 :: u81 :: u82 :: u83 :: u84 :: u85 :: u86 :: u87 :: u88 :: u89 :: u90 :: u91 :: u92 :: u93 :: u94 :: u95 :: u96 :: u97 :: u98 :: u99 :: u100 :: u101 :: u102 :: u103 :: u104 :: u105 :: u106 :: u107 :: u108 :: u109 :: u110 :: u111 :: u112 :: u113 :: u114 :: u115 :: u116 :: u117 :: u118 :: u119 :: u120 :: u121 :: u122 :: u123 :: u124 :: u125 :: u126 :: u127 :: u128 :: u129 :: u130 :: u131 :: u132 :: u133 :: u134 :: u135 :: u136 :: u137 :: u138 :: u139 :: u140 :: u141 :: u142 :: u143 :: u144 :: u145 :: u146 :: u147 :: u148 :: u149 :: u150 :: u151 :: u152 :: u153 :: u154 :: u155 :: u156 :: u157 :: u158 :: u159 :: u160 :: u161 :: u162 :: u163 :: u164 :: u165 :: u166 :: u167 :: u168 :: u169 :: u170 :: u171 :: u172 :: u173 :: u174 :: u175 :: u176 :: u177 :: u178 :: u179 :: u180 :: u181 :: u182 :: u183 :: u184 :: u185 :: u186 :: u187 :: u188 :: u189 :: u190 :: u191 :: u192 :: u193 :: u194 :: u195 :: u196 :: u197 :: u198 :: u199 :: u200 :: u201 :: u202 :: u203 :: u204 :: u205 :: u206 :: u207 :: u208 :: u209 :: u210 :: u211 :: u212 :: u213 :: u214 :: u215 :: u216 :: u217 :: u218 :: u219 :: u220 :: u221 :: u222 :: u223 :: u224 :: u225 :: u226 :: u227 :: u228 :: u229 :: u230 :: u231 :: u232 :: u233 :: u234 :: u235 :: u236 :: u237 :: u238 :: u239 :: u240 :: u241 :: u242 :: u243 :: u244 :: u245 :: u246 :: u247 :: u248 :: u249 :: u250 :: u251 :: u252 :: u253 :: u254 :: u255 :: u256 :: u257 :: u258 :: u259 :: u260 :: u261 :: u262 :: u263 :: u264 :: u265 :: u266 :: u267 :: u268 :: u269 :: u270 :: u271 :: u272 :: u273 :: u274 :: u275 :: u276 :: u277 :: u278 :: u279 :: u280 :: u281 :: u282 :: u283 :: u284 :: u285 :: u286 :: u287 :: u288 :: u289 :: u290 :: u291 :: u292 :: u293 :: u294 :: u295 :: u296 :: u297 :: u298 :: u299 :: u300 :: u301 :: u302 :: u303 :: u304 :: u305 :: u306 :: u307 :: u308 :: u309 :: u310 :: u311 :: u312 :: u313 :: u314 :: u315 :: u316 :: u317 :: u318 :: u319 :: u320 :: u321 :: u322 :: u323 :: u324 :: u325 :: u326 :: u327 :: u328 :: u329 :: u330 :: u331 :: u332 :: u333 :: u334 :: u335 :: u336 :: u337 :: u338 :: u339 :: u340 :: u341 :: u342 :: u343 :: u344 :: u345 :: u346 :: u347 :: u348 :: u349 :: u350 :: u351 :: u352 :: u353 :: u354 :: u355 :: u356 :: u357 :: u358 :: u359 :: u360 :: u361 :: u362 :: u363 :: u364 :: u365 :: u366 :: u367 :: u368 :: u369 :: u370 :: u371 :: u372 :: u373 :: u374 :: u375 :: u376 :: u377 :: u378 :: u379 :: u380 :: u381 :: u382 :: u383 :: u384 :: u385 :: u386 :: u387 :: u388 :: u389 :: u390 :: u391 :: u392 :: u393 :: u394 :: u395 :: u396 :: u397 :: []).toArray, []⟩ w := by
  have hmn : m ≤ n := by rw [hm]; exact onR_le T C n
  have HM : Hid (m = (onR T C n).length) := hm
  clear hm
  have mk1 := make_room (P := Try.prog) 22 21 (.int .i32 0) 4 Try.underlying22 Try.info21 rfl .i64 .i64 m (by omega) (by omega)
  have mk2 := make_room (P := Try.prog) 26 4 (.bool false) 1 Try.underlying26 Try.info4 rfl .i64 .i64 m (by omega) (by omega)
  have mk3 := run_make_row' (P := Try.prog) 37 3 (.int .i64 0) 8 Try.underlying37 Try.info3 rfl .i64 .i64 n (by omega) (by omega)
  have hst := Kp.start w n m (fun j => T (io T C n j)) (fun j => E (io T C n j)) (fun j => X (io T C n j))
  obtain ⟨iB, hiB, hzB, hz1B, hz2B⟩ := info_parts Try.info4
  obtain ⟨i0, hi0, hz0, hz10, hz20⟩ := info_parts Try.info21
  conv => arg 2; whnf
  refine wp_seq_k (y := tl5 17) (fun K hK => ?_)
  go_wp2_with fail
  conv => arg 2; whnf
  refine wp_seq_k (y := tl5 18) (fun K hK => ?_)
  go_wp2_with fail
  conv => arg 2; whnf
  refine wp_seq_k (y := tl5 19) (fun K hK => ?_)
  go_wp2_with fail
  conv => arg 2; whnf
  refine wp_seq_k (y := tl5 20) (fun K hK => ?_)
  go_wp2_with fail
  clear mk1 mk2 mk3
  generalize ((((w.alloc (.cells (madeCells #[.int .i32 0] m) 21)).alloc (.cells (madeCells #[.int .i32 0] m) 21)).alloc (.cells (madeCells #[.bool false] m) 4)).alloc (.cells (madeCells #[.int .i64 0] n) 3)) = w1 at *
  conv => arg 2; whnf
  refine wp_seq_k (y := tl5 21) (fun K hK => ?_)
  go_wp2_with fail
  go_loopg [224, 34, 35, 36, 38] n (fun g ip v1 v2 v3 _ wr => ∃ p k : Nat, p ≤ n ∧ g = n - p ∧ ip = .int .i64 (p : Int) ∧ Hid (k = (onR T C p).length) ∧ v1 = .slice (some ⟨w.heap.size, 0, none⟩) k m ∧ v2 = .slice (some ⟨w.heap.size + 1, 0, none⟩) k m ∧ v3 = .slice (some ⟨w.heap.size + 2, 0, none⟩) k m ∧ Kp w n m (fun j => T (io T C n j)) (fun j => E (io T C n j)) (fun j => X (io T C n j)) k k k (nI T C p) wr)
  case atStart => exact ⟨0, 0, by omega, rfl, rfl, rfl, rfl, rfl, rfl, hst⟩
  case round =>
    obtain ⟨p, k, hp, hgk, rfl, HK, rfl, rfl, rfl, hkp⟩ := hrel
    have hG : Hid (gk = n - p) := hgk
    clear hgk hst
    by_cases hlt : p < n
    · have henv' := henv.below hkp.below
      obtain ⟨bT, oT, rfl, tX, _⟩ := henv'.rT p hlt
      have htX := hf.hT p hlt
      obtain ⟨bC, oC, rfl, kX, _⟩ := henv'.rC (T p).toNat (by omega)
      obtain ⟨bE, oE, rfl, eX, _⟩ := henv'.rE p hlt
      obtain ⟨bX, oX, rfl, xX⟩ := henv'.rX p hlt
      have hpi : (p : Int) < (n : Int) := by omega
      have hfz := hkp.2.2.2.1.fz p
      have hcc := hkp.2.2.2.1.cell (i64s_get (nI T C p) hlt)
      by_cases hon : C (T p).toNat = -1
      · have ho : onC T C p = false := by simp [onC, hon]
        have hk2 := hkp.idx p (-1)
        have hni := nI_put T C p
        rw [ho, if_neg (by simp)] at hni
        rw [hni] at hk2
        have HK2 : Hid (k = (onR T C (p + 1)).length) := by
          show k = (onR T C (p + 1)).length
          rw [onR_succ, ho, if_neg (by simp)]; exact HK.out
        rw [hon] at kX
        clear hon ho hni hkp HK
        go_wp2_with fail
        go_roundg (n - (p + 1))
        case measure => have := hG.out; omega
        case rel => exact ⟨p + 1, k, by omega, rfl, by go_num, HK2, rfl, rfl, rfl, hk2⟩
      · have ho : onC T C p = true := by simp [onC, hon]
        have hon1 : (C (T p).toNat == -1) = false := by simp [hon]
        obtain ⟨hkm, hio⟩ := io_at hlt ho
        rw [← HM.out, ← HK.out] at hkm
        rw [← HK.out] at hio
        have hk2 := hkp.idx p (k : Int)
        have hni := nI_put T C p
        rw [ho, if_pos rfl, ← HK.out] at hni
        rw [hni] at hk2
        have HK2 : Hid (k + 1 = (onR T C (p + 1)).length) := by
          show k + 1 = (onR T C (p + 1)).length
          rw [onR_succ, ho, if_pos rfl, List.length_append, HK.out]; rfl
        have HIO : Hid (io T C n k = p) := hio
        clear hon ho hni hio HK
        go_upto_region 49 with fail
        generalize wr.setCell ⟨w.heap.size + 3, p, none⟩ (.int .i64 (k : Int)) = wa at *
        clear hkp henv' tX kX eX xX hfz hcc
        obtain ⟨bT', oT', e1, tX, _⟩ := (henv.below hk2.below).rT p hlt
        cases e1
        go_upto_region 50 with (at_builtin; refine wpList_append_row rfl (.tmp 243) (.tmp 248) 22 rfl 21 i0 Try.underlying22 hi0 hz10 w.heap.size k m _ (hk2.1.alloc _) (i32s_length _ _) hkm ⟨wa.heap.size, 0, none⟩ 1 (.int .i32 (T p)) rfl rfl (cell_one_new _ _ _) rfl ?_; intro wb hrb hgb)
        rw [← HIO.out] at hrb
        have hk3 := hk2.put1 hrb hgb
        clear hrb hgb hk2 tX
        obtain ⟨bE', oE', e1, eX, _⟩ := (henv.below hk3.below).rE p hlt
        cases e1
        go_upto_region 51 with (at_builtin; refine wpList_append_row rfl (.tmp 250) (.tmp 255) 22 rfl 21 i0 Try.underlying22 hi0 hz10 (w.heap.size + 1) k m _ (hk3.2.1.alloc _) (i32s_length _ _) hkm ⟨wb.heap.size, 0, none⟩ 1 (.int .i32 (E p)) rfl rfl (cell_one_new _ _ _) rfl ?_; intro wc hrc hgc)
        rw [← HIO.out] at hrc
        have hk4 := hk3.put2 hrc hgc
        clear hrc hgc hk3 eX
        obtain ⟨bX', oX', e1, xX⟩ := (henv.below hk4.below).rX p hlt
        cases e1
        go_wp2_with (at_builtin; refine wpList_append_row rfl (.tmp 257) (.tmp 262) 26 rfl 4 iB Try.underlying26 hiB hz1B (w.heap.size + 2) k m _ (hk4.2.2.1.alloc _) (bools_length _ _) hkm ⟨wc.heap.size, 0, none⟩ 1 (.bool (X p)) rfl rfl (cell_one_new _ _ _) rfl ?_; intro wd hrd hgd)
        rw [← HIO.out] at hrd
        have hk5 := hk4.put3 hrd hgd
        clear hrd hgd hk4 xX
        go_roundg (n - (p + 1))
        case measure => have := hG.out; omega
        case rel => exact ⟨p + 1, k + 1, by omega, rfl, by go_num, HK2, rfl, rfl, rfl, hk5⟩
    · have hpn : n = p := by omega
      subst hpn
      have hkm : k = m := by rw [HM.out]; exact HK.out
      subst hkm
      clear hG hlt hp HK
      have hb := hkp.below
      obtain ⟨r1, r2, r3⟩ := hkp.fin
      have r4 : Row wr (w.heap.size + 3) 3 (i64s (fun a => if onC T C a then ((onR T C a).length : Int) else -1) n) := by
        have h := hkp.2.2.2.1
        have e : i64s (nI T C n) n = i64s (fun a => if onC T C a then ((onR T C a).length : Int) else -1) n := i64s_congr fun a ha => by simp only [nI, if_pos ha]
        rw [e] at h
        exact h
      clear hkp
      go_wp2_with fail
      exact k21 aT aC n nt k cT cC count ne _ _ _ _ T E C _ _ X _ _ _ v21 v22 v23 v24 v25 v26 v27 v28 v29 v30 G wr hn hnt hcount hne (half X hf HM.out) (henv.below hb).rC (fun b off e => Nat.lt_of_lt_of_le (hCB b off e) hb.size) r1 r2 r3 r4 (hsh.below hb) (fun a w' h1 h2 h3 => hQ a w' (hb.trans (h1.mono hb.size)) h2 h3)

set_option maxRecDepth 100000 in
set_option maxHeartbeats 1000000 in
theorem k14 (aT aE aX aC : Option Addr) (n nt cT cE cX cC count ne : Nat) (T E C : Nat → Int) (X : Nat → Bool) (v21 v22 v23 v24 v25 v26 v27 v28 v29 v30 : Value) {u6 u7 u8 u9 u10 u11 u12 u13 u14 u15 u16 u17 u18 u19 u32 u33 u34 u35 u36 u37 u38 u39 u40 u41 u42 u43 u44 u45 u46 u47 u48 u49 u50 u51 u52 u53 u54 u55 u56 u57 u58 u59 u60 u61 u62 u63 u64 u65 u66 u67 u68 u69 u70 u71 u72 u73 u74 u75 u76 u77 u78 u79 u80 u81 u82 u83 u84 u85 u86 u87 u88 u89 u90 u91 u92 u93 u94 u95 u96 u97 u98 u99 u100 u101 u102 u103 u104 u105 u106 u107 u108 u109 u110 u111 u112 u113 u114 u115 u116 u117 u118 u119 u120 u121 u122 u123 u124 u125 u126 u127 u128 u129 u130 u131 u132 u133 u134 u135 u136 u137 u138 u139 u140 u141 u142 u143 u144 u145 u146 u147 u148 u149 u150 u151 u152 u153 u154 u155 u156 u157 u158 u159 u160 u161 u162 u163 u164 u165 u166 u167 u168 u169 u170 u171 u172 u173 u174 u175 u176 u177 u178 u179 u180 u181 u182 u183 u184 u185 u186 u187 u188 u189 u190 u191 u192 u193 u194 u195 u196 u197 u198 u199 u200 u201 u202 u203 u204 u205 u206 u207 u208 u209 u210 u211 u212 u213 u214 u215 u216 u217 u218 u219 u220 u221 u222 u223 u224 u225 u226 u227 u228 u229 u230 u231 u232 u233 u234 u235 u236 u237 u238 u239 u240 u241 u242 u243 u244 u245 u246 u247 u248 u249 u250 u251 u252 u253 u254 u255 u256 u257 u258 u259 u260 u261 u262 u263 u264 u265 u266 u267 u268 u269 u270 u271 u272 u273 u274 u275 u276 u277 u278 u279 u280 u281 u282 u283 u284 u285 u286 u287 u288 u289 u290 u291 u292 u293 u294 u295 u296 u297 u298 u299 u300 u301 u302 u303 u304 u305 u306 u307 u308 u309 u310 u311 u312 u313 u314 u315 u316 u317 u318 u319 u320 u321 u322 u323 u324 u325 u326 u327 u328 u329 u330 u331 u332 u333 u334 u335 u336 u337 u338 u339 u340 u341 u342 u343 u344 u345 u346 u347 u348 u349 u350 u351 u352 u353 u354 u355 u356 u357 u358 u359 u360 u361 u362 u363 u364 u365 u366 u367 u368 u369 u370 u371 u372 u373 u374 u375 u376 u377 u378 u379 u380 u381 u382 u383 u384 u385 u386 u387 u388 u389 u390 u391 u392 u393 u394 u395 u396 u397 : Value} (G : Act → World → Prop) (w : World)
    (hn : n ≤ 4096) (hnt : nt ≤ 65536) (hcount : count ≤ 65536) (hne : ne ≤ 65536) (hf : Fits T E C n nt count ne) (henv : Env w aT aE aX aC n nt T E C X) (hCB : ∀ b off, aC = some ⟨b, off, none⟩ → b < w.heap.size)
    (hsh : Shown w (onR T C n).length n nt (Srt25 T E C count ne (onR T C n)) T E C X v21 v22 v23 v24 v25 v26 v27 v28 v29 v30)
    (hQ : ∀ a w', Below w.heap.size w w' → a.defers = [] → a.tmps.getD 12 undef = .bool true → G a w') :
    Code.wp Try.prog (tl5 14) (RetOnly G) ⟨((.slice aT n cT) :: (.slice aE n cE) :: (.slice aX n cX) :: (.slice aC nt cC) :: (.int .i64 (count : Int)) :: (.int .i64 (ne : Int)) :: u6 :: u7 :: u8 :: u9 :: u10 :: u11 :: u12 :: u13 :: u14 :: u15 :: u16 :: u17 :: u18 :: u19 :: (.bool true) :: v21 :: v22 :: v23 :: v24 :: v25 :: v26 :: v27 :: v28 :: v29 :: v30 :: (.int .i64 0) :: u32 :: u33 :: u34 :: u35 :: u36 :: u37 :: u38 :: u39 :: u40 :: u41 :: u42 :: u43 :: u44 :: u45 :: u46 :: u47 :: u48 :: u49 :: u50 :: u51 :: u52 :: u53 :: u54 :: u55 :: u56 :: u57 :: u58 :: u59 :: u60 :: u61 :: u62 :: u63 :: u64 :: u65 :: u66 :: u67 :: u68 :: u69 :: u70 :: u71 :: u72 :: u73 :: u74 :: u75 :: u76 :: u77 :: u78 :: u79 :: u80 :: u81 :: u82 :: u83 :: u84 :: u85 :: u86 :: u87 :: u88 :: u89 :: u90 :: u91 :: u92 :: u93 :: u94 :: u95 :: u96 :: u97 :: u98 :: u99 :: u100 :: u101 :: u102 :: u103 :: u104 :: u105 :: u106 :: u107 :: u108 :: u109 :: u110 :: u111 :: u112 :: u113 :: u114 :: u115 :: u116 :: u117 :: u118 :: u119 :: u120 :: u121 :: u122 :: u123 :: u124 :: u125 :: u126 :: u127 :: u128 :: u129 :: u130 :: u131 :: u132 :: u133 :: u134 :: u135 :: u136 :: u137 :: u138 :: u139 :: u140 :: u141 :: u142 :: u143 :: u144 :: u145 :: u146 :: u147 :: u148 :: u149 :: u150 :: u151 :: u152 :: u153 :: u154 :: u155 :: u156 :: u157 :: u158 :: u159 :: u160 :: u161 :: u162 :: u163 :: u164 :: u165 :: u166 :: u167 :: u168 :: u169 :: u170 :: u171 :: u172 :: u173 :: u174 :: u175 :: u176 :: u177 :: u178 :: u179 :: u180 :: u181 :: u182 :: u183 :: u184 :: u185 :: u186 :: u187 :: u188 :: u189 :: u190 :: u191 :: u192 :: u193 :: u194 :: u195 :: u196 :: u197 :: u198 :: u199 :: u200 :: u201 :: u202 :: u203 :: u204 :: u205 :: u206 :: u207 :: u208 :: u209 :: u210 :: u211 :: u212 :: u213 :: u214 :: u215 :: u216 :: u217 :: u218 :: u219 :: u220 :: u221 :: u222 :: u223 :: u224 :: u225 :: u226 :: u227 :: u228 :: u229 :: u230 :: u231 :: u232 :: u233 :: u234 :: u235 :: u236 :: u237 :: u238 :: u239 :: u240 :: u241 :: u242 :: u243 :: u244 :: u245 :: u246 :: u247 :: u248 :: u249 :: u250 :: u251 :: u252 :: u253 :: u254 :: u255 :: u256 :: u257 :: u258 :: u259 :: u260 :: u261 :: u262 :: u263 :: u264 :: u265 :: u266 :: u267 :: u268 :: u269 :: u270 :: u271 :: u272 :: u273 :: u274 :: u275 :: u276 :: u277 :: u278 :: u279 :: u280 :: u281 :: u282 :: u283 :: u284 :: u285 :: u286 :: u287 :: u288 :: u289 :: u290 :: u291 :: u292 :: u293 :: u294 :: u295 :: u296 :: u297 :: u298 :: u299 :: u300 :: u301 :: u302 :: u303 :: u304 :: u305 :: u306 :: u307 :: u308 :: u309 :: u310 :: u311 :: u312 :: u313 :: u314 :: u315 :: u316 :: u317 :: u318 :: u319 :: u320 :: u321 :: u322 :: u323 :: u324 :: u325 :: u326 :: u327 :: u328 :: u329 :: u330 :: u331 :: u332 :: u333 :: u334 :: u335 :: u336 :: u337 :: u338 :: u339 :: u340 :: u341 :: u342 :: u343 :: u344 :: u345 :: u346 :: u347 :: u348 :: u349 :: u350 :: u351 :: u352 :: u353 :: u354 :: u355 :: u356 :: u357 :: u358 :: u359 :: u360 :: u361 :: u362 :: u363 :: u364 :: u365 :: u366 :: u367 :: u368 :: u369 :: u370 :: u371 :: u372 :: u373 :: u374 :: u375 :: u376 :: u377 :: u378 :: u379 :: u380 :: u381 :: u382 :: u383 :: u384 :: u385 :: u386 :: u387 :: u388 :: u389 :: u390 :: u391 :: u392 :: u393 :: u394 :: u395 :: u396 :: u397 :: []).toArray, []⟩ w := by
  conv => arg 2; whnf
  refine wp_seq_k (y := tl5 15) (fun K hK => ?_)
  go_wp2_with fail
  conv => arg 2; whnf
  refine wp_seq_k (y := tl5 16) (fun K hK => ?_)
  go_wp2_with fail
  go_loopg [199, 32, 33] n (fun g ia vm _ wr => ∃ j : Nat, j ≤ n ∧ g = n - j ∧ ia = .int .i64 (j : Int) ∧ vm = .int .i64 ((onR T C j).length : Int) ∧ wr = w)
  case atStart => exact ⟨0, by omega, rfl, rfl, rfl, rfl⟩
  case round =>
    obtain ⟨j, hj, hgk, rfl, rfl, rfl⟩ := hrel
    have hG : Hid (gk = n - j) := hgk
    clear hgk
    have hrl := onR_le T C j
    by_cases hlt : j < n
    · obtain ⟨bT, oT, rfl, tX, _⟩ := henv.rT j hlt
      have htX := hf.hT j hlt
      obtain ⟨bC, oC, rfl, kX, _⟩ := henv.rC (T j).toNat (by omega)
      have hji : (j : Int) < (n : Int) := by omega
      by_cases hon : C (T j).toNat = -1
      · have HR : Hid ((onR T C (j + 1)).length = (onR T C j).length) := by
          show (onR T C (j + 1)).length = (onR T C j).length
          rw [onR_succ]; simp [onC, hon]
        rw [hon] at kX
        clear hon
        go_wp2_with fail
        go_roundg (n - (j + 1))
        case measure => have := hG.out; omega
        case rel => exact ⟨j + 1, by omega, rfl, by go_num, by rw [HR.out], rfl⟩
      · have HR : Hid ((onR T C (j + 1)).length = (onR T C j).length + 1) := by
          show (onR T C (j + 1)).length = (onR T C j).length + 1
          rw [onR_succ]; simp [onC, hon]
        have hon1 : (C (T j).toNat == -1) = false := by simp [hon]
        clear hon
        go_wp2_with fail
        go_roundg (n - (j + 1))
        case measure => have := hG.out; omega
        case rel => exact ⟨j + 1, by omega, rfl, by go_num, by rw [HR.out]; go_num, rfl⟩
    · have hjn : n = j := by omega
      subst hjn
      clear hG hlt hj
      go_wp2_with fail
      exact k16 aT aE aX aC n nt (onR T C n).length cT cE cX cC count ne T E C X v21 v22 v23 v24 v25 v26 v27 v28 v29 v30 G wr hn hnt hcount hne rfl hf henv hCB hsh hQ
end Go.Proofs.Qxb6613322a

