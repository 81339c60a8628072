/-
  FnNewCycleSearchIgnoresOffCycle FROM ITS END: the comparisons.
-/
import Derived.Deep.RegionWith
import Derived.Test.Qxb6613322aDrop
namespace Go.Proofs.Qxb6613322a
open Go.RowKit
set_option linter.unusedVariables false
noncomputable def code5 : Code := Try.f5.body.getD .skip
noncomputable def tl5 (k : Nat) : Code := dropC k code5

set_option maxRecDepth 100000 in
set_option maxHeartbeats 1000000 in
theorem k29 (aT : Option Addr) (n m cT gI : Nat) (T C : Nat → Int) (plA plB : Nat → Int) (v24 v46 : Value) {u1 u2 u3 u4 u5 u6 u7 u8 u9 u10 u11 u12 u13 u14 u15 u16 u17 u18 u19 u20 u21 u22 u23 u25 u26 u27 u28 u29 u30 u31 u32 u33 u34 u35 u36 u38 u39 u40 u41 u42 u43 u44 u45 u47 u48 u49 u50 u51 u52 u53 u54 u55 u56 u57 u58 u59 u60 u61 u62 u63 u64 u65 u66 u67 u68 u69 u70 u71 u72 u73 u74 u75 u76 u77 u78 u79 u80 u81 u82 u83 u84 u85 u86 u87 u88 u89 u90 u91 u92 u93 u94 u95 u96 u97 u98 u99 u100 u101 u102 u103 u104 u105 u106 u107 u108 u109 u110 u111 u112 u113 u114 u115 u116 u117 u118 u119 u120 u121 u122 u123 u124 u125 u126 u127 u128 u129 u130 u131 u132 u133 u134 u135 u136 u137 u138 u139 u140 u141 u142 u143 u144 u145 u146 u147 u148 u149 u150 u151 u152 u153 u154 u155 u156 u157 u158 u159 u160 u161 u162 u163 u164 u165 u166 u167 u168 u169 u170 u171 u172 u173 u174 u175 u176 u177 u178 u179 u180 u181 u182 u183 u184 u185 u186 u187 u188 u189 u190 u191 u192 u193 u194 u195 u196 u197 u198 u199 u200 u201 u202 u203 u204 u205 u206 u207 u208 u209 u210 u211 u212 u213 u214 u215 u216 u217 u218 u219 u220 u221 u222 u223 u224 u225 u226 u227 u228 u229 u230 u231 u232 u233 u234 u235 u236 u237 u238 u239 u240 u241 u242 u243 u244 u245 u246 u247 u248 u249 u250 u251 u252 u253 u254 u255 u256 u257 u258 u259 u260 u261 u262 u263 u264 u265 u266 u267 u268 u269 u270 u271 u272 u273 u274 u275 u276 u277 u278 u279 u280 u281 u282 u283 u284 u285 u286 u287 u288 u289 u290 u291 u292 u293 u294 u295 u296 u297 u298 u299 u300 u301 u302 u303 u304 u305 u306 u307 u308 u309 u310 u311 u312 u313 u314 u315 u316 u317 u318 u319 u320 u321 u322 u323 u324 u325 u326 u327 u328 u329 u330 u331 u332 u333 u334 u335 u336 u337 u338 u339 u340 u341 u342 u343 u344 u345 u346 u347 u348 u349 u350 u351 u352 u353 u354 u355 u356 u357 u358 u359 u360 u361 u362 u363 u364 u365 u366 u367 u368 u369 u370 u371 u372 u373 u374 u375 u376 u377 u378 u379 u380 u381 u382 u383 u384 u385 u386 u387 u388 u389 u390 u391 u392 u393 u394 u395 u396 u397 : Value} (G : Act → World → Prop) (w : World)
    (hn : n ≤ 4096) (hm : m ≤ 4096) (h24 : Rd w v24 n plA) (h46 : Rd w v46 m plB) (hI : Row w gI 3 (i64s (fun a => if onC T C a then ((onR T C a).length : Int) else -1) n))
    (hpl : ∀ a, a < n → onC T C a = true → (onR T C a).length < m ∧ plA a = plB (onR T C a).length)
    (hQ : ∀ a k, a.defers = [] → a.tmps.getD 12 undef = .bool true → G a (w.drewN k)) :
    Code.wp Try.prog (tl5 29) (RetOnly G) ⟨((.slice aT n cT) :: u1 :: u2 :: u3 :: u4 :: u5 :: u6 :: u7 :: u8 :: u9 :: u10 :: u11 :: u12 :: u13 :: u14 :: u15 :: u16 :: u17 :: u18 :: u19 :: u20 :: u21 :: u22 :: u23 :: v24 :: u25 :: u26 :: u27 :: u28 :: u29 :: u30 :: u31 :: u32 :: u33 :: u34 :: u35 :: u36 :: (.slice (some ⟨gI, 0, none⟩) n n) :: u38 :: u39 :: u40 :: u41 :: u42 :: u43 :: u44 :: u45 :: v46 :: u47 :: u48 :: u49 :: u50 :: u51 :: u52 :: u53 :: u54 :: u55 :: u56 :: u57 :: u58 :: u59 :: u60 :: u61 :: u62 :: u63 :: u64 :: u65 :: u66 :: u67 :: u68 :: u69 :: u70 :: u71 :: u72 :: u73 :: u74 :: u75 :: u76 :: u77 :: u78 :: u79 :: u80 :: u81 :: u82 :: u83 :: u84 :: u85 :: u86 :: u87 :: u88 :: u89 :: u90 :: u91 :: u92 :: u93 :: u94 :: u95 :: u96 :: u97 :: u98 :: u99 :: u100 :: u101 :: u102 :: u103 :: u104 :: u105 :: u106 :: u107 :: u108 :: u109 :: u110 :: u111 :: u112 :: u113 :: u114 :: u115 :: u116 :: u117 :: u118 :: u119 :: u120 :: u121 :: u122 :: u123 :: u124 :: u125 :: u126 :: u127 :: u128 :: u129 :: u130 :: u131 :: u132 :: u133 :: u134 :: u135 :: u136 :: u137 :: u138 :: u139 :: u140 :: u141 :: u142 :: u143 :: u144 :: u145 :: u146 :: u147 :: u148 :: u149 :: u150 :: u151 :: u152 :: u153 :: u154 :: u155 :: u156 :: u157 :: u158 :: u159 :: u160 :: u161 :: u162 :: u163 :: u164 :: u165 :: u166 :: u167 :: u168 :: u169 :: u170 :: u171 :: u172 :: u173 :: u174 :: u175 :: u176 :: u177 :: u178 :: u179 :: u180 :: u181 :: u182 :: u183 :: u184 :: u185 :: u186 :: u187 :: u188 :: u189 :: u190 :: u191 :: u192 :: u193 :: u194 :: u195 :: u196 :: u197 :: u198 :: u199 :: u200 :: u201 :: u202 :: u203 :: u204 :: u205 :: u206 :: u207 :: u208 :: u209 :: u210 :: u211 :: u212 :: u213 :: u214 :: u215 :: u216 :: u217 :: u218 :: u219 :: u220 :: u221 :: u222 :: u223 :: u224 :: u225 :: u226 :: u227 :: u228 :: u229 :: u230 :: u231 :: u232 :: u233 :: u234 :: u235 :: u236 :: u237 :: u238 :: u239 :: u240 :: u241 :: u242 :: u243 :: u244 :: u245 :: u246 :: u247 :: u248 :: u249 :: u250 :: u251 :: u252 :: u253 :: u254 :: u255 :: u256 :: u257 :: u258 :: u259 :: u260 :: u261 :: u262 :: u263 :: u264 :: u265 :: u266 :: u267 :: u268 :: u269 :: u270 :: u271 :: u272 :: u273 :: u274 :: u275 :: u276 :: u277 :: u278 :: u279 :: u280 :: u281 :: u282 :: u283 :: u284 :: u285 :: u286 :: u287 :: u288 :: u289 :: u290 :: u291 :: u292 :: u293 :: u294 :: u295 :: u296 :: u297 :: u298 :: u299 :: u300 :: u301 :: u302 :: u303 :: u304 :: u305 :: u306 :: u307 :: u308 :: u309 :: u310 :: u311 :: u312 :: u313 :: u314 :: u315 :: u316 :: u317 :: u318 :: u319 :: u320 :: u321 :: u322 :: u323 :: u324 :: u325 :: u326 :: u327 :: u328 :: u329 :: u330 :: u331 :: u332 :: u333 :: u334 :: u335 :: u336 :: u337 :: u338 :: u339 :: u340 :: u341 :: u342 :: u343 :: u344 :: u345 :: u346 :: u347 :: u348 :: u349 :: u350 :: u351 :: u352 :: u353 :: u354 :: u355 :: u356 :: u357 :: u358 :: u359 :: u360 :: u361 :: u362 :: u363 :: u364 :: u365 :: u366 :: u367 :: u368 :: u369 :: u370 :: u371 :: u372 :: u373 :: u374 :: u375 :: u376 :: u377 :: u378 :: u379 :: u380 :: u381 :: u382 :: u383 :: u384 :: u385 :: u386 :: u387 :: u388 :: u389 :: u390 :: u391 :: u392 :: u393 :: u394 :: u395 :: u396 :: u397 :: []).toArray, []⟩ w := by
  obtain ⟨a24, c24, rfl, h24⟩ := h24
  obtain ⟨a46, c46, rfl, h46⟩ := h46
  conv => arg 2; whnf
  refine wp_seq_k (y := tl5 30) (fun K hK => ?_)
  go_wp2_with fail
  go_loopg [375, 54] n (fun g i _ wr => ∃ p k : Nat, p ≤ n ∧ g = n - p ∧ i = .int .i64 (p : Int) ∧ wr = w.drewN k)
  case atStart => exact ⟨0, 0, by omega, rfl, rfl, rfl⟩
  case round =>
    obtain ⟨p, k, hp, hgk, rfl, rfl⟩ := hrel
    have hG : Hid (gk = n - p) := hgk
    clear hgk
    by_cases hlt : p < n
    · have hpi : (p : Int) < (n : Int) := by omega
      have q1 : w.cell? ⟨gI, p, none⟩ = some (.int .i64 (if onC T C p then ((onR T C p).length : Int) else -1)) := hI.cell (i64s_get _ hlt)
      by_cases ho : onC T C p = true
      · obtain ⟨h1, h2⟩ := hpl p hlt ho
        rw [if_pos ho] at q1
        obtain ⟨b24, o24, rfl, x1⟩ := h24 p hlt
        obtain ⟨b46, o46, rfl, x2⟩ := h46 _ h1
        rw [h2] at x1
        generalize (onR T C p).length = r at *
        have x1' : w.cell? ⟨b24, o24 + p, none⟩ = some (.int .i32 (plB r)) := x1
        have x2' : w.cell? ⟨b46, o46 + r, none⟩ = some (.int .i32 (plB r)) := x2
        have hri : (r : Int) < (m : Int) := by omega
        have hr0 : (0 : Int) ≤ (r : Int) := by omega
        clear x1 x2 h2 ho hpl
        go_wp2_with fail
        go_quiet (fail)
        go_wp2_with fail
        go_roundg (n - (p + 1))
        case measure => have := hG.out; omega
        case rel => exact ⟨p + 1, _, by omega, rfl, by go_num, rfl⟩
      · rw [if_neg ho] at q1
        clear ho hpl
        go_wp2_with fail
        go_quiet (fail)
        go_wp2_with fail
        go_roundg (n - (p + 1))
        case measure => have := hG.out; omega
        case rel => exact ⟨p + 1, _, by omega, rfl, by go_num, rfl⟩
    · clear hG
      go_wp2_with fail
      conv => arg 2; whnf
      go_wp2_with fail
      exact hQ _ _ rfl rfl

set_option maxRecDepth 100000 in
set_option maxHeartbeats 1000000 in
theorem k24 (aT : Option Addr) (n nt m ng cT gI : Nat) (T C : Nat → Int) (plA plB f1 f2 f3 ev fd fr : Nat → Int) (v21 v22 v23 v24 v25 v26 v27 v28 v29 v30 v43 v44 v45 v46 v47 v48 v49 v50 v51 v52 : Value) {u1 u2 u3 u4 u5 u6 u7 u8 u9 u10 u11 u12 u13 u14 u15 u16 u17 u18 u19 u33 u34 u35 u36 u38 u39 u40 u41 u54 u55 u56 u57 u58 u59 u60 u61 u62 u63 u64 u65 u66 u67 u68 u69 u70 u71 u72 u73 u74 u75 u76 u77 u78 u79 u80 u81 u82 u83 u84 u85 u86 u87 u88 u89 u90 u91 u92 u93 u94 u95 u96 u97 u98 u99 u100 u101 u102 u103 u104 u105 u106 u107 u108 u109 u110 u111 u112 u113 u114 u115 u116 u117 u118 u119 u120 u121 u122 u123 u124 u125 u126 u127 u128 u129 u130 u131 u132 u133 u134 u135 u136 u137 u138 u139 u140 u141 u142 u143 u144 u145 u146 u147 u148 u149 u150 u151 u152 u153 u154 u155 u156 u157 u158 u159 u160 u161 u162 u163 u164 u165 u166 u167 u168 u169 u170 u171 u172 u173 u174 u175 u176 u177 u178 u179 u180 u181 u182 u183 u184 u185 u186 u187 u188 u189 u190 u191 u192 u193 u194 u195 u196 u197 u198 u199 u200 u201 u202 u203 u204 u205 u206 u207 u208 u209 u210 u211 u212 u213 u214 u215 u216 u217 u218 u219 u220 u221 u222 u223 u224 u225 u226 u227 u228 u229 u230 u231 u232 u233 u234 u235 u236 u237 u238 u239 u240 u241 u242 u243 u244 u245 u246 u247 u248 u249 u250 u251 u252 u253 u254 u255 u256 u257 u258 u259 u260 u261 u262 u263 u264 u265 u266 u267 u268 u269 u270 u271 u272 u273 u274 u275 u276 u277 u278 u279 u280 u281 u282 u283 u284 u285 u286 u287 u288 u289 u290 u291 u292 u293 u294 u295 u296 u297 u298 u299 u300 u301 u302 u303 u304 u305 u306 u307 u308 u309 u310 u311 u312 u313 u314 u315 u316 u317 u318 u319 u320 u321 u322 u323 u324 u325 u326 u327 u328 u329 u330 u331 u332 u333 u334 u335 u336 u337 u338 u339 u340 u341 u342 u343 u344 u345 u346 u347 u348 u349 u350 u351 u352 u353 u354 u355 u356 u357 u358 u359 u360 u361 u362 u363 u364 u365 u366 u367 u368 u369 u370 u371 u372 u373 u374 u375 u376 u377 u378 u379 u380 u381 u382 u383 u384 u385 u386 u387 u388 u389 u390 u391 u392 u393 u394 u395 u396 u397 : Value} (G : Act → World → Prop) (w : World)
    (hn : n ≤ 4096) (hm : m ≤ 4096) (hng : ng ≤ 4096) (hnt : nt ≤ 65536) (h24 : Rd w v24 n plA) (h46 : Rd w v46 m plB) (hI : Row w gI 3 (i64s (fun a => if onC T C a then ((onR T C a).length : Int) else -1) n))
    (hpl : ∀ a, a < n → onC T C a = true → (onR T C a).length < m ∧ plA a = plB (onR T C a).length)
    (h21 : Rd w v21 m f1) (h43 : Rd w v43 m f1) (h22 : Rd w v22 m f2) (h44 : Rd w v44 m f2) (h23 : Rd w v23 m f3) (h45 : Rd w v45 m f3) (h25 : Rd w v25 ng ev) (h47 : Rd w v47 ng ev) (h26 : Rd w v26 ng ev) (h48 : Rd w v48 ng ev) (h27 : Rd w v27 ng ev) (h49 : Rd w v49 ng ev) (h28 : Rd w v28 ng ev) (h50 : Rd w v50 ng ev) (h29 : Rd w v29 nt fd) (h51 : Rd w v51 nt fd) (h30 : Rd w v30 nt fr) (h52 : Rd w v52 nt fr)
    (hQ : ∀ a w', Below w.heap.size w w' → a.defers = [] → a.tmps.getD 12 undef = .bool true → G a w') :
    Code.wp Try.prog (tl5 24) (RetOnly G) ⟨((.slice aT n cT) :: u1 :: u2 :: u3 :: u4 :: u5 :: u6 :: u7 :: u8 :: u9 :: u10 :: u11 :: u12 :: u13 :: u14 :: u15 :: u16 :: u17 :: u18 :: u19 :: (.bool true) :: v21 :: v22 :: v23 :: v24 :: v25 :: v26 :: v27 :: v28 :: v29 :: v30 :: (.int .i64 0) :: (.int .i64 (m : Int)) :: u33 :: u34 :: u35 :: u36 :: (.slice (some ⟨gI, 0, none⟩) n n) :: u38 :: u39 :: u40 :: u41 :: (.bool true) :: v43 :: v44 :: v45 :: v46 :: v47 :: v48 :: v49 :: v50 :: v51 :: v52 :: (.int .i64 0) :: u54 :: u55 :: u56 :: u57 :: u58 :: u59 :: u60 :: u61 :: u62 :: u63 :: u64 :: u65 :: u66 :: u67 :: u68 :: u69 :: u70 :: u71 :: u72 :: u73 :: u74 :: u75 :: u76 :: u77 :: u78 :: u79 :: u80 :: u81 :: u82 :: u83 :: u84 :: u85 :: u86 :: u87 :: u88 :: u89 :: u90 :: u91 :: u92 :: u93 :: u94 :: u95 :: u96 :: u97 :: u98 :: u99 :: u100 :: u101 :: u102 :: u103 :: u104 :: u105 :: u106 :: u107 :: u108 :: u109 :: u110 :: u111 :: u112 :: u113 :: u114 :: u115 :: u116 :: u117 :: u118 :: u119 :: u120 :: u121 :: u122 :: u123 :: u124 :: u125 :: u126 :: u127 :: u128 :: u129 :: u130 :: u131 :: u132 :: u133 :: u134 :: u135 :: u136 :: u137 :: u138 :: u139 :: u140 :: u141 :: u142 :: u143 :: u144 :: u145 :: u146 :: u147 :: u148 :: u149 :: u150 :: u151 :: u152 :: u153 :: u154 :: u155 :: u156 :: u157 :: u158 :: u159 :: u160 :: u161 :: u162 :: u163 :: u164 :: u165 :: u166 :: u167 :: u168 :: u169 :: u170 :: u171 :: u172 :: u173 :: u174 :: u175 :: u176 :: u177 :: u178 :: u179 :: u180 :: u181 :: u182 :: u183 :: u184 :: u185 :: u186 :: u187 :: u188 :: u189 :: u190 :: u191 :: u192 :: u193 :: u194 :: u195 :: u196 :: u197 :: u198 :: u199 :: u200 :: u201 :: u202 :: u203 :: u204 :: u205 :: u206 :: u207 :: u208 :: u209 :: u210 :: u211 :: u212 :: u213 :: u214 :: u215 :: u216 :: u217 :: u218 :: u219 :: u220 :: u221 :: u222 :: u223 :: u224 :: u225 :: u226 :: u227 :: u228 :: u229 :: u230 :: u231 :: u232 :: u233 :: u234 :: u235 :: u236 :: u237 :: u238 :: u239 :: u240 :: u241 :: u242 :: u243 :: u244 :: u245 :: u246 :: u247 :: u248 :: u249 :: u250 :: u251 :: u252 :: u253 :: u254 :: u255 :: u256 :: u257 :: u258 :: u259 :: u260 :: u261 :: u262 :: u263 :: u264 :: u265 :: u266 :: u267 :: u268 :: u269 :: u270 :: u271 :: u272 :: u273 :: u274 :: u275 :: u276 :: u277 :: u278 :: u279 :: u280 :: u281 :: u282 :: u283 :: u284 :: u285 :: u286 :: u287 :: u288 :: u289 :: u290 :: u291 :: u292 :: u293 :: u294 :: u295 :: u296 :: u297 :: u298 :: u299 :: u300 :: u301 :: u302 :: u303 :: u304 :: u305 :: u306 :: u307 :: u308 :: u309 :: u310 :: u311 :: u312 :: u313 :: u314 :: u315 :: u316 :: u317 :: u318 :: u319 :: u320 :: u321 :: u322 :: u323 :: u324 :: u325 :: u326 :: u327 :: u328 :: u329 :: u330 :: u331 :: u332 :: u333 :: u334 :: u335 :: u336 :: u337 :: u338 :: u339 :: u340 :: u341 :: u342 :: u343 :: u344 :: u345 :: u346 :: u347 :: u348 :: u349 :: u350 :: u351 :: u352 :: u353 :: u354 :: u355 :: u356 :: u357 :: u358 :: u359 :: u360 :: u361 :: u362 :: u363 :: u364 :: u365 :: u366 :: u367 :: u368 :: u369 :: u370 :: u371 :: u372 :: u373 :: u374 :: u375 :: u376 :: u377 :: u378 :: u379 :: u380 :: u381 :: u382 :: u383 :: u384 :: u385 :: u386 :: u387 :: u388 :: u389 :: u390 :: u391 :: u392 :: u393 :: u394 :: u395 :: u396 :: u397 :: []).toArray, []⟩ w := by
  have g24 := h24
  have g46 := h46
  obtain ⟨a24, c24, rfl, _⟩ := h24
  obtain ⟨a46, c46, rfl, _⟩ := h46
  have g21 := h21
  have g43 := h43
  obtain ⟨a21, c21, rfl, _⟩ := h21
  obtain ⟨a43, c43, rfl, _⟩ := h43
  have g22 := h22
  have g44 := h44
  obtain ⟨a22, c22, rfl, _⟩ := h22
  obtain ⟨a44, c44, rfl, _⟩ := h44
  have g23 := h23
  have g45 := h45
  obtain ⟨a23, c23, rfl, _⟩ := h23
  obtain ⟨a45, c45, rfl, _⟩ := h45
  have g25 := h25
  have g47 := h47
  obtain ⟨a25, c25, rfl, _⟩ := h25
  obtain ⟨a47, c47, rfl, _⟩ := h47
  have g26 := h26
  have g48 := h48
  obtain ⟨a26, c26, rfl, _⟩ := h26
  obtain ⟨a48, c48, rfl, _⟩ := h48
  have g27 := h27
  have g49 := h49
  obtain ⟨a27, c27, rfl, _⟩ := h27
  obtain ⟨a49, c49, rfl, _⟩ := h49
  have g28 := h28
  have g50 := h50
  obtain ⟨a28, c28, rfl, _⟩ := h28
  obtain ⟨a50, c50, rfl, _⟩ := h50
  have g29 := h29
  have g51 := h51
  obtain ⟨a29, c29, rfl, _⟩ := h29
  obtain ⟨a51, c51, rfl, _⟩ := h51
  have g30 := h30
  have g52 := h52
  obtain ⟨a30, c30, rfl, _⟩ := h30
  obtain ⟨a52, c52, rfl, _⟩ := h52
  conv => arg 2; whnf
  refine wp_seq_k (y := tl5 25) (fun K hK => ?_)
  go_wp2_with fail
  conv => arg 2; whnf
  refine wp_seq_k (y := tl5 26) (fun K hK => ?_)
  go_wp2_with (first | (go_at_call_of 18 (Value.slice a21 m c21); refine (same18 (Value.slice a21 m c21) (Value.slice a43 m c43) m f1 _ (by omega) (by exact g21) (by exact g43)).mono ?_; rintro e w' ⟨rfl, k, hw⟩; rw [hw]; clear hw) | (go_at_call_of 18 (Value.slice a22 m c22); refine (same18 (Value.slice a22 m c22) (Value.slice a44 m c44) m f2 _ (by omega) (by exact g22) (by exact g44)).mono ?_; rintro e w' ⟨rfl, k, hw⟩; rw [hw]; clear hw) | (go_at_call_of 18 (Value.slice a23 m c23); refine (same18 (Value.slice a23 m c23) (Value.slice a45 m c45) m f3 _ (by omega) (by exact g23) (by exact g45)).mono ?_; rintro e w' ⟨rfl, k, hw⟩; rw [hw]; clear hw))
  conv => arg 2; whnf
  refine wp_seq_k (y := tl5 27) (fun K hK => ?_)
  go_wp2_with (first | (go_at_call_of 18 (Value.slice a25 ng c25); refine (same18 (Value.slice a25 ng c25) (Value.slice a47 ng c47) ng ev _ (by omega) (by exact g25) (by exact g47)).mono ?_; rintro e w' ⟨rfl, k, hw⟩; rw [hw]; clear hw) | (go_at_call_of 18 (Value.slice a26 ng c26); refine (same18 (Value.slice a26 ng c26) (Value.slice a48 ng c48) ng ev _ (by omega) (by exact g26) (by exact g48)).mono ?_; rintro e w' ⟨rfl, k, hw⟩; rw [hw]; clear hw) | (go_at_call_of 18 (Value.slice a27 ng c27); refine (same18 (Value.slice a27 ng c27) (Value.slice a49 ng c49) ng ev _ (by omega) (by exact g27) (by exact g49)).mono ?_; rintro e w' ⟨rfl, k, hw⟩; rw [hw]; clear hw) | (go_at_call_of 18 (Value.slice a28 ng c28); refine (same18 (Value.slice a28 ng c28) (Value.slice a50 ng c50) ng ev _ (by omega) (by exact g28) (by exact g50)).mono ?_; rintro e w' ⟨rfl, k, hw⟩; rw [hw]; clear hw))
  conv => arg 2; whnf
  refine wp_seq_k (y := tl5 28) (fun K hK => ?_)
  go_wp2_with (first | (go_at_call_of 18 (Value.slice a29 nt c29); refine (same18 (Value.slice a29 nt c29) (Value.slice a51 nt c51) nt fd _ (by omega) (by exact g29) (by exact g51)).mono ?_; rintro e w' ⟨rfl, k, hw⟩; rw [hw]; clear hw) | (go_at_call_of 18 (Value.slice a30 nt c30); refine (same18 (Value.slice a30 nt c30) (Value.slice a52 nt c52) nt fr _ (by omega) (by exact g30) (by exact g52)).mono ?_; rintro e w' ⟨rfl, k, hw⟩; rw [hw]; clear hw))
  conv => arg 2; whnf
  refine wp_seq_k (y := tl5 29) (fun K hK => ?_)
  go_wp2_with fail
  refine k29 aT n m cT gI T C plA plB _ _ G _ hn hm (by exact g24) (by exact g46) (by exact hI) hpl (fun a k h1 h2 => hQ a _ ?_ h1 h2)
  repeat first | exact Below.refl _ _ | refine below_drewN ?_ _
end Go.Proofs.Qxb6613322a

