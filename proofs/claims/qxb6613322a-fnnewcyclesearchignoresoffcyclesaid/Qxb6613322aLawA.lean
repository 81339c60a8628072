/-
  FnNewCycleSearchSpec FROM ITS END: places, dist, parent, the queue.
-/
import Derived.Deep.RegionWith
import Derived.Test.Qxb6613322aLawCalls
namespace Go.Proofs.Qxb6613322a
open Go.RowKit
set_option linter.unusedVariables false
noncomputable def code4 : Code := Try.f4.body.getD .skip
noncomputable def tl4 (k : Nat) : Code := dropC k code4

/-- WHAT THE LAW READS of its four slices. -/
structure Env (w : World) (aT aE aX aC : Option Addr) (n nt : Nat) (T E C : Nat → Int) (X : Nat → Bool) : Prop where
  rT : IntRow w aT n T
  rE : IntRow w aE n E
  rX : BoolRow w aX n X
  rC : IntRow w aC nt C
theorem Env.below {w w' : World} {aT aE aX aC : Option Addr} {n nt : Nat} {T E C : Nat → Int} {X : Nat → Bool} (h : Env w aT aE aX aC n nt T E C X) (hb : Below w.heap.size w w') : Env w' aT aE aX aC n nt T E C X := ⟨h.rT.below hb, h.rE.below hb, h.rX.below hb, h.rC.below hb⟩

def i64s (Z : Nat → Int) (n : Nat) : List Value := (List.range n).map fun j => .int .i64 (Z j)
theorem i64s_get (Z : Nat → Int) {n k : Nat} (hk : k < n) : (i64s Z n)[k]? = some (.int .i64 (Z k)) := by simp [i64s, hk]
theorem i64s_length (Z : Nat → Int) (n : Nat) : (i64s Z n).length = n := by simp [i64s]
theorem i64s_set (Z : Nat → Int) (n i : Nat) (v : Int) : (i64s Z n).set i (.int .i64 v) = i64s (upd Z i v) n := by
  apply List.ext_getElem?
  intro j
  rw [List.getElem?_set, i64s_length]
  by_cases e : i = j
  · subst e
    by_cases h : i < n
    · rw [if_pos rfl, if_pos h, i64s_get _ h]; simp [upd]
    · rw [if_pos rfl, if_neg h, List.getElem?_eq_none (by rw [i64s_length]; omega)]
  · rw [if_neg e]
    by_cases h : j < n
    · rw [i64s_get _ h, i64s_get _ h]; simp [upd, Ne.symm e]
    · rw [List.getElem?_eq_none (by rw [i64s_length]; omega), List.getElem?_eq_none (by rw [i64s_length]; omega)]

set_option maxRecDepth 100000 in
set_option maxHeartbeats 1000000 in
theorem l28 (aT aE aX aC : Option Addr) (n nt cT cC gK : Nat) (T E C : Nat → Int) (X : Nat → Bool) (rk : Nat → Nat) (pl : Nat → Int) (v24 v29 v30 : Value) {u1 u2 u4 u5 u6 u7 u8 u9 u10 u11 u12 u13 u14 u15 u16 u17 u18 u19 u20 u21 u22 u23 u25 u26 u27 u28 u33 u34 u36 u37 u38 u39 u40 u41 u42 u43 u44 u45 u46 u47 u48 u49 u50 u51 u52 u53 u54 u55 u56 u57 u58 u59 u60 u61 u62 u63 u64 u65 u66 u67 u68 u69 u70 u71 u72 u73 u74 u75 u76 u77 u78 u79 u80 u81 u82 u83 u84 u85 u86 u87 u88 u89 u90 u91 u92 u93 u94 u95 u96 u97 u98 u99 u100 u101 u102 u103 u104 u105 u106 u107 u108 u109 u110 u111 u112 u113 u114 u115 u116 u117 u118 u119 u120 u121 u122 u123 u124 u125 u126 u127 u128 u129 u130 u131 u132 u133 u134 u135 u136 u137 u138 u139 u140 u141 u142 u143 u144 u145 u146 u147 u148 u149 u150 u151 u152 u153 u154 u155 u156 u157 u158 u159 u160 u161 u162 u163 u164 u165 u166 u167 u168 u169 u170 u171 u172 u173 u174 u175 u176 u177 u178 u179 u180 u181 u182 u183 u184 u185 u186 u187 u188 u189 u190 u191 u192 u193 u194 u195 u196 u197 u198 u199 u200 u201 u202 u203 u204 u205 u206 u207 u208 u209 u210 u211 u212 u213 u214 u215 u216 u217 u218 u219 u220 u221 u222 u223 u224 u225 u226 u227 u228 u229 u230 u231 u232 u233 u234 u235 u236 u237 u238 u239 u240 u241 u242 u243 u244 u245 u246 u247 u248 u249 u250 u251 u252 u253 u254 u255 u256 u257 u258 u259 u260 u261 u262 u263 u264 u265 u266 u267 u268 u269 u270 u271 u272 u273 u274 u275 u276 u277 u278 u279 u280 u281 u282 u283 u284 u285 u286 u287 u288 u289 u290 u291 u292 u293 u294 u295 u296 u297 u298 u299 u300 u301 u302 u303 u304 u305 u306 u307 u308 u309 u310 u311 u312 u313 u314 u315 u316 u317 u318 u319 u320 u321 u322 u323 u324 u325 u326 u327 u328 u329 u330 u331 u332 u333 u334 u335 u336 u337 u338 u339 u340 u341 u342 u343 u344 u345 u346 u347 u348 u349 u350 u351 u352 u353 u354 u355 u356 u357 u358 u359 u360 u361 u362 u363 u364 u365 u366 u367 u368 u369 u370 u371 u372 u373 u374 u375 u376 u377 u378 u379 u380 u381 u382 u383 u384 u385 u386 u387 u388 u389 u390 u391 u392 u393 u394 u395 u396 u397 u398 u399 u400 u401 u402 u403 u404 u405 u406 u407 u408 u409 u410 u411 u412 u413 u414 u415 u416 u417 u418 u419 u420 u421 u422 u423 u424 u425 u426 u427 u428 u429 u430 u431 u432 u433 u434 u435 u436 u437 u438 u439 u440 u441 u442 u443 u444 u445 u446 u447 u448 u449 u450 u451 u452 u453 u454 u455 u456 u457 u458 u459 u460 u461 u462 u463 u464 u465 u466 u467 u468 u469 u470 u471 u472 u473 u474 u475 u476 u477 u478 u479 u480 u481 u482 u483 u484 u485 u486 u487 u488 : Value} (G : Act → World → Prop) (w : World)
    (hn : n ≤ 4096) (hnt : nt ≤ 65536) (henv : Env w aT aE aX aC n nt T E C X) (hT : ∀ i, i < n → 0 ≤ T i ∧ T i < nt)
    (h24 : Rd w v24 n pl) (h29 : Rd w v29 nt (fun _ => -1)) (h30 : Rd w v30 nt (fun _ => 0)) (hrk : Row w gK 3 (i64s (fun a => if onC T C a then (rk a : Int) else 0) n)) (hrl : ∀ a, a < n → onC T C a = true → rk a ≤ 4096)
    (hpl : ∀ a, a < n → pl a = if onC T C a then (rk a : Int) else 0)
    (hQ : ∀ a, a.defers = [] → a.tmps.getD 12 undef = .bool true → G a w) :
    Code.wp Try.prog (tl4 28) (RetOnly G) ⟨((.slice aT n cT) :: u1 :: u2 :: (.slice aC nt cC) :: u4 :: u5 :: u6 :: u7 :: u8 :: u9 :: u10 :: u11 :: u12 :: u13 :: u14 :: u15 :: u16 :: u17 :: u18 :: u19 :: u20 :: u21 :: u22 :: u23 :: v24 :: u25 :: u26 :: u27 :: u28 :: v29 :: v30 :: (.int .i64 0) :: (.int .i64 (n : Int)) :: u33 :: u34 :: (.slice (some ⟨gK, 0, none⟩) n n) :: u36 :: u37 :: u38 :: u39 :: u40 :: u41 :: u42 :: u43 :: u44 :: u45 :: u46 :: u47 :: u48 :: u49 :: u50 :: u51 :: u52 :: u53 :: u54 :: u55 :: u56 :: u57 :: u58 :: u59 :: u60 :: u61 :: u62 :: u63 :: u64 :: u65 :: u66 :: u67 :: u68 :: u69 :: u70 :: u71 :: u72 :: u73 :: u74 :: u75 :: u76 :: u77 :: u78 :: u79 :: u80 :: u81 :: u82 :: u83 :: u84 :: u85 :: u86 :: u87 :: u88 :: u89 :: u90 :: u91 :: u92 :: u93 :: u94 :: u95 :: u96 :: u97 :: u98 :: u99 :: u100 :: u101 :: u102 :: u103 :: u104 :: u105 :: u106 :: u107 :: u108 :: u109 :: u110 :: u111 :: u112 :: u113 :: u114 :: u115 :: u116 :: u117 :: u118 :: u119 :: u120 :: u121 :: u122 :: u123 :: u124 :: u125 :: u126 :: u127 :: u128 :: u129 :: u130 :: u131 :: u132 :: u133 :: u134 :: u135 :: u136 :: u137 :: u138 :: u139 :: u140 :: u141 :: u142 :: u143 :: u144 :: u145 :: u146 :: u147 :: u148 :: u149 :: u150 :: u151 :: u152 :: u153 :: u154 :: u155 :: u156 :: u157 :: u158 :: u159 :: u160 :: u161 :: u162 :: u163 :: u164 :: u165 :: u166 :: u167 :: u168 :: u169 :: u170 :: u171 :: u172 :: u173 :: u174 :: u175 :: u176 :: u177 :: u178 :: u179 :: u180 :: u181 :: u182 :: u183 :: u184 :: u185 :: u186 :: u187 :: u188 :: u189 :: u190 :: u191 :: u192 :: u193 :: u194 :: u195 :: u196 :: u197 :: u198 :: u199 :: u200 :: u201 :: u202 :: u203 :: u204 :: u205 :: u206 :: u207 :: u208 :: u209 :: u210 :: u211 :: u212 :: u213 :: u214 :: u215 :: u216 :: u217 :: u218 :: u219 :: u220 :: u221 :: u222 :: u223 :: u224 :: u225 :: u226 :: u227 :: u228 :: u229 :: u230 :: u231 :: u232 :: u233 :: u234 :: u235 :: u236 :: u237 :: u238 :: u239 :: u240 :: u241 :: u242 :: u243 :: u244 :: u245 :: u246 :: u247 :: u248 :: u249 :: u250 :: u251 :: u252 :: u253 :: u254 :: u255 :: u256 :: u257 :: u258 :: u259 :: u260 :: u261 :: u262 :: u263 :: u264 :: u265 :: u266 :: u267 :: u268 :: u269 :: u270 :: u271 :: u272 :: u273 :: u274 :: u275 :: u276 :: u277 :: u278 :: u279 :: u280 :: u281 :: u282 :: u283 :: u284 :: u285 :: u286 :: u287 :: u288 :: u289 :: u290 :: u291 :: u292 :: u293 :: u294 :: u295 :: u296 :: u297 :: u298 :: u299 :: u300 :: u301 :: u302 :: u303 :: u304 :: u305 :: u306 :: u307 :: u308 :: u309 :: u310 :: u311 :: u312 :: u313 :: u314 :: u315 :: u316 :: u317 :: u318 :: u319 :: u320 :: u321 :: u322 :: u323 :: u324 :: u325 :: u326 :: u327 :: u328 :: u329 :: u330 :: u331 :: u332 :: u333 :: u334 :: u335 :: u336 :: u337 :: u338 :: u339 :: u340 :: u341 :: u342 :: u343 :: u344 :: u345 :: u346 :: u347 :: u348 :: u349 :: u350 :: u351 :: u352 :: u353 :: u354 :: u355 :: u356 :: u357 :: u358 :: u359 :: u360 :: u361 :: u362 :: u363 :: u364 :: u365 :: u366 :: u367 :: u368 :: u369 :: u370 :: u371 :: u372 :: u373 :: u374 :: u375 :: u376 :: u377 :: u378 :: u379 :: u380 :: u381 :: u382 :: u383 :: u384 :: u385 :: u386 :: u387 :: u388 :: u389 :: u390 :: u391 :: u392 :: u393 :: u394 :: u395 :: u396 :: u397 :: u398 :: u399 :: u400 :: u401 :: u402 :: u403 :: u404 :: u405 :: u406 :: u407 :: u408 :: u409 :: u410 :: u411 :: u412 :: u413 :: u414 :: u415 :: u416 :: u417 :: u418 :: u419 :: u420 :: u421 :: u422 :: u423 :: u424 :: u425 :: u426 :: u427 :: u428 :: u429 :: u430 :: u431 :: u432 :: u433 :: u434 :: u435 :: u436 :: u437 :: u438 :: u439 :: u440 :: u441 :: u442 :: u443 :: u444 :: u445 :: u446 :: u447 :: u448 :: u449 :: u450 :: u451 :: u452 :: u453 :: u454 :: u455 :: u456 :: u457 :: u458 :: u459 :: u460 :: u461 :: u462 :: u463 :: u464 :: u465 :: u466 :: u467 :: u468 :: u469 :: u470 :: u471 :: u472 :: u473 :: u474 :: u475 :: u476 :: u477 :: u478 :: u479 :: u480 :: u481 :: u482 :: u483 :: u484 :: u485 :: u486 :: u487 :: u488 :: []).toArray, []⟩ w := by
  have a29 := all16 v29 nt (-1) (fun _ => -1) w hnt h29 (fun _ _ => rfl)
  have a30 := all16 v30 nt 0 (fun _ => 0) w hnt h30 (fun _ _ => rfl)
  obtain ⟨a24, c24, rfl, h24⟩ := h24
  obtain ⟨aa29, c29, rfl, _⟩ := h29
  obtain ⟨aa30, c30, rfl, _⟩ := h30
  conv => arg 2; whnf
  refine wp_seq_k (y := tl4 29) (fun K hK => ?_)
  go_wp2_with fail
  go_loopg [47, 48] n (fun g i _ wr => ∃ j : Nat, j ≤ n ∧ g = n - j ∧ i = .int .i64 (j : Int) ∧ wr = w)
  case atStart => exact ⟨0, by omega, rfl, rfl, rfl⟩
  case round =>
    obtain ⟨j, hj, hgk, rfl, rfl⟩ := hrel
    have hG : Hid (gk = n - j) := hgk
    clear hgk
    by_cases hlt : j < n
    · obtain ⟨b0, o0, rfl, t1, _⟩ := henv.rT j hlt
      have ht := hT j hlt
      obtain ⟨b3, o3, rfl, k1, _⟩ := henv.rC (T j).toNat (by omega)
      obtain ⟨b24, o24, rfl, p1⟩ := h24 j hlt
      have q1 := hrk.cell (i64s_get (fun a => if onC T C a then (rk a : Int) else 0) hlt)
      have hp := hpl j hlt
      have hji : (j : Int) < (n : Int) := by omega
      by_cases hon : C (T j).toNat = -1
      · have ho : onC T C j = false := by simp [onC, hon]
        rw [ho] at hp
        rw [if_neg (by simp)] at hp
        rw [hp] at p1
        rw [hon] at k1
        clear hon ho hp q1 hpl hrl
        go_wp2_with fail
        go_roundg (n - (j + 1))
        case measure => have := hG.out; omega
        case rel => exact ⟨j + 1, by omega, rfl, by go_num, rfl⟩
      · have ho : onC T C j = true := by simp [onC, hon]
        have hle := hrl j hlt ho
        rw [ho, if_pos rfl] at hp
        simp only [ho, if_true] at q1
        rw [hp] at p1
        have hon1 : (C (T j).toNat == -1) = false := by simp [hon]
        clear ho hp hpl hrl
        go_wp2_with fail
        go_roundg (n - (j + 1))
        case measure => have := hG.out; omega
        case rel => exact ⟨j + 1, by omega, rfl, by go_num, rfl⟩
    · clear hG
      go_wp2_with fail
      conv => arg 2; whnf
      go_wp2_with (first | (go_at_call_of 16 (Value.slice aa29 nt c29); refine a29.mono ?_; rintro e w' ⟨rfl, hw⟩; rw [hw]; clear hw) | (go_at_call_of 16 (Value.slice aa30 nt c30); refine a30.mono ?_; rintro e w' ⟨rfl, hw⟩; rw [hw]; clear hw))
      exact hQ _ rfl rfl
end Go.Proofs.Qxb6613322a

