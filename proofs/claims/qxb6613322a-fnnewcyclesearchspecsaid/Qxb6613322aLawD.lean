/-
  FnNewCycleSearchSpec: rank and ord; then what follows.
-/
import Derived.Test.Qxb6613322aLawC
import Derived.Test.Qxb6613322aRank
namespace Go.Proofs.Qxb6613322a
open Go.RowKit
set_option linter.unusedVariables false

/-- BETWEEN TWO ROUNDS: both rows when the first j have been put. -/
def Rk (w : World) (n m j : Nat) (T E C : Nat → Int) (S : List Nat) (wr : World) : Prop :=
  Row wr w.heap.size 3 (i64s (rnkN T E C n j) n) ∧ Row wr (w.heap.size + 1) 3 (i64s (ordN S j) m) ∧ Below w.heap.size w wr
theorem i64s_eq {Z Z' : Nat → Int} {n : Nat} (h : ∀ k, k < n → Z k = Z' k) : i64s Z n = i64s Z' n := i64s_congr h
theorem i64s_zero (n : Nat) : List.replicate n (Value.int .i64 0) = i64s (fun _ => 0) n := by
  apply List.ext_getElem
  · simp [i64s]
  · intro i h1 h2
    simp [i64s]
theorem Rk.start (w : World) (n m : Nat) (T E C : Nat → Int) (S : List Nat) : Rk w n m 0 T E C S ((w.alloc (.cells (madeCells #[.int .i64 0] n) 3)).alloc (.cells (madeCells #[.int .i64 0] m) 3)) := by
  have h1 := (Row.made w 3 (.int .i64 0) n).alloc (.cells (madeCells #[.int .i64 0] m) 3)
  have h2 := Row.made (w.alloc (.cells (madeCells #[.int .i64 0] n) 3)) 3 (.int .i64 0) m
  rw [World.size_alloc] at h2
  rw [i64s_zero] at h1 h2
  refine ⟨?_, ?_, ((Below.refl _ w).alloc (Nat.le_refl _) _).alloc (by rw [World.size_alloc]; omega) _⟩
  · rw [i64s_eq (Z' := fun _ => 0) (fun k _ => by simp [rnkN])]; exact h1
  · rw [i64s_eq (Z' := fun _ => 0) (fun k _ => by simp [ordN])]; exact h2
theorem Rk.skip {w : World} {n m j : Nat} {T E C : Nat → Int} {S : List Nat} {wr : World} (h : Rk w n m j T E C S wr) (hS : Sorted T E C n S) (hm : S.length = m) (ho : onC T C j = false) : Rk w n m (j + 1) T E C S wr := by
  subst hm
  refine ⟨?_, ?_, h.2.2⟩
  · rw [← rnkN_skip ho]; exact h.1
  · rw [← i64s_eq (ordN_skip hS ho)]; exact h.2.1
theorem Rk.put {w : World} {n m j k : Nat} {T E C : Nat → Int} {S : List Nat} {wr : World} (h : Rk w n m j T E C S wr) (hS : Sorted T E C n S) (hm : S.length = m) (hj : j < n) (ho : onC T C j = true) :
    Rk w n m (j + 1) T E C S (((wr.drewN k).setCell ⟨w.heap.size, j, none⟩ (.int .i64 (rkN T E C j n : Int))).setCell ⟨w.heap.size + 1, rkN T E C j n, none⟩ (.int .i64 (j : Int))) := by
  subst hm
  have h1 := ((h.1.drewN k).set j (.int .i64 (rkN T E C j n : Int))).setOther (a := ⟨w.heap.size + 1, rkN T E C j n, none⟩) (by simp) (.int .i64 (j : Int))
  have h2 := ((h.2.1.drewN k).setOther (a := ⟨w.heap.size, j, none⟩) (by simp) (.int .i64 (rkN T E C j n : Int))).set (rkN T E C j n) (.int .i64 (j : Int))
  rw [i64s_set, rnkN_put ho] at h1
  rw [i64s_set, i64s_eq (ordN_put hS hj ho)] at h2
  exact ⟨h1, h2, (((below_drewN h.2.2 k).setCell (p := ⟨w.heap.size, j, none⟩) (Nat.le_refl _) _).setCell (p := ⟨w.heap.size + 1, rkN T E C j n, none⟩) (by show w.heap.size ≤ w.heap.size + 1; omega) _)⟩
theorem Rk.fin {w : World} {n m : Nat} {T E C : Nat → Int} {S : List Nat} {wr : World} (h : Rk w n m n T E C S wr) (hS : Sorted T E C n S) (hm : S.length = m) :
    Row wr w.heap.size 3 (i64s (fun a => if onC T C a then (rkN T E C a n : Int) else 0) n) ∧ Row wr (w.heap.size + 1) 3 (i64s (fun p => (S.getD p 0 : Int)) m) := by
  subst hm
  refine ⟨?_, ?_⟩
  · rw [← i64s_eq (Z := rnkN T E C n n)]
    · exact h.1
    · intro k hk
      simp [rnkN, hk]
  · rw [← i64s_eq (ordN_end hS)]; exact h.2.1

set_option maxRecDepth 100000 in
set_option maxHeartbeats 1000000 in
theorem l18 (aT aE aX aC : Option Addr) (n nt m cT cE cX cC : Nat) (S : List Nat) (T E C : Nat → Int) (X : Nat → Bool) (v21 v22 v23 v24 v25 v26 v27 v28 v29 v30 : Value) {u4 u5 u6 u7 u8 u9 u10 u11 u12 u13 u14 u15 u16 u17 u18 u19 u20 u34 u35 u36 u37 u38 u39 u40 u41 u42 u43 u44 u45 u46 u47 u48 u49 u50 u51 u52 u53 u54 u55 u56 u57 u58 u59 u60 u61 u62 u63 u64 u65 u66 u67 u68 u69 u70 u71 u72 u73 u74 u75 u76 u77 u78 u79 u80 u81 u82 u83 u84 u85 u86 u87 u88 u89 u90 u91 u92 u93 u94 u95 u96 u97 u98 u99 u100 u101 u102 u103 u104 u105 u106 u107 u108 u109 u110 u111 u112 u113 u114 u115 u116 u117 u118 u119 u120 u121 u122 u123 u124 u125 u126 u127 u128 u129 u130 u131 u132 u133 u134 u135 u136 u137 u138 u139 u140 u141 u142 u143 u144 u145 u146 u147 u148 u149 u150 u151 u152 u153 u154 u155 u156 u157 u158 u159 u160 u161 u162 u163 u164 u165 u166 u167 u168 u169 u170 u171 u172 u173 u174 u175 u176 u177 u178 u179 u180 u181 u182 u183 u184 u185 u186 u187 u188 u189 u190 u191 u192 u193 u194 u195 u196 u197 u198 u199 u200 u201 u202 u203 u204 u205 u206 u207 u208 u209 u210 u211 u212 u213 u214 u215 u216 u217 u218 u219 u220 u221 u222 u223 u224 u225 u226 u227 u228 u229 u230 u231 u232 u233 u234 u235 u236 u237 u238 u239 u240 u241 u242 u243 u244 u245 u246 u247 u248 u249 u250 u251 u252 u253 u254 u255 u256 u257 u258 u259 u260 u261 u262 u263 u264 u265 u266 u267 u268 u269 u270 u271 u272 u273 u274 u275 u276 u277 u278 u279 u280 u281 u282 u283 u284 u285 u286 u287 u288 u289 u290 u291 u292 u293 u294 u295 u296 u297 u298 u299 u300 u301 u302 u303 u304 u305 u306 u307 u308 u309 u310 u311 u312 u313 u314 u315 u316 u317 u318 u319 u320 u321 u322 u323 u324 u325 u326 u327 u328 u329 u330 u331 u332 u333 u334 u335 u336 u337 u338 u339 u340 u341 u342 u343 u344 u345 u346 u347 u348 u349 u350 u351 u352 u353 u354 u355 u356 u357 u358 u359 u360 u361 u362 u363 u364 u365 u366 u367 u368 u369 u370 u371 u372 u373 u374 u375 u376 u377 u378 u379 u380 u381 u382 u383 u384 u385 u386 u387 u388 u389 u390 u391 u392 u393 u394 u395 u396 u397 u398 u399 u400 u401 u402 u403 u404 u405 u406 u407 u408 u409 u410 u411 u412 u413 u414 u415 u416 u417 u418 u419 u420 u421 u422 u423 u424 u425 u426 u427 u428 u429 u430 u431 u432 u433 u434 u435 u436 u437 u438 u439 u440 u441 u442 u443 u444 u445 u446 u447 u448 u449 u450 u451 u452 u453 u454 u455 u456 u457 u458 u459 u460 u461 u462 u463 u464 u465 u466 u467 u468 u469 u470 u471 u472 u473 u474 u475 u476 u477 u478 u479 u480 u481 u482 u483 u484 u485 u486 u487 u488 : Value} (G : Act → World → Prop) (w : World)
    (hn : n ≤ 4096) (hnt : nt ≤ 65536) (hm : m ≤ 4096) (hSm : S.length = m) (hS : Sorted T E C n S) (henv : Env w aT aE aX aC n nt T E C X) (hT : ∀ i, i < n → 0 ≤ T i ∧ T i < nt)
    (h21 : Rd w v21 m (fun p => T (S.getD p 0))) (h22 : Rd w v22 m (fun p => (grp E (fun a => C (T a).toNat) S p : Int))) (h23 : Rd w v23 m (fun p => (nxt (fun q => X (S.getD q 0)) m p : Int)))
    (h24 : Rd w v24 n (fun a => (plc S m a : Int))) (h25 : Rd w v25 (ends E (fun a => C (T a).toNat) S m).length (fun j => ((ends E (fun a => C (T a).toNat) S m).getD j 0 : Int))) (h26 : Rd w v26 (ends E (fun a => C (T a).toNat) S m).length (fun j => ((ends E (fun a => C (T a).toNat) S m).getD j 0 : Int))) (h27 : Rd w v27 (ends E (fun a => C (T a).toNat) S m).length (fun j => ((ends E (fun a => C (T a).toNat) S m).getD j 0 : Int))) (h28 : Rd w v28 (ends E (fun a => C (T a).toNat) S m).length (fun j => ((ends E (fun a => C (T a).toNat) S m).getD j 0 : Int)))
    (h29 : Rd w v29 nt (fun _ => -1)) (h30 : Rd w v30 nt (fun _ => 0))
    (hQ : ∀ a w', Below w.heap.size w w' → a.defers = [] → a.tmps.getD 12 undef = .bool true → G a w') :
    Code.wp Try.prog (tl4 18) (RetOnly G) ⟨((.slice aT n cT) :: (.slice aE n cE) :: (.slice aX n cX) :: (.slice aC nt cC) :: u4 :: u5 :: u6 :: u7 :: u8 :: u9 :: u10 :: u11 :: u12 :: u13 :: u14 :: u15 :: u16 :: u17 :: u18 :: u19 :: u20 :: v21 :: v22 :: v23 :: v24 :: v25 :: v26 :: v27 :: v28 :: v29 :: v30 :: (.int .i64 0) :: (.int .i64 (n : Int)) :: (.int .i64 (m : Int)) :: u34 :: u35 :: u36 :: u37 :: u38 :: u39 :: u40 :: u41 :: u42 :: u43 :: u44 :: u45 :: u46 :: u47 :: u48 :: u49 :: u50 :: u51 :: u52 :: u53 :: u54 :: u55 :: u56 :: u57 :: u58 :: u59 :: u60 :: u61 :: u62 :: u63 :: u64 :: u65 :: u66 :: u67 :: u68 :: u69 :: u70 :: u71 :: u72 :: u73 :: u74 :: u75 :: u76 :: u77 :: u78 :: u79 :: u80 :: u81 :: u82 :: u83 :: u84 :: u85 :: u86 :: u87 :: u88 :: u89 :: u90 :: u91 :: u92 :: u93 :: u94 :: u95 :: u96 :: u97 :: u98 :: u99 :: u100 :: u101 :: u102 :: u103 :: u104 :: u105 :: u106 :: u107 :: u108 :: u109 :: u110 :: u111 :: u112 :: u113 :: u114 :: u115 :: u116 :: u117 :: u118 :: u119 :: u120 :: u121 :: u122 :: u123 :: u124 :: u125 :: u126 :: u127 :: u128 :: u129 :: u130 :: u131 :: u132 :: u133 :: u134 :: u135 :: u136 :: u137 :: u138 :: u139 :: u140 :: u141 :: u142 :: u143 :: u144 :: u145 :: u146 :: u147 :: u148 :: u149 :: u150 :: u151 :: u152 :: u153 :: u154 :: u155 :: u156 :: u157 :: u158 :: u159 :: u160 :: u161 :: u162 :: u163 :: u164 :: u165 :: u166 :: u167 :: u168 :: u169 :: u170 :: u171 :: u172 :: u173 :: u174 :: u175 :: u176 :: u177 :: u178 :: u179 :: u180 :: u181 :: u182 :: u183 :: u184 :: u185 :: u186 :: u187 :: u188 :: u189 :: u190 :: u191 :: u192 :: u193 :: u194 :: u195 :: u196 :: u197 :: u198 :: u199 :: u200 :: u201 :: u202 :: u203 :: u204 :: u205 :: u206 :: u207 :: u208 :: u209 :: u210 :: u211 :: u212 :: u213 :: u214 :: u215 :: u216 :: u217 :: u218 :: u219 :: u220 :: u221 :: u222 :: u223 :: u224 :: u225 :: u226 :: u227 :: u228 :: u229 :: u230 :: u231 :: u232 :: u233 :: u234 :: u235 :: u236 :: u237 :: u238 :: u239 :: u240 :: u241 :: u242 :: u243 :: u244 :: u245 :: u246 :: u247 :: u248 :: u249 :: u250 :: u251 :: u252 :: u253 :: u254 :: u255 :: u256 :: u257 :: u258 :: u259 :: u260 :: u261 :: u262 :: u263 :: u264 :: u265 :: u266 :: u267 :: u268 :: u269 :: u270 :: u271 :: u272 :: u273 :: u274 :: u275 :: u276 :: u277 :: u278 :: u279 :: u280 :: u281 :: u282 :: u283 :: u284 :: u285 :: u286 :: u287 :: u288 :: u289 :: u290 :: u291 :: u292 :: u293 :: u294 :: u295 :: u296 :: u297 :: u298 :: u299 :: u300 :: u301 :: u302 :: u303 :: u304 :: u305 :: u306 :: u307 :: u308 :: u309 :: u310 :: u311 :: u312 :: u313 :: u314 :: u315 :: u316 :: u317 :: u318 :: u319 :: u320 :: u321 :: u322 :: u323 :: u324 :: u325 :: u326 :: u327 :: u328 :: u329 :: u330 :: u331 :: u332 :: u333 :: u334 :: u335 :: u336 :: u337 :: u338 :: u339 :: u340 :: u341 :: u342 :: u343 :: u344 :: u345 :: u346 :: u347 :: u348 :: u349 :: u350 :: u351 :: u352 :: u353 :: u354 :: u355 :: u356 :: u357 :: u358 :: u359 :: u360 :: u361 :: u362 :: u363 :: u364 :: u365 :: u366 :: u367 :: u368 :: u369 :: u370 :: u371 :: u372 :: u373 :: u374 :: u375 :: u376 :: u377 :: u378 :: u379 :: u380 :: u381 :: u382 :: u383 :: u384 :: u385 :: u386 :: u387 :: u388 :: u389 :: u390 :: u391 :: u392 :: u393 :: u394 :: u395 :: u396 :: u397 :: u398 :: u399 :: u400 :: u401 :: u402 :: u403 :: u404 :: u405 :: u406 :: u407 :: u408 :: u409 :: u410 :: u411 :: u412 :: u413 :: u414 :: u415 :: u416 :: u417 :: u418 :: u419 :: u420 :: u421 :: u422 :: u423 :: u424 :: u425 :: u426 :: u427 :: u428 :: u429 :: u430 :: u431 :: u432 :: u433 :: u434 :: u435 :: u436 :: u437 :: u438 :: u439 :: u440 :: u441 :: u442 :: u443 :: u444 :: u445 :: u446 :: u447 :: u448 :: u449 :: u450 :: u451 :: u452 :: u453 :: u454 :: u455 :: u456 :: u457 :: u458 :: u459 :: u460 :: u461 :: u462 :: u463 :: u464 :: u465 :: u466 :: u467 :: u468 :: u469 :: u470 :: u471 :: u472 :: u473 :: u474 :: u475 :: u476 :: u477 :: u478 :: u479 :: u480 :: u481 :: u482 :: u483 :: u484 :: u485 :: u486 :: u487 :: u488 :: []).toArray, []⟩ w := by
  have HM : Hid (S.length = m) := hSm
  clear hSm
  have mk1 := run_make_row' (P := Try.prog) 37 3 (.int .i64 0) 8 Try.underlying37 Try.info3 rfl .i64 .i64 n (by omega) (by omega)
  have mk2 := run_make_row' (P := Try.prog) 37 3 (.int .i64 0) 8 Try.underlying37 Try.info3 rfl .i64 .i64 m (by omega) (by omega)
  have hst := Rk.start w n m T E C S
  conv => arg 2; whnf
  refine wp_seq_k (y := tl4 19) (fun K hK => ?_)
  go_wp2_with fail
  conv => arg 2; whnf
  refine wp_seq_k (y := tl4 20) (fun K hK => ?_)
  go_wp2_with fail
  conv => arg 2; whnf
  refine wp_seq_k (y := tl4 21) (fun K hK => ?_)
  clear mk1 mk2
  generalize (w.alloc (.cells (madeCells #[.int .i64 0] n) 3)).alloc (.cells (madeCells #[.int .i64 0] m) 3) = w1 at *
  go_wp2_with fail
  go_loopg [37, 38, 39] n (fun g ia _ _ wr => ∃ j : Nat, j ≤ n ∧ g = n - j ∧ ia = .int .i64 (j : Int) ∧ Rk w n m j T E C S wr)
  case atStart => exact ⟨0, by omega, rfl, rfl, hst⟩
  case round =>
    obtain ⟨j, hj, hgk, rfl, hr⟩ := hrel
    have hG : Hid (gk = n - j) := hgk
    clear hgk hst
    by_cases hlt : j < n
    · have hbel := hr.2.2
      have henv' := henv.below hbel
      obtain ⟨bT, oT, rfl, tX, _⟩ := henv'.rT j hlt
      have htX := hT j hlt
      obtain ⟨bC, oC, rfl, kX, _⟩ := henv'.rC (T j).toNat (by omega)
      have hji : (j : Int) < (n : Int) := by omega
      by_cases hon : C (T j).toNat = -1
      · have ho : onC T C j = false := by simp [onC, hon]
        have hr1 := hr.skip hS HM.out ho
        rw [hon] at kX
        clear hon ho hr
        go_wp2_with fail
        go_roundg (n - (j + 1))
        case measure => have := hG.out; omega
        case rel => exact ⟨j + 1, by omega, rfl, by go_num, hr1⟩
      · have ho : onC T C j = true := by simp [onC, hon]
        have hon1 : (C (T j).toNat == -1) = false := by simp [hon]
        have HO : Hid (onC T C j = true) := ho
        clear ho hon
        go_wp2_with fail
        go_loopg [39, 38] n (fun g ib vr wq => ∃ b k : Nat, b ≤ n ∧ g = n - b ∧ ib = .int .i64 (b : Int) ∧ vr = .int .i64 (rkN T E C j b : Int) ∧ wq = wr.drewN k)
        case atStart => exact ⟨0, 0, by omega, rfl, rfl, rfl, rfl⟩
        case round =>
          obtain ⟨b, k, hb, hgk, rfl, rfl, rfl⟩ := hrel
          have hG2 : Hid (gk = n - b) := hgk
          clear hgk
          have hrl := rkN_le T E C j b
          by_cases hlb : b < n
          · obtain ⟨bT2, oT2, e1, tY, _⟩ := henv'.rT b hlb
            cases e1
            have htY := hT b hlb
            obtain ⟨bC2, oC2, e2, kY, _⟩ := henv'.rC (T b).toNat (by omega)
            cases e2
            have hbi : (b : Int) < (n : Int) := by omega
            have tY' : (wr.drewN k).cell? ⟨bT, oT + b, none⟩ = some (.int .i32 (T b)) := tY
            have kY' : (wr.drewN k).cell? ⟨bC, oC + (T b).toNat, none⟩ = some (.int .i32 (C (T b).toNat)) := kY
            by_cases hob : C (T b).toNat = -1
            · have HR : Hid (rkN T E C j (b + 1) = rkN T E C j b) := by
                show rkN T E C j (b + 1) = rkN T E C j b
                rw [rkN_succ]; simp [onC, hob]
              rw [hob] at kY'
              clear hob kY
              go_wp2_with fail
              go_roundg (n - (b + 1))
              case measure => have := hG2.out; omega
              case rel => exact ⟨b + 1, _, by omega, rfl, by go_num, by rw [HR.out], rfl⟩
            · have hob1 : (C (T b).toNat == -1) = false := by simp [hob]
              have hob2 : (C (T b).toNat != -1) = true := by simp [hob]
              have hk15 : Calls Try.prog 15 #[.slice (some ⟨bT, oT, none⟩) n cT, .slice aE n cE, .slice (some ⟨bC, oC, none⟩) nt cC, .int .i64 (b : Int), .int .i64 (j : Int)] (wr.drewN k) fun e w' => e = .returned (.bool (kl T E C b j)) ∧ ∃ k2, w' = (wr.drewN k).drewN k2 := key15 _ _ _ n nt cT cE cC b j T E C (wr.drewN k) hn henv'.rT henv'.rE henv'.rC hT hlb hlt
              cases hkl : kl T E C b j with
              | true =>
                have HR : Hid (rkN T E C j (b + 1) = rkN T E C j b + 1) := by
                  show rkN T E C j (b + 1) = rkN T E C j b + 1
                  rw [rkN_succ]; simp [onC, hob, hkl]
                rw [hkl] at hk15
                clear hob kY hkl
                go_wp2_with ((go_at_call 15; refine hk15.mono ?_; rintro e w' ⟨rfl, k2, hw⟩; rw [hw]; clear hw))
                go_roundg (n - (b + 1))
                case measure => have := hG2.out; omega
                case rel => exact ⟨b + 1, _, by omega, rfl, by go_num, by rw [HR.out]; go_num, rfl⟩
              | false =>
                have HR : Hid (rkN T E C j (b + 1) = rkN T E C j b) := by
                  show rkN T E C j (b + 1) = rkN T E C j b
                  rw [rkN_succ]; simp [hkl]
                rw [hkl] at hk15
                clear hob kY hkl
                go_wp2_with ((go_at_call 15; refine hk15.mono ?_; rintro e w' ⟨rfl, k2, hw⟩; rw [hw]; clear hw))
                go_roundg (n - (b + 1))
                case measure => have := hG2.out; omega
                case rel => exact ⟨b + 1, _, by omega, rfl, by go_num, by rw [HR.out], rfl⟩
          · have hbn : n = b := by omega
            subst hbn
            obtain ⟨hrm, _⟩ := hS.at hlt HO.out
            rw [HM.out] at hrm
            have hr1 := hr.put (k := k) hS HM.out hlt HO.out
            have hri : ((rkN T E C j n : Nat) : Int) < (m : Int) := by omega
            have f1 : (wr.drewN k).frozen? ⟨w.heap.size, j, none⟩ = false := hr.1.fz j
            have f2 : (((wr.drewN k).setCell ⟨w.heap.size, j, none⟩ (.int .i64 (rkN T E C j n : Int)))).frozen? ⟨w.heap.size + 1, rkN T E C j n, none⟩ = false := (((hr.2.1.drewN k).setOther (a := ⟨w.heap.size, j, none⟩) (by simp) _)).fz _
            have c1 : (wr.drewN k).cell? ⟨w.heap.size, j, none⟩ = some (.int .i64 (rnkN T E C n j j)) := (hr.1.drewN k).cell (i64s_get _ hlt)
            have c2 : (((wr.drewN k).setCell ⟨w.heap.size, j, none⟩ (.int .i64 (rkN T E C j n : Int)))).cell? ⟨w.heap.size + 1, rkN T E C j n, none⟩ = some (.int .i64 (ordN S j (rkN T E C j n))) := (((hr.2.1.drewN k).setOther (a := ⟨w.heap.size, j, none⟩) (by simp) _)).cell (i64s_get _ hrm)
            clear hG2 hlb
            generalize rkN T E C j n = rj at *
            go_wp2_with fail
            go_roundg (n - (j + 1))
            case measure => have := hG.out; omega
            case rel => exact ⟨j + 1, by omega, rfl, by go_num, hr1⟩
    · have hjn : n = j := by omega
      subst hjn
      clear hG hlt hj
      obtain ⟨hK1, hO1⟩ := hr.fin hS HM.out
      have hb := hr.2.2
      clear hr
      have h21' := h21.below hb
      have h22' := h22.below hb
      have h23' := h23.below hb
      have g21 := h21'
      have g22 := h22'
      have g23 := h23'
      obtain ⟨a21, c21, rfl, _⟩ := g21
      obtain ⟨a22, c22, rfl, _⟩ := g22
      obtain ⟨a23, c23, rfl, _⟩ := g23
      go_wp2_with fail
      conv => arg 2; whnf
      refine wp_seq_k (y := tl4 22) (fun K hK => ?_)
      go_wp2_with fail
      exact l22 aT aE aX aC n nt m cT cE cX cC _ _ S T E C X (fun a => rkN T E C a n) (fun a => (plc S m a : Int)) _ _ _ v24 v25 v26 v27 v28 v29 v30 G wr hn hnt hm HM.out (fun i hi => (hS.mem.1 hi).1) (henv.below hb) hT h21' h22' h23' (h24.below hb) (h25.below hb) (h26.below hb) (h27.below hb) (h28.below hb) (h29.below hb) (h30.below hb) hK1 hO1 (fun a ha _ => Nat.le_trans (rkN_le T E C a n) hn) (fun a ha => by have h := hS.place ha; rw [HM.out] at h; exact h) (fun a w' h1 h2 h3 => hQ a w' (hb.trans (h1.mono hb.size)) h2 h3)
end Go.Proofs.Qxb6613322a

