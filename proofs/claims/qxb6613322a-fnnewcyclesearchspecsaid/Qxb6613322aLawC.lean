/-
  FnNewCycleSearchSpec: listings and runs; then what follows.
-/
import Derived.Deep.DeepCutAuto
import Derived.Deep.CutRange
import Derived.Deep.CutBlock
import Derived.Maps.AppendAt
import Derived.Test.Qxb6613322aLawB
import Derived.Test.Qxb6613322aPlain
namespace Go.Proofs.Qxb6613322a
open Go.RowKit
set_option linter.unusedVariables false

/-- BETWEEN TWO ROUNDS: the ends so far, a slice of the law's own. -/
def EndsAt (w : World) (es : List Nat) (v : Value) (wr : World) : Prop := wr.ownsRow w.heap.size 21 1 v es.length (idl es) ∧ Below w.heap.size w wr

theorem idl_grow (es : List Nat) (x : Nat) : idl es ++ [.int .i32 (x : Int)] = idl (es ++ [x]) := by simp [idl]
theorem idl_put (es : List Nat) (j x : Nat) : (idl es).set j (.int .i32 (x : Int)) = idl (es.set j x) := by simp [idl, List.map_set]
theorem EndsAt.drewN {w : World} {es : List Nat} {v : Value} {wr : World} (h : EndsAt w es v wr) (k : Nat) : EndsAt w es v (wr.drewN k) := ⟨h.1, below_drewN h.2 k⟩
theorem EndsAt.grow {w : World} {es : List Nat} {v v' : Value} {wr w1 : World} {o : Obj} (h : EndsAt w es v wr) (hown : w1.ownsRow w.heap.size 21 1 v' (es.length + 1) (idl es ++ [.int .i32 0])) (hg : (wr.alloc o).grownBy w1 v.ownBlock) : EndsAt w (es ++ [0]) v' w1 := by
  refine ⟨by rw [← idl_grow, List.length_append]; exact hown, (h.2.alloc h.2.size o).grown hg ?_ ?_⟩
  · rw [World.size_alloc]; have := h.2.size; omega
  · intro k hk
    exact (ownsRow_block h.1 k hk).1
theorem EndsAt.put {w : World} {es : List Nat} {g cap : Nat} {wr : World} (h : EndsAt w es (.slice (some ⟨g, 0, none⟩) es.length cap) wr) (j x : Nat) : EndsAt w (es.set j x) (.slice (some ⟨g, 0, none⟩) es.length cap) (wr.setCell ⟨g, j, none⟩ (.int .i32 (x : Int))) := by
  obtain ⟨h1, h2⟩ := h.1.stored j (.int .i32 (x : Int))
  refine ⟨by rw [List.length_set, ← idl_put]; exact h1, h.2.setCell (p := ⟨g, j, none⟩) ((ownsRow_block h.1 g rfl).1) _⟩

set_option maxRecDepth 100000 in
set_option maxHeartbeats 1000000 in
theorem l22 (aT aE aX aC : Option Addr) (n nt m cT cE cX cC gK gO : Nat) (S : List Nat) (T E C : Nat → Int) (X : Nat → Bool) (rk : Nat → Nat) (pl : Nat → Int) (v21 v22 v23 v24 v25 v26 v27 v28 v29 v30 : Value) {u4 u5 u6 u7 u8 u9 u10 u11 u12 u13 u14 u15 u16 u17 u18 u19 u20 u34 u37 u38 u39 u40 u41 u42 u43 u44 u45 u46 u47 u48 u49 u50 u51 u52 u53 u54 u55 u56 u57 u58 u59 u60 u61 u62 u63 u64 u65 u66 u67 u68 u69 u70 u71 u72 u73 u74 u75 u76 u77 u78 u79 u80 u81 u82 u83 u84 u85 u86 u87 u88 u89 u90 u91 u92 u93 u94 u95 u96 u97 u98 u99 u100 u101 u102 u103 u104 u105 u106 u107 u108 u109 u110 u111 u112 u113 u114 u115 u116 u117 u118 u119 u120 u121 u122 u123 u124 u125 u126 u127 u128 u129 u130 u131 u132 u133 u134 u135 u136 u137 u138 u139 u140 u141 u142 u143 u144 u145 u146 u147 u148 u149 u150 u151 u152 u153 u154 u155 u156 u157 u158 u159 u160 u161 u162 u163 u164 u165 u166 u167 u168 u169 u170 u171 u172 u173 u174 u175 u176 u177 u178 u179 u180 u181 u182 u183 u184 u185 u186 u187 u188 u189 u190 u191 u192 u193 u194 u195 u196 u197 u198 u199 u200 u201 u202 u203 u204 u205 u206 u207 u208 u209 u210 u211 u212 u213 u214 u215 u216 u217 u218 u219 u220 u221 u222 u223 u224 u225 u226 u227 u228 u229 u230 u231 u232 u233 u234 u235 u236 u237 u238 u239 u240 u241 u242 u243 u244 u245 u246 u247 u248 u249 u250 u251 u252 u253 u254 u255 u256 u257 u258 u259 u260 u261 u262 u263 u264 u265 u266 u267 u268 u269 u270 u271 u272 u273 u274 u275 u276 u277 u278 u279 u280 u281 u282 u283 u284 u285 u286 u287 u288 u289 u290 u291 u292 u293 u294 u295 u296 u297 u298 u299 u300 u301 u302 u303 u304 u305 u306 u307 u308 u309 u310 u311 u312 u313 u314 u315 u316 u317 u318 u319 u320 u321 u322 u323 u324 u325 u326 u327 u328 u329 u330 u331 u332 u333 u334 u335 u336 u337 u338 u339 u340 u341 u342 u343 u344 u345 u346 u347 u348 u349 u350 u351 u352 u353 u354 u355 u356 u357 u358 u359 u360 u361 u362 u363 u364 u365 u366 u367 u368 u369 u370 u371 u372 u373 u374 u375 u376 u377 u378 u379 u380 u381 u382 u383 u384 u385 u386 u387 u388 u389 u390 u391 u392 u393 u394 u395 u396 u397 u398 u399 u400 u401 u402 u403 u404 u405 u406 u407 u408 u409 u410 u411 u412 u413 u414 u415 u416 u417 u418 u419 u420 u421 u422 u423 u424 u425 u426 u427 u428 u429 u430 u431 u432 u433 u434 u435 u436 u437 u438 u439 u440 u441 u442 u443 u444 u445 u446 u447 u448 u449 u450 u451 u452 u453 u454 u455 u456 u457 u458 u459 u460 u461 u462 u463 u464 u465 u466 u467 u468 u469 u470 u471 u472 u473 u474 u475 u476 u477 u478 u479 u480 u481 u482 u483 u484 u485 u486 u487 u488 : Value} (G : Act → World → Prop) (w : World)
    (hn : n ≤ 4096) (hnt : nt ≤ 65536) (hm : m ≤ 4096) (hSm : S.length = m) (hSn : ∀ i ∈ S, i < n) (henv : Env w aT aE aX aC n nt T E C X) (hT : ∀ i, i < n → 0 ≤ T i ∧ T i < nt)
    (h21 : Rd w v21 m (fun p => T (S.getD p 0))) (h22 : Rd w v22 m (fun p => (grp E (fun a => C (T a).toNat) S p : Int))) (h23 : Rd w v23 m (fun p => (nxt (fun q => X (S.getD q 0)) m p : Int)))
    (h24 : Rd w v24 n pl) (h25 : Rd w v25 (ends E (fun a => C (T a).toNat) S m).length (fun j => ((ends E (fun a => C (T a).toNat) S m).getD j 0 : Int))) (h26 : Rd w v26 (ends E (fun a => C (T a).toNat) S m).length (fun j => ((ends E (fun a => C (T a).toNat) S m).getD j 0 : Int))) (h27 : Rd w v27 (ends E (fun a => C (T a).toNat) S m).length (fun j => ((ends E (fun a => C (T a).toNat) S m).getD j 0 : Int))) (h28 : Rd w v28 (ends E (fun a => C (T a).toNat) S m).length (fun j => ((ends E (fun a => C (T a).toNat) S m).getD j 0 : Int)))
    (h29 : Rd w v29 nt (fun _ => -1)) (h30 : Rd w v30 nt (fun _ => 0)) (hrk : Row w gK 3 (i64s (fun a => if onC T C a then (rk a : Int) else 0) n)) (hord : Row w gO 3 (i64s (fun p => (S.getD p 0 : Int)) m)) (hrl : ∀ a, a < n → onC T C a = true → rk a ≤ 4096)
    (hpl : ∀ a, a < n → pl a = if onC T C a then (rk a : Int) else 0)
    (hQ : ∀ a w', Below w.heap.size w w' → a.defers = [] → a.tmps.getD 12 undef = .bool true → G a w') :
    Code.wp Try.prog (tl4 22) (RetOnly G) ⟨((.slice aT n cT) :: (.slice aE n cE) :: (.slice aX n cX) :: (.slice aC nt cC) :: u4 :: u5 :: u6 :: u7 :: u8 :: u9 :: u10 :: u11 :: u12 :: u13 :: u14 :: u15 :: u16 :: u17 :: u18 :: u19 :: u20 :: v21 :: v22 :: v23 :: v24 :: v25 :: v26 :: v27 :: v28 :: v29 :: v30 :: (.int .i64 0) :: (.int .i64 (n : Int)) :: (.int .i64 (m : Int)) :: u34 :: (.slice (some ⟨gK, 0, none⟩) n n) :: (.slice (some ⟨gO, 0, none⟩) m m) :: u37 :: u38 :: u39 :: u40 :: u41 :: u42 :: u43 :: u44 :: u45 :: u46 :: u47 :: u48 :: u49 :: u50 :: u51 :: u52 :: u53 :: u54 :: u55 :: u56 :: u57 :: u58 :: u59 :: u60 :: u61 :: u62 :: u63 :: u64 :: u65 :: u66 :: u67 :: u68 :: u69 :: u70 :: u71 :: u72 :: u73 :: u74 :: u75 :: u76 :: u77 :: u78 :: u79 :: u80 :: u81 :: u82 :: u83 :: u84 :: u85 :: u86 :: u87 :: u88 :: u89 :: u90 :: u91 :: u92 :: u93 :: u94 :: u95 :: u96 :: u97 :: u98 :: u99 :: u100 :: u101 :: u102 :: u103 :: u104 :: u105 :: u106 :: u107 :: u108 :: u109 :: u110 :: u111 :: u112 :: u113 :: u114 :: u115 :: u116 :: u117 :: u118 :: u119 :: u120 :: u121 :: u122 :: u123 :: u124 :: u125 :: u126 :: u127 :: u128 :: u129 :: u130 :: u131 :: u132 :: u133 :: u134 :: u135 :: u136 :: u137 :: u138 :: u139 :: u140 :: u141 :: u142 :: u143 :: u144 :: u145 :: u146 :: u147 :: u148 :: u149 :: u150 :: u151 :: u152 :: u153 :: u154 :: u155 :: u156 :: u157 :: u158 :: u159 :: u160 :: u161 :: u162 :: u163 :: u164 :: u165 :: u166 :: u167 :: u168 :: u169 :: u170 :: u171 :: u172 :: u173 :: u174 :: u175 :: u176 :: u177 :: u178 :: u179 :: u180 :: u181 :: u182 :: u183 :: u184 :: u185 :: u186 :: u187 :: u188 :: u189 :: u190 :: u191 :: u192 :: u193 :: u194 :: u195 :: u196 :: u197 :: u198 :: u199 :: u200 :: u201 :: u202 :: u203 :: u204 :: u205 :: u206 :: u207 :: u208 :: u209 :: u210 :: u211 :: u212 :: u213 :: u214 :: u215 :: u216 :: u217 :: u218 :: u219 :: u220 :: u221 :: u222 :: u223 :: u224 :: u225 :: u226 :: u227 :: u228 :: u229 :: u230 :: u231 :: u232 :: u233 :: u234 :: u235 :: u236 :: u237 :: u238 :: u239 :: u240 :: u241 :: u242 :: u243 :: u244 :: u245 :: u246 :: u247 :: u248 :: u249 :: u250 :: u251 :: u252 :: u253 :: u254 :: u255 :: u256 :: u257 :: u258 :: u259 :: u260 :: u261 :: u262 :: u263 :: u264 :: u265 :: u266 :: u267 :: u268 :: u269 :: u270 :: u271 :: u272 :: u273 :: u274 :: u275 :: u276 :: u277 :: u278 :: u279 :: u280 :: u281 :: u282 :: u283 :: u284 :: u285 :: u286 :: u287 :: u288 :: u289 :: u290 :: u291 :: u292 :: u293 :: u294 :: u295 :: u296 :: u297 :: u298 :: u299 :: u300 :: u301 :: u302 :: u303 :: u304 :: u305 :: u306 :: u307 :: u308 :: u309 :: u310 :: u311 :: u312 :: u313 :: u314 :: u315 :: u316 :: u317 :: u318 :: u319 :: u320 :: u321 :: u322 :: u323 :: u324 :: u325 :: u326 :: u327 :: u328 :: u329 :: u330 :: u331 :: u332 :: u333 :: u334 :: u335 :: u336 :: u337 :: u338 :: u339 :: u340 :: u341 :: u342 :: u343 :: u344 :: u345 :: u346 :: u347 :: u348 :: u349 :: u350 :: u351 :: u352 :: u353 :: u354 :: u355 :: u356 :: u357 :: u358 :: u359 :: u360 :: u361 :: u362 :: u363 :: u364 :: u365 :: u366 :: u367 :: u368 :: u369 :: u370 :: u371 :: u372 :: u373 :: u374 :: u375 :: u376 :: u377 :: u378 :: u379 :: u380 :: u381 :: u382 :: u383 :: u384 :: u385 :: u386 :: u387 :: u388 :: u389 :: u390 :: u391 :: u392 :: u393 :: u394 :: u395 :: u396 :: u397 :: u398 :: u399 :: u400 :: u401 :: u402 :: u403 :: u404 :: u405 :: u406 :: u407 :: u408 :: u409 :: u410 :: u411 :: u412 :: u413 :: u414 :: u415 :: u416 :: u417 :: u418 :: u419 :: u420 :: u421 :: u422 :: u423 :: u424 :: u425 :: u426 :: u427 :: u428 :: u429 :: u430 :: u431 :: u432 :: u433 :: u434 :: u435 :: u436 :: u437 :: u438 :: u439 :: u440 :: u441 :: u442 :: u443 :: u444 :: u445 :: u446 :: u447 :: u448 :: u449 :: u450 :: u451 :: u452 :: u453 :: u454 :: u455 :: u456 :: u457 :: u458 :: u459 :: u460 :: u461 :: u462 :: u463 :: u464 :: u465 :: u466 :: u467 :: u468 :: u469 :: u470 :: u471 :: u472 :: u473 :: u474 :: u475 :: u476 :: u477 :: u478 :: u479 :: u480 :: u481 :: u482 :: u483 :: u484 :: u485 :: u486 :: u487 :: u488 :: []).toArray, []⟩ w := by
  have HM : Hid (S.length = m) := hSm
  clear hSm
  conv => arg 2; whnf
  refine wp_seq_k (y := tl4 23) (fun K hK => ?_)
  go_wp2_with fail
  conv => arg 2; whnf
  refine wp_seq_k (y := tl4 24) (fun K hK => ?_)
  go_wp2_with fail
  conv => arg 2; whnf
  refine wp_seq_k (y := tl4 25) (fun K hK => ?_)
  go_wp2_with fail
  go_loopg [42, 40, 41, 43, 44] m (fun g ip ve ig _ _ wr => ∃ p : Nat, p ≤ m ∧ g = m - p ∧ ip = .int .i64 (p : Int) ∧ ig = .int .i64 (((ends E (fun a => C (T a).toNat) S p).length : Int) - 1) ∧ EndsAt w (ends E (fun a => C (T a).toNat) S p) ve wr)
  case atStart => exact ⟨0, by omega, rfl, rfl, rfl, World.ownsRow_nil _ _ _ _, Below.refl _ _⟩
  case round =>
    obtain ⟨p, hp, hgk, rfl, rfl, hes⟩ := hrel
    have hG : Hid (gk = m - p) := hgk
    clear hgk
    by_cases hlt : p < m
    · have hpL : p < S.length := by rw [HM.out]; exact hlt
      have hx : S.getD p 0 = S[p] := getD_lt hpL
      have hxn := hSn S[p] (List.getElem_mem hpL)
      obtain ⟨hown, hbel⟩ := hes
      have henv' := henv.below hbel
      have hordr := hord.below hbel hord.lt
      have cO : wr.cell? ⟨gO, p, none⟩ = some (.int .i64 ((S[p] : Nat) : Int)) := by
        have h := hordr.cell (i64s_get (fun p => (S.getD p 0 : Int)) hlt)
        simp only [hx] at h
        exact h
      obtain ⟨bT, oT, rfl, tX, _⟩ := henv'.rT S[p] hxn
      obtain ⟨bE, oE, rfl, eX, _⟩ := henv'.rE S[p] hxn
      have htX := hT S[p] hxn
      obtain ⟨bC, oC, rfl, kX, _⟩ := henv'.rC (T S[p]).toNat (by omega)
      have hxi : ((S[p] : Nat) : Int) < (n : Int) := by omega
      go_upto_region 63 with fail
      go_cut [320] from 274 to 372 (fun b wx => b = .bool (isNew E (fun a => C (T a).toNat) S p) ∧ ∃ k, wx = wr.drewN k)
      case first =>
        by_cases hp0 : p = 0
        · subst hp0
          have HN : Hid (isNew E (fun a => C (T a).toNat) S 0 = true) := by simp [Hid, isNew]
          go_quiet (fail)
          go_wp2_with fail
          go_meet
          case rel => exact ⟨by rw [HN.out], _, rfl⟩
        · obtain ⟨r, hr⟩ : ∃ r, r + 1 = p := ⟨p - 1, by omega⟩
          have hrL : r < S.length := by omega
          have hy : S.getD r 0 = S[r] := getD_lt hrL
          have hyn := hSn S[r] (List.getElem_mem hrL)
          have cO2 : wr.cell? ⟨gO, r, none⟩ = some (.int .i64 ((S[r] : Nat) : Int)) := by
            have h := hordr.cell (i64s_get (fun p => (S.getD p 0 : Int)) (show r < m by omega))
            simp only [hy] at h
            exact h
          obtain ⟨bT2, oT2, e1, tY, _⟩ := henv'.rT S[r] hyn
          cases e1
          obtain ⟨bE2, oE2, e2, eY, _⟩ := henv'.rE S[r] hyn
          cases e2
          have htY := hT S[r] hyn
          obtain ⟨bC2, oC2, e3, kY, _⟩ := henv'.rC (T S[r]).toNat (by omega)
          cases e3
          have hyi : ((S[r] : Nat) : Int) < (n : Int) := by omega
          have HN : Hid (isNew E (fun a => C (T a).toNat) S p = decide (E S[p] ≠ E S[r] ∨ C (T S[p]).toNat ≠ C (T S[r]).toNat)) := by
            show isNew E (fun a => C (T a).toNat) S p = _
            rw [isNew, hx, show p - 1 = r by omega, hy]
            simp [hp0]
          have hp1 : ((p : Int) == 0) = false := by simp; omega
          have hpr : (p : Int) - 1 = (r : Int) := by omega
          have hri : (r : Int) < (m : Int) := by omega
          have hwr : IntKind.i64.wrap (r : Int) = (r : Int) := by rw [IntKind.wrap_i64]; omega
          clear hx hy hr hp0
          generalize S[p] = x at *
          generalize S[r] = y at *
          by_cases hK : C (T x).toNat = C (T y).toNat
          · by_cases hE : E x = E y
            · have HB : Hid (decide (E x ≠ E y ∨ C (T x).toNat ≠ C (T y).toNat) = false) := by simp [Hid, hE, hK]
              rw [hE] at eX
              rw [hK] at kX
              clear hE hK
              go_quiet (fail)
              go_wp2_with fail
              go_meet
              case rel => exact ⟨by rw [HN.out, HB.out], _, rfl⟩
            · have HB : Hid (decide (E x ≠ E y ∨ C (T x).toNat ≠ C (T y).toNat) = true) := by simp [Hid, hE, hK]
              rw [hK] at kX
              have hE1 : (E x == E y) = false := by simp [hE]
              clear hK
              go_quiet (fail)
              go_wp2_with fail
              go_meet
              case rel => exact ⟨by rw [HN.out, HB.out]; simp [hE], _, rfl⟩
          · have HB : Hid (decide (E x ≠ E y ∨ C (T x).toNat ≠ C (T y).toNat) = true) := by simp [Hid, hK]
            have hK1 : (C (T x).toNat == C (T y).toNat) = false := by simp [hK]
            rw [HB.out] at HN
            clear HB
            generalize C (T x).toNat = kx at kX hK1 hK
            generalize C (T y).toNat = ky at kY hK1 hK
            have hK2 : (kx != ky) = true := by simp [hK]
            go_quiet (fail)
            go_wp2_with fail
            go_meet
            case rel => exact ⟨by rw [HN.out], _, rfl⟩
      case rest =>
        obtain ⟨rfl, k, rfl⟩ := hcut
        have hes1 : EndsAt w (ends E (fun a => C (T a).toNat) S p) u40 (wr.drewN k) := EndsAt.drewN ⟨hown, hbel⟩ k
        have hsz : w.heap.size ≤ (wr.drewN k).heap.size := hes1.2.size
        clear hown hbel hordr cO tX eX kX henv'
        generalize wr.drewN k = wd at *
        go_upto_if 320 with fail
        go_cut [40, 41] from 274 to 372 (fun ve vg wx => ∃ lj : Nat, (lifted E (fun a => C (T a).toNat) S p).length = lj + 1 ∧ vg = .int .i64 (lj : Int) ∧ EndsAt w (lifted E (fun a => C (T a).toNat) S p) ve wx)
        case first =>
          have hle := ends_le E (fun a => C (T a).toNat) S p
          cases hnew : isNew E (fun a => C (T a).toNat) S p with
          | true =>
            have HL : Hid (lifted E (fun a => C (T a).toNat) S p = ends E (fun a => C (T a).toNat) S p ++ [0]) := by simp [Hid, lifted, hnew]
            clear hnew
            obtain ⟨i0, hi', hz0, hz1, hz2⟩ := info_parts Try.info21
            generalize ends E (fun a => C (T a).toNat) S p = es at *
            obtain ⟨hown, hbel⟩ := hes1
            have hes1 : EndsAt w es u40 wd := ⟨hown, hbel⟩
            go_wp2_with (at_builtin; refine wpList_append_own _ rfl (.tmp 323) (.tmp 324) 22 rfl w.heap.size 21 i0 (.int .i32 0) 1 4 Try.underlying22 hi' hz0 hz1 hz2 rfl (by decide) u40 es.length (idl es) rfl (hown.alloc _) ⟨wd.heap.size, 0, none⟩ 1 1 [.int .i32 0] rfl rfl (cell_one_new _ _ _) (by simp [Value.oneCell']) (by unfold maxLen; omega) (by omega) (by rw [World.size_alloc]; omega) ?_; intro v' w1 hown1 hgrow1 _)
            go_meet
            case rel => exact ⟨es.length, by rw [HL.out, List.length_append]; rfl, by go_num, by rw [HL.out]; exact hes1.grow hown1 hgrow1⟩
          | false =>
            have HL : Hid (lifted E (fun a => C (T a).toNat) S p = ends E (fun a => C (T a).toNat) S p) := by simp [Hid, lifted, hnew]
            clear hnew
            go_wp2_with fail
            go_meet
            case rel =>
              have hpos := lifted_pos E (fun a => C (T a).toNat) S p
              rw [HL.out] at hpos
              exact ⟨(ends E (fun a => C (T a).toNat) S p).length - 1, by rw [HL.out]; omega, by congr 1; omega, by rw [HL.out]; exact hes1⟩
        case rest =>
          obtain ⟨lj, hlj, rfl, hes2⟩ := hcut
          have HE : Hid (ends E (fun a => C (T a).toNat) S (p + 1) = (lifted E (fun a => C (T a).toNat) S p).set lj (p + 1)) := by
            show ends E (fun a => C (T a).toNat) S (p + 1) = _
            rw [ends_succ, hlj]; rfl
          have HGp : Hid ((grp E (fun a => C (T a).toNat) S p : Int) = (lj : Int)) := by
            show (grp E (fun a => C (T a).toNat) S p : Int) = (lj : Int)
            unfold grp; rw [ends_len_succ]; omega
          have hlle : lj ≤ 4096 := by
            have h := ends_le E (fun a => C (T a).toNat) S (p + 1)
            rw [ends_len_succ] at h; omega
          clear hes1
          generalize lifted E (fun a => C (T a).toNat) S p = lf at *
          obtain ⟨g, cap, rfl, hgB, hgl, hcap⟩ := ownsRow_shape hes2.1 (by omega)
          have hes3 : EndsAt w (lf.set lj (p + 1)) (.slice (some ⟨g, 0, none⟩) lf.length cap) (wc.setCell ⟨g, lj, none⟩ (.int .i32 ((p : Int) + 1))) := hes2.put lj (p + 1)
          have hfz := hes2.1.frozenAt lj
          have hcc := hes2.1.cellAt lj (by omega)
          have hlj2 : lj < (idl lf).length := by simp [idl]; omega
          rw [List.getElem?_eq_getElem hlj2] at hcc
          have hli : (lj : Int) < (lf.length : Int) := by omega
          have HLF : Hid (lf.length = lj + 1) := hlj
          clear hlj hes2 hcap hgB hgl
          go_upto_region 67 with fail
          generalize wc.setCell ⟨g, lj, none⟩ (.int .i32 ((p : Int) + 1)) = w2 at *
          have henv2 := henv.below hes3.2
          obtain ⟨bT', oT', e1, tX, _⟩ := henv2.rT S[p] hxn
          cases e1
          have h21' := h21.below hes3.2
          have h22' := h22.below hes3.2
          have h23' := h23.below hes3.2
          obtain ⟨a21, c21, rfl, g21⟩ := h21'
          obtain ⟨a22, c22, rfl, g22⟩ := h22'
          obtain ⟨a23, c23, rfl, g23⟩ := h23'
          obtain ⟨b21, o21, rfl, x21⟩ := g21 p hlt
          obtain ⟨b22, o22, rfl, x22⟩ := g22 p hlt
          obtain ⟨b23, o23, rfl, x23⟩ := g23 p hlt
          replace x21 : w2.cell? ⟨b21, o21 + p, none⟩ = some (.int .i32 (T S[p])) := by rw [← hx]; exact x21
          replace x22 : w2.cell? ⟨b22, o22 + p, none⟩ = some (.int .i32 (lj : Int)) := by rw [← HGp.out]; exact x22
          clear HGp g21 g22 g23
          have hpi : (p : Int) < (m : Int) := by omega
          have hwl : IntKind.i32.wrap (lj : Int) = (lj : Int) := by rw [IntKind.wrap_i32]; omega
          go_quiet (fail)
          go_wp2_with fail
          have hes4 := hes3.drewN nq
          have x23' : (w2.drewN nq).cell? ⟨b23, o23 + p, none⟩ = some (.int .i32 ((nxt (fun q => X (S.getD q 0)) m p : Nat) : Int)) := x23
          clear x23 x21 x22 tX hes3
          generalize w2.drewN nq = w3 at *
          have hnle := nxt_le (fun q => X (S.getD q 0)) m p
          generalize HNX : nxt (fun q => X (S.getD q 0)) m p = np at *
          go_loopg [44] (m - p) (fun g iq wq => ∃ q : Nat, q ≤ m ∧ g = m - q ∧ iq = .int .i64 (q : Int) ∧ Hid (np = nxt (fun q => X (S.getD q 0)) m q) ∧ wq = w3)
          case atStart => exact ⟨p, by omega, rfl, rfl, HNX.symm, rfl⟩
          case round =>
            clear HNX
            obtain ⟨q, hq, hgk, rfl, HQ, rfl⟩ := hrel
            have hG2 : Hid (gk = m - q) := hgk
            clear hgk
            by_cases hlq : q < m
            · have hqL : q < S.length := by rw [HM.out]; exact hlq
              have hy : S.getD q 0 = S[q] := getD_lt hqL
              have hyn := hSn S[q] (List.getElem_mem hqL)
              have hordr := hord.below hes4.2 hord.lt
              have cQ : wr.cell? ⟨gO, q, none⟩ = some (.int .i64 ((S[q] : Nat) : Int)) := by
                have h := hordr.cell (i64s_get (fun p => (S.getD p 0 : Int)) hlq)
                simp only [hy] at h
                exact h
              obtain ⟨bX, oX, rfl, xQ⟩ := (henv.below hes4.2).rX S[q] hyn
              have hyi : ((S[q] : Nat) : Int) < (n : Int) := by omega
              have hqi : (q : Int) < (m : Int) := by omega
              have HS : Hid (np = if X S[q] then q else nxt (fun q => X (S.getD q 0)) m (q + 1)) := by
                show np = _
                rw [HQ.out, nxt_step _ hlq, hy]
              clear hy hordr HQ
              generalize S[q] = y at *
              cases hX : X y with
              | true =>
                rw [hX] at xQ HS
                have hnq : np = q := HS.out
                clear HS hX
                subst hnq
                have hwq : IntKind.i32.wrap (np : Int) = (np : Int) := by rw [IntKind.wrap_i32]; omega
                go_wp2_with fail
                go_roundg (m - (p + 1))
                case measure => have := hG.out; omega
                case rel => exact ⟨p + 1, by omega, rfl, by go_num, by rw [HE.out, List.length_set, HLF.out]; go_num, by rw [HE.out]; exact hes4⟩
              | false =>
                rw [hX] at xQ HS
                clear hX
                go_wp2_with fail
                go_roundg (m - (q + 1))
                case measure => have := hG2.out; omega
                case rel => exact ⟨q + 1, by omega, rfl, by go_num, HS, rfl⟩
            · have hqm : m = q := by omega
              subst hqm
              have hnq : np = m := by rw [HQ.out, nxt_end]
              clear HQ hlq
              subst hnq
              have hwq : IntKind.i32.wrap (np : Int) = (np : Int) := by rw [IntKind.wrap_i32]; omega
              go_wp2_with fail
              go_roundg (np - (p + 1))
              case measure => have := hG.out; omega
              case rel => exact ⟨p + 1, by omega, rfl, by go_num, by rw [HE.out, List.length_set, HLF.out]; go_num, by rw [HE.out]; exact hes4⟩
    · have hpm : m = p := by omega
      subst hpm
      clear hG hlt hp
      have hb := hes.2
      have hel := ends_le E (fun a => C (T a).toNat) S m
      have R40 : Rd wr u40 (ends E (fun a => C (T a).toNat) S m).length (fun j => ((ends E (fun a => C (T a).toNat) S m).getD j 0 : Int)) := by
        refine Rd.of_owns (B := w.heap.size) ?_
        have e : idl (ends E (fun a => C (T a).toNat) S m) = i32s (fun j => ((ends E (fun a => C (T a).toNat) S m).getD j 0 : Int)) (ends E (fun a => C (T a).toNat) S m).length := by
          apply List.ext_getElem
          · simp [idl, i32s]
          · intro i h1 h2
            have h3 : i < (ends E (fun a => C (T a).toNat) S m).length := by simpa [idl] using h1
            simp [idl, i32s, h3]
        rw [← e]; exact hes.1
      go_wp2_with fail
      exact l25 aT aE aX aC n nt (ends E (fun a => C (T a).toNat) S m).length cT cC gK T E C X rk pl _ v24 v25 v26 v27 v28 v29 v30 u40 G wr hn hnt (by omega) (henv.below hb) hT (h24.below hb) (h25.below hb) (h26.below hb) (h27.below hb) (h28.below hb) R40 (h29.below hb) (h30.below hb) (hrk.below hb hrk.lt) hrl hpl (fun a h1 h2 => hQ a wr hb h1 h2)
end Go.Proofs.Qxb6613322a

