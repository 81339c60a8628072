/-
  FnNewCycleSearchIgnoresOffCycle BY A CONTRACT: it returns true.
-/
import Derived.Test.Qxb6613322aIgnD
namespace Go.Proofs.Qxb6613322a
open Go.RowKit
set_option linter.unusedVariables false

set_option maxRecDepth 100000 in
set_option maxHeartbeats 2000000 in
theorem k1 (aT aE aX aC : Option Addr) (n nE nX nt cT cE cX cC : Nat) (count ne : Int) (T E C : Nat → Int) (X : Nat → Bool) {u6 u7 u8 u9 u10 u11 u12 u13 u14 u15 u16 u17 u18 u19 u20 u21 u22 u23 u24 u25 u26 u27 u28 u29 u30 u31 u32 u33 u34 u35 u36 u37 u38 u39 u40 u41 u42 u43 u44 u45 u46 u47 u48 u49 u50 u51 u52 u53 u54 u55 u56 u57 u58 u59 u60 u61 u62 u63 u64 u65 u66 u67 u68 u69 u70 u71 u72 u73 u74 u75 u76 u77 u78 u79 u80 u81 u82 u83 u84 u85 u86 u87 u88 u89 u90 u91 u92 u93 u94 u95 u96 u97 u98 u99 u100 u101 u102 u103 u104 u105 u106 u107 u108 u109 u110 u111 u112 u113 u114 u115 u116 u117 u118 u119 u120 u121 u122 u123 u124 u125 u126 u127 u128 u129 u130 u131 u132 u133 u134 u135 u136 u137 u138 u139 u140 u141 u142 u143 u144 u145 u146 u147 u148 u149 u150 u151 u152 u153 u154 u155 u156 u157 u158 u159 u160 u161 u162 u163 u164 u165 u166 u167 u168 u169 u170 u171 u172 u173 u174 u175 u176 u177 u178 u179 u180 u181 u182 u183 u184 u185 u186 u187 u188 u189 u190 u191 u192 u193 u194 u195 u196 u197 u198 u199 u200 u201 u202 u203 u204 u205 u206 u207 u208 u209 u210 u211 u212 u213 u214 u215 u216 u217 u218 u219 u220 u221 u222 u223 u224 u225 u226 u227 u228 u229 u230 u231 u232 u233 u234 u235 u236 u237 u238 u239 u240 u241 u242 u243 u244 u245 u246 u247 u248 u249 u250 u251 u252 u253 u254 u255 u256 u257 u258 u259 u260 u261 u262 u263 u264 u265 u266 u267 u268 u269 u270 u271 u272 u273 u274 u275 u276 u277 u278 u279 u280 u281 u282 u283 u284 u285 u286 u287 u288 u289 u290 u291 u292 u293 u294 u295 u296 u297 u298 u299 u300 u301 u302 u303 u304 u305 u306 u307 u308 u309 u310 u311 u312 u313 u314 u315 u316 u317 u318 u319 u320 u321 u322 u323 u324 u325 u326 u327 u328 u329 u330 u331 u332 u333 u334 u335 u336 u337 u338 u339 u340 u341 u342 u343 u344 u345 u346 u347 u348 u349 u350 u351 u352 u353 u354 u355 u356 u357 u358 u359 u360 u361 u362 u363 u364 u365 u366 u367 u368 u369 u370 u371 u372 u373 u374 u375 u376 u377 u378 u379 u380 u381 u382 u383 u384 u385 u386 u387 u388 u389 u390 u391 u392 u393 u394 u395 u396 u397 : Value} (G : Act → World → Prop) (w : World)
    (hb : n ≤ 9223372036854775807) (hbE : nE ≤ 9223372036854775807) (hbX : nX ≤ 9223372036854775807) (hbC : nt ≤ 9223372036854775807)
    (rT : IntRow w aT n T) (rE : IntRow w aE nE E) (rX : BoolRow w aX nX X) (rC : IntRow w aC nt C)
    (hQ : ∀ a w', Below w.heap.size w w' → a.defers = [] → a.tmps.getD 12 undef = .bool true → G a w') :
    Code.wp Try.prog (tl5 1) (RetOnly G) ⟨((.slice aT n cT) :: (.slice aE nE cE) :: (.slice aX nX cX) :: (.slice aC nt cC) :: (.int .i64 count) :: (.int .i64 ne) :: u6 :: u7 :: u8 :: u9 :: u10 :: u11 :: u12 :: u13 :: u14 :: u15 :: u16 :: u17 :: u18 :: u19 :: u20 :: u21 :: u22 :: u23 :: u24 :: u25 :: u26 :: u27 :: u28 :: u29 :: u30 :: u31 :: u32 :: u33 :: u34 :: u35 :: u36 :: u37 :: u38 :: u39 :: u40 :: u41 :: u42 :: u43 :: u44 :: u45 :: u46 :: u47 :: u48 :: u49 :: u50 :: u51 :: u52 :: u53 :: u54 :: u55 :: u56 :: u57 :: u58 :: u59 :: u60 :: u61 :: u62 :: u63 :: u64 :: u65 :: u66 :: u67 :: u68 :: u69 :: u70 :: u71 :: u72 :: u73 :: u74 :: u75 :: u76 :: u77 :: u78 :: u79 :: u80 :: u81 :: u82 :: u83 :: u84 :: u85 :: u86 :: u87 :: u88 :: u89 :: u90 :: u91 :: u92 :: u93 :: u94 :: u95 :: u96 :: u97 :: u98 :: u99 :: u100 :: u101 :: u102 :: u103 :: u104 :: u105 :: u106 :: u107 :: u108 :: u109 :: u110 :: u111 :: u112 :: u113 :: u114 :: u115 :: u116 :: u117 :: u118 :: u119 :: u120 :: u121 :: u122 :: u123 :: u124 :: u125 :: u126 :: u127 :: u128 :: u129 :: u130 :: u131 :: u132 :: u133 :: u134 :: u135 :: u136 :: u137 :: u138 :: u139 :: u140 :: u141 :: u142 :: u143 :: u144 :: u145 :: u146 :: u147 :: u148 :: u149 :: u150 :: u151 :: u152 :: u153 :: u154 :: u155 :: u156 :: u157 :: u158 :: u159 :: u160 :: u161 :: u162 :: u163 :: u164 :: u165 :: u166 :: u167 :: u168 :: u169 :: u170 :: u171 :: u172 :: u173 :: u174 :: u175 :: u176 :: u177 :: u178 :: u179 :: u180 :: u181 :: u182 :: u183 :: u184 :: u185 :: u186 :: u187 :: u188 :: u189 :: u190 :: u191 :: u192 :: u193 :: u194 :: u195 :: u196 :: u197 :: u198 :: u199 :: u200 :: u201 :: u202 :: u203 :: u204 :: u205 :: u206 :: u207 :: u208 :: u209 :: u210 :: u211 :: u212 :: u213 :: u214 :: u215 :: u216 :: u217 :: u218 :: u219 :: u220 :: u221 :: u222 :: u223 :: u224 :: u225 :: u226 :: u227 :: u228 :: u229 :: u230 :: u231 :: u232 :: u233 :: u234 :: u235 :: u236 :: u237 :: u238 :: u239 :: u240 :: u241 :: u242 :: u243 :: u244 :: u245 :: u246 :: u247 :: u248 :: u249 :: u250 :: u251 :: u252 :: u253 :: u254 :: u255 :: u256 :: u257 :: u258 :: u259 :: u260 :: u261 :: u262 :: u263 :: u264 :: u265 :: u266 :: u267 :: u268 :: u269 :: u270 :: u271 :: u272 :: u273 :: u274 :: u275 :: u276 :: u277 :: u278 :: u279 :: u280 :: u281 :: u282 :: u283 :: u284 :: u285 :: u286 :: u287 :: u288 :: u289 :: u290 :: u291 :: u292 :: u293 :: u294 :: u295 :: u296 :: u297 :: u298 :: u299 :: u300 :: u301 :: u302 :: u303 :: u304 :: u305 :: u306 :: u307 :: u308 :: u309 :: u310 :: u311 :: u312 :: u313 :: u314 :: u315 :: u316 :: u317 :: u318 :: u319 :: u320 :: u321 :: u322 :: u323 :: u324 :: u325 :: u326 :: u327 :: u328 :: u329 :: u330 :: u331 :: u332 :: u333 :: u334 :: u335 :: u336 :: u337 :: u338 :: u339 :: u340 :: u341 :: u342 :: u343 :: u344 :: u345 :: u346 :: u347 :: u348 :: u349 :: u350 :: u351 :: u352 :: u353 :: u354 :: u355 :: u356 :: u357 :: u358 :: u359 :: u360 :: u361 :: u362 :: u363 :: u364 :: u365 :: u366 :: u367 :: u368 :: u369 :: u370 :: u371 :: u372 :: u373 :: u374 :: u375 :: u376 :: u377 :: u378 :: u379 :: u380 :: u381 :: u382 :: u383 :: u384 :: u385 :: u386 :: u387 :: u388 :: u389 :: u390 :: u391 :: u392 :: u393 :: u394 :: u395 :: u396 :: u397 :: []).toArray, []⟩ w := by
  have b9 := bytes17 aT aE aX aC n nE nX nt cT cE cX cC count ne w
  have hQ0 := fun a => hQ a w (Below.refl _ _)
  conv => arg 2; whnf
  refine wp_seq_k (y := tl5 2) (fun K hK => ?_)
  go_upto_region 1 with fail
  go_wp2_with ((go_at_call 17; refine b9.mono ?_; rintro e w' ⟨b, rfl, hw⟩; rw [hw]; clear hw; cases b))
  · exact hQ0 _ rfl rfl
  conv => arg 2; whnf
  refine wp_seq_k (y := tl5 3) (fun K hK => ?_)
  by_cases h1 : 4096 < n
  · go_wp2_with fail
    exact hQ0 _ rfl rfl
  by_cases h2 : 4096 < nE
  · go_wp2_with fail
    exact hQ0 _ rfl rfl
  by_cases h3 : 4096 < nX
  · go_wp2_with fail
    exact hQ0 _ rfl rfl
  by_cases h4 : 65536 < nt
  · go_wp2_with fail
    exact hQ0 _ rfl rfl
  go_wp2_with fail
  conv => arg 2; whnf
  refine wp_seq_k (y := tl5 4) (fun K hK => ?_)
  by_cases h5 : (1048576 : Int) < 4 * n + 4 * nE + nX + 4 * nt
  · go_wp2_with fail
    exact hQ0 _ rfl rfl
  go_wp2_with fail
  clear h5
  conv => arg 2; whnf
  refine wp_seq_k (y := tl5 5) (fun K hK => ?_)
  by_cases h6 : nE = n
  case neg =>
    have h6' : ((nE : Int) == (n : Int)) = false := by simp; omega
    go_wp2_with fail
    exact hQ0 _ rfl rfl
  subst h6
  by_cases h7 : nX = nE
  case neg =>
    have h7' : ((nX : Int) == (nE : Int)) = false := by simp; omega
    go_wp2_with fail
    exact hQ0 _ rfl rfl
  subst h7
  go_wp2_with fail
  conv => arg 2; whnf
  refine wp_seq_k (y := tl5 6) (fun K hK => ?_)
  by_cases h8 : count < 0
  · go_wp2_with fail
    exact hQ0 _ rfl rfl
  by_cases h9 : 65536 < count
  · go_wp2_with fail
    exact hQ0 _ rfl rfl
  by_cases h10 : ne < 0
  · go_wp2_with fail
    exact hQ0 _ rfl rfl
  by_cases h11 : 65536 < ne
  · go_wp2_with fail
    exact hQ0 _ rfl rfl
  go_wp2_with fail
  conv => arg 2; whnf
  refine wp_seq_k (y := tl5 7) (fun K hK => ?_)
  have c10 := csDomain_any aT aE aC nX cT cE nt cC T E C count ne w (by omega) (by omega) (by omega) (by omega) rT rE rC
  go_wp2_with ((go_at_call 10; refine c10.mono ?_; rintro e w' ⟨hd, hw⟩; rw [hw]; clear hw; rcases hd with rfl | ⟨rfl, hd⟩))
  · exact hQ0 _ rfl rfl
  obtain ⟨cn, rfl⟩ : ∃ cn : Nat, count = (cn : Int) := ⟨count.toNat, by omega⟩
  obtain ⟨nn, rfl⟩ : ∃ nn : Nat, ne = (nn : Int) := ⟨ne.toNat, by omega⟩
  exact k7 aT aE aX aC nX nt cT cE cX cC cn nn T E C X G w (by omega) (by omega) (by omega) (by omega) ⟨rT, rE, rX, rC⟩ hd hQ

set_option maxRecDepth 100000 in
set_option maxHeartbeats 2000000 in
theorem law5 (aT aE aX aC : Option Addr) (n nE nX nt cT cE cX cC : Nat) (count ne : Int) (T E C : Nat → Int) (X : Nat → Bool) (w : World)
    (hb : n ≤ 9223372036854775807) (hbE : nE ≤ 9223372036854775807) (hbX : nX ≤ 9223372036854775807) (hbC : nt ≤ 9223372036854775807)
    (rT : IntRow w aT n T) (rE : IntRow w aE nE E) (rX : BoolRow w aX nX X) (rC : IntRow w aC nt C) :
    Calls Try.prog 5 #[.slice aT n cT, .slice aE nE cE, .slice aX nX cX, .slice aC nt cC, .int .i64 count, .int .i64 ne] w fun e w' => e = .returned (.bool true) ∧ Below w.heap.size w w' := by
  go_enter Try.func5, Try.ntmps5
  refine Code.wp_mono (Q := RetOnly fun a w' => bodyPost Try.prog Try.f5 (fun e w' => e = .returned (.bool true) ∧ Below w.heap.size w w') .ret a w') (fun e a w' h => by cases e <;> first | exact h | exact h.elim) ?_
  refine wp_seq_k (y := tl5 1) (fun K hK => ?_)
  go_wp2_with fail
  refine k1 aT aE aX aC n nE nX nt cT cE cX cC count ne T E C X _ w hb hbE hbX hbC rT rE rX rC ?_
  intro a w' hbel hd h12
  refine bodyPost_ret (results_tmp rfl _ _ _) hd ⟨?_, hbel⟩
  rw [h12]
end Go.Proofs.Qxb6613322a

