/-
  FnNewCycleSearchIgnoresOffCycle: the shorter schedule, its search; then what follows.
-/
import Derived.Test.Qxb6613322aIgnA
import Derived.Test.Qxb6613322aCopies
namespace Go.Proofs.Qxb6613322a
open Go.RowKit
set_option linter.unusedVariables false

/-- WHAT THE SCHEDULE KEEPS TO. -/
structure Fits (T E C : Nat → Int) (n nt count ne : Nat) : Prop where
  hT : ∀ i, i < n → 0 ≤ T i ∧ T i < nt
  hE : ∀ i, i < n → 0 ≤ E i ∧ E i < ne
  hC : ∀ i, i < n → onC T C i = true → 0 ≤ C (T i).toNat ∧ C (T i).toNat < count
theorem Fits.drop {T E C : Nat → Int} {n nt count ne : Nat} (h : Fits T E C n nt count ne) : Fits (fun j => T (io T C n j)) (fun j => E (io T C n j)) C (onR T C n).length nt count ne :=
  ⟨fun i hi => h.hT _ (io_on hi).1, fun i hi => h.hE _ (io_on hi).1, fun i hi _ => h.hC _ (io_on hi).1 (io_on hi).2⟩
theorem Row.ints {w : World} {g m : Nat} {Z : Nat → Int} {b : Nat} (h : Row w g 21 (i32s Z m)) (hb : b ≤ 65536) (hz : ∀ i, i < m → 0 ≤ Z i ∧ Z i < b) : IntRow w (some ⟨g, 0, none⟩) m Z := by
  intro k hk
  have := hz k hk
  exact ⟨g, 0, rfl, by rw [Nat.zero_add]; exact h.cell (i32s_get Z hk), by omega, by omega⟩
theorem Row.bools {w : World} {g m : Nat} {X : Nat → Bool} (h : Row w g 4 (bools X m)) : BoolRow w (some ⟨g, 0, none⟩) m X :=
  fun k hk => ⟨g, 0, rfl, by rw [Nat.zero_add]; exact h.cell (bools_get X hk)⟩

/-- WHAT IS TRUE OF THE SHORTER SCHEDULE'S SEARCH, beside the whole's. -/
structure Half (T E C : Nat → Int) (X : Nat → Bool) (n nt m count ne : Nat) (T' E' : Nat → Int) (X' : Nat → Bool) (SA SB : List Nat) : Prop where
  le : m ≤ n
  fit : Fits T' E' C m nt count ne
  cnt : ((List.range m).filter (onC T' C)).length = m
  alt : ∀ (w : World) (v1 v2 v3 v4 v5 v6 v7 v8 v9 v10 : Value), Shown w m m nt (Srt25 T' E' C count ne ((List.range m).filter (onC T' C))) T' E' C X' v1 v2 v3 v4 v5 v6 v7 v8 v9 v10 → Alt w m nt SA SB T E C X v1 v2 v3 v4 v5 v6 v7 v8 v9 v10
  pl : ∀ a, a < n → onC T C a = true → (onR T C a).length < m ∧ (plc SA m a : Int) = (plc SB m (onR T C a).length : Int)
theorem half {T E C : Nat → Int} {n nt m count ne : Nat} (X : Nat → Bool) (hf : Fits T E C n nt count ne) (hm : m = (onR T C n).length) : Half T E C X n nt m count ne (fun j => T (io T C n j)) (fun j => E (io T C n j)) (fun j => X (io T C n j)) (Srt25 T E C count ne (onR T C n)) (Srt25 (fun j => T (io T C n j)) (fun j => E (io T C n j)) C count ne (List.range m)) := by
  have hf' := hf.drop
  have hk := onR_kept T C n
  have hsd := srt_drop T E C n count ne
  have hon : ∀ a, a < n → onC T C a = true → (onR T C a).length < m ∧ io T C n (onR T C a).length = a := by rw [hm]; exact fun a ha ho => io_at ha ho
  have hinj : ∀ i j, i < m → j < m → io T C n i = io T C n j → i = j := by rw [hm]; exact fun i j hi hj e => io_inj hi hj e
  rw [← hm] at hf' hk hsd
  have hS : Sorted (fun j => T (io T C n j)) (fun j => E (io T C n j)) C m (Srt25 (fun j => T (io T C n j)) (fun j => E (io T C n j)) C count ne (onR (fun j => T (io T C n j)) C m)) := sorted_srt hf'.hC hf'.hE
  rw [hk] at hsd hS
  have hSl := hS.len
  rw [hk, List.length_range] at hSl
  have hSm : ∀ i ∈ Srt25 (fun j => T (io T C n j)) (fun j => E (io T C n j)) C count ne (List.range m), i < m := fun i hi => (hS.mem.1 hi).1
  have hfl : (List.range m).filter (onC (fun j => T (io T C n j)) C) = List.range m := hk
  refine ⟨by rw [hm]; exact onR_le T C n, hf', by rw [hfl, List.length_range], ?_, ?_⟩
  · intro w v1 v2 v3 v4 v5 v6 v7 v8 v9 v10 hsB
    rw [hfl] at hsB
    have hal := hsB.alt (f := io T C n) hSl
    rw [← hsd] at hal
    exact hal
  · intro a ha ho
    obtain ⟨h1, h2⟩ := hon a ha ho
    refine ⟨h1, ?_⟩
    have h3 := plc_drop (f := io T C n) (b := (onR T C a).length) hSl hSm hinj h1
    rw [← hsd, h2] at h3
    rw [h3]

set_option maxRecDepth 100000 in
set_option maxHeartbeats 1000000 in
theorem k21 (aT aC : Option Addr) (n nt m cT cC count ne g1 g2 g3 gI : Nat) (T E C T' E' : Nat → Int) (X X' : Nat → Bool) (SA SB : List Nat) (v21 v22 v23 v24 v25 v26 v27 v28 v29 v30 : Value) {u1 u2 u6 u7 u8 u9 u10 u11 u12 u13 u14 u15 u16 u17 u18 u19 u33 u38 u39 u40 u41 u42 u43 u44 u45 u46 u47 u48 u49 u50 u51 u52 u53 u54 u55 u56 u57 u58 u59 u60 u61 u62 u63 u64 u65 u66 u67 u68 u69 u70 u71 u72 u73 u74 u75 u76 u77 u78 u79 u80 u81 u82 u83 u84 u85 u86 u87 u88 u89 u90 u91 u92 u93 u94 u95 u96 u97 u98 u99 u100 u101 u102 u103 u104 u105 u106 u107 u108 u109 u110 u111 u112 u113 u114 u115 u116 u117 u118 u119 u120 u121 u122 u123 u124 u125 u126 u127 u128 u129 u130 u131 u132 u133 u134 u135 u136 u137 u138 u139 u140 u141 u142 u143 u144 u145 u146 u147 u148 u149 u150 u151 u152 u153 u154 u155 u156 u157 u158 u159 u160 u161 u162 u163 u164 u165 u166 u167 u168 u169 u170 u171 u172 u173 u174 u175 u176 u177 u178 u179 u180 u181 u182 u183 u184 u185 u186 u187 u188 u189 u190 u191 u192 u193 u194 u195 u196 u197 u198 u199 u200 u201 u202 u203 u204 u205 u206 u207 u208 u209 u210 u211 u212 u213 u214 u215 u216 u217 u218 u219 u220 u221 u222 u223 u224 u225 u226 u227 u228 u229 u230 u231 u232 u233 u234 u235 u236 u237 u238 u239 u240 u241 u242 u243 u244 u245 u246 u247 u248 u249 u250 u251 u252 u253 u254 u255 u256 u257 u258 u259 u260 u261 u262 u263 u264 u265 u266 u267 u268 u269 u270 u271 u272 u273 u274 u275 u276 u277 u278 u279 u280 u281 u282 u283 u284 u285 u286 u287 u288 u289 u290 u291 u292 u293 u294 u295 u296 u297 u298 u299 u300 u301 u302 u303 u304 u305 u306 u307 u308 u309 u310 u311 u312 u313 u314 u315 u316 u317 u318 u319 u320 u321 u322 u323 u324 u325 u326 u327 u328 u329 u330 u331 u332 u333 u334 u335 u336 u337 u338 u339 u340 u341 u342 u343 u344 u345 u346 u347 u348 u349 u350 u351 u352 u353 u354 u355 u356 u357 u358 u359 u360 u361 u362 u363 u364 u365 u366 u367 u368 u369 u370 u371 u372 u373 u374 u375 u376 u377 u378 u379 u380 u381 u382 u383 u384 u385 u386 u387 u388 u389 u390 u391 u392 u393 u394 u395 u396 u397 : Value} (G : Act → World → Prop) (w : World)
    (hn : n ≤ 4096) (hnt : nt ≤ 65536) (hcount : count ≤ 65536) (hne : ne ≤ 65536) (H : Half T E C X n nt m count ne T' E' X' SA SB) (rC : IntRow w aC nt C) (hCB : ∀ b off, aC = some ⟨b, off, none⟩ → b < w.heap.size)
    (r1 : Row w g1 21 (i32s T' m)) (r2 : Row w g2 21 (i32s E' m)) (r3 : Row w g3 4 (bools X' m)) (hI : Row w gI 3 (i64s (fun a => if onC T C a then ((onR T C a).length : Int) else -1) n))
    (hsh : Shown w m n nt SA T E C X v21 v22 v23 v24 v25 v26 v27 v28 v29 v30)
    (hQ : ∀ a w', Below w.heap.size w w' → a.defers = [] → a.tmps.getD 12 undef = .bool true → G a w') :
    Code.wp Try.prog (tl5 21) (RetOnly G) ⟨((.slice aT n cT) :: u1 :: u2 :: (.slice aC nt cC) :: (.int .i64 (count : Int)) :: (.int .i64 (ne : Int)) :: u6 :: u7 :: u8 :: u9 :: u10 :: u11 :: u12 :: u13 :: u14 :: u15 :: u16 :: u17 :: u18 :: u19 :: (.bool true) :: v21 :: v22 :: v23 :: v24 :: v25 :: v26 :: v27 :: v28 :: v29 :: v30 :: (.int .i64 0) :: (.int .i64 (m : Int)) :: u33 :: (.slice (some ⟨g1, 0, none⟩) m m) :: (.slice (some ⟨g2, 0, none⟩) m m) :: (.slice (some ⟨g3, 0, none⟩) m m) :: (.slice (some ⟨gI, 0, none⟩) n n) :: u38 :: u39 :: u40 :: u41 :: u42 :: u43 :: u44 :: u45 :: u46 :: u47 :: u48 :: u49 :: u50 :: u51 :: u52 :: u53 :: u54 :: u55 :: u56 :: u57 :: u58 :: u59 :: u60 :: u61 :: u62 :: u63 :: u64 :: u65 :: u66 :: u67 :: u68 :: u69 :: u70 :: u71 :: u72 :: u73 :: u74 :: u75 :: u76 :: u77 :: u78 :: u79 :: u80 :: u81 :: u82 :: u83 :: u84 :: u85 :: u86 :: u87 :: u88 :: u89 :: u90 :: u91 :: u92 :: u93 :: u94 :: u95 :: u96 :: u97 :: u98 :: u99 :: u100 :: u101 :: u102 :: u103 :: u104 :: u105 :: u106 :: u107 :: u108 :: u109 :: u110 :: u111 :: u112 :: u113 :: u114 :: u115 :: u116 :: u117 :: u118 :: u119 :: u120 :: u121 :: u122 :: u123 :: u124 :: u125 :: u126 :: u127 :: u128 :: u129 :: u130 :: u131 :: u132 :: u133 :: u134 :: u135 :: u136 :: u137 :: u138 :: u139 :: u140 :: u141 :: u142 :: u143 :: u144 :: u145 :: u146 :: u147 :: u148 :: u149 :: u150 :: u151 :: u152 :: u153 :: u154 :: u155 :: u156 :: u157 :: u158 :: u159 :: u160 :: u161 :: u162 :: u163 :: u164 :: u165 :: u166 :: u167 :: u168 :: u169 :: u170 :: u171 :: u172 :: u173 :: u174 :: u175 :: u176 :: u177 :: u178 :: u179 :: u180 :: u181 :: u182 :: u183 :: u184 :: u185 :: u186 :: u187 :: u188 :: u189 :: u190 :: u191 :: u192 :: u193 :: u194 :: u195 :: u196 :: u197 :: u198 :: u199 :: u200 :: u201 :: u202 :: u203 :: u204 :: u205 :: u206 :: u207 :: u208 :: u209 :: u210 :: u211 :: u212 :: u213 :: u214 :: u215 :: u216 :: u217 :: u218 :: u219 :: u220 :: u221 :: u222 :: u223 :: u224 :: u225 :: u226 :: u227 :: u228 :: u229 :: u230 :: u231 :: u232 :: u233 :: u234 :: u235 :: u236 :: u237 :: u238 :: u239 :: u240 :: u241 :: u242 :: u243 :: u244 :: u245 :: u246 :: u247 :: u248 :: u249 :: u250 :: u251 :: u252 :: u253 :: u254 :: u255 :: u256 :: u257 :: u258 :: u259 :: u260 :: u261 :: u262 :: u263 :: u264 :: u265 :: u266 :: u267 :: u268 :: u269 :: u270 :: u271 :: u272 :: u273 :: u274 :: u275 :: u276 :: u277 :: u278 :: u279 :: u280 :: u281 :: u282 :: u283 :: u284 :: u285 :: u286 :: u287 :: u288 :: u289 :: u290 :: u291 :: u292 :: u293 :: u294 :: u295 :: u296 :: u297 :: u298 :: u299 :: u300 :: u301 :: u302 :: u303 :: u304 :: u305 :: u306 :: u307 :: u308 :: u309 :: u310 :: u311 :: u312 :: u313 :: u314 :: u315 :: u316 :: u317 :: u318 :: u319 :: u320 :: u321 :: u322 :: u323 :: u324 :: u325 :: u326 :: u327 :: u328 :: u329 :: u330 :: u331 :: u332 :: u333 :: u334 :: u335 :: u336 :: u337 :: u338 :: u339 :: u340 :: u341 :: u342 :: u343 :: u344 :: u345 :: u346 :: u347 :: u348 :: u349 :: u350 :: u351 :: u352 :: u353 :: u354 :: u355 :: u356 :: u357 :: u358 :: u359 :: u360 :: u361 :: u362 :: u363 :: u364 :: u365 :: u366 :: u367 :: u368 :: u369 :: u370 :: u371 :: u372 :: u373 :: u374 :: u375 :: u376 :: u377 :: u378 :: u379 :: u380 :: u381 :: u382 :: u383 :: u384 :: u385 :: u386 :: u387 :: u388 :: u389 :: u390 :: u391 :: u392 :: u393 :: u394 :: u395 :: u396 :: u397 :: []).toArray, []⟩ w := by
  have hmn : m ≤ 4096 := Nat.le_trans H.le hn
  have i1 := r1.ints hnt H.fit.hT
  have i2 := r2.ints hne H.fit.hE
  have i3 := r3.bools
  clear r1 r2 r3
  have c11 := csChains_any (some ⟨g1, 0, none⟩) m m nt T' w hmn hnt i1 H.fit.hT
  conv => arg 2; whnf
  refine wp_seq_k (y := tl5 22) (fun K hK => ?_)
  go_wp2_with ((go_at_call 11; refine c11.mono ?_; rintro e w1 ⟨g, h, rfl, hg, hh, hb1⟩))
  clear c11
  have c12 := build_any (some ⟨g1, 0, none⟩) (some ⟨g2, 0, none⟩) (some ⟨g3, 0, none⟩) g h m m m m nt T' E' X' ne w1 hmn hnt hne (i1.below hb1) (i2.below hb1) (i3.below hb1) hg hh
  conv => arg 2; whnf
  refine wp_seq_k (y := tl5 23) (fun K hK => ?_)
  go_wp2_with ((go_at_call 12; refine c12.mono ?_; rintro e w2 ⟨rfl, hacq, hent, hb2⟩))
  clear c12
  obtain ⟨hA, hacq⟩ := hacq.named
  have hb12 : Below w.heap.size w w2 := hb1.trans (hb2.mono hb1.size)
  have c14 := ncs14 w1.heap.size m nt cC hA count ne aC T' E' C X' w2 hmn hnt hcount hne H.fit.hC H.fit.hE hacq hent (rC.below hb12) H.fit.hT (fun b off e => Nat.lt_of_lt_of_le (hCB b off e) hb12.size)
  rw [H.cnt] at c14
  conv => arg 2; whnf
  refine wp_seq_k (y := tl5 24) (fun K hK => ?_)
  go_wp2_with (first | (go_at_call 14; refine c14.mono ?_; rintro e w3 ⟨v, rfl, hout⟩) | (go_at_call 13; refine (show13 hmn hmn hnt hout).mono ?_; rintro e w4 ⟨v1, v2, v3, v4, v5, v6, v7, v8, v9, v10, rfl, hsB, hb4⟩))
  have hb3 : Below w2.heap.size w2 w3 := by
    obtain ⟨_, _, _, _, _, _, _, hf⟩ := hout
    exact hf.below
  have hb24 : Below w.heap.size w w4 := (hb12.trans (hb3.mono hb12.size)).trans (hb4.mono (Nat.le_trans hb12.size hb3.size))
  have hal := H.alt w4 v1 v2 v3 v4 v5 v6 v7 v8 v9 v10 hsB
  have hsA := hsh.below hb24
  exact k24 aT n nt m (ends E (fun a => C (T a).toNat) SA m).length cT gI T C _ _ _ _ _ _ _ _ v21 v22 v23 v24 v25 v26 v27 v28 v29 v30 v1 v2 v3 v4 v5 v6 v7 v8 v9 v10 G w4 hn hmn (Nat.le_trans (ends_le _ _ _ _) hmn) hnt hsA.r4 hal.r4 (hI.below hb24 hI.lt) H.pl hsA.r1 hal.r1 hsA.r2 hal.r2 hsA.r3 hal.r3 hsA.r5 hal.r5 hsA.r6 hal.r6 hsA.r7 hal.r7 hsA.r8 hal.r8 hsA.r9 hal.r9 hsA.r10 hal.r10 (fun a w' h1 h2 h3 => hQ a w' (hb24.trans (h1.mono hb24.size)) h2 h3)

/-- BETWEEN TWO STEPS of the second loop: how far each of the three rows has come, and the new places. -/
def Kp (w : World) (n m : Nat) (T E : Nat → Int) (X : Nat → Bool) (k1 k2 k3 : Nat) (I : Nat → Int) (wr : World) : Prop :=
  Row wr w.heap.size 21 (i32s (upto T k1) m) ∧ Row wr (w.heap.size + 1) 21 (i32s (upto E k2) m) ∧ Row wr (w.heap.size + 2) 4 (bools (fun j => decide (j < k3) && X j) m) ∧ Row wr (w.heap.size + 3) 3 (i64s I n) ∧ Below w.heap.size w wr
theorem i32s_put (Z : Nat → Int) (m k : Nat) : (i32s (upto Z k) m).set k (.int .i32 (Z k)) = i32s (upto Z (k + 1)) m := by
  rw [i32s_set]
  congr 1
  funext j
  rw [upto_step]
theorem bools_put (X : Nat → Bool) (m k : Nat) : (bools (fun j => decide (j < k) && X j) m).set k (.bool (X k)) = bools (fun j => decide (j < k + 1) && X j) m := by
  apply List.ext_getElem
  · simp [bools]
  · intro i h1 h2
    simp only [bools, List.getElem_set, List.getElem_map, List.getElem_range]
    by_cases e : k = i
    · subst e; simp
    · rw [if_neg e]
      by_cases h : i < k
      · simp [h, show i < k + 1 by omega]
      · simp [h, show ¬ i < k + 1 by omega]
theorem i64s_zero' (n : Nat) : List.replicate n (Value.int .i64 0) = i64s (fun _ => 0) n := by
  apply List.ext_getElem
  · simp [i64s]
  · intro i h1 h2
    simp [i64s]
theorem Kp.start (w : World) (n m : Nat) (T E : Nat → Int) (X : Nat → Bool) : Kp w n m T E X 0 0 0 (fun _ => 0) ((((w.alloc (.cells (madeCells #[.int .i32 0] m) 21)).alloc (.cells (madeCells #[.int .i32 0] m) 21)).alloc (.cells (madeCells #[.bool false] m) 4)).alloc (.cells (madeCells #[.int .i64 0] n) 3)) := by
  have h1 := (((Row.made w 21 (.int .i32 0) m).alloc (.cells (madeCells #[.int .i32 0] m) 21)).alloc (.cells (madeCells #[.bool false] m) 4)).alloc (.cells (madeCells #[.int .i64 0] n) 3)
  have h2 := ((Row.made (w.alloc (.cells (madeCells #[.int .i32 0] m) 21)) 21 (.int .i32 0) m).alloc (.cells (madeCells #[.bool false] m) 4)).alloc (.cells (madeCells #[.int .i64 0] n) 3)
  have h3 := (Row.made ((w.alloc (.cells (madeCells #[.int .i32 0] m) 21)).alloc (.cells (madeCells #[.int .i32 0] m) 21)) 4 (.bool false) m).alloc (.cells (madeCells #[.int .i64 0] n) 3)
  have h4 := Row.made (((w.alloc (.cells (madeCells #[.int .i32 0] m) 21)).alloc (.cells (madeCells #[.int .i32 0] m) 21)).alloc (.cells (madeCells #[.bool false] m) 4)) 3 (.int .i64 0) n
  simp only [World.size_alloc] at h2 h3 h4
  rw [i32s_zero] at h1 h2
  rw [i64s_zero'] at h4
  refine ⟨?_, ?_, ?_, h4, ?_⟩
  · rw [upto_zero]; exact h1
  · rw [upto_zero]; exact h2
  · have e : List.replicate m (Value.bool false) = bools (fun j => decide (j < 0) && X j) m := by
      apply List.ext_getElem
      · simp [bools]
      · intro i h1 h2
        simp [bools]
    rw [← e]; exact h3
  · exact ((((Below.refl _ w).alloc (Nat.le_refl _) _).alloc (by simp only [World.size_alloc]; omega) _).alloc (by simp only [World.size_alloc]; omega) _).alloc (by simp only [World.size_alloc]; omega) _
theorem Kp.idx {w : World} {n m : Nat} {T E : Nat → Int} {X : Nat → Bool} {k1 k2 k3 : Nat} {I : Nat → Int} {wr : World} (h : Kp w n m T E X k1 k2 k3 I wr) (p : Nat) (v : Int) : Kp w n m T E X k1 k2 k3 (upd I p v) (wr.setCell ⟨w.heap.size + 3, p, none⟩ (.int .i64 v)) := by
  obtain ⟨h1, h2, h3, h4, h5⟩ := h
  have h4' := h4.set p (.int .i64 v)
  rw [i64s_set] at h4'
  exact ⟨h1.setOther (a := ⟨w.heap.size + 3, p, none⟩) (by simp) _, h2.setOther (a := ⟨w.heap.size + 3, p, none⟩) (by simp) _, h3.setOther (a := ⟨w.heap.size + 3, p, none⟩) (by simp) _, h4', h5.setCell (p := ⟨w.heap.size + 3, p, none⟩) (by show w.heap.size ≤ w.heap.size + 3; omega) _⟩
theorem Kp.put1 {w : World} {n m : Nat} {T E : Nat → Int} {X : Nat → Bool} {k1 k2 k3 : Nat} {I : Nat → Int} {wr w' : World} {o : Obj} (h : Kp w n m T E X k1 k2 k3 I wr) (hr : Row w' w.heap.size 21 ((i32s (upto T k1) m).set k1 (.int .i32 (T k1)))) (hg : (wr.alloc o).grownBy w' (some w.heap.size)) : Kp w n m T E X (k1 + 1) k2 k3 I w' := by
  obtain ⟨h1, h2, h3, h4, h5⟩ := h
  rw [i32s_put] at hr
  refine ⟨hr, (h2.alloc o).grown hg (by simp), (h3.alloc o).grown hg (by simp), (h4.alloc o).grown hg (by simp), (h5.alloc h5.size o).grown hg (by rw [World.size_alloc]; have := h5.size; omega) (fun k e => by cases e; omega)⟩
theorem Kp.put2 {w : World} {n m : Nat} {T E : Nat → Int} {X : Nat → Bool} {k1 k2 k3 : Nat} {I : Nat → Int} {wr w' : World} {o : Obj} (h : Kp w n m T E X k1 k2 k3 I wr) (hr : Row w' (w.heap.size + 1) 21 ((i32s (upto E k2) m).set k2 (.int .i32 (E k2)))) (hg : (wr.alloc o).grownBy w' (some (w.heap.size + 1))) : Kp w n m T E X k1 (k2 + 1) k3 I w' := by
  obtain ⟨h1, h2, h3, h4, h5⟩ := h
  rw [i32s_put] at hr
  refine ⟨(h1.alloc o).grown hg (by simp), hr, (h3.alloc o).grown hg (by simp), (h4.alloc o).grown hg (by simp), (h5.alloc h5.size o).grown hg (by rw [World.size_alloc]; have := h5.size; omega) (fun k e => by cases e; omega)⟩
theorem Kp.put3 {w : World} {n m : Nat} {T E : Nat → Int} {X : Nat → Bool} {k1 k2 k3 : Nat} {I : Nat → Int} {wr w' : World} {o : Obj} (h : Kp w n m T E X k1 k2 k3 I wr) (hr : Row w' (w.heap.size + 2) 4 ((bools (fun j => decide (j < k3) && X j) m).set k3 (.bool (X k3)))) (hg : (wr.alloc o).grownBy w' (some (w.heap.size + 2))) : Kp w n m T E X k1 k2 (k3 + 1) I w' := by
  obtain ⟨h1, h2, h3, h4, h5⟩ := h
  rw [bools_put] at hr
  refine ⟨(h1.alloc o).grown hg (by simp), (h2.alloc o).grown hg (by simp), hr, (h4.alloc o).grown hg (by simp), (h5.alloc h5.size o).grown hg (by rw [World.size_alloc]; have := h5.size; omega) (fun k e => by cases e; omega)⟩
theorem Kp.below {w : World} {n m : Nat} {T E : Nat → Int} {X : Nat → Bool} {k1 k2 k3 : Nat} {I : Nat → Int} {wr : World} (h : Kp w n m T E X k1 k2 k3 I wr) : Below w.heap.size w wr := h.2.2.2.2
theorem Kp.fin {w : World} {n m : Nat} {T E : Nat → Int} {X : Nat → Bool} {I : Nat → Int} {wr : World} (h : Kp w n m T E X m m m I wr) : Row wr w.heap.size 21 (i32s T m) ∧ Row wr (w.heap.size + 1) 21 (i32s E m) ∧ Row wr (w.heap.size + 2) 4 (bools X m) := by
  obtain ⟨h1, h2, h3, h4, h5⟩ := h
  rw [i32s_upto] at h1 h2
  have e : bools (fun j => decide (j < m) && X j) m = bools X m := by
    refine List.map_congr_left fun k hk => ?_
    simp [List.mem_range.1 hk]
  rw [e] at h3
  exact ⟨h1, h2, h3⟩
/-- the new places, when the first p have been put -/
def nI (T C : Nat → Int) (p : Nat) : Nat → Int := fun a => if a < p then (if onC T C a then ((onR T C a).length : Int) else -1) else 0
theorem nI_put (T C : Nat → Int) (p : Nat) : upd (nI T C p) p (if onC T C p then ((onR T C p).length : Int) else -1) = nI T C (p + 1) := by
  funext a
  unfold upd nI
  by_cases e : a = p
  · subst e; rw [if_pos rfl, if_pos (show a < a + 1 by omega)]
  · rw [if_neg e]
    by_cases h : a < p
    · rw [if_pos h, if_pos (show a < p + 1 by omega)]
    · rw [if_neg h, if_neg (show ¬ a < p + 1 by omega)]
end Go.Proofs.Qxb6613322a

