/-
  newCycleSearch: the two sorts; then what follows.
-/
import Derived.Deep.RegionWith
import Derived.Test.Qxb6613322aNcsE
namespace Go.Proofs.Qxb6613322a
open Go.RowKit
set_option linter.unusedVariables false

theorem csort_mem {K : Nat → Nat} {keys : Nat} {L : List Nat} {i : Nat} (h : i ∈ csort K keys L) : i ∈ L := by
  unfold csort at h
  obtain ⟨k, _, hk⟩ := List.mem_flatMap.1 h
  exact (List.mem_filter.1 hk).1
theorem csort_length {K : Nat → Nat} {keys : Nat} {L : List Nat} (h : ∀ i ∈ L, K i < keys) : (csort K keys L).length = L.length := by
  rw [← cont_end]; exact cont_length h _
theorem IdRow.of_row {w : World} {g : Nat} {L : List Nat} (h : Row w g 21 (idl L)) : IdRow w (some ⟨g, 0, none⟩) L := fun j hj => ⟨g, 0, rfl, by rw [Nat.zero_add]; exact h.cell (by simp [idl, hj])⟩

/-- THE LIST IN ITS ORDER. -/
def Srt25 (T E C : Nat → Int) (count ne : Nat) (L : List Nat) : List Nat := csort (fun i => (C (T i).toNat).toNat) count (csort (fun i => (E i).toNat) ne L)
theorem Srt25.mem {T E C : Nat → Int} {count ne : Nat} {L : List Nat} {i : Nat} (h : i ∈ Srt25 T E C count ne L) : i ∈ L := csort_mem (csort_mem h)

set_option maxRecDepth 100000 in
set_option maxHeartbeats 1000000 in
theorem tail7 (CK bx gM m n nt cC q hA B count ne : Nat) (aC : Option Addr) (L : List Nat) (T E C : Nat → Int) (X : Nat → Bool) {u1 u3 u5 u6 u8 u9 u10 u11 u12 u13 u14 u15 u17 u18 u19 u20 u21 u22 u23 u24 u25 u26 u27 u28 u29 u30 u31 u32 u33 u34 u35 u36 u37 u38 u39 u40 u41 u42 u43 u44 u45 u46 u47 u48 u49 u50 u51 u52 u53 u54 u55 u56 u57 u58 u59 u60 u61 u62 u63 u64 u65 u66 u67 u68 u69 u70 u71 u72 u73 u74 u75 u76 u77 u78 u79 u80 u81 u82 u83 u84 u85 u86 u87 u88 u89 u90 u91 u92 u93 u94 u95 u96 u97 u98 u99 u100 u101 u102 u103 u104 u105 u106 u107 u108 u109 u110 u111 u112 u113 u114 u115 u116 u117 u118 u119 u120 u121 u122 u123 u124 u125 u126 u127 u128 u129 u130 u131 u132 u133 u134 u135 u136 u137 u138 u139 u140 u141 u142 u143 u144 u145 u146 u147 u148 u149 u150 u151 u152 u153 u154 u155 u156 u157 u158 u159 u160 u161 u162 u163 u164 u165 u166 u167 u168 u169 u170 u171 u172 u173 u174 u175 u176 u177 u178 u179 u180 u181 u182 u183 u184 u185 u186 u187 u188 u189 u190 u191 u192 u193 u194 u195 u196 u197 u198 u199 u200 u201 u202 u203 u204 u205 u206 u207 u208 u209 u210 u211 u212 u213 u214 u215 u216 u217 u218 u219 u220 u221 u222 u223 u224 u225 u226 u227 u228 u229 u230 u231 u232 u233 u234 u235 u236 u237 u238 u239 u240 u241 u242 u243 u244 u245 u246 u247 u248 u249 u250 u251 u252 u253 u254 : Value} (df : List Deferred) (G : Act → World → Prop) (w : World)
    (hn : n ≤ 4096) (hnt : nt ≤ 65536) (hq : q ≤ 65536) (hcount : count ≤ 65536) (hm : L.length = m) (hmn : m ≤ 4096) (hM : Row w gM 21 (idl (csort (fun i => (E i).toNat) ne L))) (hLn : ∀ i ∈ L, i < n) (hLc : ∀ i ∈ L, 0 ≤ C (T i).toNat ∧ C (T i).toNat < count) (hE : ∀ i, i < n → 0 ≤ E i ∧ E i < ne) (hacq : AcqH w B CK n hA T E X) (hB : B ≤ w.heap.size)
    (hbx : w.cell? ⟨bx, 0, none⟩ = some (.slice aC nt cC)) (hbB : bx < B) (hC : IntRow w aC nt C) (hT : ∀ i, i < n → 0 ≤ T i ∧ T i < nt) (hCB : ∀ b off, aC = some ⟨b, off, none⟩ → b < B)
    (hQ : ∀ a w', a.defers = df → Out25 B CK m n nt q (Srt25 T E C count ne L) T E C X w (a.tmps.getD 6 undef) w' → G a w') :
    Code.wp Try.prog (tail25 7) (RetOnly G) ⟨((.pointer (some ⟨CK, 0, none⟩)) :: u1 :: (.int .i64 (count : Int)) :: u3 :: (.pointer (some ⟨bx, 0, none⟩)) :: u5 :: u6 :: (.int .i64 (q : Int)) :: u8 :: u9 :: u10 :: u11 :: u12 :: u13 :: u14 :: u15 :: (.slice (some ⟨gM, 0, none⟩) m m) :: u17 :: u18 :: u19 :: u20 :: u21 :: u22 :: u23 :: u24 :: u25 :: u26 :: u27 :: u28 :: u29 :: u30 :: u31 :: u32 :: u33 :: u34 :: u35 :: u36 :: u37 :: u38 :: u39 :: u40 :: u41 :: u42 :: u43 :: u44 :: u45 :: u46 :: u47 :: u48 :: u49 :: u50 :: u51 :: u52 :: u53 :: u54 :: u55 :: u56 :: u57 :: u58 :: u59 :: u60 :: u61 :: u62 :: u63 :: u64 :: u65 :: u66 :: u67 :: u68 :: u69 :: u70 :: u71 :: u72 :: u73 :: u74 :: u75 :: u76 :: u77 :: u78 :: u79 :: u80 :: u81 :: u82 :: u83 :: u84 :: u85 :: u86 :: u87 :: u88 :: u89 :: u90 :: u91 :: u92 :: u93 :: u94 :: u95 :: u96 :: u97 :: u98 :: u99 :: u100 :: u101 :: u102 :: u103 :: u104 :: u105 :: u106 :: u107 :: u108 :: u109 :: u110 :: u111 :: u112 :: u113 :: u114 :: u115 :: u116 :: u117 :: u118 :: u119 :: u120 :: u121 :: u122 :: u123 :: u124 :: u125 :: u126 :: u127 :: u128 :: u129 :: u130 :: u131 :: u132 :: u133 :: u134 :: u135 :: u136 :: u137 :: u138 :: u139 :: u140 :: u141 :: u142 :: u143 :: u144 :: u145 :: u146 :: u147 :: u148 :: u149 :: u150 :: u151 :: u152 :: u153 :: u154 :: u155 :: u156 :: u157 :: u158 :: u159 :: u160 :: u161 :: u162 :: u163 :: u164 :: u165 :: u166 :: u167 :: u168 :: u169 :: u170 :: u171 :: u172 :: u173 :: u174 :: u175 :: u176 :: u177 :: u178 :: u179 :: u180 :: u181 :: u182 :: u183 :: u184 :: u185 :: u186 :: u187 :: u188 :: u189 :: u190 :: u191 :: u192 :: u193 :: u194 :: u195 :: u196 :: u197 :: u198 :: u199 :: u200 :: u201 :: u202 :: u203 :: u204 :: u205 :: u206 :: u207 :: u208 :: u209 :: u210 :: u211 :: u212 :: u213 :: u214 :: u215 :: u216 :: u217 :: u218 :: u219 :: u220 :: u221 :: u222 :: u223 :: u224 :: u225 :: u226 :: u227 :: u228 :: u229 :: u230 :: u231 :: u232 :: u233 :: u234 :: u235 :: u236 :: u237 :: u238 :: u239 :: u240 :: u241 :: u242 :: u243 :: u244 :: u245 :: u246 :: u247 :: u248 :: u249 :: u250 :: u251 :: u252 :: u253 :: u254 :: []).toArray, df⟩ w := by
  have hl1 : (csort (fun i => (E i).toNat) ne L).length = m := by
    rw [csort_length, hm]
    intro i hi
    have := hE i (hLn i hi)
    omega
  have hmem : ∀ i ∈ csort (fun i => (E i).toNat) ne L, i ∈ L := fun i hi => csort_mem hi
  have hl2 : (Srt25 T E C count ne L).length = m := by
    unfold Srt25
    rw [csort_length, hl1]
    intro i hi
    have := hLc i (hmem i hi)
    omega
  have hsort := sort30 CK n hA B T E X (some ⟨gM, 0, none⟩) m count (csort (fun i => (E i).toNat) ne L) (fun i => (C (T i).toNat).toNat) bx nt cC aC C w hn hcount (by omega) hacq hB (IdRow.of_row hM) (fun i hi => hLn i (hmem i hi)) hbx hC
    (fun i hi => ⟨(hT i (hLn i (hmem i hi))).1, (hT i (hLn i (hmem i hi))).2, by have := hLc i (hmem i hi); omega⟩) (fun i hi => by have := hLc i (hmem i hi); omega)
  rw [hl1] at hsort
  have hsort : Calls Try.prog 27 #[.pointer (some ⟨CK, 0, none⟩), .slice (some ⟨gM, 0, none⟩) m m, .int .i64 (count : Int), .func (.func 30) #[] #[.pointer (some ⟨bx, 0, none⟩)]] w fun e w' => ∃ gS, e = .returned (.slice (some ⟨gS, 0, none⟩) m m) ∧ Row w' gS 21 (idl (Srt25 T E C count ne L)) ∧ Below w.heap.size w w' := by
    refine hsort.mono ?_
    rintro e w' ⟨g, rfl, hr, hb⟩
    exact ⟨g, by rw [hl1], hr, hb⟩
  have HL2 : Hid ((Srt25 T E C count ne L).length = m) := hl2
  clear hl1 hl2
  conv => arg 2; whnf
  refine wp_seq_k (y := tail25 8) (fun K hK => ?_)
  go_wp2_with ((go_at_call 27; refine hsort.mono ?_; rintro e w2 ⟨gS, rfl, hS, hbel⟩))
  have hbel' : Below B w w2 := hbel.mono hB
  refine tail8 CK bx gS m n nt cC q hA B aC (Srt25 T E C count ne L) T E C X df G w2 hn hnt hq HL2.out hmn hS (fun i hi => hLn i (Srt25.mem hi)) (hacq.below hbel') (Nat.le_trans hB hbel.size) ((hbel'.cell (p := ⟨bx, 0, none⟩) hbB).trans hbx) hbB (hC.belowB hCB hbel') hT hCB ?_
  intro a2 w3 hd2 hout
  obtain ⟨SB, gL, gP, gD, gR, gQ, h6, hfin⟩ := hout
  exact hQ a2 w3 hd2 ⟨SB, gL, gP, gD, gR, gQ, h6, hfin.row, hfin.grps, hfin.rL, hfin.rP, hfin.rD, hfin.rR, hbel'.trans hfin.below⟩

set_option maxRecDepth 100000 in
set_option maxHeartbeats 1000000 in
theorem tail6 (CK bx bo m n nt cC cO q hA B count ne : Nat) (aC aO : Option Addr) (L : List Nat) (T E C : Nat → Int) (X : Nat → Bool) {u1 u3 u5 u6 u8 u9 u10 u11 u12 u14 u15 u16 u17 u18 u19 u20 u21 u22 u23 u24 u25 u26 u27 u28 u29 u30 u31 u32 u33 u34 u35 u36 u37 u38 u39 u40 u41 u42 u43 u44 u45 u46 u47 u48 u49 u50 u51 u52 u53 u54 u55 u56 u57 u58 u59 u60 u61 u62 u63 u64 u65 u66 u67 u68 u69 u70 u71 u72 u73 u74 u75 u76 u77 u78 u79 u80 u81 u82 u83 u84 u85 u86 u87 u88 u89 u90 u91 u92 u93 u94 u95 u96 u97 u98 u99 u100 u101 u102 u103 u104 u105 u106 u107 u108 u109 u110 u111 u112 u113 u114 u115 u116 u117 u118 u119 u120 u121 u122 u123 u124 u125 u126 u127 u128 u129 u130 u131 u132 u133 u134 u135 u136 u137 u138 u139 u140 u141 u142 u143 u144 u145 u146 u147 u148 u149 u150 u151 u152 u153 u154 u155 u156 u157 u158 u159 u160 u161 u162 u163 u164 u165 u166 u167 u168 u169 u170 u171 u172 u173 u174 u175 u176 u177 u178 u179 u180 u181 u182 u183 u184 u185 u186 u187 u188 u189 u190 u191 u192 u193 u194 u195 u196 u197 u198 u199 u200 u201 u202 u203 u204 u205 u206 u207 u208 u209 u210 u211 u212 u213 u214 u215 u216 u217 u218 u219 u220 u221 u222 u223 u224 u225 u226 u227 u228 u229 u230 u231 u232 u233 u234 u235 u236 u237 u238 u239 u240 u241 u242 u243 u244 u245 u246 u247 u248 u249 u250 u251 u252 u253 u254 : Value} (df : List Deferred) (G : Act → World → Prop) (w : World)
    (hn : n ≤ 4096) (hnt : nt ≤ 65536) (hq : q ≤ 65536) (hcount : count ≤ 65536) (hne : ne ≤ 65536) (hm : L.length = m) (hmn : m ≤ 4096) (hbo : w.cell? ⟨bo, 0, none⟩ = some (.slice aO m cO)) (hids : IdRow w aO L) (hLn : ∀ i ∈ L, i < n) (hLc : ∀ i ∈ L, 0 ≤ C (T i).toNat ∧ C (T i).toNat < count) (hE : ∀ i, i < n → 0 ≤ E i ∧ E i < ne) (hacq : AcqH w B CK n hA T E X) (hent : EntR w B CK ne) (hB : B ≤ w.heap.size)
    (hbx : w.cell? ⟨bx, 0, none⟩ = some (.slice aC nt cC)) (hbB : bx < B) (hC : IntRow w aC nt C) (hT : ∀ i, i < n → 0 ≤ T i ∧ T i < nt) (hCB : ∀ b off, aC = some ⟨b, off, none⟩ → b < B)
    (hQ : ∀ a w', a.defers = df → Out25 B CK m n nt q (Srt25 T E C count ne L) T E C X w (a.tmps.getD 6 undef) w' → G a w') :
    Code.wp Try.prog (tail25 6) (RetOnly G) ⟨((.pointer (some ⟨CK, 0, none⟩)) :: u1 :: (.int .i64 (count : Int)) :: u3 :: (.pointer (some ⟨bx, 0, none⟩)) :: u5 :: u6 :: (.int .i64 (q : Int)) :: u8 :: u9 :: u10 :: u11 :: u12 :: (.pointer (some ⟨bo, 0, none⟩)) :: u14 :: u15 :: u16 :: u17 :: u18 :: u19 :: u20 :: u21 :: u22 :: u23 :: u24 :: u25 :: u26 :: u27 :: u28 :: u29 :: u30 :: u31 :: u32 :: u33 :: u34 :: u35 :: u36 :: u37 :: u38 :: u39 :: u40 :: u41 :: u42 :: u43 :: u44 :: u45 :: u46 :: u47 :: u48 :: u49 :: u50 :: u51 :: u52 :: u53 :: u54 :: u55 :: u56 :: u57 :: u58 :: u59 :: u60 :: u61 :: u62 :: u63 :: u64 :: u65 :: u66 :: u67 :: u68 :: u69 :: u70 :: u71 :: u72 :: u73 :: u74 :: u75 :: u76 :: u77 :: u78 :: u79 :: u80 :: u81 :: u82 :: u83 :: u84 :: u85 :: u86 :: u87 :: u88 :: u89 :: u90 :: u91 :: u92 :: u93 :: u94 :: u95 :: u96 :: u97 :: u98 :: u99 :: u100 :: u101 :: u102 :: u103 :: u104 :: u105 :: u106 :: u107 :: u108 :: u109 :: u110 :: u111 :: u112 :: u113 :: u114 :: u115 :: u116 :: u117 :: u118 :: u119 :: u120 :: u121 :: u122 :: u123 :: u124 :: u125 :: u126 :: u127 :: u128 :: u129 :: u130 :: u131 :: u132 :: u133 :: u134 :: u135 :: u136 :: u137 :: u138 :: u139 :: u140 :: u141 :: u142 :: u143 :: u144 :: u145 :: u146 :: u147 :: u148 :: u149 :: u150 :: u151 :: u152 :: u153 :: u154 :: u155 :: u156 :: u157 :: u158 :: u159 :: u160 :: u161 :: u162 :: u163 :: u164 :: u165 :: u166 :: u167 :: u168 :: u169 :: u170 :: u171 :: u172 :: u173 :: u174 :: u175 :: u176 :: u177 :: u178 :: u179 :: u180 :: u181 :: u182 :: u183 :: u184 :: u185 :: u186 :: u187 :: u188 :: u189 :: u190 :: u191 :: u192 :: u193 :: u194 :: u195 :: u196 :: u197 :: u198 :: u199 :: u200 :: u201 :: u202 :: u203 :: u204 :: u205 :: u206 :: u207 :: u208 :: u209 :: u210 :: u211 :: u212 :: u213 :: u214 :: u215 :: u216 :: u217 :: u218 :: u219 :: u220 :: u221 :: u222 :: u223 :: u224 :: u225 :: u226 :: u227 :: u228 :: u229 :: u230 :: u231 :: u232 :: u233 :: u234 :: u235 :: u236 :: u237 :: u238 :: u239 :: u240 :: u241 :: u242 :: u243 :: u244 :: u245 :: u246 :: u247 :: u248 :: u249 :: u250 :: u251 :: u252 :: u253 :: u254 :: []).toArray, df⟩ w := by
  have hE29 : ∀ i, i < n → E i = (((E i).toNat : Nat) : Int) := fun i hi => by have := hE i hi; omega
  have hlen : ∀ W : World, Below w.heap.size w W → Calls Try.prog 28 #[.pointer (some ⟨CK, 10, none⟩)] W fun e w' => e = .returned (.int .i64 (ne : Int)) ∧ ∃ k, w' = W.drewN k := fun W hW => len28 CK ne B W hne (hent.below (hW.mono hB))
  have hsort : ∀ W : World, Below w.heap.size w W → Calls Try.prog 27 #[.pointer (some ⟨CK, 0, none⟩), .slice aO m cO, .int .i64 (ne : Int), .func (.func 29) #[] #[]] W fun e w' => ∃ gM, e = .returned (.slice (some ⟨gM, 0, none⟩) m m) ∧ Row w' gM 21 (idl (csort (fun i => (E i).toNat) ne L)) ∧ Below w.heap.size w w' := by
    intro W hW
    have h := sort29 CK n hA B T E X aO cO ne L (fun i => (E i).toNat) W hn hne (by omega) (hacq.below (hW.mono hB)) (Nat.le_trans hB hW.size) (hids.below hW) hLn hE29 (fun i hi => by have := hE i (hLn i hi); omega)
    rw [hm] at h
    refine h.mono ?_
    rintro e w' ⟨g, rfl, hr, hb⟩
    exact ⟨g, by rw [hm], hr, hW.trans (hb.mono hW.size)⟩
  have HM : Hid (L.length = m) := hm
  clear hm hE29
  conv => arg 2; whnf
  refine wp_seq_k (y := tail25 7) (fun K hK => ?_)
  go_region_with (first
    | (go_at_call 28; refine (hlen _ ?_).mono ?_; exact ⟨rfl, rfl, rfl, Nat.le_refl _, fun _ _ => rfl⟩; rintro e w2 ⟨rfl, kq, rfl⟩)
    | (go_at_call 27; refine (hsort _ ?_).mono ?_; exact ⟨rfl, rfl, rfl, Nat.le_refl _, fun _ _ => rfl⟩; rintro e w2 ⟨gM, rfl, hM, hbel⟩))
  all_goals (
    go_wp2_with fail
    have hbel' : Below B w w2 := hbel.mono hB
    refine tail7 CK bx gM m n nt cC q hA B count ne aC L T E C X df G w2 hn hnt hq hcount HM.out hmn hM hLn hLc hE (hacq.below hbel') (Nat.le_trans hB hbel.size) ((hbel'.cell (p := ⟨bx, 0, none⟩) hbB).trans hbx) hbB (hC.belowB hCB hbel') hT hCB ?_
    intro a2 w3 hd2 hout
    obtain ⟨SB, gL, gP, gD, gR, gQ, h6, hfin⟩ := hout
    exact hQ a2 w3 hd2 ⟨SB, gL, gP, gD, gR, gQ, h6, hfin.row, hfin.grps, hfin.rL, hfin.rP, hfin.rD, hfin.rR, hbel'.trans hfin.below⟩)
end Go.Proofs.Qxb6613322a

