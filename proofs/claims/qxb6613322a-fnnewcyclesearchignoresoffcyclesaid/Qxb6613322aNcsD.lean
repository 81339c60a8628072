/-
  newCycleSearch: dist is laid to -1; then what follows.
-/
import Derived.Test.Qxb6613322aNcsC
namespace Go.Proofs.Qxb6613322a
open Go.RowKit
set_option linter.unusedVariables false

/-- WHAT THE SEARCH HOLDS at the return. -/
structure Fin25 (B0 CK SB gL gP gD gR gQ m n nt q : Nat) (S : List Nat) (T E C : Nat → Int) (X : Nat → Bool) (w w' : World) : Prop where
  row : ∃ vC, Row w' SB 80 ((cells7 CK m n nt q gL gP gD gR gQ).set 3 vC)
  grps : ∃ gC gH, GrpH w' SB (ends E (fun a => C (T a).toNat) S m).length gC gH ∧ ∀ j (hj : j < (ends E (fun a => C (T a).toNat) S m).length), ∀ i, i < 4 → w'.cell? ⟨gH, j * 4 + i, none⟩ = some (.int .i32 ((ends E (fun a => C (T a).toNat) S m)[j] : Int))
  rL : Row w' gL 82 (lcells (fT T S m) (fG E (fun a => C (T a).toNat) S m) (fun k => (nxt (fun q => X (S.getD q 0)) m k : Int)) m)
  rP : Row w' gP 21 (i32s (fP S m) n)
  rD : Row w' gD 21 (i32s (fun _ => -1) nt)
  rR : Row w' gR 21 (i32s (fun _ => 0) nt)
  below : Below B0 w w'

set_option maxRecDepth 100000 in
set_option maxHeartbeats 1000000 in
theorem tail9 (SB CK bx gS gL gP gD gR gQ m n nt cC q hA B : Nat) (aC : Option Addr) (S : List Nat) (T E C : Nat → Int) (X : Nat → Bool) {u1 u2 u3 u5 u6 u7 u8 u9 u10 u11 u12 u13 u14 u15 u16 u19 u20 u21 u22 u23 u24 u25 u26 u27 u28 u29 u30 u31 u32 u33 u34 u35 u36 u37 u38 u39 u40 u41 u42 u43 u44 u45 u46 u47 u48 u49 u50 u51 u52 u53 u54 u55 u56 u57 u58 u59 u60 u61 u62 u63 u64 u65 u66 u67 u68 u69 u70 u71 u72 u73 u74 u75 u76 u77 u78 u79 u80 u81 u82 u83 u84 u85 u86 u87 u88 u89 u90 u91 u92 u93 u94 u95 u96 u97 u98 u99 u100 u101 u102 u103 u104 u105 u106 u107 u108 u109 u110 u111 u112 u113 u114 u115 u116 u117 u118 u119 u120 u121 u122 u123 u124 u125 u126 u127 u128 u129 u130 u131 u132 u133 u134 u135 u136 u137 u138 u139 u140 u141 u142 u143 u144 u145 u146 u147 u148 u149 u150 u151 u152 u153 u154 u155 u156 u157 u158 u159 u160 u161 u162 u163 u164 u165 u166 u167 u168 u169 u170 u171 u172 u173 u174 u175 u176 u177 u178 u179 u180 u181 u182 u183 u184 u185 u186 u187 u188 u189 u190 u191 u192 u193 u194 u195 u196 u197 u198 u199 u200 u201 u202 u203 u204 u205 u206 u207 u208 u209 u210 u211 u212 u213 u214 u215 u216 u217 u218 u219 u220 u221 u222 u223 u224 u225 u226 u227 u228 u229 u230 u231 u232 u233 u234 u235 u236 u237 u238 u239 u240 u241 u242 u243 u244 u245 u246 u247 u248 u249 u250 u251 u252 u253 u254 : Value} (df : List Deferred) (G : Act → World → Prop) (w : World)
    (hn : n ≤ 4096) (hnt : nt ≤ 65536) (hm : S.length = m) (hmn : m ≤ 4096) (hS : Row w gS 21 (idl S)) (hSn : ∀ i ∈ S, i < n) (hacq : AcqH w B CK n hA T E X) (hB : B ≤ w.heap.size) (hBL : B ≤ gL) (hBP : B ≤ gP) (hBD : B ≤ gD) (hBS : B ≤ SB)
    (hSL : gS ≠ gL) (hSP : gS ≠ gP) (hSD : gS ≠ gD) (hSS : gS ≠ SB) (hLP : gL ≠ gP) (hLS : gL ≠ SB) (hPS : gP ≠ SB) (hDL : gD ≠ gL) (hDP : gD ≠ gP) (hDS : gD ≠ SB) (hRL : gR ≠ gL) (hRP : gR ≠ gP) (hRD : gR ≠ gD) (hRS : gR ≠ SB)
    (hbx : w.cell? ⟨bx, 0, none⟩ = some (.slice aC nt cC)) (hbB : bx < B) (hC : IntRow w aC nt C) (hT : ∀ i, i < n → 0 ≤ T i ∧ T i < nt) (hCB : ∀ b off, aC = some ⟨b, off, none⟩ → b < B)
    (hcur : Row w SB 80 (cells7 CK m n nt q gL gP gD gR gQ)) (hL : Row w gL 82 (lcells (fun _ => 0) (fun _ => 0) (fun _ => 0) m)) (hP : Row w gP 21 (i32s (fun _ => 0) n)) (hD : Row w gD 21 (i32s (fun _ => 0) nt)) (hR : Row w gR 21 (i32s (fun _ => 0) nt))
    (hQ : ∀ a w', a.defers = df → a.tmps.getD 6 undef = .pointer (some ⟨SB, 0, none⟩) → Fin25 B CK SB gL gP gD gR gQ m n nt q S T E C X w w' → G a w') :
    Code.wp Try.prog (tail25 9) (RetOnly G) ⟨((.pointer (some ⟨CK, 0, none⟩)) :: u1 :: u2 :: u3 :: (.pointer (some ⟨bx, 0, none⟩)) :: u5 :: u6 :: u7 :: u8 :: u9 :: u10 :: u11 :: u12 :: u13 :: u14 :: u15 :: u16 :: (.slice (some ⟨gS, 0, none⟩) m m) :: (.pointer (some ⟨SB, 0, none⟩)) :: u19 :: u20 :: u21 :: u22 :: u23 :: u24 :: u25 :: u26 :: u27 :: u28 :: u29 :: u30 :: u31 :: u32 :: u33 :: u34 :: u35 :: u36 :: u37 :: u38 :: u39 :: u40 :: u41 :: u42 :: u43 :: u44 :: u45 :: u46 :: u47 :: u48 :: u49 :: u50 :: u51 :: u52 :: u53 :: u54 :: u55 :: u56 :: u57 :: u58 :: u59 :: u60 :: u61 :: u62 :: u63 :: u64 :: u65 :: u66 :: u67 :: u68 :: u69 :: u70 :: u71 :: u72 :: u73 :: u74 :: u75 :: u76 :: u77 :: u78 :: u79 :: u80 :: u81 :: u82 :: u83 :: u84 :: u85 :: u86 :: u87 :: u88 :: u89 :: u90 :: u91 :: u92 :: u93 :: u94 :: u95 :: u96 :: u97 :: u98 :: u99 :: u100 :: u101 :: u102 :: u103 :: u104 :: u105 :: u106 :: u107 :: u108 :: u109 :: u110 :: u111 :: u112 :: u113 :: u114 :: u115 :: u116 :: u117 :: u118 :: u119 :: u120 :: u121 :: u122 :: u123 :: u124 :: u125 :: u126 :: u127 :: u128 :: u129 :: u130 :: u131 :: u132 :: u133 :: u134 :: u135 :: u136 :: u137 :: u138 :: u139 :: u140 :: u141 :: u142 :: u143 :: u144 :: u145 :: u146 :: u147 :: u148 :: u149 :: u150 :: u151 :: u152 :: u153 :: u154 :: u155 :: u156 :: u157 :: u158 :: u159 :: u160 :: u161 :: u162 :: u163 :: u164 :: u165 :: u166 :: u167 :: u168 :: u169 :: u170 :: u171 :: u172 :: u173 :: u174 :: u175 :: u176 :: u177 :: u178 :: u179 :: u180 :: u181 :: u182 :: u183 :: u184 :: u185 :: u186 :: u187 :: u188 :: u189 :: u190 :: u191 :: u192 :: u193 :: u194 :: u195 :: u196 :: u197 :: u198 :: u199 :: u200 :: u201 :: u202 :: u203 :: u204 :: u205 :: u206 :: u207 :: u208 :: u209 :: u210 :: u211 :: u212 :: u213 :: u214 :: u215 :: u216 :: u217 :: u218 :: u219 :: u220 :: u221 :: u222 :: u223 :: u224 :: u225 :: u226 :: u227 :: u228 :: u229 :: u230 :: u231 :: u232 :: u233 :: u234 :: u235 :: u236 :: u237 :: u238 :: u239 :: u240 :: u241 :: u242 :: u243 :: u244 :: u245 :: u246 :: u247 :: u248 :: u249 :: u250 :: u251 :: u252 :: u253 :: u254 :: []).toArray, df⟩ w := by
  have HM : Hid (S.length = m) := hm
  clear hm
  have hDw := hD.lt
  have c4 : w.cell? ⟨SB, 4, none⟩ = some (.slice (some ⟨gD, 0, none⟩) nt nt) := hcur.cell rfl
  conv => arg 2; whnf
  refine wp_seq_k (y := tail25 10) (fun K hK => ?_)
  go_wp2_with fail
  go_loopg [115, 19] nt (fun gk ix _ wr => ∃ t : Nat, t ≤ nt ∧ gk = nt - t ∧ ix = .int .i64 (t : Int) ∧ Row wr gD 21 (i32s (fun k => if k < t then -1 else 0) nt) ∧ Kept w.heap.size gD w wr)
  case atStart => exact ⟨0, by omega, rfl, rfl, hD, Kept.refl _ _ _⟩
  case round =>
    clear hD
    obtain ⟨t, ht, hgk, rfl, hrow, hkept⟩ := hrel
    have hG : Hid (gk = nt - t) := hgk
    clear hgk
    have c4' := (hkept.cell (p := ⟨SB, 4, none⟩) (block_lt_of_cell c4) (Ne.symm hDS)).trans c4
    by_cases hlt : t < nt
    · have cD := hrow.cell (i32s_get (fun k => if k < t then -1 else 0) hlt)
      have fD := hrow.fz t
      have hrow1 : Row (wr.setCell ⟨gD, t, none⟩ (.int .i32 (-1))) gD 21 (i32s (fun k => if k < t + 1 then -1 else 0) nt) := row_step hrow (fun k => by
        by_cases e : k = t
        · subst e; simp
        · by_cases e2 : k < t
          · simp [e, e2, show k < t + 1 by omega]
          · simp [e, e2, show ¬ k < t + 1 by omega])
      have hkept1 := hkept.setCell (p := ⟨gD, t, none⟩) (.inr rfl) (.int .i32 (-1))
      have HR : Hid (Row (wr.setCell ⟨gD, t, none⟩ (.int .i32 (-1))) gD 21 (i32s (fun k => if k < t + 1 then -1 else 0) nt)) := hrow1
      clear hrow hrow1
      go_wp2_with fail
      go_roundg (nt - (t + 1))
      case measure => have := hG.out; omega
      case rel => exact ⟨t + 1, by omega, rfl, by go_num, HR.out, hkept1⟩
    · have htn : nt = t := by omega
      subst htn
      clear hlt ht hG
      have hD2 : Row wr gD 21 (i32s (fun _ => -1) nt) := by
        have e : i32s (fun k => if k < nt then -1 else 0) nt = i32s (fun _ => -1) nt := by
          unfold i32s
          refine List.map_congr_left fun k hk => ?_
          have := List.mem_range.1 hk
          simp [this]
        rw [← e]; exact hrow
      have hbel : Below B w wr := hkept.below hB hBD
      have hsz := hkept.size
      have hbx' := (hbel.cell (p := ⟨bx, 0, none⟩) hbB).trans hbx
      go_wp2_with fail
      refine tail10 SB CK bx gS gL gP m n nt cC hA B aC _ _ _ S T E C X df G wr hn HM.out hmn (hkept.row hS hS.lt hSD) hSn (hacq.below hbel) (by omega) hBL hBP hBS hSL hSP hSS hLP hLS hPS hbx' hbB (hC.belowB hCB hbel) hT hCB (hkept.row hcur hcur.lt (Ne.symm hDS)) (hkept.row hL hL.lt (Ne.symm hDL)) (hkept.row hP hP.lt (Ne.symm hDP)) (fun a w' h1 h2 h3 => hQ a w' h1 h2 ⟨h3.row, h3.grps, h3.rL, h3.rP, h3.kept.row hD2 (by omega) hDS hDL hDP, h3.kept.row (hkept.row hR hR.lt hRD) (by have := hR.lt; omega) hRS hRL hRP, hbel.trans (h3.kept.below (by omega) hBS hBL hBP)⟩)
end Go.Proofs.Qxb6613322a

