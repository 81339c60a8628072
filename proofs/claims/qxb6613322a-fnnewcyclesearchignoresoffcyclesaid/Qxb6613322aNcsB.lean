/-
  newCycleSearch: THE THIRD LOOP: runs, listings, places.
-/
import Derived.StillTailTactics
import Derived.RangeFuncLeaves
import Derived.RegionTactic
import Derived.BigRegion
import Derived.Deep.DeepCutAuto
import Derived.Deep.CutRange
import Derived.Deep.RegionWith
import Derived.Test.Qxb6613322aNcsSt
namespace Go.Proofs.Qxb6613322a
open Go.RowKit
set_option linter.unusedVariables false

theorem IntRow.belowB {w w' : World} {a : Option Addr} {len B : Nat} {Z : Nat → Int} (h : IntRow w a len Z) (ha : ∀ b off, a = some ⟨b, off, none⟩ → b < B) (hb : Below B w w') : IntRow w' a len Z := by
  intro k hk
  obtain ⟨b, off, e, hc, r⟩ := h k hk
  exact ⟨b, off, e, (hb.cell (p := ⟨b, off + k, none⟩) (ha b off e)).trans hc, r⟩

/-- Where the body returns, and no otherwise. -/
def RetOnly (G : Act → World → Prop) : Exit → Act → World → Prop
  | .ret, a, w => G a w
  | _, _, _ => False

def fT (T : Nat → Int) (S : List Nat) (i : Nat) : Nat → Int := fun k => if k < i then T (S.getD k 0) else 0
def fG (E K : Nat → Int) (S : List Nat) (i : Nat) : Nat → Int := fun k => if k < i then (grp E K S k : Int) else 0
def fP (S : List Nat) (i : Nat) : Nat → Int := fun a => (plc S i a : Int)
def cur0 (CK gL gP m n : Nat) (vd vp vq : Value) : List Value := [.pointer (some ⟨CK, 0, none⟩), .slice (some ⟨gL, 0, none⟩) m m, .slice (some ⟨gP, 0, none⟩) n n, .slice none 0 0, vd, vp, vq]
def prevP (hA : Nat) (S : List Nat) : Nat → Value
  | 0 => .pointer none
  | i + 1 => .pointer (some ⟨hA, S.getD i 0 * 4, none⟩)

/-- AT THE RETURN. -/
structure SOut (W0 : World) (SB gL gP m n : Nat) (cur : List Value) (es : List Nat) (f g h p : Nat → Int) (w' : World) : Prop where
  row : ∃ vC, Row w' SB 80 (cur.set 3 vC)
  grps : ∃ gC gH, GrpH w' SB es.length gC gH ∧ ∀ j (hj : j < es.length), ∀ i, i < 4 → w'.cell? ⟨gH, j * 4 + i, none⟩ = some (.int .i32 (es[j] : Int))
  rL : Row w' gL 82 (lcells f g h m)
  rP : Row w' gP 21 (i32s p n)
  kept : Kept3 W0.heap.size SB gL gP W0 w'

theorem LS.out {W0 : World} {SB gL gP m n : Nat} {cur : List Value} {es : List Nat} {f g h p : Nat → Int} {wr w' : World} (hl : LS W0 SB gL gP m n cur es f g p wr) (hc : 3 < cur.length) (hS : SB < W0.heap.size) (hL : gL < W0.heap.size) (hP : gP < W0.heap.size) (hLS : gL ≠ SB) (hLP : gL ≠ gP)
    (ho : NextOut gL m f g h wr w') : SOut W0 SB gL gP m n cur es f g h p w' := by
  obtain ⟨rL', kp⟩ := ho
  obtain ⟨vC, mm, a, b, c⟩ := hl.list
  have hrow : Row w' SB 80 (cur.set 3 vC) := kp.row a a.lt (Ne.symm hLS)
  refine ⟨⟨vC, hrow⟩, ?_, rL', kp.row hl.rP hl.rP.lt (Ne.symm hLP), hl.kept.trans ⟨kp.os, kp.tape, kp.output, kp.size, fun x h1 h2 h3 h4 => kp.block x (Nat.lt_of_lt_of_le h1 hl.kept.size) h3⟩⟩
  rcases b with ⟨h0, h1, h2, rfl⟩ | ⟨h0, chs, vL, hch, hlast, hlr⟩
  · refine ⟨0, 0, .inl ⟨h1, hrow.cell (by rw [List.getElem?_set_self hc])⟩, fun j hj => ?_⟩
    omega
  · obtain ⟨rfl, he⟩ : mm = 1 ∧ 0 < es.length := by omega
    obtain ⟨gC, cC, rfl, hgB, hgl, _⟩ := ownsRow_shape hch (by omega)
    obtain ⟨gH, cH, rfl, hhB, hhl, _⟩ := ownsRow_shape hlr he
    have e1 : w'.cell? ⟨gC, 0, none⟩ = some (.slice (some ⟨gH, 0, none⟩) es.length cH) := by
      rw [kp.cell (p := ⟨gC, 0, none⟩) hgl (by show gC ≠ gL; omega), hch.cellAt 0 (by omega)]; exact hlast
    refine ⟨gC, gH, .inr ⟨he, cC, cH, hrow.cell (by rw [List.getElem?_set_self hc]), e1⟩, fun j hj i hi => ?_⟩
    rw [kp.cell (p := ⟨gH, j * 4 + i, none⟩) hhl (by show gH ≠ gL; omega), hlr.cellAt _ (by omega)]
    exact grpCells_get es j i hj hi

set_option maxRecDepth 100000 in
set_option maxHeartbeats 4000000 in
theorem tail10 (SB CK bx gS gL gP m n nt cC hA B : Nat) (aC : Option Addr) (vd vp vq : Value) (S : List Nat) (T E C : Nat → Int) (X : Nat → Bool) {u1 u2 u3 u5 u6 u7 u8 u9 u10 u11 u12 u13 u14 u15 u16 u19 u20 u21 u22 u23 u24 u25 u26 u27 u28 u29 u30 u31 u32 u33 u34 u35 u36 u37 u38 u39 u40 u41 u42 u43 u44 u45 u46 u47 u48 u49 u50 u51 u52 u53 u54 u55 u56 u57 u58 u59 u60 u61 u62 u63 u64 u65 u66 u67 u68 u69 u70 u71 u72 u73 u74 u75 u76 u77 u78 u79 u80 u81 u82 u83 u84 u85 u86 u87 u88 u89 u90 u91 u92 u93 u94 u95 u96 u97 u98 u99 u100 u101 u102 u103 u104 u105 u106 u107 u108 u109 u110 u111 u112 u113 u114 u115 u116 u117 u118 u119 u120 u121 u122 u123 u124 u125 u126 u127 u128 u129 u130 u131 u132 u133 u134 u135 u136 u137 u138 u139 u140 u141 u142 u143 u144 u145 u146 u147 u148 u149 u150 u151 u152 u153 u154 u155 u156 u157 u158 u159 u160 u161 u162 u163 u164 u165 u166 u167 u168 u169 u170 u171 u172 u173 u174 u175 u176 u177 u178 u179 u180 u181 u182 u183 u184 u185 u186 u187 u188 u189 u190 u191 u192 u193 u194 u195 u196 u197 u198 u199 u200 u201 u202 u203 u204 u205 u206 u207 u208 u209 u210 u211 u212 u213 u214 u215 u216 u217 u218 u219 u220 u221 u222 u223 u224 u225 u226 u227 u228 u229 u230 u231 u232 u233 u234 u235 u236 u237 u238 u239 u240 u241 u242 u243 u244 u245 u246 u247 u248 u249 u250 u251 u252 u253 u254 : Value} (df : List Deferred) (G : Act → World → Prop) (w : World)
    (hn : n ≤ 4096) (hm : S.length = m) (hmn : m ≤ 4096) (hS : Row w gS 21 (idl S)) (hSn : ∀ i ∈ S, i < n) (hacq : AcqH w B CK n hA T E X) (hB : B ≤ w.heap.size) (hBL : B ≤ gL) (hBP : B ≤ gP) (hBS : B ≤ SB)
    (hSL : gS ≠ gL) (hSP : gS ≠ gP) (hSS : gS ≠ SB) (hLP : gL ≠ gP) (hLS : gL ≠ SB) (hPS : gP ≠ SB)
    (hbx : w.cell? ⟨bx, 0, none⟩ = some (.slice aC nt cC)) (hbB : bx < B) (hC : IntRow w aC nt C) (hT : ∀ i, i < n → 0 ≤ T i ∧ T i < nt) (hCB : ∀ b off, aC = some ⟨b, off, none⟩ → b < B)
    (hcur : Row w SB 80 (cur0 CK gL gP m n vd vp vq)) (hL : Row w gL 82 (lcells (fun _ => 0) (fun _ => 0) (fun _ => 0) m)) (hP : Row w gP 21 (i32s (fun _ => 0) n))
    (hQ : ∀ a w', a.defers = df → a.tmps.getD 6 undef = .pointer (some ⟨SB, 0, none⟩) → SOut w SB gL gP m n (cur0 CK gL gP m n vd vp vq) (ends E (fun a => C (T a).toNat) S m) (fT T S m) (fG E (fun a => C (T a).toNat) S m) (fun k => (nxt (fun q => X (S.getD q 0)) m k : Int)) (fP S m) w' → G a w') :
    Code.wp Try.prog (tail25 10) (RetOnly G) ⟨((.pointer (some ⟨CK, 0, none⟩)) :: u1 :: u2 :: u3 :: (.pointer (some ⟨bx, 0, none⟩)) :: u5 :: u6 :: u7 :: u8 :: u9 :: u10 :: u11 :: u12 :: u13 :: u14 :: u15 :: u16 :: (.slice (some ⟨gS, 0, none⟩) m m) :: (.pointer (some ⟨SB, 0, none⟩)) :: u19 :: u20 :: u21 :: u22 :: u23 :: u24 :: u25 :: u26 :: u27 :: u28 :: u29 :: u30 :: u31 :: u32 :: u33 :: u34 :: u35 :: u36 :: u37 :: u38 :: u39 :: u40 :: u41 :: u42 :: u43 :: u44 :: u45 :: u46 :: u47 :: u48 :: u49 :: u50 :: u51 :: u52 :: u53 :: u54 :: u55 :: u56 :: u57 :: u58 :: u59 :: u60 :: u61 :: u62 :: u63 :: u64 :: u65 :: u66 :: u67 :: u68 :: u69 :: u70 :: u71 :: u72 :: u73 :: u74 :: u75 :: u76 :: u77 :: u78 :: u79 :: u80 :: u81 :: u82 :: u83 :: u84 :: u85 :: u86 :: u87 :: u88 :: u89 :: u90 :: u91 :: u92 :: u93 :: u94 :: u95 :: u96 :: u97 :: u98 :: u99 :: u100 :: u101 :: u102 :: u103 :: u104 :: u105 :: u106 :: u107 :: u108 :: u109 :: u110 :: u111 :: u112 :: u113 :: u114 :: u115 :: u116 :: u117 :: u118 :: u119 :: u120 :: u121 :: u122 :: u123 :: u124 :: u125 :: u126 :: u127 :: u128 :: u129 :: u130 :: u131 :: u132 :: u133 :: u134 :: u135 :: u136 :: u137 :: u138 :: u139 :: u140 :: u141 :: u142 :: u143 :: u144 :: u145 :: u146 :: u147 :: u148 :: u149 :: u150 :: u151 :: u152 :: u153 :: u154 :: u155 :: u156 :: u157 :: u158 :: u159 :: u160 :: u161 :: u162 :: u163 :: u164 :: u165 :: u166 :: u167 :: u168 :: u169 :: u170 :: u171 :: u172 :: u173 :: u174 :: u175 :: u176 :: u177 :: u178 :: u179 :: u180 :: u181 :: u182 :: u183 :: u184 :: u185 :: u186 :: u187 :: u188 :: u189 :: u190 :: u191 :: u192 :: u193 :: u194 :: u195 :: u196 :: u197 :: u198 :: u199 :: u200 :: u201 :: u202 :: u203 :: u204 :: u205 :: u206 :: u207 :: u208 :: u209 :: u210 :: u211 :: u212 :: u213 :: u214 :: u215 :: u216 :: u217 :: u218 :: u219 :: u220 :: u221 :: u222 :: u223 :: u224 :: u225 :: u226 :: u227 :: u228 :: u229 :: u230 :: u231 :: u232 :: u233 :: u234 :: u235 :: u236 :: u237 :: u238 :: u239 :: u240 :: u241 :: u242 :: u243 :: u244 :: u245 :: u246 :: u247 :: u248 :: u249 :: u250 :: u251 :: u252 :: u253 :: u254 :: []).toArray, df⟩ w := by
  have HM : Hid (S.length = m) := hm
  clear hm
  have hLw := hL.lt
  have hPw := hP.lt
  have hSw := hcur.lt
  conv => arg 2; whnf
  refine wp_seq_k (y := tail25 11) (fun K hK => ?_)
  go_wp2_with fail
  conv => arg 2; whnf
  refine wp_seq_k (y := tail25 12) (fun K hK => ?_)
  go_wp2_with fail
  go_loopg [127, 20, 21, 22, 23, 24, 25, 26] m (fun gk ix pv _ _ _ _ _ _ wr => ∃ i : Nat, i ≤ m ∧ gk = m - i ∧ ix = .int .i64 (i : Int) ∧ pv = prevP hA S i ∧ LS w SB gL gP m n (cur0 CK gL gP m n vd vp vq) (ends E (fun a => C (T a).toNat) S i) (fT T S i) (fG E (fun a => C (T a).toNat) S i) (fP S i) wr)
  case atStart =>
    refine ⟨0, Nat.zero_le _, rfl, rfl, rfl, ⟨⟨.slice none 0 0, 0, hcur, .inl ⟨rfl, rfl, rfl, rfl⟩, .inl ⟨rfl, rfl⟩⟩, ?_, ?_, Kept3.refl _ _ _ _ _⟩⟩
    · exact hL
    · exact hP
  case round =>
    clear hL hP hcur
    obtain ⟨i, hi, hgk, rfl, hpv, hls⟩ := hrel
    have HPV : Hid (u20 = prevP hA S i) := hpv
    clear hpv
    have hG : Hid (gk = m - i) := hgk
    clear hgk
    by_cases hlt : i < m
    · have hiL : i < S.length := by rw [HM.out]; exact hlt
      have hx : S.getD i 0 = S[i] := by simp [List.getD, hiL]
      have hxn := hSn S[i] (List.getElem_mem hiL)
      have hgw := hS.lt
      have cS0 : w.cell? ⟨gS, i, none⟩ = some (.int .i32 (S[i] : Int)) := hS.cell (by simp [idl, hiL])
      have cS := (hls.kept.cell (p := ⟨gS, i, none⟩) hgw hSS hSL hSP).trans cS0
      have hbel : Below B w wr := hls.kept.below hB hBS hBL hBP
      have hacq' : AcqH wr B CK n hA T E X := hacq.below hbel
      obtain ⟨cT, cE, _⟩ := hacq'.cells hxn
      obtain ⟨ht0, ht1⟩ := hT _ hxn
      have hbx' := (hbel.cell (p := ⟨bx, 0, none⟩) hbB).trans hbx
      have hC' := hC.belowB hCB hbel
      go_upto_region 31 with ((go_at_call 32; refine (at32 CK n hA B _ T E X _ hn hacq' hxn).mono ?_; rintro e w' ⟨rfl, hw⟩; rw [hw]; clear hw))
      go_cut [171] from 128 to 221 (fun b wx => b = .bool (isNew E (fun a => C (T a).toNat) S i) ∧ ∃ k, wx = wr.drewN k)
      case first =>
        by_cases hi0 : i = 0
        · subst hi0
          have HN : Hid (isNew E (fun a => C (T a).toNat) S 0 = true) := by simp [Hid, isNew]
          obtain rfl : u20 = .pointer none := HPV.out
          go_quiet (fail)
          go_wp2_with fail
          go_meet
          case rel => exact ⟨by rw [HN.out], _, rfl⟩
        · obtain ⟨j, hj⟩ : ∃ j, j + 1 = i := ⟨i - 1, by omega⟩
          have hjL : j < S.length := by omega
          have hy : S.getD j 0 = S[j] := by simp [List.getD, hjL]
          have hyn := hSn S[j] (List.getElem_mem hjL)
          obtain ⟨cT2, cE2, _⟩ := hacq'.cells hyn
          obtain ⟨hu0, hu1⟩ := hT _ hyn
          have HN : Hid (isNew E (fun a => C (T a).toNat) S i = decide (E S[i] ≠ E S[j] ∨ C (T S[i]).toNat ≠ C (T S[j]).toNat)) := by
            show isNew E (fun a => C (T a).toNat) S i = _
            rw [isNew, hx, show i - 1 = j by omega, hy]
            simp [hi0]
          have hpv : u20 = .pointer (some ⟨hA, S[j] * 4, none⟩) := by rw [HPV.out, ← hj, prevP, hy]
          obtain ⟨b1, o1, rfl, c1, _⟩ := hC' (T S[i]).toNat (by omega)
          obtain ⟨b2, o2, hb2, c2, _⟩ := hC' (T S[j]).toNat (by omega)
          cases hb2
          clear hx hy hj hi0 HPV
          generalize S[i] = x at *
          generalize S[j] = y at *
          subst hpv
          by_cases hE : E x = E y
          · by_cases hK : C (T x).toNat = C (T y).toNat
            · have HB : Hid (decide (E x ≠ E y ∨ C (T x).toNat ≠ C (T y).toNat) = false) := by simp [Hid, hE, hK]
              rw [hE] at cE
              rw [hK] at c1
              clear hE hK
              go_quiet (fail)
              go_wp2_with fail
              go_meet
              case rel => exact ⟨by rw [HN.out, HB.out], _, rfl⟩
            · have HB : Hid (decide (E x ≠ E y ∨ C (T x).toNat ≠ C (T y).toNat) = true) := by simp [Hid, hE, hK]
              rw [hE] at cE
              have hK1 : (C (T x).toNat == C (T y).toNat) = false := by simp [hK]
              clear hE
              go_quiet (fail)
              go_wp2_with fail
              go_meet
              case rel => exact ⟨by rw [HN.out, HB.out]; simp [hK], _, rfl⟩
          · have HB : Hid (decide (E x ≠ E y ∨ C (T x).toNat ≠ C (T y).toNat) = true) := by simp [Hid, hE]
            have hE1 : (E x == E y) = false := by simp [hE]
            go_quiet (fail)
            go_wp2_with fail
            go_meet
            case rel => exact ⟨by rw [HN.out, HB.out], _, rfl⟩
      case rest =>
        obtain ⟨rfl, kq, rfl⟩ := hcut
        clear hacq' cT cE hbx' hC' hC hbx HPV cS cS0
        have hbelq : Below B w (wr.drewN kq) := below_drewN hbel kq
        have hls1 := hls.drewN kq
        clear hls hbel
        generalize wr.drewN kq = w1 at hls1 hbelq
        go_upto_if 171 with fail
        go_cut [] from 128 to 221 (fun wx => LS w SB gL gP m n (cur0 CK gL gP m n vd vp vq) (lifted E (fun a => C (T a).toNat) S i) (fT T S i) (fG E (fun a => C (T a).toNat) S i) (fP S i) wx)
        case first =>
          cases hnew : isNew E (fun a => C (T a).toNat) S i with
          | false =>
            have e : lifted E (fun a => C (T a).toNat) S i = ends E (fun a => C (T a).toNat) S i := by rw [lifted, hnew]; rfl
            have HE : Hid (lifted E (fun a => C (T a).toNat) S i = ends E (fun a => C (T a).toNat) S i) := e
            clear e hnew
            go_wp2_with fail
            go_meet
            case rel => rw [HE.out]; exact hls1
          | true =>
            have e : lifted E (fun a => C (T a).toNat) S i = ends E (fun a => C (T a).toNat) S i ++ [0] := by rw [lifted, hnew]; rfl
            have HE : Hid (lifted E (fun a => C (T a).toNat) S i = ends E (fun a => C (T a).toNat) S i ++ [0]) := e
            clear e hnew
            have hel := ends_le E (fun a => C (T a).toNat) S i
            obtain ⟨es, hes⟩ : ∃ es, es = ends E (fun a => C (T a).toNat) S i := ⟨_, rfl⟩
            rw [← hes] at hls1 hel
            obtain ⟨vC, mm, hr, hl, hcs⟩ := hls1.list
            have HC : Hid (∀ w', Added w1 w.heap.size SB 80 ((cur0 CK gL gP m n vd vp vq).set 3 vC) 3 101 87 4 (0 + 1) (es.length + 1) (grpCells es ++ [.int .i32 0, .int .i32 0, .int .i32 0, .int .i32 0]) w' → LS w SB gL gP m n (cur0 CK gL gP m n vd vp vq) (lifted E (fun a => C (T a).toNat) S i) (fT T S i) (fG E (fun a => C (T a).toNat) S i) (fP S i) w') := by
              intro w' ha
              rw [HE.out, ← hes]
              exact hls1.added hLw hPw hLS hPS ha
            have hadd := add33 SB w.heap.size ((cur0 CK gL gP m n vd vp vq).set 3 vC) 0 0 0 0 vC mm es.length 0 es.length (grpCells es) (grpCells es) w1 hr (by simp [cur0]) hSw hls1.kept.size hl (by omega) (by
              rcases hcs with ⟨a, b⟩ | ⟨a, b⟩
              · exact .inl ⟨a, rfl, b, by rw [List.length_eq_zero_iff.1 b]; rfl⟩
              · exact .inr ⟨by omega, by omega, rfl, rfl⟩)
            clear hr hl hcs hes HE hls1
            go_wp2_with ((go_at_call 33; refine hadd.mono ?_; rintro e w' ⟨rfl, hw⟩))
            go_meet
            case rel => exact HC.out _ hw
        case rest =>
          clear hls1 hbelq
          have hpos := lifted_pos E (fun a => C (T a).toNat) S i
          have hel : (lifted E (fun a => C (T a).toNat) S i).length ≤ 4096 := by
            have h := ends_le E (fun a => C (T a).toNat) S (i + 1)
            rw [ends_len_succ] at h
            omega
          have hsucc := ends_succ E (fun a => C (T a).toNat) S i
          have hgrp : grp E (fun a => C (T a).toNat) S i = (lifted E (fun a => C (T a).toNat) S i).length - 1 := by rw [grp, ends_len_succ]
          have hcur3 : 3 < (cur0 CK gL gP m n vd vp vq).length := by simp [cur0]
          obtain ⟨gC, gH, hgr, _⟩ := hcut.groups hcur3 hSw hLw hPw hpos
          obtain ⟨es, hes⟩ : ∃ es, es = lifted E (fun a => C (T a).toNat) S i := ⟨_, rfl⟩
          rw [← hes] at hgr hgrp hsucc hel hpos hcut
          obtain ⟨g, hg⟩ : ∃ g, g + 1 = es.length := ⟨es.length - 1, by omega⟩
          rw [← hg] at hgr hgrp hsucc hel hpos
          have hlen := len23 SB (g + 1) gC gH wc hel hgr
          rw [show ((g + 1 : Nat) : Int) = (g : Int) + 1 by omega] at hlen
          have HG : Hid (g + 1 = es.length) := hg
          have HGR : Hid (grp E (fun a => C (T a).toNat) S i = g + 1 - 1) := hgrp
          have HSU : Hid (ends E (fun a => C (T a).toNat) S (i + 1) = es.set (g + 1 - 1) (i + 1)) := hsucc
          clear hg hgrp hsucc hgr hpos hes
          have hg4 : g < 4096 := by omega
          clear hel
          go_upto_region 35 with ((go_at_call 23; refine hlen.mono ?_; rintro e w2 ⟨rfl, mq, hw⟩; have hls2 : LS w SB gL gP m n (cur0 CK gL gP m n vd vp vq) es (fT T S i) (fG E (fun a => C (T a).toNat) S i) (fP S i) w2 := (by rw [hw]; exact hcut.drewN mq); clear hw hcut hlen))
          have hls3 := hls2.alloc (.cells #[.int .i32 ((i : Int) + 1), .int .i32 ((i : Int) + 1)] 85)
          go_upto_region 37 with fail
          obtain ⟨Rb, hRb⟩ : ∃ Rb, Rb = w2.heap.size := ⟨_, rfl⟩
          have c260 : (w2.alloc (.cells #[.int .i32 ((i : Int) + 1), .int .i32 ((i : Int) + 1)] 85)).cell? ⟨w2.heap.size, 0, none⟩ = some (.int .i32 ((i : Int) + 1)) := (Row.new w2 85 [.int .i32 ((i : Int) + 1), .int .i32 ((i : Int) + 1)]).cell rfl
          have c261 : (w2.alloc (.cells #[.int .i32 ((i : Int) + 1), .int .i32 ((i : Int) + 1)] 85)).cell? ⟨w2.heap.size, 1, none⟩ = some (.int .i32 ((i : Int) + 1)) := (Row.new w2 85 [.int .i32 ((i : Int) + 1), .int .i32 ((i : Int) + 1)]).cell rfl
          generalize w2.alloc (.cells #[.int .i32 ((i : Int) + 1), .int .i32 ((i : Int) + 1)] 85) = w3 at c260 c261 hls3 ⊢
          rw [← hRb] at c260 c261 ⊢
          clear hls2 hRb
          obtain ⟨gC2, gH2, hgr, hgHw, hgc, hgf, hgset⟩ := hls3.groups hcur3 hSw hLw hPw (by rw [← HG.out]; omega)
          rw [← HG.out] at hgr
          have hgl : g < es.length := by rw [← HG.out]; omega
          have k0 := hgc g hgl 0 (by omega)
          have k1 := hgc g hgl 1 (by omega)
          have k2 := hgc g hgl 2 (by omega)
          have k3 := hgc g hgl 3 (by omega)
          rw [Nat.add_zero] at k0
          have z0 := hgf (g * 4)
          have z1 := hgf (g * 4 + 1)
          have z2 := hgf (g * 4 + 2)
          have z3 := hgf (g * 4 + 3)
          have hgset1 := fun k => hgset k g (i + 1) hgl
          rw [show ((i + 1 : Nat) : Int) = (i : Int) + 1 by omega] at hgset1
          clear hgc hgf hgset
          have hwr : IntKind.i64.wrap (g : Int) = (g : Int) := by rw [IntKind.wrap]; simp [IntKind.signed, IntKind.bits]; omega
          go_cut [] from 128 to 221 (fun wx => LS w SB gL gP m n (cur0 CK gL gP m n vd vp vq) (es.set g (i + 1)) (fT T S i) (fG E (fun a => C (T a).toNat) S i) (fP S i) wx)
          case first =>
            have HS1 : Hid (∀ k, LS w SB gL gP m n (cur0 CK gL gP m n vd vp vq) (es.set g (i + 1)) (fT T S i) (fG E (fun a => C (T a).toNat) S i) (fP S i) (((((w3.drewN k).setCell ⟨gH2, g * 4, none⟩ (.int .i32 ((i : Int) + 1))).setCell ⟨gH2, g * 4 + 1, none⟩ (.int .i32 ((i : Int) + 1))).setCell ⟨gH2, g * 4 + 2, none⟩ (.int .i32 ((i : Int) + 1))).setCell ⟨gH2, g * 4 + 3, none⟩ (.int .i32 ((i : Int) + 1)))) := hgset1
            clear hgset1
            have hat : ∀ k, Calls Try.prog 24 #[.pointer (some ⟨SB, 3, none⟩), .int .i64 (g : Int)] (w3.drewN k) fun e w' => e = .returned (.pointer (some ⟨gH2, g * 4, none⟩)) ∧ w' = w3.drewN k := fun k => at24 SB (g + 1) gC2 gH2 g _ (by omega) hgr (by omega)
            have hat0 : Calls Try.prog 24 #[.pointer (some ⟨SB, 3, none⟩), .int .i64 (g : Int)] w3.drew fun e w' => e = .returned (.pointer (some ⟨gH2, g * 4, none⟩)) ∧ w' = w3.drew := at24 SB (g + 1) gC2 gH2 g _ (by omega) hgr (by omega)
            go_region_with ((go_at_call 24; refine hat0.mono ?_; rintro e w' ⟨rfl, hw⟩; rw [hw]; clear hw))
            all_goals (go_wp2_with fail; go_meet; exact HS1.out 1)
          case rest =>
            clear hgset1 hgr hgHw k0 k1 k2 k3 z0 z1 z2 z3 c260 c261 hls3
            rename World => w4
            obtain ⟨vC, mm, hr, _, _⟩ := hcut.list
            have cB1 : w4.cell? ⟨SB, 1, none⟩ = some (.slice (some ⟨gL, 0, none⟩) m m) := hr.cell rfl
            have cB2 : w4.cell? ⟨SB, 2, none⟩ = some (.slice (some ⟨gP, 0, none⟩) n n) := hr.cell rfl
            have hbel4 : Below B w w4 := hcut.kept.below hB hBS hBL hBP
            obtain ⟨cT, _, _⟩ := (hacq.below hbel4).cells hxn
            obtain ⟨l0, l1, l2⟩ := lcells_get (fT T S i) (fG E (fun a => C (T a).toNat) S i) (fun _ => 0) m i hlt
            have L0 := hcut.rL.cell l0
            have L1 := hcut.rL.cell l1
            have L2 := hcut.rL.cell l2
            have f0 := hcut.rL.fz (i * 3)
            have f1 := hcut.rL.fz (i * 3 + 1)
            have f2 := hcut.rL.fz (i * 3 + 2)
            have hlsN := hcut.listing hLw hLS hLP 1 i hlt (T S[i]) (g : Int)
            have hlsN' : LS w SB gL gP m n (cur0 CK gL gP m n vd vp vq) (es.set g (i + 1)) (upd (fT T S i) i (T S[i])) (upd (fG E (fun a => C (T a).toNat) S i) i (g : Int)) (fP S i) (((w4.drew.setCell ⟨gL, i * 3, none⟩ (.int .i32 (T S[i]))).setCell ⟨gL, i * 3 + 1, none⟩ (.int .i32 (g : Int))).setCell ⟨gL, i * 3 + 2, none⟩ (.int .i32 0)) := hlsN
            clear hlsN l0 l1 l2 hr
            go_upto_region 38 with fail
            go_cut [] from 128 to 221 (fun wx => LS w SB gL gP m n (cur0 CK gL gP m n vd vp vq) (es.set g (i + 1)) (upd (fT T S i) i (T S[i])) (upd (fG E (fun a => C (T a).toNat) S i) i (g : Int)) (fP S i) wx)
            case first =>
              have HS2 : Hid (LS w SB gL gP m n (cur0 CK gL gP m n vd vp vq) (es.set g (i + 1)) (upd (fT T S i) i (T S[i])) (upd (fG E (fun a => C (T a).toNat) S i) i (g : Int)) (fP S i) (((w4.drew.setCell ⟨gL, i * 3, none⟩ (.int .i32 (T S[i]))).setCell ⟨gL, i * 3 + 1, none⟩ (.int .i32 (g : Int))).setCell ⟨gL, i * 3 + 2, none⟩ (.int .i32 0))) := hlsN'
              clear hlsN'
              go_big_region
              all_goals (go_wp2_with fail; go_meet; exact HS2.out)
            case rest =>
              clear hlsN' cB1 cB2 hbel4 cT L0 L1 L2 f0 f1 f2
              rename World => w5
              obtain ⟨vC5, mm5, hr5, _, _⟩ := hcut.list
              have cB5 : w5.cell? ⟨SB, 2, none⟩ = some (.slice (some ⟨gP, 0, none⟩) n n) := hr5.cell rfl
              have cP5 := hcut.rP.cell (i32s_get (fP S i) hxn)
              have fP5 := hcut.rP.fz S[i]
              have hfin := hcut.placed hPw hPS hLP S[i] (i : Int)
              have e1 : upd (fT T S i) i (T S[i]) = fT T S (i + 1) := by
                funext k
                unfold upd fT
                by_cases e : k = i
                · subst e; rw [if_pos rfl, if_pos (by omega), hx]
                · rw [if_neg e]
                  by_cases e2 : k < i
                  · rw [if_pos e2, if_pos (by omega)]
                  · rw [if_neg e2, if_neg (by omega)]
              have e2 : upd (fG E (fun a => C (T a).toNat) S i) i (g : Int) = fG E (fun a => C (T a).toNat) S (i + 1) := by
                funext k
                unfold upd fG
                by_cases e : k = i
                · subst e; rw [if_pos rfl, if_pos (by omega), HGR.out, Nat.add_sub_cancel]
                · rw [if_neg e]
                  by_cases e2 : k < i
                  · rw [if_pos e2, if_pos (by omega)]
                  · rw [if_neg e2, if_neg (by omega)]
              have e3 : upd (fP S i) S[i] (i : Int) = fP S (i + 1) := by
                funext a
                unfold upd fP
                rw [plc, hx]
                by_cases e : a = S[i]
                · rw [if_pos e, if_pos e]
                · rw [if_neg e, if_neg e]
              have e4 : es.set g (i + 1) = ends E (fun a => C (T a).toNat) S (i + 1) := by rw [HSU.out, Nat.add_sub_cancel]
              rw [e1, e2, e3, e4] at hfin
              have HF : Hid (LS w SB gL gP m n (cur0 CK gL gP m n vd vp vq) (ends E (fun a => C (T a).toNat) S (i + 1)) (fT T S (i + 1)) (fG E (fun a => C (T a).toNat) S (i + 1)) (fP S (i + 1)) (w5.setCell ⟨gP, S[i], none⟩ (.int .i32 (i : Int)))) := hfin
              have HX : Hid (S.getD i 0 = S[i]) := hx
              clear e1 e2 e3 e4 hfin hr5 hcut hx
              go_wp2_with fail
              go_roundg (m - (i + 1))
              case measure => have := hG.out; omega
              case rel => exact ⟨i + 1, by omega, rfl, by go_num, by rw [prevP, HX.out], HF.out⟩
    · have him : m = i := by omega
      subst him
      clear hlt hi hG HPV
      have hgw := hS.lt
      have hSr : Row wr gS 21 (idl S) := hls.kept.row hS hgw hSS hSL hSP
      have hbel : Below B w wr := hls.kept.below hB hBS hBL hBP
      have hsz := hls.kept.size
      obtain ⟨vC6, mm6, hr6, _, _⟩ := hls.list
      go_wp2_with fail
      refine tail12 SB CK gS gL m n hA B S T E (fT T S m) (fG E (fun a => C (T a).toNat) S m) X df (RetOnly G) wr hn HM.out hmn hSr hSn (hacq.below hbel) (by omega) hBL hSL (Ne.symm hLS) (hr6.cell rfl) hls.rL (fun a w' h1 h2 h3 => hQ a w' h1 h2 (hls.out (by simp [cur0]) hSw hLw hPw hLS hLP h3))
end Go.Proofs.Qxb6613322a

