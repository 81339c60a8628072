/-
  newCycleSearch FROM ITS END: the listings' next exclusive places; the return.
-/
import Derived.RangeFuncBox
import Derived.Deep.QuietTactic
import Derived.BigQuiet
import Derived.Test.Qxb6613322aNcsMath
namespace Go.Proofs.Qxb6613322a
open Go.RowKit
set_option linter.unusedVariables false
def dropC : Nat → Code → Code
  | 0, c => c
  | k + 1, .seq _ b => dropC k b
  | _ + 1, c => c
noncomputable def code25 : Code := Try.f25.body.getD .skip
noncomputable def tail25 (k : Nat) : Code := dropC k code25

theorem AcqH.drewN {w : World} {B CK n hA : Nat} {T E : Nat → Int} {X : Nat → Bool} (h : AcqH w B CK n hA T E X) (k : Nat) : AcqH (w.drewN k) B CK n hA T E X := h
/-- THE LAST LOOP's END. -/
def NextOut (gL m : Nat) (f g h : Nat → Int) (w w' : World) : Prop := Row w' gL 82 (lcells f g h m) ∧ Kept w.heap.size gL w w'

set_option maxRecDepth 100000 in
set_option maxHeartbeats 1000000 in
theorem tail12 (SB CK gS gL m n hA B : Nat) (S : List Nat) (T E f g : Nat → Int) (X : Nat → Bool) {u1 u2 u3 u4 u5 u6 u7 u8 u9 u10 u11 u12 u13 u14 u15 u16 u19 u20 u21 u22 u23 u24 u25 u26 u27 u28 u29 u30 u31 u32 u33 u34 u35 u36 u37 u38 u39 u40 u41 u42 u43 u44 u45 u46 u47 u48 u49 u50 u51 u52 u53 u54 u55 u56 u57 u58 u59 u60 u61 u62 u63 u64 u65 u66 u67 u68 u69 u70 u71 u72 u73 u74 u75 u76 u77 u78 u79 u80 u81 u82 u83 u84 u85 u86 u87 u88 u89 u90 u91 u92 u93 u94 u95 u96 u97 u98 u99 u100 u101 u102 u103 u104 u105 u106 u107 u108 u109 u110 u111 u112 u113 u114 u115 u116 u117 u118 u119 u120 u121 u122 u123 u124 u125 u126 u127 u128 u129 u130 u131 u132 u133 u134 u135 u136 u137 u138 u139 u140 u141 u142 u143 u144 u145 u146 u147 u148 u149 u150 u151 u152 u153 u154 u155 u156 u157 u158 u159 u160 u161 u162 u163 u164 u165 u166 u167 u168 u169 u170 u171 u172 u173 u174 u175 u176 u177 u178 u179 u180 u181 u182 u183 u184 u185 u186 u187 u188 u189 u190 u191 u192 u193 u194 u195 u196 u197 u198 u199 u200 u201 u202 u203 u204 u205 u206 u207 u208 u209 u210 u211 u212 u213 u214 u215 u216 u217 u218 u219 u220 u221 u222 u223 u224 u225 u226 u227 u228 u229 u230 u231 u232 u233 u234 u235 u236 u237 u238 u239 u240 u241 u242 u243 u244 u245 u246 u247 u248 u249 u250 u251 u252 u253 u254 : Value} (df : List Deferred) (Q : Exit → Act → World → Prop) (w : World)
    (hn : n ≤ 4096) (hm : S.length = m) (hmn : m ≤ 4096) (hS : Row w gS 21 (idl S)) (hSn : ∀ i ∈ S, i < n) (hacq : AcqH w B CK n hA T E X) (hB : B ≤ w.heap.size) (hBL : B ≤ gL) (hSL : gS ≠ gL) (hBS : SB ≠ gL)
    (hc1 : w.cell? ⟨SB, 1, none⟩ = some (.slice (some ⟨gL, 0, none⟩) m m)) (hL : Row w gL 82 (lcells f g (fun _ => 0) m))
    (hQ : ∀ a w', a.defers = df → a.tmps.getD 6 undef = .pointer (some ⟨SB, 0, none⟩) → NextOut gL m f g (fun k => (nxt (fun q => X (S.getD q 0)) m k : Int)) w w' → Q .ret a w') :
    Code.wp Try.prog (tail25 12) Q ⟨((.pointer (some ⟨CK, 0, none⟩)) :: u1 :: u2 :: u3 :: u4 :: u5 :: u6 :: u7 :: u8 :: u9 :: u10 :: u11 :: u12 :: u13 :: u14 :: u15 :: u16 :: (.slice (some ⟨gS, 0, none⟩) m m) :: (.pointer (some ⟨SB, 0, none⟩)) :: u19 :: u20 :: u21 :: u22 :: u23 :: u24 :: u25 :: u26 :: u27 :: u28 :: u29 :: u30 :: u31 :: u32 :: u33 :: u34 :: u35 :: u36 :: u37 :: u38 :: u39 :: u40 :: u41 :: u42 :: u43 :: u44 :: u45 :: u46 :: u47 :: u48 :: u49 :: u50 :: u51 :: u52 :: u53 :: u54 :: u55 :: u56 :: u57 :: u58 :: u59 :: u60 :: u61 :: u62 :: u63 :: u64 :: u65 :: u66 :: u67 :: u68 :: u69 :: u70 :: u71 :: u72 :: u73 :: u74 :: u75 :: u76 :: u77 :: u78 :: u79 :: u80 :: u81 :: u82 :: u83 :: u84 :: u85 :: u86 :: u87 :: u88 :: u89 :: u90 :: u91 :: u92 :: u93 :: u94 :: u95 :: u96 :: u97 :: u98 :: u99 :: u100 :: u101 :: u102 :: u103 :: u104 :: u105 :: u106 :: u107 :: u108 :: u109 :: u110 :: u111 :: u112 :: u113 :: u114 :: u115 :: u116 :: u117 :: u118 :: u119 :: u120 :: u121 :: u122 :: u123 :: u124 :: u125 :: u126 :: u127 :: u128 :: u129 :: u130 :: u131 :: u132 :: u133 :: u134 :: u135 :: u136 :: u137 :: u138 :: u139 :: u140 :: u141 :: u142 :: u143 :: u144 :: u145 :: u146 :: u147 :: u148 :: u149 :: u150 :: u151 :: u152 :: u153 :: u154 :: u155 :: u156 :: u157 :: u158 :: u159 :: u160 :: u161 :: u162 :: u163 :: u164 :: u165 :: u166 :: u167 :: u168 :: u169 :: u170 :: u171 :: u172 :: u173 :: u174 :: u175 :: u176 :: u177 :: u178 :: u179 :: u180 :: u181 :: u182 :: u183 :: u184 :: u185 :: u186 :: u187 :: u188 :: u189 :: u190 :: u191 :: u192 :: u193 :: u194 :: u195 :: u196 :: u197 :: u198 :: u199 :: u200 :: u201 :: u202 :: u203 :: u204 :: u205 :: u206 :: u207 :: u208 :: u209 :: u210 :: u211 :: u212 :: u213 :: u214 :: u215 :: u216 :: u217 :: u218 :: u219 :: u220 :: u221 :: u222 :: u223 :: u224 :: u225 :: u226 :: u227 :: u228 :: u229 :: u230 :: u231 :: u232 :: u233 :: u234 :: u235 :: u236 :: u237 :: u238 :: u239 :: u240 :: u241 :: u242 :: u243 :: u244 :: u245 :: u246 :: u247 :: u248 :: u249 :: u250 :: u251 :: u252 :: u253 :: u254 :: []).toArray, df⟩ w := by
  conv => arg 2; whnf
  have HM : Hid (S.length = m) := hm
  clear hm
  go_wp2
  go_loopg [28, 27] m (fun gk p q wr => ∃ k : Nat, k ≤ m ∧ gk = k ∧ p = .int .i64 ((k : Int) - 1) ∧ q = .int .i32 (nxt (fun q => X (S.getD q 0)) m k : Int) ∧ Row wr gL 82 (lcells f g (fun i => if k ≤ i then (nxt (fun q => X (S.getD q 0)) m i : Int) else 0) m) ∧ Kept w.heap.size gL w wr)
  case atStart =>
    refine ⟨m, Nat.le_refl _, rfl, rfl, by rw [nxt_end], ?_, Kept.refl _ _ _⟩
    rw [lcells_ext (f' := f) (g' := g) (h' := fun _ => 0)]
    · exact hL
    · intro k hk
      exact ⟨rfl, rfl, by simp; omega⟩
  case round =>
    obtain ⟨k, hk, hgk, rfl, rfl, hrow, hkept⟩ := hrel
    have hG : Hid (gk = k) := hgk
    clear hgk
    cases k with
    | zero =>
      rename World => wr
      go_wp2_with fail
      refine hQ _ _ rfl rfl ⟨?_, hkept⟩
      rw [lcells_ext (f' := f) (g' := g) (h' := fun i => if 0 ≤ i then (nxt (fun q => X (S.getD q 0)) m i : Int) else 0)]
      · exact hrow
      · intro k hk
        exact ⟨rfl, rfl, by simp⟩
    | succ k =>
      have hkL : k < S.length := by rw [HM.out]; omega
      have hx : S.getD k 0 = S[k] := by simp [List.getD, hkL]
      have hxn := hSn S[k] (List.getElem_mem hkL)
      have cS0 : w.cell? ⟨gS, k, none⟩ = some (.int .i32 (S[k] : Int)) := hS.cell (by simp [idl, hkL])
      have cS := (hkept.cell (p := ⟨gS, k, none⟩) (block_lt_of_cell cS0) hSL).trans cS0
      have hc1' := (hkept.cell (p := ⟨SB, 1, none⟩) (block_lt_of_cell hc1) hBS).trans hc1
      have hacq' : AcqH wr B CK n hA T E X := hacq.below (hkept.below hB hBL)
      have hcX := (hacq'.cells hxn).2.2
      obtain ⟨_, _, cL⟩ := lcells_get f g (fun i => if k + 1 ≤ i then (nxt (fun q => X (S.getD q 0)) m i : Int) else 0) m k (by omega)
      have cL' := hrow.cell cL
      have fL := hrow.fz (k * 3 + 2)
      have hst := nxt_step (fun q => X (S.getD q 0)) (show k < m by omega)
      simp only [hx] at hst
      have hle := nxt_le (fun q => X (S.getD q 0)) m (k + 1)
      have hrow1 : ∀ mq, Row ((wr.drewN mq).setCell ⟨gL, k * 3 + 2, none⟩ (.int .i32 (nxt (fun q => X (S.getD q 0)) m k : Int))) gL 82 (lcells f g (fun i => if k ≤ i then (nxt (fun q => X (S.getD q 0)) m i : Int) else 0) m) := by
        intro mq
        have h := (hrow.drewN mq).set (k * 3 + 2) (.int .i32 (nxt (fun q => X (S.getD q 0)) m k : Int))
        rw [lcells_set2 _ _ _ _ _ _ (by omega)] at h
        rw [lcells_ext (f' := f) (g' := g) (h' := upd (fun i => if k + 1 ≤ i then (nxt (fun q => X (S.getD q 0)) m i : Int) else 0) k (nxt (fun q => X (S.getD q 0)) m k : Int))]
        · exact h
        · intro j _
          refine ⟨rfl, rfl, ?_⟩
          unfold upd
          by_cases e : j = k
          · subst e; simp
          · rw [if_neg e]
            show (if k ≤ j then _ else _) = if k + 1 ≤ j then _ else _
            by_cases e2 : k ≤ j
            · rw [if_pos e2, if_pos (by omega)]
            · rw [if_neg e2, if_neg (by omega)]
      have hkept1 : ∀ mq, Kept w.heap.size gL w ((wr.drewN mq).setCell ⟨gL, k * 3 + 2, none⟩ (.int .i32 (nxt (fun q => X (S.getD q 0)) m k : Int))) := fun mq => (hkept.drewN mq).setCell (p := ⟨gL, k * 3 + 2, none⟩) (.inr rfl) _
      rw [show ((k + 1 : Nat) : Int) - 1 = (k : Int) by omega]
      have hkm : (k : Int) < (m : Int) := by omega
      generalize hxe : S[k] = x at cS hxn hcX hst
      clear hxe cS0 hx cL
      obtain ⟨nk, hnk⟩ : ∃ nk, nk = nxt (fun q => X (S.getD q 0)) m k := ⟨_, rfl⟩
      rw [← hnk] at hst hrow1 hkept1
      obtain ⟨n1, hn1⟩ : ∃ n1, n1 = nxt (fun q => X (S.getD q 0)) m (k + 1) := ⟨_, rfl⟩
      rw [← hn1] at hst hle ⊢
      have HN1 : Hid (n1 = nxt (fun q => X (S.getD q 0)) m (k + 1)) := hn1
      have HNK : Hid (nk = nxt (fun q => X (S.getD q 0)) m k) := hnk
      clear hrow hn1 hnk
      by_cases hX : X x = true
      · rw [hX] at hcX hst
        rw [if_pos rfl] at hst
        have HS : Hid (nk = k) := hst
        rw [HS.out] at hrow1 hkept1
        clear hst
        go_wp2_with fail
        go_quiet ((go_at_call 32; exact Calls.quiet_of_same (at32 CK n hA B x T E X _ hn (hacq'.drewN _) hxn)))
        go_wp2_with fail
        go_roundg k
        case measure => have := hG.out; omega
        case rel => exact ⟨k, by omega, rfl, by go_num, by rw [← HNK.out, HS.out], hrow1 _, hkept1 _⟩
      · have hX : X x = false := by simpa using hX
        rw [hX] at hcX hst
        rw [if_neg (by simp)] at hst
        have HS : Hid (nk = n1) := hst
        rw [HS.out] at hrow1 hkept1
        clear hst
        go_wp2_with fail
        go_quiet ((go_at_call 32; exact Calls.quiet_of_same (at32 CK n hA B x T E X _ hn (hacq'.drewN _) hxn)))
        go_wp2_with fail
        go_roundg k
        case measure => have := hG.out; omega
        case rel => exact ⟨k, by omega, rfl, by go_num, by rw [← HNK.out, HS.out], hrow1 _, hkept1 _⟩
end Go.Proofs.Qxb6613322a

