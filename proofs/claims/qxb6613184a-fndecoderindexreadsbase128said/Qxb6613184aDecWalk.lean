/-
  THE WALK of FnDecoderIndexReadsBase128.
-/
import Derived.Test.Qxb6613184aDecIndex
import Derived.Deep.DeepCutAuto
namespace Go.Proofs.Qxb6613184a
open Go.RowKit

theorem ByteRow.belowAt {w w' : World} {a : Option Addr} {len D : Nat} {Z : Nat → Int} (h : ByteRow w a len Z) (ha : ∀ z, a = some z → z.block < D) (hb : Below D w w') : ByteRow w' a len Z := by
  intro k hk
  obtain ⟨b, off, e, hc, hz⟩ := h k hk
  exact ⟨b, off, e, (hb.cell (p := ⟨b, off + k, none⟩) (ha ⟨b, off, none⟩ e)).trans hc, hz⟩
theorem ByteRow.drewN {w : World} {a : Option Addr} {len : Nat} {Z : Nat → Int} (h : ByteRow w a len Z) (n : Nat) : ByteRow (w.drewN n) a len Z := by
  intro k hk
  obtain ⟨b, off, e, hc, hz⟩ := h k hk
  exact ⟨b, off, e, hc, hz⟩
theorem base128_good (ao : Option Addr) (n c k : Nat) (Z : Nat → Int) (w : World) (hn : n ≤ 1048576) (hZ : ByteRow w ao n Z) (hg : GoodStop Z n k) :
    Calls Try.prog 19 #[.slice ao n c] w fun e w' => e = .returned (.tuple #[.bool true, .int .u64 (hval Z 0 (k + 1)), .int .i64 (k + 1)]) ∧ w' = w := by
  refine (base128_any ao n c Z w hn hZ).mono ?_
  rintro e w' ⟨⟨k', h', rfl⟩ | ⟨hb, _⟩, hw⟩
  · obtain rfl := hg.uniq h'
    exact ⟨rfl, hw⟩
  · exact absurd hg (hb k)
theorem base128_bad (ao : Option Addr) (n c : Nat) (Z : Nat → Int) (w : World) (hn : n ≤ 1048576) (hZ : ByteRow w ao n Z) (hg : BadNum Z n) :
    Calls Try.prog 19 #[.slice ao n c] w fun e w' => e = .returned (.tuple #[.bool false, .int .u64 0, .int .i64 0]) ∧ w' = w := by
  refine (base128_any ao n c Z w hn hZ).mono ?_
  rintro e w' ⟨⟨k', h', rfl⟩ | ⟨_, rfl⟩, hw⟩
  · exact absurd h' (hg k')
  · exact ⟨rfl, hw⟩

theorem row_cut {w : World} {b off n m : Nat} {Z : Nat → Int} (h : ByteRow w (some ⟨b, off, none⟩) n Z) : ByteRow w (some ⟨b, off + m, none⟩) (n - m) (fun j => Z (j + m)) := by
  intro j hj
  obtain ⟨b', off', e, hc, hz⟩ := h (j + m) (by omega)
  cases e
  exact ⟨_, _, rfl, by rw [show off + m + j = off + (j + m) by omega]; exact hc, hz⟩

theorem dec_new (w : World) (v s : Value) : DecIs (w.alloc (.cells #[v, .nilIface, s] 53)) w.heap.size v .nilIface s := heap_alloc_new _ _

set_option maxRecDepth 100000 in
set_option maxHeartbeats 2000000 in
theorem decWalk (a : Option Addr) (n c : Nat) (Z : Nat → Int) (s : ByteArray) (w : World) (hn : n ≤ 9223372036854775807) (hs : s.size ≤ 9223372036854775807) (hna : a = none → n = 0) (hZ : ByteRow w a n Z) :
    Calls Try.prog 5 #[.slice a n c, .string s] w fun e w' => e = .returned (.bool true) ∧ Below w.heap.size w w' := by
  by_cases hsz : n + s.size ≤ 1048576
  · go_enter Try.func5, Try.ntmps5
    go_wp2_with fail
    refine (zzBytesDec_any a n c s _ hn hs).mono ?_
    rintro e w0 ⟨rfl, hw⟩
    rw [hw]
    clear hw
    have e0 : decide (n + s.size ≤ 1048576) = true := by simpa using hsz
    rw [e0]
    clear e0
    go_wp2_with fail
    refine (clone_any a n c Z _ (by omega) hna hZ).mono ?_
    rintro e w1 ⟨ao, rfl, hZ1, hB1, hno1, hlt1⟩
    go_wp2_with fail
    refine (clone_any ao _ _ Z _ (by omega) hno1 hZ1).mono ?_
    rintro e w2 ⟨oo, rfl, hZo, hB2, hno2, hlt2⟩
    have hB2' : Below w.heap.size w w2 := hB1.trans (hB2.mono hB1.size)
    have hZ2 := hZ1.below hB2
    have hlt1' : ∀ z, ao = some z → z.block < w2.heap.size := fun z e => Nat.lt_of_lt_of_le (hlt1 z e) hB2.size
    clear hZ1 hB1 hno1 hlt1 hB2 hno2 hna
    have hD := dec_new w2 (.slice ao n n) (.string s)
    have hB3 : Below w.heap.size w (w2.alloc (.cells #[.slice ao n n, .nilIface, .string s] 53)) := hB2'.alloc hB2'.size _
    have hb23 : Below w2.heap.size w2 (w2.alloc (.cells #[.slice ao n n, .nilIface, .string s] 53)) := (Below.refl _ _).alloc (Nat.le_refl _) _
    have hZo3 := hZo.below hb23
    have hZ3 := hZ2.below hb23
    by_cases hgood : ∃ k, GoodStop Z n k
    · obtain ⟨k, hg⟩ := hgood
      obtain ⟨hv0, _⟩ := hval_bd Z (k + 1) 0
      have hkn : k < n := hg.1
      obtain ⟨bo, oo', rfl, _⟩ := hZo k hkn
      have hcl : (hval Z 0 (k + 1) ≤ 2147483648 ∧ (clamp (hval Z 0 (k + 1)) == hval Z 0 (k + 1)) = true) ∨ (2147483648 < hval Z 0 (k + 1) ∧ (clamp (hval Z 0 (k + 1)) == 2147483648) = true) := by
        by_cases h : hval Z 0 (k + 1) ≤ 2147483648
        · exact .inl ⟨h, by unfold clamp; rw [if_pos h]; exact beq_self_eq_true _⟩
        · exact .inr ⟨by omega, by unfold clamp; rw [if_neg h]; exact beq_self_eq_true _⟩
      rcases hcl with ⟨hv, hcl⟩ | ⟨hv, hcl⟩
      all_goals
        go_wp2_with (first | (go_at_call 15; refine (index_good _ ao n k _ Z _ (by omega) hD hZ3 hlt1' hg).mono ?_; rintro e w3 ⟨rfl, ao', c', hD3, hZr, hb3⟩; have c0 := hD3.c0; have c1 := hD3.c1; have c2 := hD3.c2) | (go_at_call 16; go_in) | (go_at_call 17; go_in) | (go_at_call 18; go_in) | (go_at_call 14; go_in))
        have hZo4 := hZo3.belowAt hlt2 hb3
        have hB4 : Below w.heap.size w w3 := hB3.trans (hb3.mono hB2'.size)
        refine (base128_good _ n n k Z _ (by omega) hZo4 hg).mono ?_
        rintro e w4 ⟨rfl, hw⟩
        rw [hw]
        clear hw
        go_upto_if 63 with fail
        go_cut [11] (fun v wx => ∃ V : Int, v = .int .u64 V ∧ 0 ≤ V ∧ V ≤ 2147483648 ∧ (clamp (hval Z 0 (k + 1)) == V) = true ∧ wx = w3)
        case first =>
          go_wp2_with fail
          go_meet
          case rel => exact ⟨_, rfl, by omega, by omega, hcl, rfl⟩
        case rest =>
          clear hcl hv
          obtain ⟨V, rfl, hV0, hV1, hq, hw⟩ := hcut
          rw [hw]
          clear hw
          by_cases hnk : n = k + 1
          · subst hnk
            go_wp2_with fail
            refine (same_any _ _ _ _ _ (fun j => Z (j + (k + 1))) _ (by omega) (by simpa using hZr) (fun j hj => absurd hj (by omega))).mono ?_
            rintro e w5 ⟨rfl, nd, rfl⟩
            go_wp2
            go_ret
            exact ⟨rfl, below_drewN hB4 nd⟩
          · go_wp2_with fail
            refine (same_any _ _ _ _ _ (fun j => Z (j + (k + 1))) _ (by omega) hZr (row_cut hZo4)).mono ?_
            rintro e w5 ⟨rfl, nd, rfl⟩
            go_wp2
            go_ret
            exact ⟨rfl, below_drewN hB4 nd⟩
    · have hgood : BadNum Z n := fun k hk => hgood ⟨k, hk⟩
      go_wp2_with (first | (go_at_call 15; refine (index_bad _ ao n _ Z _ (by omega) hD hZ3 hgood).mono ?_; rintro e w3 ⟨rfl, gE, hD3, hb3⟩; have c0 := hD3.c0; have c1 := hD3.c1; have c2 := hD3.c2) | (go_at_call 16; go_in) | (go_at_call 17; go_in) | (go_at_call 18; go_in) | (go_at_call 14; go_in))
      have hZo4 := hZo3.belowAt hlt2 hb3
      have hZ4 := hZ3.belowAt hlt1' hb3
      have hB4 : Below w.heap.size w w3 := hB3.trans (hb3.mono hB2'.size)
      refine (base128_bad _ n n Z _ (by omega) hZo4 hgood).mono ?_
      rintro e w4 ⟨rfl, hw⟩
      rw [hw]
      clear hw
      go_wp2_with fail
      refine (same_any _ _ _ _ _ Z _ (by omega) hZ4 hZo4).mono ?_
      rintro e w5 ⟨rfl, nd, rfl⟩
      go_wp2
      go_ret
      exact ⟨rfl, below_drewN hB4 nd⟩
  · go_enter Try.func5, Try.ntmps5
    go_wp2_with fail
    refine (zzBytesDec_any a n c s _ hn hs).mono ?_
    rintro e w0 ⟨rfl, hw⟩
    rw [hw]
    clear hw
    have e0 : decide (n + s.size ≤ 1048576) = false := by simpa using hsz
    rw [e0]
    clear e0
    go_wp2
    go_ret
    exact ⟨rfl, Below.refl _ _⟩
end Go.Proofs.Qxb6613184a
