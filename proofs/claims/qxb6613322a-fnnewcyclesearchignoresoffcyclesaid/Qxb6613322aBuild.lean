/-
  ZZbuildChecker BY A CONTRACT.
-/
import Derived.Test.Qxb6613322aBuildLib
import Derived.StillTailTactics
namespace Go.Proofs.Qxb6613322a
open Go.RowKit
set_option linter.unusedVariables false

/-- WHAT ZZbuildChecker GIVES. -/
def Built (w : World) (n : Nat) (T E : Nat → Int) (X : Nat → Bool) (ne : Nat) (e : Ending) (w' : World) : Prop :=
  e = .returned (.pointer (some ⟨w.heap.size, 0, none⟩)) ∧ AcqR w' w'.heap.size w.heap.size n T E X ∧ EntR w' w'.heap.size w.heap.size ne ∧ Below w.heap.size w w'

theorem Kept.drew {B CK : Nat} {a w : World} (h : Kept B CK a w) : Kept B CK a w.drew := ⟨h.os, h.tape, h.output, h.size, h.block⟩

theorem Kept.cell {B CK : Nat} {a w : World} (h : Kept B CK a w) {p : Addr} (hp : p.block < B) (hne : p.block ≠ CK) : w.cell? p = a.cell? p := World.cell?_of_block (w := a) (h.block p.block hp hne)

/-- The acquisitions stay where another cell of the checker is written. -/
theorem acq_kept {W wr : World} {CK n o : Nat} {cur : List Value} {v : Value} {T E : Nat → Int} {X : Nat → Bool} (h : AcqR W W.heap.size CK n T E X) (hk : Kept W.heap.size CK W wr) (hr : Row W CK 63 cur) (hr' : Row wr CK 63 (cur.set o v)) (ho : o ≠ 12 := by decide) : AcqR wr wr.heap.size CK n T E X := by
  have hc : wr.cell? ⟨CK, 12, none⟩ = W.cell? ⟨CK, 12, none⟩ := by
    rw [cell_of_row wr CK 12 _ _ _ hr', cell_of_row W CK 12 _ _ _ hr]
    simp [List.getElem?_set_ne ho]
  obtain ⟨h0, h | ⟨h1, gA, hA, cA, cH, a, b, c, b', c', d, e⟩⟩ := h
  · exact ⟨hr'.lt, .inl ⟨h.1, hc.trans h.2⟩⟩
  · have hgne : gA ≠ CK := by omega
    have hhne : hA ≠ CK := by omega
    refine ⟨hr'.lt, .inr ⟨h1, gA, hA, cA, cH, hc.trans a, Nat.lt_of_lt_of_le b hk.size, Nat.lt_of_lt_of_le c hk.size, b', c', (hk.cell (p := ⟨gA, 0, none⟩) b hgne).trans d, fun k hk' => ?_⟩⟩
    obtain ⟨x, y, z⟩ := e k hk'
    exact ⟨(hk.cell (p := ⟨hA, 4 * k, none⟩) c hhne).trans x, (hk.cell (p := ⟨hA, 4 * k + 1, none⟩) c hhne).trans y, (hk.cell (p := ⟨hA, 4 * k + 2, none⟩) c hhne).trans z⟩

set_option maxRecDepth 100000 in
set_option maxHeartbeats 4000000 in
theorem build_any (aT aE aX : Option Addr) (gp gl n cT cE cX nt : Nat) (T E : Nat → Int) (X : Nat → Bool) (ne : Nat) (w : World) (hn : n ≤ 4096) (hnt : nt ≤ 65536) (hne : ne ≤ 65536)
    (rT : IntRow w aT n T) (rE : IntRow w aE n E) (rX : BoolRow w aX n X) (rP : SomeRow w gp n) (rL : SomeRow w gl nt) :
    Calls Try.prog 12 #[.slice aT n cT, .slice aE n cE, .slice (some ⟨gp, 0, none⟩) n n, .slice aX n cX, .slice (some ⟨gl, 0, none⟩) nt nt, .int .i64 ne] w fun e w' => Built w n T E X ne e w' := by
  obtain ⟨PV, hPr, hPb⟩ := rP
  obtain ⟨LV, hLr, hLb⟩ := rL
  obtain ⟨W0, hW0⟩ : ∃ W0, W0 = w.alloc (.cells ck0.toArray 63) := ⟨_, rfl⟩
  have hb0 : Below w.heap.size w W0 := by rw [hW0]; exact (Below.refl _ _).alloc (Nat.le_refl _) _
  have hr0 : Row W0 w.heap.size 63 ck0 := by rw [hW0]; exact Row.new _ _ _
  have hs0 : W0.heap.size = w.heap.size + 1 := by rw [hW0]; simp
  go_enter Try.func12, Try.ntmps12
  go_wp2
  have hW0' : w.alloc (.cells #[.slice none 0 0, .slice none 0 0, .slice none 0 0, .slice none 0 0, .int .u64 0, .slice none 0 0, .slice none 0 0, .slice none 0 0, .int .u64 0, .slice none 0 0, .slice none 0 0, .map none, .slice none 0 0] 63) = W0 := by rw [hW0]; rfl
  rw [hW0']
  clear hW0 hW0'
  go_loopg [21, 14] n (fun g i _ wr => ∃ k : Nat, k ≤ n ∧ g = n - k ∧ i = .int .i64 k ∧ GrowsTo W0 (w.heap.size + 1) w.heap.size 63 ck0 12 92 68 4 k (acqCells T E X PV k) wr)
  case atStart => exact ⟨0, by omega, rfl, rfl, GrowsTo.start hr0 rfl⟩
  case round =>
    obtain ⟨k, hk, hgk, rfl, hin⟩ := hrel
    have hG : Hid (gk = n - k) := hgk
    clear hgk
    by_cases hlt : k < n
    · obtain ⟨vC, m, hCKr, hLS, hmk, hkept⟩ := hin
      have hB : Below w.heap.size w wr := hb0.trans (hkept.below (by omega) (by omega))
      obtain ⟨b1, o1, rfl, hc1, _, _⟩ := rT k hlt
      obtain ⟨b2, o2, rfl, hc2, _, _⟩ := rE k hlt
      obtain ⟨b3, o3, rfl, hc3⟩ := rX k hlt
      have hc4 := hPr.cell (i32s_get PV hlt)
      have d1 : wr.cell? ⟨b1, o1 + k, none⟩ = some (.int .i32 (T k)) := (hB.cell (p := ⟨b1, o1 + k, none⟩) (block_lt_of_cell hc1)).trans hc1
      have d2 : wr.cell? ⟨b2, o2 + k, none⟩ = some (.int .i32 (E k)) := (hB.cell (p := ⟨b2, o2 + k, none⟩) (block_lt_of_cell hc2)).trans hc2
      have d3 : wr.cell? ⟨b3, o3 + k, none⟩ = some (.bool (X k)) := (hB.cell (p := ⟨b3, o3 + k, none⟩) (block_lt_of_cell hc3)).trans hc3
      have d4 : wr.cell? ⟨gp, k, none⟩ = some (.int .i32 (PV k)) := (hB.cell (p := ⟨gp, k, none⟩) (block_lt_of_cell hc4)).trans hc4
      have hli : (k : Int) < (n : Int) := by omega
      have hAdd := add20 w.heap.size (w.heap.size + 1) (ck0.set 12 vC) (T k) (E k) (PV k) (X k) vC m k 0 k (acqCells T E X PV k) (acqCells T E X PV k) wr.drew hCKr (by simp [ck0]) (by omega) (by have := hkept.size; rw [hs0] at this; exact this) hLS (by omega) (by rcases hmk with ⟨rfl, rfl⟩ | ⟨rfl, _⟩ <;> simp [acqCells] <;> omega)
      go_wp2_with fail
      go_still_tail 21, mixed
      go_wp2_with (go_at_call 20; refine hAdd.mono ?_; rintro e w' ⟨rfl, hadd⟩)
      have hin1 := GrowsTo.added rfl hkept.drew hadd
      go_roundg (n - (k + 1))
      case measure => have := hG.out; omega
      case rel => exact ⟨k + 1, by omega, rfl, by go_num, hin1⟩
    · have hkn : n = k := by omega
      subst hkn
      clear hG hk
      rename World => W1
      have hacq := acqR_of (by simp [ck0]) hn (by omega) hin
      obtain ⟨vA, m, hCKr, hLS, hmk, hkept⟩ := hin
      have hB1 : Below w.heap.size w W1 := hb0.trans (hkept.below (by omega) (by omega))
      clear hLS hmk hkept hb0 hr0 hs0
      have hCKlt : w.heap.size < W1.heap.size := hCKr.lt
      have hglt := hLr.lt
      have hL1 := hLr.below hB1 hLr.lt
      clear hLr hPr rT rE rX
      go_wp2
      clear hlt
      go_loopg [49, 15] nt (fun g i _ wr => ∃ k : Nat, k ≤ nt ∧ g = nt - k ∧ i = .int .i64 k ∧ Grows W1 w.heap.size 63 (ck0.set 12 vA) 9 95 71 4 k wr)
      case atStart => exact ⟨0, by omega, rfl, rfl, Grows.start hCKr rfl⟩
      case round =>
        rename World => wr
        obtain ⟨k, hk, hgk, rfl, hin⟩ := hrel
        have hG : Hid (gk = nt - k) := hgk
        clear hgk
        by_cases hlt : k < nt
        · obtain ⟨vC, m, q, xs, hCKr2, hLS, hcnt, hkept⟩ := hin
          have d1 : wr.cell? ⟨gl, k, none⟩ = some (.int .i32 (LV k)) := (hkept.cell (p := ⟨gl, k, none⟩) (by show gl < _; omega) (by show gl ≠ _; omega)).trans (hL1.cell (i32s_get LV hlt))
          have hli : (k : Int) < (nt : Int) := by omega
          obtain ⟨m', q', xs', hcase, hcase2, hm⟩ := cnt_case (xs := xs) hcnt (by omega)
          have hAdd := add21 w.heap.size W1.heap.size ((ck0.set 12 vA).set 9 vC) (-1) (-1) (LV k) false vC m q m' q' xs xs' wr.drew hCKr2 (by simp [ck0]) hCKlt hkept.size hLS hm hcase
          go_wp2_with fail
          go_still_tail 8, mixed
          go_wp2_with (go_at_call 21; refine hAdd.mono ?_; rintro e w' ⟨rfl, hadd⟩)
          have hin1 := Grows.added hkept.drew hcnt hcase2 hadd
          go_roundg (nt - (k + 1))
          case measure => have := hG.out; omega
          case rel => exact ⟨k + 1, by omega, rfl, by go_num, hin1⟩
        · have hkn : nt = k := by omega
          subst hkn
          clear hG hk
          rename World => W2
          obtain ⟨vT, m, q, xs, hCKr2, hLS, hcnt, hkept⟩ := hin
          have hB2 : Below w.heap.size w W2 := hB1.trans (hkept.below (by omega) (by omega))
          have hCKlt2 : w.heap.size < W2.heap.size := hCKr2.lt
          have hacq2 := acq_kept hacq hkept hCKr hCKr2
          clear hLS hcnt hkept hacq hL1 hCKr hCKlt hB1
          go_wp2
          clear hlt
          go_loopg [16] ne (fun g i wr => ∃ k : Nat, k ≤ ne ∧ g = ne - k ∧ i = .int .i64 k ∧ Grows W2 w.heap.size 63 ((ck0.set 12 vA).set 9 vT) 10 98 74 2 k wr)
          case atStart => exact ⟨0, by omega, rfl, rfl, Grows.start hCKr2 rfl⟩
          case round =>
            rename World => wr
            obtain ⟨k, hk, hgk, rfl, hin⟩ := hrel
            have hG : Hid (gk = ne - k) := hgk
            clear hgk
            by_cases hlt : k < ne
            · obtain ⟨vC, m, q, xs, hCKr3, hLS, hcnt, hkept⟩ := hin
              obtain ⟨m', q', xs', hcase, hcase2, hm⟩ := cnt_case (xs := xs) hcnt (by omega)
              have hAdd := add22 w.heap.size W2.heap.size (((ck0.set 12 vA).set 9 vT).set 10 vC) (-1) vC m q m' q' xs xs' wr hCKr3 (by simp [ck0]) hCKlt2 hkept.size hLS hm hcase
              go_wp2_with (go_at_call 22; refine hAdd.mono ?_; rintro e w' ⟨rfl, hadd⟩)
              have hin1 := Grows.added hkept hcnt hcase2 hadd
              go_roundg (ne - (k + 1))
              case measure => have := hG.out; omega
              case rel => exact ⟨k + 1, by omega, rfl, by go_num, hin1⟩
            · have hkn : ne = k := by omega
              subst hkn
              have hent := entR_of (by simp [ck0]) hne hin
              obtain ⟨vC, m, q, xs, hCKr3, hLS, hcnt, hkept⟩ := hin
              have hacq3 := acq_kept hacq2 hkept hCKr2 hCKr3
              have hB3 : Below w.heap.size w wr := hB2.trans (hkept.below (by omega) (by omega))
              go_wp2
              go_ret
              exact ⟨rfl, hacq3, hent, hB3⟩
end Go.Proofs.Qxb6613322a
