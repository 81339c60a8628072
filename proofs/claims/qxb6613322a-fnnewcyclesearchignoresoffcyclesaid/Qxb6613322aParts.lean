/-
  ZZcycleSearchParts BY A CONTRACT: the search's fields as plain slices.
-/
import Derived.Deep.DeepCutAuto
import Derived.RangeFuncBox
import Derived.Maps.AppendAt
import Derived.Test.Qxb6613322aNcsMath
namespace Go.Proofs.Qxb6613322a
open Go.RowKit
set_option linter.unusedVariables false
set_option linter.unusedSimpArgs false

/-- a slice of int32's that is read -/
def Rd (w : World) (v : Value) (len : Nat) (Z : Nat → Int) : Prop :=
  ∃ a cap, v = .slice a len cap ∧ ∀ k, k < len → ∃ b off, a = some ⟨b, off, none⟩ ∧ w.cell? ⟨b, off + k, none⟩ = some (.int .i32 (Z k))
theorem Rd.below {w w' : World} {v : Value} {len : Nat} {Z : Nat → Int} (h : Rd w v len Z) (hb : Below w.heap.size w w') : Rd w' v len Z := by
  obtain ⟨a, cap, e, hc⟩ := h
  refine ⟨a, cap, e, fun k hk => ?_⟩
  obtain ⟨b, off, e2, hc2⟩ := hc k hk
  exact ⟨b, off, e2, (hb.cell (p := ⟨b, off + k, none⟩) (block_lt_of_cell hc2)).trans hc2⟩
theorem Rd.of_row {w : World} {g len : Nat} {Z : Nat → Int} (h : Row w g 21 (i32s Z len)) : Rd w (.slice (some ⟨g, 0, none⟩) len len) len Z :=
  ⟨_, _, rfl, fun k hk => ⟨g, 0, rfl, by rw [Nat.zero_add]; exact h.cell (i32s_get Z hk)⟩⟩
theorem Rd.of_owns {w : World} {B len : Nat} {v : Value} {Z : Nat → Int} (h : w.ownsRow B 21 1 v len (i32s Z len)) : Rd w v len Z := by
  rcases h.2 with ⟨rfl, h0⟩ | ⟨g, cap, cur, rfl, hb, hh, hc, _⟩
  · subst h0; exact ⟨none, 0, rfl, fun k hk => absurd hk (by omega)⟩
  · refine ⟨_, _, rfl, fun k hk => ⟨g, 0, rfl, ?_⟩⟩
    rw [Nat.zero_add, h.cellAt k (by omega)]
    exact i32s_get Z hk
theorem Rd.congr {w : World} {v : Value} {len : Nat} {Z Z' : Nat → Int} (h : Rd w v len Z) (e : ∀ k, k < len → Z k = Z' k) : Rd w v len Z' := by
  obtain ⟨a, cap, e1, hc⟩ := h
  refine ⟨a, cap, e1, fun k hk => ?_⟩
  rw [← e k hk]; exact hc k hk

/-- WHAT ZZcycleSearchParts READS. -/
structure PIn (w : World) (SB m n nt ng gL gP gD gR gQ q gC gH : Nat) (f g h p d r e : Nat → Int) : Prop where
  c1 : w.cell? ⟨SB, 1, none⟩ = some (.slice (some ⟨gL, 0, none⟩) m m)
  c2 : w.cell? ⟨SB, 2, none⟩ = some (.slice (some ⟨gP, 0, none⟩) n n)
  c4 : w.cell? ⟨SB, 4, none⟩ = some (.slice (some ⟨gD, 0, none⟩) nt nt)
  c5 : w.cell? ⟨SB, 5, none⟩ = some (.slice (some ⟨gR, 0, none⟩) nt nt)
  c6 : w.cell? ⟨SB, 6, none⟩ = some (.slice (some ⟨gQ, 0, none⟩) 0 q)
  rL : Row w gL 82 (lcells f g h m)
  rP : Row w gP 21 (i32s p n)
  rD : Row w gD 21 (i32s d nt)
  rR : Row w gR 21 (i32s r nt)
  gr : GrpH w SB ng gC gH
  gc : ∀ j, j < ng → ∀ i, i < 4 → w.cell? ⟨gH, j * 4 + i, none⟩ = some (.int .i32 (e j))
theorem PIn.below {w w' : World} {SB m n nt ng gL gP gD gR gQ q gC gH : Nat} {f g h p d r e : Nat → Int} (hp : PIn w SB m n nt ng gL gP gD gR gQ q gC gH f g h p d r e) (hb : Below w.heap.size w w') : PIn w' SB m n nt ng gL gP gD gR gQ q gC gH f g h p d r e := by
  have hc : ∀ {a : Addr} {v : Value}, w.cell? a = some v → w'.cell? a = some v := fun {a v} h => (hb.cell (block_lt_of_cell h)).trans h
  refine ⟨hc hp.c1, hc hp.c2, hc hp.c4, hc hp.c5, hc hp.c6, hp.rL.below hb hp.rL.lt, hp.rP.below hb hp.rP.lt, hp.rD.below hb hp.rD.lt, hp.rR.below hb hp.rR.lt, ?_, fun j hj i hi => hc (hp.gc j hj i hi)⟩
  rcases hp.gr with ⟨h0, h1⟩ | ⟨h0, cC, cH, h1, h2⟩
  · exact .inl ⟨h0, hc h1⟩
  · exact .inr ⟨h0, cC, cH, hc h1, hc h2⟩

/-- WHAT ZZcycleSearchParts GIVES. -/
def POut (w : World) (m n nt ng : Nat) (f g h p d r e : Nat → Int) (en : Ending) (w' : World) : Prop :=
  ∃ v1 v2 v3 v4 v5 v6 v7 v8 v9 v10, en = .returned (.tuple #[.bool true, v1, v2, v3, v4, v5, v6, v7, v8, v9, v10, .int .i64 0]) ∧ Rd w' v1 m f ∧ Rd w' v2 m g ∧ Rd w' v3 m h ∧ Rd w' v4 n p ∧ Rd w' v5 ng e ∧ Rd w' v6 ng e ∧ Rd w' v7 ng e ∧ Rd w' v8 ng e ∧ Rd w' v9 nt d ∧ Rd w' v10 nt r ∧ Below w.heap.size w w'

def upto (f : Nat → Int) (j : Nat) : Nat → Int := fun k => if k < j then f k else 0
theorem upto_step (f : Nat → Int) (j k : Nat) : upto f (j + 1) k = if k = j then f j else upto f j k := by
  unfold upto
  by_cases e : k = j
  · subst e; simp
  · by_cases e2 : k < j
    · simp [e, e2, show k < j + 1 by omega]
    · simp [e, e2, show ¬ k < j + 1 by omega]
theorem upto_zero (f : Nat → Int) : upto f 0 = fun _ => 0 := by funext k; simp [upto]
theorem i32s_upto (f : Nat → Int) (m : Nat) : i32s (upto f m) m = i32s f m := by
  unfold i32s upto
  refine List.map_congr_left fun k hk => ?_
  simp [List.mem_range.1 hk]
theorem made_zero (w : World) (n : Nat) : Row (w.alloc (.cells (madeCells #[.int .i32 0] n) 21)) w.heap.size 21 (i32s (upto (fun _ => 0) 0) n) := by
  have h := Row.made w 21 (.int .i32 0) n
  rw [i32s_zero] at h
  rw [upto_zero]; exact h

theorem results13 (tmps : Array Value) (w : World) : (results Try.f13 tmps).run Try.prog w = .ok (.tuple #[tmps.getD 2 undef, tmps.getD 3 undef, tmps.getD 4 undef, tmps.getD 5 undef, tmps.getD 6 undef, tmps.getD 7 undef, tmps.getD 8 undef, tmps.getD 9 undef, tmps.getD 10 undef, tmps.getD 11 undef, tmps.getD 12 undef, tmps.getD 13 undef]) w := by
  simp [results, show Try.f13.results = #[.tmp 2, .tmp 3, .tmp 4, .tmp 5, .tmp 6, .tmp 7, .tmp 8, .tmp 9, .tmp 10, .tmp 11, .tmp 12, .tmp 13] from rfl]
theorem made_zero' (w : World) (n : Nat) : Row (w.alloc (.cells (madeCells #[.int .i32 0] n) 21)) w.heap.size 21 (i32s (fun _ => 0) n) := by
  have h := Row.made w 21 (.int .i32 0) n
  rw [i32s_zero] at h
  exact h
theorem src_cells {w : World} {g n : Nat} {Z : Nat → Int} (h : Row w g 21 (i32s Z n)) (o : Obj) : ∀ j u, (i32s Z n)[j]? = some u → (w.alloc o).cell? ((⟨g, 0, none⟩ : Addr).add j) = some u := by
  intro j u hj
  rw [Addr.add_lit, Nat.zero_add]
  exact (h.alloc o).cell hj

set_option maxRecDepth 100000 in
set_option maxHeartbeats 2000000 in
theorem parts13 (SB m n nt ng gL gP gD gR gQ q gC gH : Nat) (f g h p d r e : Nat → Int) (w : World) (hm : m ≤ 4096) (hn : n ≤ 4096) (hnt : nt ≤ 65536) (hng : ng ≤ 4096) (hp : PIn w SB m n nt ng gL gP gD gR gQ q gC gH f g h p d r e) :
    Calls Try.prog 13 #[.pointer (some ⟨SB, 0, none⟩)] w fun en w' => POut w m n nt ng f g h p d r e en w' := by
  obtain ⟨i0, hi, hz0, hz1, hz2⟩ := info_parts Try.info21
  have hmk1 := run_make_row' (P := Try.prog) 22 21 (.int .i32 0) 4 Try.underlying22 Try.info21 rfl .i64 .i64 m (by omega) (by omega)
  obtain ⟨w3, hw3⟩ : ∃ w3, w3 = ((w.alloc (.cells (madeCells #[.int .i32 0] m) 21)).alloc (.cells (madeCells #[.int .i32 0] m) 21)).alloc (.cells (madeCells #[.int .i32 0] m) 21) := ⟨_, rfl⟩
  have hb3 : Below w.heap.size w w3 := by
    rw [hw3]; exact (((Below.refl _ _).alloc (Nat.le_refl _) _).alloc (by simp) _).alloc (by simp; omega) _
  obtain ⟨B0, hB0⟩ : ∃ B0, B0 = w.heap.size := ⟨_, rfl⟩
  have r1 : Row w3 B0 21 (i32s (upto (fun _ => 0) 0) m) := by rw [hw3, hB0]; exact ((made_zero _ _).alloc _).alloc _
  have r2 : Row w3 (B0 + 1) 21 (i32s (upto (fun _ => 0) 0) m) := by
    rw [hw3, hB0]
    have h := (made_zero (w.alloc (.cells (madeCells #[.int .i32 0] m) 21)) m).alloc (.cells (madeCells #[.int .i32 0] m) 21)
    simpa using h
  have r3 : Row w3 (B0 + 1 + 1) 21 (i32s (upto (fun _ => 0) 0) m) := by
    rw [hw3, hB0]
    have h := made_zero ((w.alloc (.cells (madeCells #[.int .i32 0] m) 21)).alloc (.cells (madeCells #[.int .i32 0] m) 21)) m
    simpa using h
  have hc1 := hp.c1
  have hc1a : (w.alloc (.cells (madeCells #[.int .i32 0] m) 21)).cell? ⟨SB, 1, none⟩ = some (.slice (some ⟨gL, 0, none⟩) m m) := by rw [((Below.refl w.heap.size w).alloc (Nat.le_refl _) _).cell (p := ⟨SB, 1, none⟩) (block_lt_of_cell hc1)]; exact hc1
  have hc1b : ((w.alloc (.cells (madeCells #[.int .i32 0] m) 21)).alloc (.cells (madeCells #[.int .i32 0] m) 21)).cell? ⟨SB, 1, none⟩ = some (.slice (some ⟨gL, 0, none⟩) m m) := by rw [(((Below.refl w.heap.size w).alloc (Nat.le_refl _) _).alloc (by simp) _).cell (p := ⟨SB, 1, none⟩) (block_lt_of_cell hc1)]; exact hc1
  have hc1c : w3.cell? ⟨SB, 1, none⟩ = some (.slice (some ⟨gL, 0, none⟩) m m) := (hb3.cell (p := ⟨SB, 1, none⟩) (block_lt_of_cell hc1)).trans hc1
  rw [hw3] at hc1c
  go_enter Try.func13, Try.ntmps13
  go_wp2
  clear hc1 hc1a hc1b hc1c hmk1
  rw [← hw3, ← hB0]
  have hb3' : Below B0 w w3 := by rw [hB0]; exact hb3
  have hBw : Hid (B0 = w.heap.size) := hB0
  clear hw3 hB0 hb3
  have hSBw : SB < B0 := by rw [hBw.out]; exact block_lt_of_cell hp.c1
  have hLw : gL < B0 := by rw [hBw.out]; exact hp.rL.lt
  go_loopg [43, 14] m (fun gk i _ wr => ∃ j : Nat, j ≤ m ∧ gk = m - j ∧ i = .int .i64 (j : Int) ∧ Row wr B0 21 (i32s (upto f j) m) ∧ Row wr (B0 + 1) 21 (i32s (upto g j) m) ∧ Row wr (B0 + 1 + 1) 21 (i32s (upto h j) m) ∧ Below B0 w wr)
  case atStart =>
    rw [upto_zero] at r1 r2 r3
    exact ⟨0, by omega, rfl, rfl, by rw [upto_zero]; exact r1, by rw [upto_zero]; exact r2, by rw [upto_zero]; exact r3, hb3'⟩
  case round =>
    clear r1 r2 r3 hb3'
    obtain ⟨j, hj, hgk, rfl, r1, r2, r3, hbel⟩ := hrel
    have hG : Hid (gk = m - j) := hgk
    clear hgk
    by_cases hlt : j < m
    · obtain ⟨l0, l1, l2⟩ := lcells_get f g h m j hlt
      have L0 := hp.rL.cell l0
      have L1 := hp.rL.cell l1
      have L2 := hp.rL.cell l2
      have s1 := row_step (f' := upto f (j + 1)) r1 (upto_step f j)
      have r2a := r2.setOther (a := ⟨B0, j, none⟩) (by simp) (.int .i32 (f j))
      have r3a := r3.setOther (a := ⟨B0, j, none⟩) (by simp; omega) (.int .i32 (f j))
      have b1 := hbel.setCell (p := ⟨B0, j, none⟩) (Nat.le_refl _) (.int .i32 (f j))
      have s2 := row_step (f' := upto g (j + 1)) r2a (upto_step g j)
      have s1b := s1.setOther (a := ⟨B0 + 1, j, none⟩) (by simp) (.int .i32 (g j))
      have r3b := r3a.setOther (a := ⟨B0 + 1, j, none⟩) (by simp) (.int .i32 (g j))
      have b2 := b1.setCell (p := ⟨B0 + 1, j, none⟩) (by simp) (.int .i32 (g j))
      have s3 := row_step (f' := upto h (j + 1)) r3b (upto_step h j)
      have s1c := s1b.setOther (a := ⟨B0 + 1 + 1, j, none⟩) (by simp; omega) (.int .i32 (h j))
      have s2c := s2.setOther (a := ⟨B0 + 1 + 1, j, none⟩) (by simp) (.int .i32 (h j))
      have b3 := b2.setCell (p := ⟨B0 + 1 + 1, j, none⟩) (by simp; omega) (.int .i32 (h j))
      have x1 := (hbel.cell (p := ⟨SB, 1, none⟩) hSBw).trans hp.c1
      have x2 := (hbel.cell (p := ⟨gL, j * 3, none⟩) hLw).trans L0
      have x3 := r1.cell (i32s_get (upto f j) hlt)
      have x4 := r1.fz j
      have y1 := (b1.cell (p := ⟨SB, 1, none⟩) hSBw).trans hp.c1
      have y2 := (b1.cell (p := ⟨gL, j * 3 + 1, none⟩) hLw).trans L1
      have y3 := r2a.cell (i32s_get (upto g j) hlt)
      have y4 := r2a.fz j
      have z1 := (b2.cell (p := ⟨SB, 1, none⟩) hSBw).trans hp.c1
      have z2 := (b2.cell (p := ⟨gL, j * 3 + 2, none⟩) hLw).trans L2
      have z3 := r3b.cell (i32s_get (upto h j) hlt)
      have z4 := r3b.fz j
      have HR : Hid (Row (((wr.setCell ⟨B0, j, none⟩ (.int .i32 (f j))).setCell ⟨B0 + 1, j, none⟩ (.int .i32 (g j))).setCell ⟨B0 + 1 + 1, j, none⟩ (.int .i32 (h j))) B0 21 (i32s (upto f (j + 1)) m) ∧ Row (((wr.setCell ⟨B0, j, none⟩ (.int .i32 (f j))).setCell ⟨B0 + 1, j, none⟩ (.int .i32 (g j))).setCell ⟨B0 + 1 + 1, j, none⟩ (.int .i32 (h j))) (B0 + 1) 21 (i32s (upto g (j + 1)) m) ∧ Row (((wr.setCell ⟨B0, j, none⟩ (.int .i32 (f j))).setCell ⟨B0 + 1, j, none⟩ (.int .i32 (g j))).setCell ⟨B0 + 1 + 1, j, none⟩ (.int .i32 (h j))) (B0 + 1 + 1) 21 (i32s (upto h (j + 1)) m) ∧ Below B0 w (((wr.setCell ⟨B0, j, none⟩ (.int .i32 (f j))).setCell ⟨B0 + 1, j, none⟩ (.int .i32 (g j))).setCell ⟨B0 + 1 + 1, j, none⟩ (.int .i32 (h j)))) := ⟨s1c, s2c, s3, b3⟩
      clear l0 l1 l2 L0 L1 L2 s1 r2a r3a b1 s2 s1b r3b b2 s3 s1c s2c b3 r1 r2 r3
      go_wp2_with fail
      go_roundg (m - (j + 1))
      case measure => have := hG.out; omega
      case rel => exact ⟨j + 1, by omega, rfl, by go_num, HR.out.1, HR.out.2.1, HR.out.2.2.1, HR.out.2.2.2⟩
    · have hjm : m = j := by omega
      subst hjm
      rw [i32s_upto] at r1 r2 r3
      clear hlt hG hj
      have R1 := Rd.of_row r1
      have R2 := Rd.of_row r2
      have R3 := Rd.of_row r3
      clear r1 r2 r3
      rename World => W1
      have hp1 : PIn W1 SB m n nt ng gL gP gD gR gQ q gC gH f g h p d r e := hp.below (by rw [← hBw.out]; exact hbel)
      have hc2 : ∀ o, (W1.alloc o).cell? ⟨SB, 2, none⟩ = some (.slice (some ⟨gP, 0, none⟩) n n) := fun o => (((Below.refl W1.heap.size W1).alloc (Nat.le_refl _) o).cell (p := ⟨SB, 2, none⟩) (block_lt_of_cell hp1.c2)).trans hp1.c2
      have hrP := hp1.rP
      have hemp : (W1.alloc (.cells #[] 21)).ownsRow W1.heap.size 21 1 (.slice (some ⟨W1.heap.size, 0, none⟩) 0 0) 0 [] := World.ownsRow_made (base := W1.heap.size) (e := 21) (size := 1) W1 #[] 0 (Nat.le_refl _) (by unfold maxLen; omega) rfl
      have hsrc := src_cells hrP (.cells #[] 21)
      go_upto_region 14 with (at_builtin; refine wpList_append_own _ rfl (.tmp 80) (.tmp 84) 22 rfl W1.heap.size 21 i0 (.int .i32 0) 1 4 Try.underlying22 hi hz0 hz1 hz2 rfl (by decide) _ 0 [] rfl hemp ⟨gP, 0, none⟩ n n (i32s p n) rfl (by simp [i32s_length]) hsrc (i32s_one p n) (by unfold maxLen; omega) (by omega) (by simp) ?_; intro v4 w2 hown hgrow _)
      have hb2 : Below W1.heap.size W1 w2 := ((Below.refl _ W1).alloc (Nat.le_refl _) _).grown hgrow (by simp) (fun k e => by cases e; exact Nat.le_refl _)
      rw [Nat.zero_add, List.nil_append] at hown
      have R4 := Rd.of_owns hown
      have hp2 := hp1.below hb2
      have hbw2 : Below B0 w w2 := hbel.trans (hb2.mono (by rw [hBw.out]; exact Nat.le_trans (Nat.le_refl _) hbel.size))
      replace R1 := R1.below hb2
      replace R2 := R2.below hb2
      replace R3 := R3.below hb2
      clear hemp hsrc hown hgrow hc2 hrP hp1 hbel hb2
      have hlen := len23 SB ng gC gH w2 hng hp2.gr
      have hmk2 := run_make_row' (P := Try.prog) 22 21 (.int .i32 0) 4 Try.underlying22 Try.info21 rfl .i64 .i64 ng (by omega) (by omega)
      go_upto_region 15 with ((go_at_call 23; refine hlen.mono ?_; rintro ee w3 ⟨rfl, mq, hw⟩; have hb3 : Below w2.heap.size w2 w3 := (by rw [hw]; exact below_drewN (Below.refl _ _) mq); clear hw))
      have hp3 := hp2.below hb3
      have hbw3 : Below B0 w w3 := hbw2.trans (hb3.mono (by rw [hBw.out]; exact hbw2.size))
      replace R1 := R1.below hb3
      replace R2 := R2.below hb3
      replace R3 := R3.below hb3
      replace R4 := R4.below hb3
      clear hb3 hlen hp2 hbw2
      obtain ⟨w4, hw4⟩ : ∃ w4, w4 = (((w3.alloc (.cells (madeCells #[.int .i32 0] ng) 21)).alloc (.cells (madeCells #[.int .i32 0] ng) 21)).alloc (.cells (madeCells #[.int .i32 0] ng) 21)).alloc (.cells (madeCells #[.int .i32 0] ng) 21) := ⟨_, rfl⟩
      have hb4 : Below w3.heap.size w3 w4 := by
        rw [hw4]; exact ((((Below.refl _ _).alloc (Nat.le_refl _) _).alloc (by simp) _).alloc (by simp; omega) _).alloc (by simp; omega) _
      obtain ⟨B1, hB1⟩ : ∃ B1, B1 = w3.heap.size := ⟨_, rfl⟩
      have q1 : Row w4 B1 21 (i32s (fun _ => 0) ng) := by rw [hw4, hB1]; exact (((made_zero' _ _).alloc _).alloc _).alloc _
      have q2 : Row w4 (B1 + 1) 21 (i32s (fun _ => 0) ng) := by
        rw [hw4, hB1]
        have h := ((made_zero' (w3.alloc (.cells (madeCells #[.int .i32 0] ng) 21)) ng).alloc (.cells (madeCells #[.int .i32 0] ng) 21)).alloc (.cells (madeCells #[.int .i32 0] ng) 21)
        simpa using h
      have q3 : Row w4 (B1 + 1 + 1) 21 (i32s (fun _ => 0) ng) := by
        rw [hw4, hB1]
        have h := (made_zero' ((w3.alloc (.cells (madeCells #[.int .i32 0] ng) 21)).alloc (.cells (madeCells #[.int .i32 0] ng) 21)) ng).alloc (.cells (madeCells #[.int .i32 0] ng) 21)
        simpa using h
      have q4 : Row w4 (B1 + 1 + 1 + 1) 21 (i32s (fun _ => 0) ng) := by
        rw [hw4, hB1]
        have h := made_zero' (((w3.alloc (.cells (madeCells #[.int .i32 0] ng) 21)).alloc (.cells (madeCells #[.int .i32 0] ng) 21)).alloc (.cells (madeCells #[.int .i32 0] ng) 21)) ng
        simpa using h
      go_wp2_with fail
      rw [← hw4, ← hB1]
      have HB1 : Hid (B1 = w3.heap.size) := hB1
      clear hw4 hB1 hmk2
      go_loopg [16, 17] ng (fun gk i _ wr => ∃ j : Nat, j ≤ ng ∧ gk = ng - j ∧ i = .int .i64 (j : Int) ∧ Row wr B1 21 (i32s (upto e j) ng) ∧ Row wr (B1 + 1) 21 (i32s (upto e j) ng) ∧ Row wr (B1 + 1 + 1) 21 (i32s (upto e j) ng) ∧ Row wr (B1 + 1 + 1 + 1) 21 (i32s (upto e j) ng) ∧ Below w3.heap.size w3 wr)
      case atStart =>
        exact ⟨0, by omega, rfl, rfl, by rw [upto_zero]; exact q1, by rw [upto_zero]; exact q2, by rw [upto_zero]; exact q3, by rw [upto_zero]; exact q4, hb4⟩
      case round =>
        clear q1 q2 q3 q4 hb4
        rename World => wr
        obtain ⟨j, hj, hgk, rfl, q1, q2, q3, q4, hbr⟩ := hrel
        have hG : Hid (gk = ng - j) := hgk
        clear hgk
        by_cases hlt : j < ng
        · have hpr := hp3.below hbr
          have hat := at24 SB ng gC gH j wr hng hpr.gr hlt
          have g0 := hp3.gc j hlt 0 (by omega)
          have g1 := hp3.gc j hlt 1 (by omega)
          have g2 := hp3.gc j hlt 2 (by omega)
          have g3 := hp3.gc j hlt 3 (by omega)
          rw [Nat.add_zero] at g0
          have hgl : gH < w3.heap.size := block_lt_of_cell g0
          have hB1 : w3.heap.size = B1 := HB1.out.symm
          rw [hB1] at hbr hgl
          have hbr0 := hbr
          have x2 := (hbr0.cell (p := ⟨gH, j * 4, none⟩) hgl).trans g0
          have x3 := q1.cell (i32s_get (upto e j) hlt)
          have x4 := q1.fz j
          have s00 := row_step (f' := upto e (j + 1)) q1 (upto_step e j)
          have s01 := q2.setOther (a := ⟨B1, j, none⟩) (by simp <;> omega) (.int .i32 (e j))
          have s02 := q3.setOther (a := ⟨B1, j, none⟩) (by simp <;> omega) (.int .i32 (e j))
          have s03 := q4.setOther (a := ⟨B1, j, none⟩) (by simp <;> omega) (.int .i32 (e j))
          have bb0 := hbr0.setCell (p := ⟨B1, j, none⟩) (by simp <;> omega) (.int .i32 (e j))
          have y02 := (bb0.cell (p := ⟨gH, j * 4 + 1, none⟩) hgl).trans g1
          have y03 := s01.cell (i32s_get (upto e j) hlt)
          have y04 := s01.fz j
          have s10 := s00.setOther (a := ⟨B1 + 1, j, none⟩) (by simp <;> omega) (.int .i32 (e j))
          have s11 := row_step (f' := upto e (j + 1)) s01 (upto_step e j)
          have s12 := s02.setOther (a := ⟨B1 + 1, j, none⟩) (by simp <;> omega) (.int .i32 (e j))
          have s13 := s03.setOther (a := ⟨B1 + 1, j, none⟩) (by simp <;> omega) (.int .i32 (e j))
          have bb1 := bb0.setCell (p := ⟨B1 + 1, j, none⟩) (by simp <;> omega) (.int .i32 (e j))
          have y12 := (bb1.cell (p := ⟨gH, j * 4 + 2, none⟩) hgl).trans g2
          have y13 := s12.cell (i32s_get (upto e j) hlt)
          have y14 := s12.fz j
          have s20 := s10.setOther (a := ⟨B1 + 1 + 1, j, none⟩) (by simp <;> omega) (.int .i32 (e j))
          have s21 := s11.setOther (a := ⟨B1 + 1 + 1, j, none⟩) (by simp <;> omega) (.int .i32 (e j))
          have s22 := row_step (f' := upto e (j + 1)) s12 (upto_step e j)
          have s23 := s13.setOther (a := ⟨B1 + 1 + 1, j, none⟩) (by simp <;> omega) (.int .i32 (e j))
          have bb2 := bb1.setCell (p := ⟨B1 + 1 + 1, j, none⟩) (by simp <;> omega) (.int .i32 (e j))
          have y22 := (bb2.cell (p := ⟨gH, j * 4 + 3, none⟩) hgl).trans g3
          have y23 := s23.cell (i32s_get (upto e j) hlt)
          have y24 := s23.fz j
          have s30 := s20.setOther (a := ⟨B1 + 1 + 1 + 1, j, none⟩) (by simp <;> omega) (.int .i32 (e j))
          have s31 := s21.setOther (a := ⟨B1 + 1 + 1 + 1, j, none⟩) (by simp <;> omega) (.int .i32 (e j))
          have s32 := s22.setOther (a := ⟨B1 + 1 + 1 + 1, j, none⟩) (by simp <;> omega) (.int .i32 (e j))
          have s33 := row_step (f' := upto e (j + 1)) s23 (upto_step e j)
          have bb3 := bb2.setCell (p := ⟨B1 + 1 + 1 + 1, j, none⟩) (by simp <;> omega) (.int .i32 (e j))
          have HR : Hid (Row ((((wr.setCell ⟨B1, j, none⟩ (.int .i32 (e j))).setCell ⟨B1 + 1, j, none⟩ (.int .i32 (e j))).setCell ⟨B1 + 1 + 1, j, none⟩ (.int .i32 (e j))).setCell ⟨B1 + 1 + 1 + 1, j, none⟩ (.int .i32 (e j))) B1 21 (i32s (upto e (j + 1)) ng) ∧ Row ((((wr.setCell ⟨B1, j, none⟩ (.int .i32 (e j))).setCell ⟨B1 + 1, j, none⟩ (.int .i32 (e j))).setCell ⟨B1 + 1 + 1, j, none⟩ (.int .i32 (e j))).setCell ⟨B1 + 1 + 1 + 1, j, none⟩ (.int .i32 (e j))) (B1 + 1) 21 (i32s (upto e (j + 1)) ng) ∧ Row ((((wr.setCell ⟨B1, j, none⟩ (.int .i32 (e j))).setCell ⟨B1 + 1, j, none⟩ (.int .i32 (e j))).setCell ⟨B1 + 1 + 1, j, none⟩ (.int .i32 (e j))).setCell ⟨B1 + 1 + 1 + 1, j, none⟩ (.int .i32 (e j))) (B1 + 1 + 1) 21 (i32s (upto e (j + 1)) ng) ∧ Row ((((wr.setCell ⟨B1, j, none⟩ (.int .i32 (e j))).setCell ⟨B1 + 1, j, none⟩ (.int .i32 (e j))).setCell ⟨B1 + 1 + 1, j, none⟩ (.int .i32 (e j))).setCell ⟨B1 + 1 + 1 + 1, j, none⟩ (.int .i32 (e j))) (B1 + 1 + 1 + 1) 21 (i32s (upto e (j + 1)) ng) ∧ Below w3.heap.size w3 ((((wr.setCell ⟨B1, j, none⟩ (.int .i32 (e j))).setCell ⟨B1 + 1, j, none⟩ (.int .i32 (e j))).setCell ⟨B1 + 1 + 1, j, none⟩ (.int .i32 (e j))).setCell ⟨B1 + 1 + 1 + 1, j, none⟩ (.int .i32 (e j)))) := ⟨s30, s31, s32, s33, by rw [hB1]; exact bb3⟩
          clear g0 g1 g2 g3 s00 s01 s02 s03 s10 s11 s12 s13 s20 s21 s22 s23 s30 s31 s32 s33 bb0 bb1 bb2 bb3 q1 q2 q3 q4 hbr hbr0 hpr hB1
          go_wp2_with ((go_at_call 24; refine hat.mono ?_; rintro ee w' ⟨rfl, hw⟩; rw [hw]; clear hw))
          go_roundg (ng - (j + 1))
          case measure => have := hG.out; omega
          case rel => exact ⟨j + 1, by omega, rfl, by go_num, HR.out.1, HR.out.2.1, HR.out.2.2.1, HR.out.2.2.2.1, HR.out.2.2.2.2⟩
        · have hjm : ng = j := by omega
          subst hjm
          rw [i32s_upto] at q1 q2 q3 q4
          clear hlt hG hj
          have R5 := Rd.of_row q1
          have R6 := Rd.of_row q2
          have R7 := Rd.of_row q3
          have R8 := Rd.of_row q4
          clear q1 q2 q3 q4
          rename World => W5
          have hp5 := hp3.below hbr
          have hbw5 : Below B0 w W5 := hbw3.trans (hbr.mono (by rw [hBw.out]; exact hbw3.size))
          replace R1 := R1.below hbr
          replace R2 := R2.below hbr
          replace R3 := R3.below hbr
          replace R4 := R4.below hbr
          have hc4 : ∀ o, (W5.alloc o).cell? ⟨SB, 4, none⟩ = some (.slice (some ⟨gD, 0, none⟩) nt nt) := fun o => (((Below.refl W5.heap.size W5).alloc (Nat.le_refl _) o).cell (p := ⟨SB, 4, none⟩) (block_lt_of_cell hp5.c4)).trans hp5.c4
          have hemp : (W5.alloc (.cells #[] 21)).ownsRow W5.heap.size 21 1 (.slice (some ⟨W5.heap.size, 0, none⟩) 0 0) 0 [] := World.ownsRow_made (base := W5.heap.size) (e := 21) (size := 1) W5 #[] 0 (Nat.le_refl _) (by unfold maxLen; omega) rfl
          have hsrc := src_cells hp5.rD (.cells #[] 21)
          clear hbr hp3 hbw3
          go_upto_region 28 with (at_builtin; refine wpList_append_own _ rfl (.tmp 140) (.tmp 144) 22 rfl W5.heap.size 21 i0 (.int .i32 0) 1 4 Try.underlying22 hi hz0 hz1 hz2 rfl (by decide) _ 0 [] rfl hemp ⟨gD, 0, none⟩ nt nt (i32s d nt) rfl (by simp [i32s_length]) hsrc (i32s_one d nt) (by unfold maxLen; omega) (by omega) (by simp) ?_; intro v9 W6 hown hgrow _)
          have hb6 : Below W5.heap.size W5 W6 := ((Below.refl _ W5).alloc (Nat.le_refl _) _).grown hgrow (by simp) (fun k e => by cases e; exact Nat.le_refl _)
          rw [Nat.zero_add, List.nil_append] at hown
          have R9 := Rd.of_owns hown
          have hp6 := hp5.below hb6
          have hbw6 : Below B0 w W6 := hbw5.trans (hb6.mono (by rw [hBw.out]; exact hbw5.size))
          replace R1 := R1.below hb6
          replace R2 := R2.below hb6
          replace R3 := R3.below hb6
          replace R4 := R4.below hb6
          replace R5 := R5.below hb6
          replace R6 := R6.below hb6
          replace R7 := R7.below hb6
          replace R8 := R8.below hb6
          clear hc4 hemp hsrc hown hgrow hb6 hp5 hbw5
          have hc5 : ∀ o, (W6.alloc o).cell? ⟨SB, 5, none⟩ = some (.slice (some ⟨gR, 0, none⟩) nt nt) := fun o => (((Below.refl W6.heap.size W6).alloc (Nat.le_refl _) o).cell (p := ⟨SB, 5, none⟩) (block_lt_of_cell hp6.c5)).trans hp6.c5
          have hemp : (W6.alloc (.cells #[] 21)).ownsRow W6.heap.size 21 1 (.slice (some ⟨W6.heap.size, 0, none⟩) 0 0) 0 [] := World.ownsRow_made (base := W6.heap.size) (e := 21) (size := 1) W6 #[] 0 (Nat.le_refl _) (by unfold maxLen; omega) rfl
          have hsrc := src_cells hp6.rR (.cells #[] 21)
          go_upto_region 29 with (at_builtin; refine wpList_append_own _ rfl (.tmp 146) (.tmp 150) 22 rfl W6.heap.size 21 i0 (.int .i32 0) 1 4 Try.underlying22 hi hz0 hz1 hz2 rfl (by decide) _ 0 [] rfl hemp ⟨gR, 0, none⟩ nt nt (i32s r nt) rfl (by simp [i32s_length]) hsrc (i32s_one r nt) (by unfold maxLen; omega) (by omega) (by simp) ?_; intro v10 W7 hown hgrow _)
          have hb7 : Below W6.heap.size W6 W7 := ((Below.refl _ W6).alloc (Nat.le_refl _) _).grown hgrow (by simp) (fun k e => by cases e; exact Nat.le_refl _)
          rw [Nat.zero_add, List.nil_append] at hown
          have R10 := Rd.of_owns hown
          have hp7 := hp6.below hb7
          have hbw7 : Below w.heap.size w W7 := by
            have := hbw6.trans (hb7.mono (by rw [hBw.out]; exact hbw6.size))
            rw [hBw.out] at this
            exact this
          replace R1 := R1.below hb7
          replace R2 := R2.below hb7
          replace R3 := R3.below hb7
          replace R4 := R4.below hb7
          replace R5 := R5.below hb7
          replace R6 := R6.below hb7
          replace R7 := R7.below hb7
          replace R8 := R8.below hb7
          replace R9 := R9.below hb7
          have hc6 := hp7.c6
          clear hc5 hemp hsrc hown hgrow hb7 hp6 hbw6 hp7
          go_wp2_with fail
          refine bodyPost_ret (results13 _ _) rfl ?_
          exact ⟨_, _, _, _, _, _, _, _, _, _, rfl, R1, R2, R3, R4, R5, R6, R7, R8, R9, R10, hbw7⟩
end Go.Proofs.Qxb6613322a
