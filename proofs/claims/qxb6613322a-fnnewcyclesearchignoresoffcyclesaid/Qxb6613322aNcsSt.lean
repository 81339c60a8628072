/-
  newCycleSearch's THIRD LOOP: what its rounds keep in memory. No walk here.
-/
import Derived.Test.Qxb6613322aNcsA
namespace Go.Proofs.Qxb6613322a
open Go.RowKit
set_option linter.unusedVariables false

/-- Below B all blocks but three are as they were. -/
structure Kept3 (B b1 b2 b3 : Nat) (w w' : World) : Prop where
  os : w'.os = w.os
  tape : w'.tape = w.tape
  output : w'.output = w.output
  size : w.heap.size ≤ w'.heap.size
  block : ∀ b, b < B → b ≠ b1 → b ≠ b2 → b ≠ b3 → w'.heap[b]? = w.heap[b]?
theorem Kept3.refl (B b1 b2 b3 : Nat) (w : World) : Kept3 B b1 b2 b3 w w := ⟨rfl, rfl, rfl, Nat.le_refl _, fun _ _ _ _ _ => rfl⟩
theorem Kept3.trans {B b1 b2 b3 : Nat} {a b c : World} (h : Kept3 B b1 b2 b3 a b) (k : Kept3 B b1 b2 b3 b c) : Kept3 B b1 b2 b3 a c :=
  ⟨k.os.trans h.os, k.tape.trans h.tape, k.output.trans h.output, Nat.le_trans h.size k.size, fun x h1 h2 h3 h4 => (k.block x h1 h2 h3 h4).trans (h.block x h1 h2 h3 h4)⟩
theorem Kept3.of_kept {B b1 b2 b3 : Nat} {a b : World} (h : Kept B b1 a b) : Kept3 B b1 b2 b3 a b := ⟨h.os, h.tape, h.output, h.size, fun x h1 h2 _ _ => h.block x h1 h2⟩
theorem Kept3.alloc {B b1 b2 b3 : Nat} {a w : World} (h : Kept3 B b1 b2 b3 a w) (hB : B ≤ w.heap.size) (o : Obj) : Kept3 B b1 b2 b3 a (w.alloc o) := h.trans (Kept3.of_kept ((Kept.refl B b1 w).alloc hB o))
theorem Kept3.setCell {B b1 b2 b3 : Nat} {a w : World} (h : Kept3 B b1 b2 b3 a w) {p : Addr} (hp : B ≤ p.block ∨ p.block = b1 ∨ p.block = b2 ∨ p.block = b3) (u : Value) : Kept3 B b1 b2 b3 a (w.setCell p u) :=
  h.trans ⟨rfl, rfl, rfl, by simp, fun x h1 h2 h3 h4 => Below.heap_setCell _ _ _ x (by rcases hp with hp | hp | hp | hp <;> omega)⟩
theorem Kept3.drewN {B b1 b2 b3 : Nat} {a w : World} (h : Kept3 B b1 b2 b3 a w) (n : Nat) : Kept3 B b1 b2 b3 a (w.drewN n) := ⟨h.os, h.tape, h.output, h.size, h.block⟩
theorem Kept3.cell {B b1 b2 b3 : Nat} {a w : World} (h : Kept3 B b1 b2 b3 a w) {p : Addr} (hp : p.block < B) (h1 : p.block ≠ b1) (h2 : p.block ≠ b2) (h3 : p.block ≠ b3) : w.cell? p = a.cell? p := World.cell?_of_block (w := a) (h.block p.block hp h1 h2 h3)
theorem Kept3.row {B b1 b2 b3 g : Nat} {a w : World} {t : TypeId} {L : List Value} (h : Kept3 B b1 b2 b3 a w) (hr : Row a g t L) (hg : g < B) (h1 : g ≠ b1) (h2 : g ≠ b2) (h3 : g ≠ b3) : Row w g t L := by
  unfold Row; rw [h.block g hg h1 h2 h3]; exact hr
theorem Kept3.below {B B' b1 b2 b3 : Nat} {a b : World} (h : Kept3 B b1 b2 b3 a b) (hB : B' ≤ B) (h1 : B' ≤ b1) (h2 : B' ≤ b2) (h3 : B' ≤ b3) : Below B' a b := ⟨h.os, h.tape, h.output, h.size, fun x hx => h.block x (by omega) (by omega) (by omega) (by omega)⟩

/-- BETWEEN TWO ROUNDS: W0 the world when the loop began, cur the search's cells then. -/
structure LS (W0 : World) (SB gL gP m n : Nat) (cur : List Value) (es : List Nat) (f g p : Nat → Int) (wr : World) : Prop where
  list : ∃ vC mm, Row wr SB 80 (cur.set 3 vC) ∧ LSt wr W0.heap.size 101 87 4 vC mm es.length (grpCells es) ∧ ((mm = 0 ∧ es.length = 0) ∨ (mm = 1 ∧ 0 < es.length))
  rL : Row wr gL 82 (lcells f g (fun _ => 0) m)
  rP : Row wr gP 21 (i32s p n)
  kept : Kept3 W0.heap.size SB gL gP W0 wr

section
variable {W0 : World} {SB gL gP m n : Nat} {cur : List Value} {es : List Nat} {f g p : Nat → Int} {wr w' : World}

theorem LS.drewN (h : LS W0 SB gL gP m n cur es f g p wr) (k : Nat) : LS W0 SB gL gP m n cur es f g p (wr.drewN k) := ⟨h.list, h.rL, h.rP, h.kept.drewN k⟩
theorem LSt.alloc' {w : World} {B : Nat} {S1 EL : TypeId} {sz : Nat} {vC : Value} {m q : Nat} {xs : List Value} (h : LSt w B S1 EL sz vC m q xs) (o : Obj) : LSt (w.alloc o) B S1 EL sz vC m q xs := by
  rcases h with h | ⟨h1, chs, vL, a, b, c⟩
  · exact .inl h
  · exact .inr ⟨h1, chs, vL, a.alloc o, b, c.alloc o⟩
theorem LS.alloc (h : LS W0 SB gL gP m n cur es f g p wr) (o : Obj) : LS W0 SB gL gP m n cur es f g p (wr.alloc o) := by
  obtain ⟨⟨vC, mm, a, b, c⟩, rL, rP, k⟩ := h
  exact ⟨⟨vC, mm, a.alloc o, b.alloc' o, c⟩, rL.alloc o, rP.alloc o, k.alloc k.size o⟩
theorem LS.added (h : LS W0 SB gL gP m n cur es f g p wr) {vC : Value} (hL : gL < W0.heap.size) (hP : gP < W0.heap.size) (hLS : gL ≠ SB) (hPS : gP ≠ SB)
    (ha : Added wr W0.heap.size SB 80 (cur.set 3 vC) 3 101 87 4 (0 + 1) (es.length + 1) (grpCells es ++ [.int .i32 0, .int .i32 0, .int .i32 0, .int .i32 0]) w') : LS W0 SB gL gP m n cur (es ++ [0]) f g p w' := by
  obtain ⟨vC', hr, hl, hk⟩ := ha
  refine ⟨⟨vC', 1, by rw [List.set_set] at hr; exact hr, ?_, .inr ⟨rfl, by simp⟩⟩, hk.row h.rL hL hLS, hk.row h.rP hP hPS, h.kept.trans (Kept3.of_kept hk)⟩
  rw [grpCells_append, List.length_append]
  exact hl

/-- THE LAST GROUP IS WRITTEN. -/
theorem LS.groups (h : LS W0 SB gL gP m n cur es f g p wr) (hc : 3 < cur.length) (hS : SB < W0.heap.size) (hL : gL < W0.heap.size) (hP : gP < W0.heap.size) (he : 0 < es.length) : ∃ gC gH, GrpH wr SB es.length gC gH ∧ gH < wr.heap.size ∧
    (∀ j (hj : j < es.length), ∀ i, i < 4 → wr.cell? ⟨gH, j * 4 + i, none⟩ = some (.int .i32 (es[j] : Int))) ∧ (∀ j, wr.frozen? ⟨gH, j, none⟩ = false) ∧
    ∀ k j v, j < es.length → LS W0 SB gL gP m n cur (es.set j v) f g p (((((wr.drewN k).setCell ⟨gH, j * 4, none⟩ (.int .i32 (v : Int))).setCell ⟨gH, j * 4 + 1, none⟩ (.int .i32 (v : Int))).setCell ⟨gH, j * 4 + 2, none⟩ (.int .i32 (v : Int))).setCell ⟨gH, j * 4 + 3, none⟩ (.int .i32 (v : Int))) := by
  obtain ⟨⟨vC, mm, a, b, c⟩, rL, rP, kp⟩ := h
  obtain ⟨rfl, _⟩ : mm = 1 ∧ 0 < es.length := by omega
  rcases b with ⟨h0, _⟩ | ⟨_, chs, vL, hch, hlast, hlr⟩
  · omega
  obtain ⟨gC, cC, rfl, hgB, hgl, _⟩ := ownsRow_shape hch (by omega)
  obtain ⟨gH, cH, rfl, hhB, hhl, _⟩ := ownsRow_shape hlr he
  have hne : gC ≠ gH := by
    rcases ownsRow_apart hch hlr (by decide) with h | h
    · simp [Value.ownBlock] at h
    · simpa [Value.ownBlock] using h
  refine ⟨gC, gH, .inr ⟨he, cC, cH, a.cell (by rw [List.getElem?_set_self hc]), by rw [hch.cellAt 0 (by omega)]; exact hlast⟩, hhl, ?_, fun j => hlr.frozenAt j, ?_⟩
  · intro j hj i hi
    rw [hlr.cellAt _ (by omega)]
    exact grpCells_get es j i hj hi
  · intro k j v hj
    have hch' : (wr.drewN k).ownsRow W0.heap.size 101 1 (.slice (some ⟨gC, 0, none⟩) 1 cC) 1 chs := hch
    have hlr' : (wr.drewN k).ownsRow W0.heap.size 87 4 (.slice (some ⟨gH, 0, none⟩) es.length cH) es.length (grpCells es) := hlr
    have o4 := (((((hlr'.stored (j * 4) (.int .i32 (v : Int))).1.stored (j * 4 + 1) (.int .i32 (v : Int))).1.stored (j * 4 + 2) (.int .i32 (v : Int))).1.stored (j * 4 + 3) (.int .i32 (v : Int)))).1
    rw [grpCells_set es j v hj] at o4
    have hsH : SB ≠ gH := by omega
    have hlH : gL ≠ gH := by omega
    have hpH : gP ≠ gH := by omega
    refine ⟨⟨_, 1, ((((a.drewN k).setOther (a := ⟨gH, j * 4, none⟩) hsH _).setOther (a := ⟨gH, j * 4 + 1, none⟩) hsH _).setOther (a := ⟨gH, j * 4 + 2, none⟩) hsH _).setOther (a := ⟨gH, j * 4 + 3, none⟩) hsH _, .inr ⟨by omega, chs, .slice (some ⟨gH, 0, none⟩) es.length cH, ?_, hlast, ?_⟩, .inr ⟨rfl, by simpa using he⟩⟩, ?_, ?_, ?_⟩
    · have hb : ∀ {i : Nat}, (Value.slice (some ⟨gC, 0, none⟩) 1 cC).ownBlock ≠ some (⟨gH, i, none⟩ : Addr).block := by intro i; simpa [Value.ownBlock] using hne
      exact ownsRow_setCell_other (ownsRow_setCell_other (ownsRow_setCell_other (ownsRow_setCell_other hch' hb _) hb _) hb _) hb _
    · rw [List.length_set]; exact o4
    · exact ((((rL.drewN k).setOther (a := ⟨gH, j * 4, none⟩) hlH _).setOther (a := ⟨gH, j * 4 + 1, none⟩) hlH _).setOther (a := ⟨gH, j * 4 + 2, none⟩) hlH _).setOther (a := ⟨gH, j * 4 + 3, none⟩) hlH _
    · exact ((((rP.drewN k).setOther (a := ⟨gH, j * 4, none⟩) hpH _).setOther (a := ⟨gH, j * 4 + 1, none⟩) hpH _).setOther (a := ⟨gH, j * 4 + 2, none⟩) hpH _).setOther (a := ⟨gH, j * 4 + 3, none⟩) hpH _
    · exact ((((kp.drewN k).setCell (p := ⟨gH, j * 4, none⟩) (.inl hhB) _).setCell (p := ⟨gH, j * 4 + 1, none⟩) (.inl hhB) _).setCell (p := ⟨gH, j * 4 + 2, none⟩) (.inl hhB) _).setCell (p := ⟨gH, j * 4 + 3, none⟩) (.inl hhB) _

theorem LSt.setOut {w : World} {B : Nat} {S1 EL : TypeId} {sz : Nat} {vC : Value} {m q : Nat} {xs : List Value} (h : LSt w B S1 EL sz vC m q xs) {a : Addr} (ha : a.block < B) (u : Value) : LSt (w.setCell a u) B S1 EL sz vC m q xs := by
  rcases h with h | ⟨h1, chs, vL, a, b, c⟩
  · exact .inl h
  · exact .inr ⟨h1, chs, vL, ownsRow_setCell_below a ha u, b, ownsRow_setCell_below c ha u⟩
/-- A LISTING IS WRITTEN. -/
theorem LS.listing (h : LS W0 SB gL gP m n cur es f g p wr) (hL : gL < W0.heap.size) (hLS : gL ≠ SB) (hLP : gL ≠ gP) (k i : Nat) (hi : i < m) (a b : Int) :
    LS W0 SB gL gP m n cur es (upd f i a) (upd g i b) p ((((wr.drewN k).setCell ⟨gL, i * 3, none⟩ (.int .i32 a)).setCell ⟨gL, i * 3 + 1, none⟩ (.int .i32 b)).setCell ⟨gL, i * 3 + 2, none⟩ (.int .i32 0)) := by
  obtain ⟨⟨vC, mm, r, l, c⟩, rL, rP, kp⟩ := h
  have l' : LSt (wr.drewN k) W0.heap.size 101 87 4 vC mm es.length (grpCells es) := l
  refine ⟨⟨vC, mm, (((r.drewN k).setOther (a := ⟨gL, i * 3, none⟩) hLS.symm _).setOther (a := ⟨gL, i * 3 + 1, none⟩) hLS.symm _).setOther (a := ⟨gL, i * 3 + 2, none⟩) hLS.symm _, ((l'.setOut (a := ⟨gL, i * 3, none⟩) hL _).setOut (a := ⟨gL, i * 3 + 1, none⟩) hL _).setOut (a := ⟨gL, i * 3 + 2, none⟩) hL _, c⟩, ?_, ?_, ?_⟩
  · have h := (((rL.drewN k).set (i * 3) (.int .i32 a)).set (i * 3 + 1) (.int .i32 b)).set (i * 3 + 2) (.int .i32 0)
    rw [lcells_set0 _ _ _ _ _ _ hi, lcells_set1 _ _ _ _ _ _ hi, lcells_set2 _ _ _ _ _ _ hi] at h
    rw [show upd (fun _ => (0 : Int)) i 0 = fun _ => 0 from by funext j; simp [upd]] at h
    exact h
  · exact (((rP.drewN k).setOther (a := ⟨gL, i * 3, none⟩) hLP.symm _).setOther (a := ⟨gL, i * 3 + 1, none⟩) hLP.symm _).setOther (a := ⟨gL, i * 3 + 2, none⟩) hLP.symm _
  · exact (((kp.drewN k).setCell (p := ⟨gL, i * 3, none⟩) (.inr (.inr (.inl rfl))) _).setCell (p := ⟨gL, i * 3 + 1, none⟩) (.inr (.inr (.inl rfl))) _).setCell (p := ⟨gL, i * 3 + 2, none⟩) (.inr (.inr (.inl rfl))) _
/-- A PLACE IS WRITTEN. -/
theorem LS.placed (h : LS W0 SB gL gP m n cur es f g p wr) (hP : gP < W0.heap.size) (hPS : gP ≠ SB) (hLP : gL ≠ gP) (i : Nat) (a : Int) :
    LS W0 SB gL gP m n cur es f g (upd p i a) (wr.setCell ⟨gP, i, none⟩ (.int .i32 a)) := by
  obtain ⟨⟨vC, mm, r, l, c⟩, rL, rP, kp⟩ := h
  refine ⟨⟨vC, mm, r.setOther (a := ⟨gP, i, none⟩) hPS.symm _, l.setOut (a := ⟨gP, i, none⟩) hP _, c⟩, rL.setOther (a := ⟨gP, i, none⟩) hLP _, ?_, kp.setCell (p := ⟨gP, i, none⟩) (.inr (.inr (.inr rfl))) _⟩
  exact row_step rP (fun k => rfl)
end
end Go.Proofs.Qxb6613322a
