/-
  A chunkList IN MEMORY: an owner's cell holds the slice of chunks; its last chunk is a row of elements; all rows lie at or beyond block B. What lies below B, but for the owner's block, is kept.
-/
import Derived.Test.Qxb6613322aRowLib
import Derived.Deep.RegionLaw
import Derived.Deep.CutBlock
import Derived.RangeFuncBox
namespace Go.Proofs.Qxb6613322a
open Go.RowKit
set_option linter.unusedVariables false

/-- append ONTO A SLICE OF THE CALL's OWN, as one step of a region that draws. -/
theorem step_append_own {P : Program} {w : World} {ops : Array Oper} {o : Oper} {a : Act} {K : Act → World → Prop} {Q : Exit → Act → World → Prop} {E : Prop} (hgd : o.guard = none) (s x : Operand) (t : TypeId)
    (ho : o.op = .call { callee := .builtin .append, args := #[s, x], argTypes := #[t, t] })
    (base : Nat) (e : TypeId) (i : TypeInfo) (z : Value) (size bytes : Nat) (ht : P.underlying t = some (.slice e)) (hi : P.info? e = some i) (hz : i.zero = some z)
    (hsize : i.size = size) (hby : i.bytes = bytes) (hzs : z.cells.size = size) (hsz : 0 < size)
    (v : Value) (n : Nat) (xs : List Value) (hs : a.eval s = v) (hown : w.ownsRow base e size v n xs)
    (ad : Addr) (m c : Nat) (news : List Value) (hx : a.eval x = .slice (some ad) m c) (hl : news.length = m * size) (hnews : ∀ j u, news[j]? = some u → w.cell? (ad.add j) = some u) (h1 : ∀ u ∈ news, u.oneCell' = true)
    (hmax : n + m ≤ maxLen) (hbytes : (n + m) * bytes ≤ 140737488355328) (hbase : base ≤ w.heap.size)
    (h : ∀ v' w', w'.ownsRow base e size v' (n + m) (xs ++ news) → w.grownBy w' v.ownBlock → (v' = .slice none 0 0 ↔ v = .slice none 0 0 ∧ m = 0) → K (a.put o.dst v') w') :
    if Region.wanted o (yielded ops a.tmps) = true then Oper.wp P o a w K Q else E := by
  have hw : Region.wanted o (yielded ops a.tmps) = true := by simp [Region.wanted, hgd]
  rw [if_pos hw]
  exact wp_append_own w s x t ho base e i z size bytes ht hi hz hsize hby hzs hsz v n xs hs hown ad m c news hx hl hnews h1 hmax hbytes hbase h

/-- Below B all blocks but CK are as they were. -/
structure Kept (B CK : Nat) (w w' : World) : Prop where
  os : w'.os = w.os
  tape : w'.tape = w.tape
  output : w'.output = w.output
  size : w.heap.size ≤ w'.heap.size
  block : ∀ b, b < B → b ≠ CK → w'.heap[b]? = w.heap[b]?
theorem Kept.refl (B CK : Nat) (w : World) : Kept B CK w w := ⟨rfl, rfl, rfl, Nat.le_refl _, fun _ _ _ => rfl⟩
theorem Kept.trans {B CK : Nat} {a b c : World} (h : Kept B CK a b) (k : Kept B CK b c) : Kept B CK a c :=
  ⟨k.os.trans h.os, k.tape.trans h.tape, k.output.trans h.output, Nat.le_trans h.size k.size, fun x h1 h2 => (k.block x h1 h2).trans (h.block x h1 h2)⟩
theorem Kept.of_below {B CK : Nat} {a b : World} (h : Below B a b) : Kept B CK a b := ⟨h.os, h.tape, h.output, h.size, fun x h1 _ => h.block x h1⟩
theorem Kept.below {B B' CK : Nat} {a b : World} (h : Kept B CK a b) (hB : B' ≤ B) (hC : B' ≤ CK) : Below B' a b := ⟨h.os, h.tape, h.output, h.size, fun x hx => h.block x (by omega) (by omega)⟩
theorem Kept.alloc {B CK : Nat} {a w : World} (h : Kept B CK a w) (hB : B ≤ w.heap.size) (o : Obj) : Kept B CK a (w.alloc o) :=
  h.trans (Kept.of_below ((Below.refl B w).alloc hB o))
theorem Kept.setCell {B CK : Nat} {a w : World} (h : Kept B CK a w) {p : Addr} (hp : B ≤ p.block ∨ p.block = CK) (u : Value) : Kept B CK a (w.setCell p u) :=
  h.trans ⟨rfl, rfl, rfl, by simp, fun x h1 h2 => Below.heap_setCell _ _ _ x (by rcases hp with hp | hp <;> omega)⟩
theorem Kept.grown {B CK : Nat} {a w w' : World} {row : Option Nat} (h : Kept B CK a w) (hg : w.grownBy w' row) (hB : B ≤ w.heap.size) (hr : ∀ k, row = some k → B ≤ k) : Kept B CK a w' :=
  h.trans (Kept.of_below ((Below.refl B w).grown hg hB hr))
theorem Kept.drewN {B CK : Nat} {a w : World} (h : Kept B CK a w) (n : Nat) : Kept B CK a (w.drewN n) := ⟨h.os, h.tape, h.output, h.size, h.block⟩
theorem Kept.row {B CK g : Nat} {a w : World} {t : TypeId} {L : List Value} (h : Kept B CK a w) (hr : Row a g t L) (hg : g < B) (hne : g ≠ CK) : Row w g t L := by
  unfold Row; rw [h.block g hg hne]; exact hr

/-- THE LIST: vC the slice of m chunks (elements of type S1), the last of which holds q elements of type EL (sz cells each), the cells xs. -/
def LSt (w : World) (B : Nat) (S1 EL : TypeId) (sz : Nat) (vC : Value) (m q : Nat) (xs : List Value) : Prop :=
  (m = 0 ∧ q = 0 ∧ xs = [] ∧ vC = .slice none 0 0) ∨
  (0 < m ∧ ∃ chs vL, w.ownsRow B S1 1 vC m chs ∧ chs[m - 1]? = some vL ∧ w.ownsRow B EL sz vL q xs)

theorem ownsRow_block {w : World} {B : Nat} {e : TypeId} {sz : Nat} {v : Value} {n : Nat} {xs : List Value} (h : w.ownsRow B e sz v n xs) : ∀ g, v.ownBlock = some g → B ≤ g ∧ ∃ cur, w.heap[g]? = some (.cells cur e (0, 0)) := by
  intro g hg
  rcases h.2 with ⟨rfl, _⟩ | ⟨g', cap, cur, rfl, hb, hh, _⟩
  · simp [Value.ownBlock] at hg
  · simp [Value.ownBlock] at hg
    subst hg
    exact ⟨hb, cur, hh⟩
theorem ownsRow_apart {w : World} {B B' : Nat} {e e' : TypeId} {sz sz' : Nat} {v v' : Value} {n n' : Nat} {xs xs' : List Value} (h : w.ownsRow B e sz v n xs) (h' : w.ownsRow B' e' sz' v' n' xs') (hne : e ≠ e') : v.ownBlock = none ∨ v.ownBlock ≠ v'.ownBlock := by
  cases hv : v.ownBlock with
  | none => exact .inl rfl
  | some g =>
    right
    intro e1
    obtain ⟨_, c1, h1⟩ := ownsRow_block h g hv
    obtain ⟨_, c2, h2⟩ := ownsRow_block h' g e1.symm
    rw [h1] at h2
    simp at h2
    exact hne h2.2
theorem ownsRow_shape {w : World} {B : Nat} {e : TypeId} {sz : Nat} {v : Value} {n : Nat} {xs : List Value} (h : w.ownsRow B e sz v n xs) (hn : 0 < n) : ∃ g cap, v = .slice (some ⟨g, 0, none⟩) n cap ∧ B ≤ g ∧ g < w.heap.size ∧ n ≤ cap := by
  rcases h.2 with ⟨_, h0⟩ | ⟨g, cap, cur, rfl, hb, hh, hc, _⟩
  · omega
  · exact ⟨g, cap, rfl, hb, lt_of_block hh, hc⟩

theorem cells_new (w : World) (vs : List Value) (t : TypeId) : ∀ j u, vs[j]? = some u → (w.alloc (.cells vs.toArray t)).cell? ((⟨w.heap.size, 0, none⟩ : Addr).add j) = some u := by
  intro j u hj
  rw [Addr.add_lit, Nat.zero_add, cell_of_row _ w.heap.size j _ _ _ (heap_alloc_new w _)]
  simpa using hj

/-- BEHIND THE switch OF add: the last chunk has room below chunkLen; the value to be added lies in its box. -/
def Mid (w : World) (B CK : Nat) (ot : TypeId) (cur : List Value) (o : Nat) (S1 EL : TypeId) (sz m q : Nat) (xs vs : List Value) (wx : World) : Prop :=
  ∃ gC cap chs vL, Row wx CK ot (cur.set o (.slice (some ⟨gC, 0, none⟩) (m + 1) cap)) ∧ wx.ownsRow B S1 1 (.slice (some ⟨gC, 0, none⟩) (m + 1) cap) (m + 1) chs ∧ chs[m]? = some vL ∧ wx.ownsRow B EL sz vL q xs ∧ Row wx w.heap.size EL vs ∧ Kept B CK w wx

/-- BEHIND add. -/
def Added (w : World) (B CK : Nat) (ot : TypeId) (cur : List Value) (o : Nat) (S1 EL : TypeId) (sz m q : Nat) (xs : List Value) (w' : World) : Prop :=
  ∃ vC, Row w' CK ot (cur.set o vC) ∧ LSt w' B S1 EL sz vC m q xs ∧ Kept B CK w w'

theorem own_ne_CK {w : World} {B CK : Nat} {e : TypeId} {sz : Nat} {v : Value} {n : Nat} {xs : List Value} (h : w.ownsRow B e sz v n xs) (hB : CK < B) : some CK ≠ v.ownBlock := by
  intro e1
  have := (ownsRow_block h CK e1.symm).1
  omega

/-- What the walk wants of Mid. -/
theorem Mid.facts {w wx : World} {B CK gC cap m : Nat} {ot : TypeId} {cur : List Value} {o : Nat} {S1 EL : TypeId} {sz q : Nat} {xs chs : List Value} {vL : Value}
    (hr : Row wx CK ot (cur.set o (.slice (some ⟨gC, 0, none⟩) (m + 1) cap))) (ho : o < cur.length) (hch : wx.ownsRow B S1 1 (.slice (some ⟨gC, 0, none⟩) (m + 1) cap) (m + 1) chs) (hl : chs[m]? = some vL) :
    wx.cell? ⟨CK, o, none⟩ = some (.slice (some ⟨gC, 0, none⟩) (m + 1) cap) ∧ wx.cell? ⟨gC, m, none⟩ = some vL ∧ ∀ (k : Nat) (ob : Obj), ((wx.drewN k).alloc ob).cell? ⟨gC, m, none⟩ = some vL := by
  have h2 : wx.cell? ⟨gC, m, none⟩ = some vL := by rw [hch.cellAt m (by omega)]; exact hl
  refine ⟨hr.cell (by rw [List.getElem?_set_self ho]), h2, fun k ob => ?_⟩
  have h3 : (wx.drewN k).cell? ⟨gC, m, none⟩ = some vL := h2
  exact (((Below.refl _ (wx.drewN k)).alloc (Nat.le_refl _) ob).cell (p := ⟨gC, m, none⟩) (block_lt_of_cell h3)).trans h3

/-- Behind the append to the last chunk: the chunk's cell may be written. -/
theorem Mid.tail {w wx w1 : World} {B CK gC cap m k : Nat} {ot : TypeId} {cur : List Value} {o : Nat} {S1 EL : TypeId} {sz q : Nat} {xs chs vs : List Value} {vL v' : Value} {ob : Obj} (hB : CK < B) (hBw : B ≤ wx.heap.size) (hne : S1 ≠ EL)
    (hr : Row wx CK ot (cur.set o (.slice (some ⟨gC, 0, none⟩) (m + 1) cap))) (hch : wx.ownsRow B S1 1 (.slice (some ⟨gC, 0, none⟩) (m + 1) cap) (m + 1) chs) (hl : chs[m]? = some vL) (hlr : wx.ownsRow B EL sz vL q xs) (hk : Kept B CK w wx)
    (hown : w1.ownsRow B EL sz v' (q + 1) (xs ++ vs)) (hg : ((wx.drewN k).alloc ob).grownBy w1 vL.ownBlock) :
    w1.cell? ⟨gC, m, none⟩ = some vL ∧ w1.frozen? ⟨gC, m, none⟩ = false ∧ Added w B CK ot cur o S1 EL sz (m + 1) (q + 1) (xs ++ vs) (w1.setCell ⟨gC, m, none⟩ v') := by
  have hch1 : w1.ownsRow B S1 1 (.slice (some ⟨gC, 0, none⟩) (m + 1) cap) (m + 1) chs := by
    have h0 : ((wx.drewN k).alloc ob).ownsRow B S1 1 (.slice (some ⟨gC, 0, none⟩) (m + 1) cap) (m + 1) chs := World.ownsRow.alloc (w := wx.drewN k) hch ob
    exact h0.kept hg (ownsRow_apart hch hlr hne)
  have hr1 : Row w1 CK ot (cur.set o (.slice (some ⟨gC, 0, none⟩) (m + 1) cap)) := by
    have h0 : Row ((wx.drewN k).alloc ob) CK ot (cur.set o (.slice (some ⟨gC, 0, none⟩) (m + 1) cap)) := (hr.drewN k).alloc ob
    exact h0.grown hg (own_ne_CK hlr hB)
  have hml : m < chs.length := (List.getElem?_eq_some_iff.1 hl).1
  have hgB : B ≤ gC := (ownsRow_block hch gC rfl).1
  refine ⟨by rw [hch1.cellAt m (by omega)]; exact hl, hch1.frozenAt m, .slice (some ⟨gC, 0, none⟩) (m + 1) cap, hr1.setOther (a := ⟨gC, m, none⟩) (by simp; omega) _, .inr ⟨by omega, chs.set m v', v', (hch1.stored m v').1, ?_, ?_⟩, ?_⟩
  · simp [hml]
  · refine ownsRow_setCell_other hown ?_ v'
    rcases ownsRow_apart hown hch1 hne.symm with h | h
    · rw [h]; simp
    · exact h
  · refine ((((hk.drewN k).alloc (show B ≤ (wx.drewN k).heap.size from hBw) ob).grown hg (by have : B ≤ (wx.drewN k).heap.size := hBw; simp; omega) (fun j e => (ownsRow_block hlr j e).1))).setCell (p := ⟨gC, m, none⟩) (.inl hgB) v'

/-- The first chunk is a nil slice. -/
theorem Mid.first {w w1 : World} {B CK g cap : Nat} {ot : TypeId} {cur : List Value} {o : Nat} {S1 EL : TypeId} {sz : Nat} {vs : List Value} {ob : Obj} (hB : CK < B) (hBw : B ≤ w.heap.size)
    (hr : Row w CK ot cur) (hown : w1.ownsRow B S1 1 (.slice (some ⟨g, 0, none⟩) (0 + 1) cap) (0 + 1) ([] ++ [.slice none 0 0])) (hg : ((w.alloc (.cells vs.toArray EL)).alloc ob).grownBy w1 none) :
    (∀ v, cur[o]? = some v → w1.cell? ⟨CK, o, none⟩ = some v) ∧ w1.frozen? ⟨CK, o, none⟩ = false ∧ Mid w B CK ot cur o S1 EL sz 0 0 [] vs (w1.setCell ⟨CK, o, none⟩ (.slice (some ⟨g, 0, none⟩) (0 + 1) cap)) := by
  have hr1 : Row w1 CK ot cur := ((hr.alloc _).alloc _).grown hg (by simp)
  have hgB := (ownsRow_block hown g rfl).1
  refine ⟨fun v hv => hr1.cell hv, hr1.fz o, g, cap, [.slice none 0 0], .slice none 0 0, hr1.set o _, ?_, rfl, World.ownsRow_nil _ _ _ _, ?_, ?_⟩
  · refine ownsRow_setCell_below ?_ (by show CK < B; exact hB) _
    simpa using hown
  · have : Row ((w.alloc (.cells vs.toArray EL)).alloc ob) w.heap.size EL vs := (Row.new w EL vs).alloc ob
    exact (this.grown hg (by simp)).setOther (a := ⟨CK, o, none⟩) (by simp; omega) _
  · exact ((((Kept.refl B CK w).alloc hBw _).alloc (by simp; omega) _).grown hg (by simp; omega) (fun j e => by cases e)).setCell (p := ⟨CK, o, none⟩) (.inr rfl) _

/-- The last chunk has room. -/
theorem Mid.more {w : World} {B CK m k : Nat} {ot : TypeId} {cur : List Value} {o : Nat} {S1 EL : TypeId} {sz q : Nat} {xs vs chs : List Value} {vC vL : Value} (hBw : B ≤ w.heap.size) (hr : Row w CK ot cur) (hc : cur[o]? = some vC)
    (hch : w.ownsRow B S1 1 vC (m + 1) chs) (hl : chs[m]? = some vL) (hlr : w.ownsRow B EL sz vL q xs) : Mid w B CK ot cur o S1 EL sz m q xs vs ((w.alloc (.cells vs.toArray EL)).drewN k) := by
  obtain ⟨gC, cap, rfl, _⟩ := ownsRow_shape hch (by omega)
  have e : cur.set o (.slice (some ⟨gC, 0, none⟩) (m + 1) cap) = cur := by
    obtain ⟨h1, h2⟩ := List.getElem?_eq_some_iff.1 hc
    rw [← h2]; exact List.set_getElem_self h1
  refine ⟨gC, cap, chs, vL, ?_, hch.alloc _, hl, hlr.alloc _, Row.new w EL vs, ((Kept.refl B CK w).alloc hBw _).drewN k⟩
  rw [e]; exact hr.alloc _

/-- The last chunk is full: a new one is laid. -/
theorem Mid.full {w w1 W : World} {B CK m g cap k n : Nat} {ot : TypeId} {cur : List Value} {o : Nat} {S1 EL : TypeId} {sz : Nat} {vs chs : List Value} {vC : Value} {zs : Array Value} {ob : Obj} (hB : CK < B) (hBw : B ≤ w.heap.size)
    (hr : Row w CK ot cur) (hch : w.ownsRow B S1 1 vC (m + 1) chs) (hzs : zs.size = n * sz) (hn : n ≤ maxLen) (hS : S1 ≠ EL)
    (hW : W = (((w.alloc (.cells vs.toArray EL)).drewN k).alloc (.cells zs EL)))
    (hown : w1.ownsRow B S1 1 (.slice (some ⟨g, 0, none⟩) (m + 1 + 1) cap) (m + 1 + 1) (chs ++ [.slice (some ⟨w.heap.size + 1, 0, none⟩) 0 n])) (hg : (W.alloc ob).grownBy w1 vC.ownBlock) :
    (∀ v, cur[o]? = some v → w1.cell? ⟨CK, o, none⟩ = some v) ∧ w1.frozen? ⟨CK, o, none⟩ = false ∧ Mid w B CK ot cur o S1 EL sz (m + 1) 0 [] vs (w1.setCell ⟨CK, o, none⟩ (.slice (some ⟨g, 0, none⟩) (m + 1 + 1) cap)) := by
  subst hW
  have hr0 : Row ((((w.alloc (.cells vs.toArray EL)).drewN k).alloc (.cells zs EL)).alloc ob) CK ot cur := (((hr.alloc _).drewN k).alloc _).alloc _
  have hr1 : Row w1 CK ot cur := hr0.grown hg (own_ne_CK hch hB)
  have hch0 : ((((w.alloc (.cells vs.toArray EL)).drewN k).alloc (.cells zs EL)).alloc ob).ownsRow B S1 1 vC (m + 1) chs := World.ownsRow.alloc (World.ownsRow.alloc (w := (w.alloc (.cells vs.toArray EL)).drewN k) (hch.alloc _) _) _
  have hlen : chs.length = m + 1 := by simpa using hch.1
  obtain ⟨gC, capC, rfl, _, hglt, _⟩ := ownsRow_shape hch (by omega)
  have hnew0 : (((w.alloc (.cells vs.toArray EL)).drewN k).alloc (.cells zs EL)).ownsRow B EL sz (.slice (some ⟨w.heap.size + 1, 0, none⟩) 0 n) 0 [] := by
    have := World.ownsRow_made (base := B) (e := EL) (size := sz) ((w.alloc (.cells vs.toArray EL)).drewN k) zs n (by show B ≤ (w.alloc (.cells vs.toArray EL)).heap.size; simp; omega) hn hzs
    have e : ((w.alloc (.cells vs.toArray EL)).drewN k).heap.size = w.heap.size + 1 := by show (w.alloc (.cells vs.toArray EL)).heap.size = _; simp
    rw [e] at this
    exact this
  have hnew1 : w1.ownsRow B EL sz (.slice (some ⟨w.heap.size + 1, 0, none⟩) 0 n) 0 [] := (hnew0.alloc ob).kept hg (.inr (by simp [Value.ownBlock]; omega))
  refine ⟨fun v hv => hr1.cell hv, hr1.fz o, g, cap, _, .slice (some ⟨w.heap.size + 1, 0, none⟩) 0 n, hr1.set o _, ownsRow_setCell_below hown (by show CK < B; exact hB) _, ?_, ownsRow_setCell_below hnew1 (by show CK < B; exact hB) _, ?_, ?_⟩
  · rw [List.getElem?_append_right (by omega), hlen]; simp
  · have h0 : Row ((((w.alloc (.cells vs.toArray EL)).drewN k).alloc (.cells zs EL)).alloc ob) w.heap.size EL vs := (((Row.new w EL vs).drewN k).alloc _).alloc _
    exact (h0.grown hg (by simp [Value.ownBlock]; omega)).setOther (a := ⟨CK, o, none⟩) (by simp; omega) _
  · have hk0 : Kept B CK w ((((w.alloc (.cells vs.toArray EL)).drewN k).alloc (.cells zs EL)).alloc ob) := by
      refine ((((Kept.refl B CK w).alloc hBw _).drewN k).alloc ?_ _).alloc ?_ _
      · show B ≤ (w.alloc (.cells vs.toArray EL)).heap.size; simp; omega
      · simp only [World.size_alloc]; show B ≤ (w.alloc (.cells vs.toArray EL)).heap.size + 1; simp; omega
    refine (hk0.grown hg ?_ (fun j e => (ownsRow_block hch j e).1)).setCell (p := ⟨CK, o, none⟩) (.inr rfl) _
    simp only [World.size_alloc]; show B ≤ (w.alloc (.cells vs.toArray EL)).heap.size + 1 + 1; simp; omega
end Go.Proofs.Qxb6613322a
