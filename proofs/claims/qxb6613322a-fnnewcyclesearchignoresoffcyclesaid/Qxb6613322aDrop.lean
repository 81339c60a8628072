/-
  PLAIN: what dropping those off every cycle leaves; and rows that grow in their own room.
-/
import Derived.Test.Qxb6613322aShow
import Derived.Test.Qxb6613322aLawA
namespace Go.Proofs.Qxb6613322a
open Go.RowKit
set_option linter.unusedVariables false

/-- the j-th kept -/
def io (T C : Nat → Int) (n : Nat) : Nat → Nat := fun j => (onR T C n).getD j 0
theorem onR_nodup (T C : Nat → Int) (n : Nat) : (onR T C n).Pairwise (· < ·) := List.Pairwise.filter _ List.pairwise_lt_range
theorem io_on {T C : Nat → Int} {n j : Nat} (hj : j < (onR T C n).length) : io T C n j < n ∧ onC T C (io T C n j) = true := by
  unfold io
  rw [getD_lt hj]
  exact onR_mem.1 (List.getElem_mem hj)
theorem io_lt {T C : Nat → Int} {n i j : Nat} (hij : i < j) (hj : j < (onR T C n).length) : io T C n i < io T C n j := by
  unfold io
  rw [getD_lt hj, getD_lt (by omega)]
  exact (List.pairwise_iff_getElem.1 (onR_nodup T C n)) i j (by omega) hj hij
theorem io_inj {T C : Nat → Int} {n i j : Nat} (hi : i < (onR T C n).length) (hj : j < (onR T C n).length) (e : io T C n i = io T C n j) : i = j := by
  rcases Nat.lt_trichotomy i j with h | h | h
  · have := io_lt (T := T) (C := C) (n := n) h hj; omega
  · exact h
  · have := io_lt (T := T) (C := C) (n := n) h hi; omega
theorem onR_map (T C : Nat → Int) (n : Nat) : onR T C n = (List.range (onR T C n).length).map (io T C n) := by
  apply List.ext_getElem
  · simp
  · intro i h1 h2
    simp only [List.getElem_map, List.getElem_range, io]
    rw [getD_lt h1]
theorem onR_prefix (T C : Nat → Int) (p : Nat) : ∀ n, p ≤ n → onR T C p <+: onR T C n
  | 0, h => by rw [show p = 0 by omega]; exact List.prefix_refl _
  | n + 1, h => by
    by_cases e : p = n + 1
    · subst e; exact List.prefix_refl _
    · refine (onR_prefix T C p n (by omega)).trans ?_
      rw [onR_succ]
      split
      · exact List.prefix_append _ _
      · exact List.prefix_refl _
theorem io_at {T C : Nat → Int} {n p : Nat} (hp : p < n) (ho : onC T C p = true) : (onR T C p).length < (onR T C n).length ∧ io T C n (onR T C p).length = p := by
  have h := onR_prefix T C (p + 1) n (by omega)
  rw [onR_succ, if_pos ho] at h
  obtain ⟨t, ht⟩ := h
  unfold io
  rw [← ht]
  simp
/-- THE SHORTER SCHEDULE. -/
theorem onR_kept (T C : Nat → Int) (n : Nat) : onR (fun j => T (io T C n j)) C (onR T C n).length = List.range (onR T C n).length := by
  unfold onR
  rw [List.filter_eq_self]
  intro j hj
  have := (io_on (T := T) (C := C) (n := n) (List.mem_range.1 hj)).2
  exact this
theorem srt_drop (T E C : Nat → Int) (n count ne : Nat) : Srt25 T E C count ne (onR T C n) = (Srt25 (fun j => T (io T C n j)) (fun j => E (io T C n j)) C count ne (onR (fun j => T (io T C n j)) C (onR T C n).length)).map (io T C n) := by
  rw [onR_kept]
  unfold Srt25
  conv => lhs; rw [onR_map T C n]
  rw [csort_map, csort_map]

structure Alike (T E C : Nat → Int) (X : Nat → Bool) (f : Nat → Nat) (m : Nat) (S : List Nat) : Prop where
  f1 : ∀ p, p < m → T (f (S.getD p 0)) = T ((S.map f).getD p 0)
  f2 : ∀ p, p < m → (grp (fun j => E (f j)) (fun a => C (T (f a)).toNat) S p : Int) = (grp E (fun a => C (T a).toNat) (S.map f) p : Int)
  f3 : ∀ p, p < m → (nxt (fun q => X (f (S.getD q 0))) m p : Int) = (nxt (fun q => X ((S.map f).getD q 0)) m p : Int)
  f5 : ends (fun j => E (f j)) (fun a => C (T (f a)).toNat) S m = ends E (fun a => C (T a).toNat) (S.map f) m
theorem alike (T E C : Nat → Int) (X : Nat → Bool) (f : Nat → Nat) (m : Nat) (S : List Nat) (hm : S.length = m) : Alike T E C X f m S := by
  subst hm
  refine ⟨fun p hp => ?_, fun p hp => ?_, fun p hp => ?_, ?_⟩
  · rw [getD_map_lt S f hp]
  · unfold grp
    rw [ends_map E (fun a => C (T a).toNat) f S (p + 1) (by omega)]
  · unfold nxt
    rw [nxf_congr (P' := fun q => X ((S.map f).getD q 0)) (fun k hk => by rw [getD_map_lt S f hk]) _ (by omega)]
  · rw [ends_map E (fun a => C (T a).toNat) f S S.length (Nat.le_refl _)]
/-- WHAT THE SEARCH OVER THE SHORTER SCHEDULE SHOWS, told over the whole. -/
structure Alt (w : World) (m nt : Nat) (SA SB : List Nat) (T E C : Nat → Int) (X : Nat → Bool) (v1 v2 v3 v4 v5 v6 v7 v8 v9 v10 : Value) : Prop where
  r1 : Rd w v1 m (fun p => T (SA.getD p 0))
  r2 : Rd w v2 m (fun p => (grp E (fun a => C (T a).toNat) SA p : Int))
  r3 : Rd w v3 m (fun p => (nxt (fun q => X (SA.getD q 0)) m p : Int))
  r4 : Rd w v4 m (fun a => (plc SB m a : Int))
  r5 : Rd w v5 (ends E (fun a => C (T a).toNat) SA m).length (fun j => ((ends E (fun a => C (T a).toNat) SA m).getD j 0 : Int))
  r6 : Rd w v6 (ends E (fun a => C (T a).toNat) SA m).length (fun j => ((ends E (fun a => C (T a).toNat) SA m).getD j 0 : Int))
  r7 : Rd w v7 (ends E (fun a => C (T a).toNat) SA m).length (fun j => ((ends E (fun a => C (T a).toNat) SA m).getD j 0 : Int))
  r8 : Rd w v8 (ends E (fun a => C (T a).toNat) SA m).length (fun j => ((ends E (fun a => C (T a).toNat) SA m).getD j 0 : Int))
  r9 : Rd w v9 nt (fun _ => -1)
  r10 : Rd w v10 nt (fun _ => 0)
theorem Shown.alt {w : World} {m nt : Nat} {S : List Nat} {T E C : Nat → Int} {X : Nat → Bool} {f : Nat → Nat} {v1 v2 v3 v4 v5 v6 v7 v8 v9 v10 : Value} (hm : S.length = m) (h : Shown w m m nt S (fun j => T (f j)) (fun j => E (f j)) C (fun j => X (f j)) v1 v2 v3 v4 v5 v6 v7 v8 v9 v10) : Alt w m nt (S.map f) S T E C X v1 v2 v3 v4 v5 v6 v7 v8 v9 v10 := by
  have a := alike T E C X f m S hm
  have r5 := h.r5
  have r6 := h.r6
  have r7 := h.r7
  have r8 := h.r8
  rw [a.f5] at r5 r6 r7 r8
  exact ⟨h.r1.congr a.f1, h.r2.congr a.f2, h.r3.congr a.f3, h.r4, r5, r6, r7, r8, h.r9, h.r10⟩
theorem plc_drop {S : List Nat} {f : Nat → Nat} {m b : Nat} (hm : S.length = m) (hS : ∀ i ∈ S, i < m) (hf : ∀ i j, i < m → j < m → f i = f j → i = j) (hb : b < m) : plc (S.map f) m (f b) = plc S m b := by
  subst hm
  exact plc_map (fun a ha e => hf b a hb (hS a ha) e) _ (Nat.le_refl _)

/-! ### rows with room -/
/-- 'make([]T, 0, c)' -/
theorem make_room {P : Program} (t e : TypeId) (z : Value) (bytes : Nat) (ht : P.underlying t = some (.slice e)) (hinfo : (P.info? e).map (fun i => (i.zero, i.size, i.bytes)) = some (some z, 1, bytes)) (hz1 : z.cells = #[z])
    (kl kc : IntKind) (n : Nat) (hbytes : bytes * n ≤ 281474976710656) (h63 : n ≤ 9223372036854775807) (w : World) :
    (Instr.makeSlice t (.int kl 0) (.int kc (n : Int))).run P w = .ok (.slice (some ⟨w.heap.size, 0, none⟩) 0 n) (w.alloc (.cells (madeCells #[z] n) e)) := by
  obtain ⟨i, hi, hz, hs, hb⟩ := info_parts hinfo
  have hb' : (i.bytes : Int) * (n : Int) ≤ 281474976710656 := by
    have h : ((i.bytes * n : Nat) : Int) ≤ 281474976710656 := by rw [hb]; omega
    rwa [Int.natCast_mul] at h
  have hr := run_make (P := P) w t e i z ht hi hz kl kc 0 n (by omega) (by omega) hb' (by omega)
  simp only [Int.toNat_natCast, hs, Nat.mul_one, hz1] at hr
  exact hr
/-- append of one onto a row with room. -/
theorem wpList_append_row {P : Program} {w : World} {ops : Array Oper} {rest : List Oper} {o : Oper} {a : Act} {Q : Exit → Act → World → Prop} (hgd : o.guard = none) (s x : Operand) (t : TypeId)
    (ho : o.op = .call { callee := .builtin .append, args := #[s, x], argTypes := #[t, t] })
    (e : TypeId) (i : TypeInfo) (ht : P.underlying t = some (.slice e)) (hi : P.info? e = some i) (hsize : i.size = 1)
    (g k m : Nat) (L : List Value) (hrow : Row w g e L) (hL : L.length = m) (hkm : k < m) (ad : Addr) (c : Nat) (y : Value)
    (hs : a.eval s = .slice (some ⟨g, 0, none⟩) k m) (hx : a.eval x = .slice (some ad) 1 c) (hnews : ∀ j u, [y][j]? = some u → w.cell? (ad.add j) = some u) (h1 : y.oneCell' = true)
    (h : ∀ w', Row w' g e (L.set k y) → w.grownBy w' (some g) → wpList P ops Q rest (a.put o.dst (.slice (some ⟨g, 0, none⟩) (k + 1) m)) w') : wpList P ops Q (o :: rest) a w := by
  refine wpList_plain hgd fun K hK => ?_
  have hr := run_append_room (P := P) w t o.type e i ht hi g k m L.toArray hrow ad 1 c [y] (by simp [hsize]) hnews (by simpa using h1) (by omega) (by simp [hsize]; omega)
  unfold Oper.wp execOp
  simp only [ho, resolve, invoke, builtin, Sem.run_bind, Sem.run_pure, Result.andThen_ok, List.map_toArray, List.map_cons, List.map_nil, hs, hx, hr]
  refine hK _ _ (h _ ?_ ?_)
  · have e1 : (List.take (k * i.size) L.toArray.toList ++ [y] ++ List.drop (k * i.size + [y].length) L.toArray.toList) = L.set k y := by
      rw [hsize, Nat.mul_one]
      simp [List.set_eq_take_append_cons_drop, hL, hkm]
    rw [e1]
    exact setRow_heap w g _ _ e _ hrow
  · exact ⟨rfl, rfl, rfl, by simp, fun k _ hk => setRow_other w g k _ (fun e => hk (by simp [e]))⟩
end Go.Proofs.Qxb6613322a
