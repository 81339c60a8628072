/-
  PLAIN: ranks in the sorted list.
-/
import Derived.Test.Qxb6613322aLawCalls
import Derived.Test.Qxb6613322aPlain
namespace Go.Proofs.Qxb6613322a
open Go.RowKit
set_option linter.unusedVariables false

/-- those on cycles, in the schedule's order -/
def onR (T C : Nat → Int) (n : Nat) : List Nat := (List.range n).filter (onC T C)
theorem onR_mem {T C : Nat → Int} {n a : Nat} : a ∈ onR T C n ↔ a < n ∧ onC T C a = true := by simp [onR, List.mem_filter]
theorem onR_le (T C : Nat → Int) (n : Nat) : (onR T C n).length ≤ n := by
  have := List.length_filter_le (onC T C) (List.range n)
  simpa [onR] using this
theorem onR_succ (T C : Nat → Int) (n : Nat) : onR T C (n + 1) = if onC T C n then onR T C n ++ [n] else onR T C n := by
  unfold onR
  rw [List.range_succ, List.filter_append]
  by_cases h : onC T C n = true
  · simp [h]
  · simp [h]

/-- how many on cycles come before a, of the first j -/
def rkN (T E C : Nat → Int) (a : Nat) (j : Nat) : Nat := (List.range j).countP fun b => onC T C b && kl T E C b a
theorem rkN_succ (T E C : Nat → Int) (a j : Nat) : rkN T E C a (j + 1) = if onC T C j && kl T E C j a then rkN T E C a j + 1 else rkN T E C a j := by
  unfold rkN
  rw [List.range_succ, List.countP_append, List.countP_singleton]
  split <;> simp
theorem rkN_le (T E C : Nat → Int) (a j : Nat) : rkN T E C a j ≤ j := by
  have := List.countP_le_length (p := fun b => onC T C b && kl T E C b a) (l := List.range j)
  simpa [rkN] using this

/-- WHAT THE SORTED LIST IS. -/
structure Sorted (T E C : Nat → Int) (n : Nat) (S : List Nat) : Prop where
  perm : S.Perm (onR T C n)
  pair : S.Pairwise fun a b => kl T E C a b = true ∧ kl T E C b a = false

theorem sorted_srt {T E C : Nat → Int} {n count ne : Nat} (hLc : ∀ i, i < n → onC T C i = true → 0 ≤ C (T i).toNat ∧ C (T i).toNat < count) (hE : ∀ i, i < n → 0 ≤ E i ∧ E i < ne) : Sorted T E C n (Srt25 T E C count ne (onR T C n)) := by
  have hmem : ∀ i ∈ csort (fun i => (E i).toNat) ne (onR T C n), i ∈ onR T C n := fun i hi => csort_mem hi
  have p1 : (csort (fun i => (E i).toNat) ne (onR T C n)).Perm (onR T C n) := csort_perm fun i hi => by
    have := hE i (onR_mem.1 hi).1
    omega
  have p2 : (Srt25 T E C count ne (onR T C n)).Perm (csort (fun i => (E i).toNat) ne (onR T C n)) := csort_perm fun i hi => by
    have h := onR_mem.1 (hmem i hi)
    have := hLc i h.1 h.2
    omega
  refine ⟨p2.trans p1, ?_⟩
  have h0 : (onR T C n).Pairwise (· < ·) := List.Pairwise.filter _ List.pairwise_lt_range
  have h1 := csort_pairwise (K := fun i => (C (T i).toNat).toNat) (keys := count) (csort_pairwise (K := fun i => (E i).toNat) (keys := ne) h0)
  refine List.Pairwise.imp_of_mem ?_ h1
  intro a b ha hb h
  have ma := onR_mem.1 (Srt25.mem ha)
  have mb := onR_mem.1 (Srt25.mem hb)
  have ca := hLc a ma.1 ma.2
  have cb := hLc b mb.1 mb.2
  have ea := hE a ma.1
  have eb := hE b mb.1
  rcases h with h | ⟨h, h' | ⟨h', h2⟩⟩
  · have n1 : ¬ C (T a).toNat = C (T b).toNat := by omega
    have n2 : ¬ C (T b).toNat = C (T a).toNat := by omega
    simp only [kl, if_neg n1, if_neg n2, decide_eq_true_eq, decide_eq_false_iff_not]
    omega
  · have n1 : C (T a).toNat = C (T b).toNat := by omega
    have n2 : ¬ E a = E b := by omega
    have n3 : ¬ E b = E a := by omega
    simp only [kl, if_pos n1, if_pos n1.symm, if_neg n2, if_neg n3, decide_eq_true_eq, decide_eq_false_iff_not]
    omega
  · have n1 : C (T a).toNat = C (T b).toNat := by omega
    have n2 : E a = E b := by omega
    simp only [kl, if_pos n1, if_pos n1.symm, if_pos n2, if_pos n2.symm, decide_eq_true_eq, decide_eq_false_iff_not]
    omega

theorem Sorted.len {T E C : Nat → Int} {n : Nat} {S : List Nat} (h : Sorted T E C n S) : S.length = (onR T C n).length := h.perm.length_eq
theorem Sorted.mem {T E C : Nat → Int} {n : Nat} {S : List Nat} (h : Sorted T E C n S) {a : Nat} : a ∈ S ↔ a < n ∧ onC T C a = true := by rw [h.perm.mem_iff, onR_mem]
theorem kl_irr (T E C : Nat → Int) (a : Nat) : kl T E C a a = false := by simp [kl]
theorem Sorted.nodup {T E C : Nat → Int} {n : Nat} {S : List Nat} (h : Sorted T E C n S) : S.Nodup := by
  refine List.Pairwise.imp ?_ h.pair
  rintro a b ⟨h1, h2⟩ rfl
  rw [h1] at h2
  exact absurd h2 (by simp)
theorem Sorted.rank {T E C : Nat → Int} {n : Nat} {S : List Nat} (h : Sorted T E C n S) {p : Nat} (hp : p < S.length) : rkN T E C (S.getD p 0) n = p := by
  have h1 := rank_of_pairwise (r := kl T E C) h.pair (kl_irr T E C) p hp
  rw [getD_lt hp]
  unfold rkN
  rw [countP_filter_and]
  exact (h.perm.countP_eq _).symm.trans h1
theorem Sorted.at {T E C : Nat → Int} {n : Nat} {S : List Nat} (h : Sorted T E C n S) {a : Nat} (ha : a < n) (ho : onC T C a = true) : rkN T E C a n < S.length ∧ S.getD (rkN T E C a n) 0 = a := by
  have hm := (h.mem (a := a)).2 ⟨ha, ho⟩
  obtain ⟨p, hp, rfl⟩ := List.getElem_of_mem hm
  have := h.rank hp
  rw [getD_lt hp] at this
  rw [this]
  exact ⟨hp, getD_lt hp⟩
theorem Sorted.place {T E C : Nat → Int} {n : Nat} {S : List Nat} (h : Sorted T E C n S) {a : Nat} (ha : a < n) : (plc S S.length a : Int) = if onC T C a then (rkN T E C a n : Int) else 0 := by
  by_cases ho : onC T C a = true
  · rw [if_pos ho]
    obtain ⟨h1, h2⟩ := h.at ha ho
    have h3 := plc_at h.nodup S.length _ h1 (Nat.le_refl _)
    rw [h2] at h3
    rw [h3]
  · rw [if_neg ho, plc_out (fun hm => ho (h.mem.1 hm).2) _ (Nat.le_refl _)]
    rfl
/-- THE ORDER ROW when the first j have been put. -/
def ordN (S : List Nat) (j : Nat) : Nat → Int := fun p => if S.getD p 0 < j then (S.getD p 0 : Int) else 0
theorem ordN_put {T E C : Nat → Int} {n : Nat} {S : List Nat} (h : Sorted T E C n S) {j : Nat} (hj : j < n) (ho : onC T C j = true) : ∀ p, p < S.length → upd (ordN S j) (rkN T E C j n) (j : Int) p = ordN S (j + 1) p := by
  intro p hp
  unfold upd ordN
  obtain ⟨h1, h2⟩ := h.at hj ho
  by_cases e : p = rkN T E C j n
  · subst e
    rw [if_pos rfl, h2, if_pos (by omega)]
  · rw [if_neg e]
    have hne : S.getD p 0 ≠ j := by
      intro e2
      apply e
      have := h.rank hp
      rw [e2] at this
      exact this.symm
    by_cases h3 : S.getD p 0 < j
    · rw [if_pos h3, if_pos (by omega)]
    · rw [if_neg h3, if_neg (by omega)]
theorem ordN_skip {T E C : Nat → Int} {n : Nat} {S : List Nat} (h : Sorted T E C n S) {j : Nat} (ho : onC T C j = false) : ∀ p, p < S.length → ordN S j p = ordN S (j + 1) p := by
  intro p hp
  unfold ordN
  have hne : S.getD p 0 ≠ j := by
    intro e2
    have hm : S.getD p 0 ∈ S := by rw [getD_lt hp]; exact List.getElem_mem hp
    rw [e2] at hm
    have := (h.mem.1 hm).2
    rw [ho] at this
    exact absurd this (by simp)
  by_cases h3 : S.getD p 0 < j
  · rw [if_pos h3, if_pos (by omega)]
  · rw [if_neg h3, if_neg (by omega)]
theorem ordN_end {T E C : Nat → Int} {n : Nat} {S : List Nat} (h : Sorted T E C n S) : ∀ p, p < S.length → ordN S n p = (S.getD p 0 : Int) := by
  intro p hp
  have hm : S.getD p 0 ∈ S := by rw [getD_lt hp]; exact List.getElem_mem hp
  unfold ordN
  rw [if_pos (h.mem.1 hm).1]
/-- THE RANK ROW when the first j have been put. -/
def rnkN (T E C : Nat → Int) (n j : Nat) : Nat → Int := fun a => if a < j ∧ onC T C a = true then (rkN T E C a n : Int) else 0
theorem rnkN_put {T E C : Nat → Int} {n j : Nat} (ho : onC T C j = true) : upd (rnkN T E C n j) j (rkN T E C j n : Int) = rnkN T E C n (j + 1) := by
  funext a
  unfold upd rnkN
  by_cases e : a = j
  · subst e
    rw [if_pos rfl, if_pos ⟨by omega, ho⟩]
  · rw [if_neg e]
    by_cases h : a < j ∧ onC T C a = true
    · rw [if_pos h, if_pos ⟨by omega, h.2⟩]
    · rw [if_neg h, if_neg]
      rintro ⟨h1, h2⟩
      exact h ⟨by omega, h2⟩
theorem rnkN_skip {T E C : Nat → Int} {n j : Nat} (ho : onC T C j = false) : rnkN T E C n j = rnkN T E C n (j + 1) := by
  funext a
  unfold rnkN
  by_cases h : a < j ∧ onC T C a = true
  · rw [if_pos h, if_pos ⟨by omega, h.2⟩]
  · rw [if_neg h, if_neg]
    rintro ⟨h1, h2⟩
    by_cases e : a = j
    · subst e; rw [ho] at h2; exact absurd h2 (by simp)
    · exact h ⟨by omega, h2⟩
theorem i64s_congr {Z Z' : Nat → Int} {n : Nat} (h : ∀ k, k < n → Z k = Z' k) : (List.range n).map (fun j => Value.int .i64 (Z j)) = (List.range n).map (fun j => Value.int .i64 (Z' j)) := by
  refine List.map_congr_left fun k hk => ?_
  rw [h k (List.mem_range.1 hk)]
end Go.Proofs.Qxb6613322a
