/-
  PLAIN: the order of the sorted list; ranks; places; and what dropping those off every cycle leaves.
-/
import Derived.Test.Qxb6613322aNcsMath
namespace Go.Proofs.Qxb6613322a
open Go.RowKit
set_option linter.unusedVariables false
set_option linter.unusedSimpArgs false

theorem getD_lt {S : List Nat} {i : Nat} (h : i < S.length) : S.getD i 0 = S[i] := by simp [List.getD, h]
theorem count_filter_key (K : Nat → Nat) (k a : Nat) : ∀ L : List Nat, (L.filter fun i => K i == k).count a = if K a = k then L.count a else 0
  | [] => by simp
  | b :: L => by
    have h := count_filter_key K k a L
    by_cases e : K b = k
    · by_cases e2 : b = a
      · subst e2; simp [e, h]
      · by_cases e3 : K a = k
        · simp [e, e2, h, e3]
        · simp [e, e2, h, e3]
    · by_cases e2 : b = a
      · subst e2; simp [e, h]
      · by_cases e3 : K a = k
        · simp [e, e2, h, e3]
        · simp [e, e2, h, e3]
theorem csort_count (K : Nat → Nat) (L : List Nat) (a : Nat) : ∀ keys, (csort K keys L).count a = if K a < keys then L.count a else 0
  | 0 => by simp [csort]
  | keys + 1 => by
    have h := csort_count K L a keys
    unfold csort at h ⊢
    rw [List.range_succ, List.flatMap_append, List.count_append, h]
    simp only [List.flatMap_cons, List.flatMap_nil, List.append_nil]
    rw [count_filter_key]
    by_cases e : K a = keys
    · simp [e]
    · by_cases e2 : K a < keys
      · simp [e, e2, show K a < keys + 1 by omega]
      · simp [e, e2, show ¬ K a < keys + 1 by omega]
theorem csort_perm {K : Nat → Nat} {keys : Nat} {L : List Nat} (h : ∀ i ∈ L, K i < keys) : (csort K keys L).Perm L := by
  rw [List.perm_iff_count]
  intro a
  rw [csort_count]
  by_cases e : K a < keys
  · rw [if_pos e]
  · rw [if_neg e]
    by_cases ha : a ∈ L
    · exact absurd (h a ha) e
    · exact (List.count_eq_zero.2 ha).symm
theorem csort_pairwise {K : Nat → Nat} {keys : Nat} {L : List Nat} {R : Nat → Nat → Prop} (h : L.Pairwise R) : (csort K keys L).Pairwise fun a b => K a < K b ∨ (K a = K b ∧ R a b) := by
  unfold csort
  rw [List.pairwise_flatMap]
  refine ⟨fun k _ => ?_, ?_⟩
  · refine List.Pairwise.imp_of_mem ?_ (h.filter _)
    intro a b ha hb hR
    have h1 := (List.mem_filter.1 ha).2
    have h2 := (List.mem_filter.1 hb).2
    simp only [beq_iff_eq] at h1 h2
    exact .inr ⟨by rw [h1, h2], hR⟩
  · refine List.Pairwise.imp ?_ List.pairwise_lt_range
    intro k1 k2 hk x hx y hy
    have h1 := (List.mem_filter.1 hx).2
    have h2 := (List.mem_filter.1 hy).2
    simp only [beq_iff_eq] at h1 h2
    exact .inl (by omega)
theorem csort_map (K : Nat → Nat) (keys : Nat) (f : Nat → Nat) (L : List Nat) : csort K keys (L.map f) = (csort (fun i => K (f i)) keys L).map f := by
  unfold csort
  rw [List.map_flatMap]
  refine flatMap_congr' fun k _ => ?_
  rw [List.filter_map]
  rfl
theorem csort_congr {K K' : Nat → Nat} {keys : Nat} {L : List Nat} (h : ∀ i ∈ L, K i = K' i) : csort K keys L = csort K' keys L := by
  unfold csort
  refine flatMap_congr' fun k _ => ?_
  refine List.filter_congr fun i hi => ?_
  rw [h i hi]

/-- In a list that a relation orders strictly, a place is the number of those that come before. -/
theorem rank_of_pairwise {r : Nat → Nat → Bool} {S : List Nat} (hp : S.Pairwise fun a b => r a b = true ∧ r b a = false) (hr : ∀ a, r a a = false) : ∀ p (hlt : p < S.length), S.countP (fun b => r b S[p]) = p := by
  induction S with
  | nil => intro p hlt; exact absurd hlt (by simp)
  | cons a S ih =>
    intro p hlt
    rw [List.pairwise_cons] at hp
    cases p with
    | zero =>
      simp only [List.getElem_cons_zero]
      rw [List.countP_eq_zero]
      intro b hb
      rcases List.mem_cons.1 hb with rfl | hb
      · simp [hr]
      · simp [(hp.1 b hb).2]
    | succ p =>
      have hlt' : p < S.length := by simpa using hlt
      simp only [List.getElem_cons_succ]
      rw [List.countP_cons, ih hp.2 p hlt', if_pos (hp.1 _ (List.getElem_mem hlt')).1]
theorem countP_filter_and (p q : Nat → Bool) (L : List Nat) : L.countP (fun b => p b && q b) = (L.filter p).countP q := by
  rw [List.countP_filter]
  refine List.countP_congr fun b _ => ?_
  rw [Bool.and_comm]

theorem plc_at {S : List Nat} (hn : S.Nodup) : ∀ i p, p < i → i ≤ S.length → plc S i (S.getD p 0) = p
  | 0, p, h, _ => absurd h (by omega)
  | i + 1, p, h, hi => by
    rw [plc]
    by_cases e : p = i
    · subst e; rw [if_pos rfl]
    · have hne : S.getD p 0 ≠ S.getD i 0 := by
        have hp : p < S.length := by omega
        have hq : i < S.length := by omega
        rw [getD_lt hp, getD_lt hq]
        exact (List.pairwise_iff_getElem.1 hn) p i hp hq (by omega)
      rw [if_neg hne]
      exact plc_at hn i p (by omega) (by omega)
theorem plc_out {S : List Nat} {a : Nat} (ha : a ∉ S) : ∀ i, i ≤ S.length → plc S i a = 0
  | 0, _ => rfl
  | i + 1, hi => by
    have hlt : i < S.length := by omega
    rw [plc, if_neg, plc_out ha i (by omega)]
    rw [getD_lt hlt]
    intro e
    exact ha (by rw [e]; exact List.getElem_mem hlt)

theorem getD_map_lt (S : List Nat) (f : Nat → Nat) {i : Nat} (h : i < S.length) : (S.map f).getD i 0 = f (S.getD i 0) := by
  rw [getD_lt (by simpa using h), getD_lt h, List.getElem_map]
theorem isNew_map (E K : Nat → Int) (f : Nat → Nat) (S : List Nat) {i : Nat} (h : i < S.length) : isNew E K (S.map f) i = isNew (fun a => E (f a)) (fun a => K (f a)) S i := by
  unfold isNew
  rw [getD_map_lt S f h, getD_map_lt S f (by omega)]
theorem ends_map (E K : Nat → Int) (f : Nat → Nat) (S : List Nat) : ∀ i, i ≤ S.length → ends E K (S.map f) i = ends (fun a => E (f a)) (fun a => K (f a)) S i
  | 0, _ => rfl
  | i + 1, h => by
    rw [ends_succ, ends_succ, lifted, lifted, isNew_map E K f S (by omega), ends_map E K f S i (by omega)]
theorem nxf_congr {P P' : Nat → Bool} {m : Nat} (h : ∀ k, k < m → P k = P' k) : ∀ d, d ≤ m → nxf P m d = nxf P' m d
  | 0, _ => rfl
  | d + 1, hd => by rw [nxf, nxf, h _ (by omega), nxf_congr h d (by omega)]
theorem plc_map {S : List Nat} {f : Nat → Nat} {b : Nat} (hf : ∀ a ∈ S, f b = f a → b = a) : ∀ i, i ≤ S.length → plc (S.map f) i (f b) = plc S i b
  | 0, _ => rfl
  | i + 1, h => by
    have hlt : i < S.length := by omega
    rw [plc, plc, getD_map_lt S f hlt, plc_map hf i (by omega)]
    by_cases e : b = S.getD i 0
    · rw [if_pos e, if_pos (by rw [e])]
    · rw [if_neg e, if_neg]
      intro e2
      apply e
      refine hf _ ?_ e2
      rw [getD_lt hlt]
      exact List.getElem_mem hlt
end Go.Proofs.Qxb6613322a
