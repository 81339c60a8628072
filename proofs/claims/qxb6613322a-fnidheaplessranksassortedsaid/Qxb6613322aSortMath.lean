/-
  PLAIN LAWS for FnIdHeapLessRanksAsSorted: an insertion step keeps a permutation in order; in a row in order the places of x count what is below and above it.
-/
namespace Go.Proofs.Qxb6613322a

/-- In order. -/
def Ord (L : List Int) : Prop := L.Pairwise (· ≤ ·)

/-- INSIDE an insertion: P, the hole (y), Q, R: what stands when x is put into the hole is a permutation of xs; P and Q are in order; all of Q is above x. -/
def Ins (xs : List Int) (x : Int) (P : List Int) (Q R : List Int) : Prop :=
  Ord (P ++ Q) ∧ (∀ q ∈ Q, x < q) ∧ (P ++ Q ++ x :: R).Perm xs

theorem Ins.start {xs L : List Int} {a : Nat} (ha : a < L.length) (ho : Ord (L.take a)) (hp : L.Perm xs) : Ins xs L[a] (L.take a) [] (L.drop (a + 1)) := by
  refine ⟨by simpa using ho, by simp, ?_⟩
  have e : L.take a ++ [] ++ L[a] :: L.drop (a + 1) = L := by
    rw [List.append_nil, ← List.drop_eq_getElem_cons ha, List.take_append_drop]
  rw [e]; exact hp

theorem Ins.shift {xs P Q R : List Int} {x z : Int} (h : Ins xs x (P ++ [z]) Q R) (hz : x < z) : Ins xs x P (z :: Q) R := by
  obtain ⟨a, b, c⟩ := h
  refine ⟨by simpa using a, ?_, by simpa using c⟩
  intro q hq
  rcases List.mem_cons.1 hq with rfl | hq
  · exact hz
  · exact b q hq

theorem Ins.done {xs P Q R : List Int} {x : Int} (h : Ins xs x P Q R) (hP : ∀ p ∈ P, p ≤ x) : Ord (P ++ x :: Q) ∧ (P ++ x :: (Q ++ R)).Perm xs := by
  obtain ⟨a, b, c⟩ := h
  unfold Ord at a ⊢
  rw [List.pairwise_append] at a ⊢
  refine ⟨⟨a.1, ?_, ?_⟩, ?_⟩
  · exact List.pairwise_cons.2 ⟨fun q hq => Int.le_of_lt (b q hq), a.2.1⟩
  · intro p hp q hq
    rcases List.mem_cons.1 hq with rfl | hq
    · exact hP p hp
    · exact a.2.2 p hp q hq
  · refine List.Perm.trans ?_ c
    rw [List.append_assoc]
    exact List.Perm.append_left P (List.perm_middle.symm)

/-- The last of a row in order is the greatest. -/
theorem ord_last {P : List Int} {z x : Int} (h : Ord (P ++ [z])) (hz : z ≤ x) : ∀ p ∈ P ++ [z], p ≤ x := by
  intro p hp
  unfold Ord at h
  rw [List.pairwise_append] at h
  rcases List.mem_append.1 hp with hp | hp
  · have := h.2.2 p hp z (by simp); omega
  · simp at hp; omega

theorem countP_split (p : Int → Bool) (L : List Int) (m : Nat) (hm : m ≤ L.length) (h1 : ∀ j (hj : j < L.length), j < m → p L[j] = true) (h2 : ∀ j (hj : j < L.length), m ≤ j → p L[j] = false) : L.countP p = m := by
  have e : L.countP p = (L.take m).countP p + (L.drop m).countP p := by rw [← List.countP_append, List.take_append_drop]
  have a : (L.take m).countP p = (L.take m).length := by
    rw [List.countP_eq_length]
    intro x hx
    obtain ⟨j, hj, rfl⟩ := List.getElem_of_mem hx
    simp at hj
    rw [List.getElem_take]
    exact h1 j (by omega) (by omega)
  have b : (L.drop m).countP p = 0 := by
    rw [List.countP_eq_zero]
    intro x hx
    obtain ⟨j, hj, rfl⟩ := List.getElem_of_mem hx
    simp at hj
    rw [List.getElem_drop]
    simp [h2 (m + j) (by omega) (by omega)]
  rw [e, a, b]
  simp [hm]

theorem ord_le {L : List Int} (h : Ord L) {i j : Nat} (hi : i < L.length) (hj : j < L.length) (hij : i ≤ j) : L[i] ≤ L[j] := by
  rcases Nat.lt_or_eq_of_le hij with hl | rfl
  · exact List.pairwise_iff_getElem.1 h i j hi hj hl
  · exact Int.le_refl _

/-- WHAT THE SCAN HAS SEEN of the first k: where x stands first and last; or -1 both. -/
def Seen (L : List Int) (x : Int) (k : Nat) (f l : Int) : Prop :=
  (f = -1 ∧ l = -1 ∧ ∀ j (hj : j < L.length), j < k → L[j] ≠ x) ∨
  ∃ (F T : Nat) (hF : F < L.length) (hT : T < L.length), f = F ∧ l = T ∧ F ≤ T ∧ T < k ∧ L[F] = x ∧ L[T] = x ∧ (∀ j (hj : j < L.length), j < F → L[j] ≠ x) ∧ ∀ j (hj : j < L.length), T < j → j < k → L[j] ≠ x
theorem Seen.start (L : List Int) (x : Int) : Seen L x 0 (-1) (-1) := .inl ⟨rfl, rfl, fun j hj h => absurd h (by omega)⟩
theorem Seen.miss {L : List Int} {x : Int} {k : Nat} {f l : Int} (h : Seen L x k f l) (hk : k < L.length) (hx : L[k] ≠ x) : Seen L x (k + 1) f l := by
  rcases h with ⟨a, b, c⟩ | ⟨F, T, hF, hT, a, b, c, d, e, g, m, n⟩
  · refine .inl ⟨a, b, fun j hj hjk => ?_⟩
    by_cases e : j = k
    · subst e; exact hx
    · exact c j hj (by omega)
  · refine .inr ⟨F, T, hF, hT, a, b, c, by omega, e, g, m, fun j hj h1 h2 => ?_⟩
    by_cases e : j = k
    · subst e; exact hx
    · exact n j hj h1 (by omega)
theorem Seen.first {L : List Int} {x : Int} {k : Nat} {f l : Int} (h : Seen L x k f l) (hk : k < L.length) (hx : L[k] = x) (hf : f < 0) : Seen L x (k + 1) k k := by
  rcases h with ⟨a, b, c⟩ | ⟨F, T, hF, hT, a, _⟩
  · exact .inr ⟨k, k, hk, hk, rfl, rfl, Nat.le_refl _, by omega, hx, hx, fun j hj h => c j hj h, fun j hj h1 h2 => absurd h2 (by omega)⟩
  · omega
theorem Seen.again {L : List Int} {x : Int} {k : Nat} {f l : Int} (h : Seen L x k f l) (hk : k < L.length) (hx : L[k] = x) (hf : 0 ≤ f) : Seen L x (k + 1) f k := by
  rcases h with ⟨a, b, c⟩ | ⟨F, T, hF, hT, a, b, c, d, e, g, m, n⟩
  · omega
  · exact .inr ⟨F, k, hF, hk, a, rfl, by omega, by omega, e, hx, m, fun j hj h1 h2 => absurd h2 (by omega)⟩
theorem Seen.bd {L : List Int} {x : Int} {k : Nat} {f l : Int} (h : Seen L x k f l) : -1 ≤ f ∧ f < L.length ∧ -1 ≤ l ∧ l < L.length := by
  rcases h with ⟨a, b, c⟩ | ⟨F, T, hF, hT, a, b, _⟩ <;> omega

/-- THE PLAIN LAW. -/
theorem ranks {L H : List Int} {x f l : Int} (ho : Ord L) (hp : L.Perm H) (hx : x ∈ H) (hs : Seen L x L.length f l) :
    ((H.countP (fun z => decide (z < x)) : Nat) : Int) = f ∧ ((H.countP (fun z => decide (x < z)) : Nat) : Int) = H.length - 1 - l := by
  have hxL : x ∈ L := hp.symm.subset hx
  have hlen := hp.length_eq
  rcases hs with ⟨_, _, c⟩ | ⟨F, T, hF, hT, a, b, c, d, e, g, m, n⟩
  · obtain ⟨j, hj, rfl⟩ := List.getElem_of_mem hxL
    exact absurd rfl (c j hj hj)
  · rw [← hp.countP_eq, ← hp.countP_eq]
    constructor
    · rw [a, countP_split _ L F (by omega)]
      · intro j hj hjF
        have h1 := ord_le ho hj hF (by omega)
        have h2 := m j hj hjF
        simp; omega
      · intro j hj hjF
        have h1 := ord_le ho hF hj hjF
        simp; omega
    · have hsum := List.length_eq_countP_add_countP (fun z => decide (x < z)) (l := L)
      have h2 : L.countP (fun z => decide ¬(decide (x < z)) = true) = T + 1 := by
        refine countP_split _ L (T + 1) (by omega) ?_ ?_
        · intro j hj hjT
          have h1 := ord_le ho hj hT (by omega)
          simp; omega
        · intro j hj hjT
          have h1 := ord_le ho hT hj (by omega)
          have h2 := n j hj (by omega) hj
          simp; omega
      omega
end Go.Proofs.Qxb6613322a
