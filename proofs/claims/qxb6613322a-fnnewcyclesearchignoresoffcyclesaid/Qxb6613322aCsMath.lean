/-
  PLAIN LAWS: a counting sort, bucket by bucket.
-/
namespace Go.Proofs.Qxb6613322a

/-- A STABLE SORT BY KEYS 0 .. keys - 1: bucket by bucket. -/
def csort (K : Nat → Nat) (keys : Nat) (L : List Nat) : List Nat := (List.range keys).flatMap fun k => L.filter fun i => K i == k
def cP (K : Nat → Nat) (L : List Nat) (k : Nat) : Nat := L.countP fun i => K i == k
def offs (K : Nat → Nat) (L : List Nat) (k : Nat) : Nat := L.countP fun i => decide (K i < k)

theorem offs_zero (K : Nat → Nat) (L : List Nat) : offs K L 0 = 0 := by simp [offs]
theorem offs_succ (K : Nat → Nat) (L : List Nat) (k : Nat) : offs K L (k + 1) = offs K L k + cP K L k := by
  induction L with
  | nil => simp [offs, cP]
  | cons x L ih =>
    simp only [offs, cP, List.countP_cons] at ih ⊢
    rw [ih]
    by_cases h1 : K x < k
    · have h2 : ¬ K x = k := by omega
      simp [h1, h2, show K x < k + 1 by omega]; omega
    · by_cases h2 : K x = k
      · simp [h2]; omega
      · simp [h1, h2, show ¬ K x < k + 1 by omega]
theorem offs_all {K : Nat → Nat} {L : List Nat} {keys : Nat} (h : ∀ i ∈ L, K i < keys) : offs K L keys = L.length := by
  unfold offs
  rw [List.countP_eq_length]
  intro i hi
  simpa using h i hi
theorem offs_le (K : Nat → Nat) (L : List Nat) (k : Nat) : offs K L k ≤ L.length := List.countP_le_length
theorem offs_mono (K : Nat → Nat) (L : List Nat) {a b : Nat} (h : a ≤ b) : offs K L a ≤ offs K L b := by
  unfold offs
  apply List.countP_mono_left
  intro x _ hx
  simp at hx ⊢; omega
theorem cP_take_succ (K : Nat → Nat) (L : List Nat) {j : Nat} (hj : j < L.length) (k : Nat) : cP K (L.take (j + 1)) k = cP K (L.take j) k + if K L[j] = k then 1 else 0 := by
  unfold cP
  rw [List.take_succ_eq_append_getElem hj, List.countP_append]
  simp [List.countP_cons]
theorem cP_drop (K : Nat → Nat) (L : List Nat) {j : Nat} (hj : j < L.length) (k : Nat) : cP K (L.drop j) k = cP K (L.drop (j + 1)) k + if K L[j] = k then 1 else 0 := by
  unfold cP
  rw [List.drop_eq_getElem_cons hj, List.countP_cons]
  by_cases h : K L[j] = k <;> simp only [h, beq_self_eq_true, if_true, beq_iff_eq, if_false]
theorem cP_split (K : Nat → Nat) (L : List Nat) (j k : Nat) : cP K (L.take j) k + cP K (L.drop j) k = cP K L k := by
  unfold cP
  rw [← List.countP_append, List.take_append_drop]
theorem cP_le (K : Nat → Nat) (L : List Nat) (k : Nat) : cP K L k ≤ L.length := List.countP_le_length

/-- A bucket when j have been placed. -/
def bucket (K : Nat → Nat) (L : List Nat) (j k : Nat) : List Nat := (L.take j).filter (fun i => K i == k) ++ List.replicate (cP K (L.drop j) k) 0
/-- The row when j have been placed. -/
def cont (K : Nat → Nat) (keys : Nat) (L : List Nat) (j : Nat) : List Nat := (List.range keys).flatMap (bucket K L j)

theorem bucket_length (K : Nat → Nat) (L : List Nat) (j k : Nat) : (bucket K L j k).length = cP K L k := by
  unfold bucket
  rw [List.length_append, List.length_replicate, ← List.countP_eq_length_filter, ← cP_split K L j k]
  rfl
theorem prefix_length (K : Nat → Nat) (L : List Nat) (j : Nat) : ∀ k, ((List.range k).flatMap (bucket K L j)).length = offs K L k
  | 0 => by simp [offs_zero]
  | k + 1 => by
    rw [List.range_succ, List.flatMap_append, List.length_append, prefix_length K L j k, offs_succ]
    simp [bucket_length]
theorem cont_length {K : Nat → Nat} {keys : Nat} {L : List Nat} (h : ∀ i ∈ L, K i < keys) (j : Nat) : (cont K keys L j).length = L.length := by
  unfold cont; rw [prefix_length, offs_all h]
theorem cont_end (K : Nat → Nat) (keys : Nat) (L : List Nat) : cont K keys L L.length = csort K keys L := by
  unfold cont csort bucket
  simp [cP]
theorem cont_start {K : Nat → Nat} {keys : Nat} {L : List Nat} (h : ∀ i ∈ L, K i < keys) : cont K keys L 0 = List.replicate L.length 0 := by
  have hl := cont_length h 0
  rw [List.eq_replicate_iff]
  refine ⟨hl, fun b hb => ?_⟩
  unfold cont bucket at hb
  simp at hb
  obtain ⟨_, _, _, h⟩ := hb
  exact h

theorem bucket_other (K : Nat → Nat) (L : List Nat) {j : Nat} (hj : j < L.length) {k : Nat} (hk : K L[j] ≠ k) : bucket K L (j + 1) k = bucket K L j k := by
  unfold bucket
  rw [List.take_succ_eq_append_getElem hj, List.filter_append, cP_drop K L hj k]
  simp [hk]
theorem bucket_own (K : Nat → Nat) (L : List Nat) {j : Nat} (hj : j < L.length) : bucket K L (j + 1) (K L[j]) = (bucket K L j (K L[j])).set (cP K (L.take j) (K L[j])) L[j] := by
  unfold bucket
  have e1 : cP K (L.drop j) (K L[j]) = cP K (L.drop (j + 1)) (K L[j]) + 1 := by
    rw [cP_drop K L hj]; simp
  have e2 : cP K (L.take j) (K L[j]) = ((L.take j).filter fun i => K i == K L[j]).length := by simp [cP, List.countP_eq_length_filter]
  rw [List.take_succ_eq_append_getElem hj, List.filter_append, e1, e2, List.replicate_succ, List.set_append_right _ _ (Nat.le_refl _)]
  simp
theorem range_split {k keys : Nat} (h : k < keys) : List.range keys = List.range k ++ k :: (List.range keys).drop (k + 1) := by
  have h1 : k < (List.range keys).length := by simpa using h
  have h2 : (List.range keys).take k = List.range k := by rw [List.take_range]; congr 1; omega
  rw [← h2]
  have h3 : (List.range keys)[k] = k := by simp
  conv => lhs; rw [← List.take_append_drop k (List.range keys), List.drop_eq_getElem_cons h1, h3]
theorem flatMap_congr' {α β : Type} {l : List α} {f g : α → List β} (h : ∀ a ∈ l, f a = g a) : l.flatMap f = l.flatMap g := by
  induction l with
  | nil => rfl
  | cons a l ih =>
    rw [List.flatMap_cons, List.flatMap_cons, h a (by simp), ih (fun b hb => h b (by simp [hb]))]

/-- ONE PLACING. -/
theorem cont_step {K : Nat → Nat} {keys : Nat} {L : List Nat} {j : Nat} (hj : j < L.length) (hk : K L[j] < keys) : cont K keys L (j + 1) = (cont K keys L j).set (offs K L (K L[j]) + cP K (L.take j) (K L[j])) L[j] := by
  unfold cont
  rw [range_split hk, List.flatMap_append, List.flatMap_append, List.flatMap_cons, List.flatMap_cons]
  have e1 : (List.range (K L[j])).flatMap (bucket K L (j + 1)) = (List.range (K L[j])).flatMap (bucket K L j) := flatMap_congr' fun a ha => bucket_other K L hj (by have := List.mem_range.1 ha; omega)
  have e2 : ((List.range keys).drop (K L[j] + 1)).flatMap (bucket K L (j + 1)) = ((List.range keys).drop (K L[j] + 1)).flatMap (bucket K L j) := flatMap_congr' fun a ha => bucket_other K L hj (by
    obtain ⟨i, hi, rfl⟩ := List.getElem_of_mem ha
    rw [List.getElem_drop, List.getElem_range]; omega)
  rw [e1, e2, bucket_own K L hj]
  have hlen := prefix_length K L j (K L[j])
  rw [List.set_append_right _ _ (by omega), hlen, Nat.add_sub_cancel_left]
  have hb : cP K (L.take j) (K L[j]) < (bucket K L j (K L[j])).length := by
    rw [bucket_length, ← cP_split K L j]
    have : 0 < cP K (L.drop j) (K L[j]) := by
      rw [cP_drop K L hj]; simp
    omega
  rw [List.set_append_left _ _ hb]
/-- .. within the row. -/
theorem place_lt {K : Nat → Nat} {L : List Nat} {j : Nat} (hj : j < L.length) : offs K L (K L[j]) + cP K (L.take j) (K L[j]) < L.length := by
  have h1 : offs K L (K L[j] + 1) ≤ L.length := offs_le K L _
  rw [offs_succ, ← cP_split K L j] at h1
  have : 0 < cP K (L.drop j) (K L[j]) := by
    rw [cP_drop K L hj]; simp
  omega

/-! ### the sort's own rows -/
/-- after counting j -/
def s1 (K : Nat → Nat) (L : List Nat) (j k : Nat) : Nat := if k = 0 then 0 else cP K (L.take j) (k - 1)
theorem s1_step (K : Nat → Nat) (L : List Nat) {j : Nat} (hj : j < L.length) (k : Nat) : s1 K L (j + 1) k = if k = K L[j] + 1 then s1 K L j k + 1 else s1 K L j k := by
  unfold s1
  by_cases h0 : k = 0
  · simp [h0]
  · simp only [h0, if_false]
    rw [cP_take_succ K L hj]
    by_cases e : k = K L[j] + 1
    · simp [e]
    · have : ¬ K L[j] = k - 1 := by omega
      simp [e, this]
/-- after t sums -/
def s2 (K : Nat → Nat) (L : List Nat) (t k : Nat) : Nat := if k ≤ t then offs K L k else cP K L (k - 1)
theorem s2_start (K : Nat → Nat) (L : List Nat) (k : Nat) : s2 K L 0 k = s1 K L L.length k := by
  unfold s2 s1
  by_cases h0 : k = 0
  · simp [h0, offs_zero]
  · simp [h0]
theorem s2_step (K : Nat → Nat) (L : List Nat) (t k : Nat) : s2 K L (t + 1) k = if k = t + 1 then s2 K L t (t + 1) + s2 K L t t else s2 K L t k := by
  unfold s2
  by_cases e : k = t + 1
  · subst e
    simp only [Nat.le_refl, if_true, show ¬ t + 1 ≤ t by omega, if_false, Nat.add_sub_cancel]
    rw [offs_succ]; omega
  · rw [if_neg e]
    by_cases h : k ≤ t
    · rw [if_pos h, if_pos (by omega)]
    · rw [if_neg h, if_neg (by omega)]
/-- after j placings -/
def s3 (K : Nat → Nat) (L : List Nat) (j k : Nat) : Nat := offs K L k + cP K (L.take j) k
theorem s3_step (K : Nat → Nat) (L : List Nat) {j : Nat} (hj : j < L.length) (k : Nat) : s3 K L (j + 1) k = if k = K L[j] then s3 K L j k + 1 else s3 K L j k := by
  unfold s3
  rw [cP_take_succ K L hj]
  by_cases e : k = K L[j]
  · simp [e]; omega
  · simp [e, Ne.symm e]
theorem s3_start (K : Nat → Nat) (L : List Nat) {keys k : Nat} (hk : k ≤ keys) : s2 K L keys k = s3 K L 0 k := by
  unfold s2 s3; simp [hk, cP]
theorem s1_le (K : Nat → Nat) (L : List Nat) (j k : Nat) : s1 K L j k ≤ L.length := by
  unfold s1
  split
  · omega
  · have := cP_le K (L.take j) (k - 1); have := List.length_take_le' j L; omega
theorem s2_le (K : Nat → Nat) (L : List Nat) (t k : Nat) : s2 K L t k ≤ L.length := by
  unfold s2
  split
  · exact offs_le _ _ _
  · exact cP_le _ _ _
end Go.Proofs.Qxb6613322a
