/-
  A REGION THAT DRAWS ITS ORDER, BY AN INVARIANT: whatever order is drawn, each operation that may come up keeps it.
-/
import Derived.Orders
import Derived.RegionTactic
import Derived.StillTail
import Derived.Test.Qxb6613322aNcsSt
namespace Go.Proofs.Qxb6613322a
open Go.RowKit
set_option linter.unusedVariables false

theorem countP_mark (L : Nat → Bool) (i : Nat) (hL : L i = false) : ∀ n, (List.range n).countP (fun j => if j = i then true else L j) = (List.range n).countP L + if i < n then 1 else 0
  | 0 => by simp
  | n + 1 => by
    rw [List.range_succ, List.countP_append, List.countP_append, countP_mark L i hL n]
    by_cases e : n = i
    · subst e
      simp [hL]
    · by_cases e2 : i < n
      · simp [e, e2, show i < n + 1 by omega]; omega
      · simp [e, e2, show ¬ i < n + 1 by omega]
theorem countP_full {L : Nat → Bool} : ∀ {n : Nat}, n ≤ (List.range n).countP L → ∀ i, i < n → L i = true
  | 0, _, i, hi => absurd hi (by omega)
  | n + 1, h, i, hi => by
    rw [List.range_succ, List.countP_append] at h
    have hle : (List.range n).countP L ≤ n := by simpa using List.countP_le_length (p := L) (l := List.range n)
    have h1 : List.countP L [n] ≤ 1 := by simpa using List.countP_le_length (p := L) (l := [n])
    by_cases e : i = n
    · subst e
      cases hv : L i with
      | true => rfl
      | false => simp [hv] at h; omega
    · exact countP_full (n := n) (by omega) i (by omega)

theorem wpAny_inv {P : Program} {md : Region.Mode} {ops : Array Oper} {Q : Exit → Act → World → Prop} (I : (Nat → Bool) → Act → World → Prop)
    (hedges : ∀ (i : Nat) (o : Oper), ops[i]? = some o → ∀ e ∈ o.after, e.on < i)
    (hstep : ∀ (L : Nat → Bool) (a : Act) (w : World) (i : Nat) (o : Oper), I L a w → ops[i]? = some o → L i = false → (∀ e ∈ o.after, Region.binds md e = true → L e.on = true) →
      wpOp P ops Q i (fun a' w' => I (fun j => if j = i then true else L j) a' w') a w)
    (hdone : ∀ (L : Nat → Bool) (a : Act) (w : World), I L a w → (∀ i, i < ops.size → L i = true) → Q .normal a w) :
    ∀ (fuel : Nat) (listed : Array Bool) (a : Act) (w : World), listed.size = ops.size → ops.size ≤ fuel + (List.range ops.size).countP (fun i => listed.getD i false) → I (fun i => listed.getD i false) a w → wpAny P md ops Q fuel listed a w := by
  have hempty : ∀ (listed : Array Bool), listed.size = ops.size → Region.ready md ops listed = [] → ∀ n i, i < n → i < ops.size → listed.getD i false = true := by
    intro listed hs hr n
    induction n with
    | zero => intro i hi; omega
    | succ n ih =>
      intro i hi hio
      cases hv : listed.getD i false with
      | true => rfl
      | false =>
        exfalso
        have hmem : i ∈ Region.ready md ops listed := by
          refine mem_ready.2 ⟨getD_in (by omega) hv, ops[i], Array.getElem?_eq_getElem hio, fun e he _ => ?_⟩
          have hlt := hedges i ops[i] (Array.getElem?_eq_getElem hio) e he
          exact ih e.on (by omega) (by omega)
        rw [hr] at hmem
        cases hmem
  intro fuel
  induction fuel with
  | zero =>
    intro listed a w hs hc hI
    have hall := countP_full (L := fun i => listed.getD i false) (n := ops.size) (by omega)
    refine ⟨?_, hdone _ a w hI hall⟩
    apply List.eq_nil_iff_forall_not_mem.2
    intro i hi
    obtain ⟨h1, o, ho, _⟩ := mem_ready.1 hi
    have hio := (Array.getElem?_eq_some_iff.1 ho).1
    have := hall i hio
    rw [getD_both h1] at this
    cases this
  | succ fuel ih =>
    intro listed a w hs hc hI
    refine ⟨fun hr => hdone _ a w hI (fun i hi => hempty listed hs hr (i + 1) i (by omega) hi), fun i hi => ?_⟩
    obtain ⟨h1, o, ho, hdep⟩ := mem_ready.1 hi
    have hio := (Array.getElem?_eq_some_iff.1 ho).1
    have hfun : (fun j => (listed.setIfInBounds i true).getD j false) = fun j => if j = i then true else listed.getD j false := by
      funext j
      by_cases e : j = i
      · subst e
        simp [hs, hio]
      · rw [if_neg e, getD_set_ne false (by omega)]
    refine wpOp_mono (fun a' w' hI' => ih (listed.setIfInBounds i true) a' w' (by simpa using hs) ?_ ?_) (hstep _ a w i o hI ho (getD_both h1) hdep)
    · rw [hfun, countP_mark (fun j => listed.getD j false) i (getD_both h1), if_pos hio]
      omega
    · rw [hfun]; exact hI'

theorem wp_region_inv {P : Program} {id : Nat} {ops : Array Oper} {Q : Exit → Act → World → Prop} {a : Act} {w : World} (hm : P.follows .mixedOrders = true) (I : (Nat → Bool) → Act → World → Prop)
    (hedges : (List.range ops.size).all (fun i => ((ops[i]?).map fun o => o.after.all fun e => decide (e.on < i)).getD true) = true)
    (h0 : I (fun _ => false) a w.drew)
    (hstep : ∀ (L : Nat → Bool) (a : Act) (w : World) (i : Nat) (o : Oper), I L a w → ops[i]? = some o → L i = false → (∀ e ∈ o.after, Region.binds .any e = true → L e.on = true) →
      wpOp P ops Q i (fun a' w' => I (fun j => if j = i then true else L j) a' w') a w)
    (hdone : ∀ (L : Nat → Bool) (a : Act) (w : World), I L a w → (∀ i, i < ops.size → L i = true) → Q .normal a w) : (Code.region id ops true).wp P Q a w := by
  refine wp_region_any hm ?_
  refine wpAny_inv I ?_ hstep hdone ops.size (Array.replicate ops.size false) a _ (by simp) (by omega) ?_
  · intro i o ho e he
    have hio := (Array.getElem?_eq_some_iff.1 ho).1
    have h := List.all_eq_true.1 hedges i (List.mem_range.2 hio)
    rw [ho] at h
    simp only [Option.map_some, Option.getD_some] at h
    simpa using Array.all_eq_true'.1 h e he
  · have e : (fun i => (Array.replicate ops.size false).getD i false) = fun _ => false := by funext i; exact getD_replicate_false _ _
    rw [e]; exact h0
end Go.Proofs.Qxb6613322a
