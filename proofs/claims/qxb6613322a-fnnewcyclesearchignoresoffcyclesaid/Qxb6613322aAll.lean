/-
  (*chunkList).all, A RANGE OVER A FUNCTION: the iterator has its contract.
-/
import Derived.RangeFuncNested
import Derived.RangeFuncBound
import Derived.RangeFuncCalls
import Derived.RangeFuncLeaves
import Derived.Shelf.Abstract
import Derived.Shelf.RegionOpen
import Derived.WalkKit
import Derived.OwnWalkIn
import Derived.TacticsInMore
import Derived.LoopNIn
import Derived.LoopIn
import Derived.Test.Qxb6613322aRead
namespace Go.Proofs.Qxb6613322a
open Go.RowKit Go.Shelf
set_option linter.unusedVariables false
attribute [local go_sem] Oper.semAt_some

def encA (hA : Nat) {n : Nat} (x : Fin n) : Array Value := #[.int .i64 (x.val : Int), .pointer (some ⟨hA, x.val * 4, none⟩)]
/-- the first k indices -/
def firsts (n k : Nat) : List (Fin n) := (List.finRange n).take k
theorem firsts_succ {n k : Nat} (h : k < n) : firsts n (k + 1) = firsts n k ++ [⟨k, h⟩] := by
  unfold firsts
  rw [List.take_succ_eq_append_getElem (by simpa using h)]
  simp
theorem firsts_length {n k : Nat} (h : k ≤ n) : (firsts n k).length = k := by simp [firsts, h]

set_option maxRecDepth 100000 in
set_option maxHeartbeats 2000000 in
theorem all34 (n : Nat) (hn : n ≤ 4096) (CK hA B Bn l d : Nat) (T E : Nat → Int) (X : Nat → Bool) (J Jx : List (Fin n) → World → Prop)
    (hY : ∀ pre x W, J pre W → pre.length < n → YieldAt Fence.wide d Try.prog l (encA hA x) W fun e W' => (e = .returned (.bool true) ∧ J (pre ++ [x]) W' ∧ Below B W W') ∨ (e = .returned (.bool false) ∧ Jx (pre ++ [x]) W'))
    (W : World) (hBn : W.cell? ⟨Bn, 0, none⟩ = some (.pointer (some ⟨CK, 12, none⟩))) (h : AcqH W B CK n hA T E X) (h0 : J [] W) :
    CallsIn Fence.wide (d + 1) Try.prog 34 #[.func (.yield l) #[] #[], .pointer (some ⟨Bn, 0, none⟩)] W fun e W' => (∃ v, e = .returned v) ∧ ((∃ ys, ys = firsts n n ∧ J ys W') ∨ (∃ pre, True ∧ Jx pre W')) := by
  obtain ⟨h00, ⟨rfl, hc⟩ | ⟨h1, gA, cA, cH, a, b, c, dd, e⟩⟩ := h
  · refine callsIn_of_wp Try.func34 rfl trivial ?_ rfl
    simp only [Try.ntmps34, List.size_toArray, List.length_cons, List.length_nil, Nat.reduceAdd, Nat.reduceSub, Array.replicate_succ, Array.replicate_zero, List.push_toArray, List.append_toArray, List.nil_append, List.cons_append]
    gi_wp2
    gi_loopw [11] (fun i wr => i = .int .i64 0 ∧ J [] wr) (fun _ _ => 0)
    case atStart => exact ⟨rfl, h0⟩
    case round =>
      obtain ⟨rfl, hJs⟩ := hrel
      gi_wp2
      go_end0
      exact ⟨⟨_, rfl⟩, .inl ⟨[], by simp [firsts], hJs⟩⟩
  · refine callsIn_of_wp Try.func34 rfl trivial ?_ rfl
    simp only [Try.ntmps34, List.size_toArray, List.length_cons, List.length_nil, Nat.reduceAdd, Nat.reduceSub, Array.replicate_succ, Array.replicate_zero, List.push_toArray, List.append_toArray, List.nil_append, List.cons_append]
    gi_wp2
    gi_loopw [11] (fun i wr => (i = .int .i64 0 ∧ Below B W wr ∧ J [] wr) ∨ (i = .int .i64 1 ∧ J (firsts n n) wr)) (fun i _ => 1 - (intOf i).toNat)
    case atStart => exact .inl ⟨rfl, Below.refl _ _, h0⟩
    case round =>
      rcases hrel with ⟨rfl, hB, hJs⟩ | ⟨rfl, hJs⟩
      · have hcx := (hB.cell (p := ⟨gA, 0, none⟩) b).trans dd
        gi_wp2
        gi_loopw [18, 5] (fun i _ wr => ∃ k : Nat, k ≤ n ∧ i = .int .i64 k ∧ J (firsts n k) wr ∧ Below B W wr) (fun i _ _ => n - (intOf i).toNat)
        case atStart => exact ⟨0, Nat.zero_le _, rfl, hJs, hB⟩
        case round =>
          clear hJs hB hcx
          rename World => wr
          obtain ⟨k, hk, rfl, hJs, hB⟩ := hrel
          by_cases hlt : k < n
          · obtain ⟨fn, tmps, assign, body, hy, hR⟩ := hY _ ⟨k, hlt⟩ wr hJs (by rw [firsts_length hk]; exact hlt)
            simp only [encA] at hy
            gi_wp2
            refine hR.mono ?_
            rintro e W3 (⟨rfl, hJ3, hk3⟩ | ⟨rfl, hJx3⟩)
            · gi_wp2
              go_roundw
              case rel => exact ⟨k + 1, by omega, by simp, by rw [firsts_succ hlt]; exact hJ3, hB.trans hk3⟩
              case measure => simp [intOf]; omega
            · gi_wp2
              refine bodyPost_ret (results_none rfl _ _ _) rfl ?_
              exact ⟨⟨_, rfl⟩, .inr ⟨_, trivial, hJx3⟩⟩
          · obtain rfl : k = n := by omega
            gi_wp2
            go_roundw
            case rel => exact .inr ⟨by simp, hJs⟩
            case measure => simp [intOf]
      · gi_wp2
        go_end0
        exact ⟨⟨_, rfl⟩, .inl ⟨_, rfl, hJs⟩⟩

set_option maxHeartbeats 1000000 in
/-- (*chunkList).all: the receiver is boxed; the function value captures the box. -/
theorem all26 (CK : Nat) (w : World) :
    Calls Try.prog 26 #[.pointer (some ⟨CK, 12, none⟩)] w fun e w' => e = .returned (.func (.func 34) #[] #[.pointer (some ⟨w.heap.size, 0, none⟩)]) ∧ w' = w.alloc (.cells #[.pointer (some ⟨CK, 12, none⟩)] 91) := by
  go_enter Try.func26, Try.ntmps26
  go_wp2
  go_ret
  exact ⟨rfl, rfl⟩

/-- all() HANDS BACK A VALUE THAT 'SeqStopsK', AT 'Kp := Below B'. -/
theorem all_stops (n : Nat) (hn : n ≤ 4096) (CK hA B Bn d : Nat) (T E : Nat → Int) (X : Nat → Bool) (w : World) (hBn : Bn < w.heap.size) (hB : B ≤ w.heap.size) (hc : w.cell? ⟨Bn, 0, none⟩ = some (.pointer (some ⟨CK, 12, none⟩))) (h : AcqH w B CK n hA T E X) :
    SeqStopsK Fence.wide (d + 1) Try.prog 34 #[.pointer (some ⟨Bn, 0, none⟩)] (encA hA (n := n)) (Below B) (fun ys => ys = firsts n n) (fun _ => True) n w := fun l J Jx W hW _ _ hY h0 =>
  all34 n hn CK hA B Bn l d T E X J Jx hY W ((hW.cell (p := ⟨Bn, 0, none⟩) hBn).trans hc) (h.below (hW.mono hB)) h0
end Go.Proofs.Qxb6613322a
