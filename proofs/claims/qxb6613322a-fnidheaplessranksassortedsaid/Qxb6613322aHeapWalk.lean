/-
  THE WALK of FnIdHeapLessRanksAsSorted.
-/
import Derived.Test.Qxb6613322aSortWalk
namespace Go.Proofs.Qxb6613322a
open Go.RowKit

set_option maxHeartbeats 400000 in
theorem zzBytesHeap_any (a : Option Addr) (len cap : Nat) (i : Int) (w : World) (hl : len ≤ 9223372036854775807) :
    Calls Try.prog 6 #[.slice a len cap, .int .i64 i] w fun e w' => e = .returned (.bool (decide (len ≤ 1048576))) ∧ w' = w := by
  by_cases h1 : 1048576 < len
  · go_enter Try.func6, Try.ntmps6
    go_wp2
    go_ret
    exact ⟨ret_bool (by simp; omega), rfl⟩
  · go_enter Try.func6, Try.ntmps6
    go_wp2
    go_ret
    exact ⟨ret_bool (by simp; omega), rfl⟩

set_option maxHeartbeats 400000 in
theorem less_any (H n : Nat) (p q x y : Int) (w : World) (hp0 : 0 ≤ p) (hp : p < n) (hq0 : 0 ≤ q) (hq : q < n) (hcx : w.cell? ⟨H, p.toNat, none⟩ = some (.int .i32 x)) (hcy : w.cell? ⟨H, q.toNat, none⟩ = some (.int .i32 y)) :
    Calls Try.prog 8 #[.slice (some ⟨H, 0, none⟩) n n, .int .i64 p, .int .i64 q] w fun e w' => e = .returned (.bool (decide (x < y))) ∧ ∃ m, w' = w.drewN m := by
  go_enter Try.func8, Try.ntmps8
  go_wp2
  go_quiet (fail)
  go_wp2
  go_ret
  exact ⟨rfl, _, rfl⟩

/-- BETWEEN TWO ROUNDS of 's[p] = h[p]'. -/
def CopyIn (w : World) (n : Nat) (Z : Nat → Int) (k : Nat) (wr : World) : Prop :=
  wr.rowIs (w.heap.size + 1) 21 n (fun j => .int .i32 (if j < k then Z j else 0)) ∧ Row wr w.heap.size 21 (i32s Z n) ∧ Below w.heap.size w wr
theorem CopyIn.start (w : World) (n : Nat) (Z : Nat → Int) : CopyIn w n Z 0 ((w.alloc (.cells (i32s Z n).toArray 21)).alloc (.cells (madeCells #[.int .i32 0] n) 21)) := by
  refine ⟨?_, (Row.new w 21 _).alloc _, ((Below.refl _ _).alloc (Nat.le_refl _) _).alloc (by simp) _⟩
  have := World.rowIs_made (w.alloc (.cells (i32s Z n).toArray 21)) (.int .i32 0) n 21
  simp only [World.size_alloc] at this
  exact this.congr (fun i hi => by simp)
theorem CopyIn.step {w wr : World} {n k : Nat} {Z : Nat → Int} (h : CopyIn w n Z k wr) : CopyIn w n Z (k + 1) (wr.setCell ⟨w.heap.size + 1, k, none⟩ (.int .i32 (Z k))) :=
  ⟨(h.1.set k (.int .i32 (Z k))).congr (fun i hi => by
    by_cases e : i = k
    · subst e; simp
    · by_cases e2 : i < k
      · simp [e, e2, show i < k + 1 by omega]
      · simp [e, e2, show ¬ i < k + 1 by omega]), h.2.1.setOther (a := ⟨w.heap.size + 1, k, none⟩) (by simp) _, h.2.2.setCell (p := ⟨w.heap.size + 1, k, none⟩) (by simp) _⟩
theorem CopyIn.done {w wr : World} {n : Nat} {Z : Nat → Int} (h : CopyIn w n Z n wr) : Row wr (w.heap.size + 1) 21 (i32l ((List.range n).map Z)) := by
  have := Row.of_rowIs (h.1.congr (g := fun j => .int .i32 (Z j)) (fun i hi => by simp [hi]))
  simpa [i32l, Function.comp_def] using this

theorem countP_snoc (p : Int → Bool) (Z : Nat → Int) (k : Nat) : ((List.range (k + 1)).map Z).countP p = ((List.range k).map Z).countP p + (if p (Z k) then 1 else 0) := by
  rw [List.range_succ, List.map_append, List.countP_append]
  simp [List.countP_cons]
def cntLt (Z : Nat → Int) (x : Int) (k : Nat) : Nat := ((List.range k).map Z).countP (fun z => decide (z < x))
def cntGt (Z : Nat → Int) (x : Int) (k : Nat) : Nat := ((List.range k).map Z).countP (fun z => decide (x < z))
theorem cntLt_le (Z : Nat → Int) (x : Int) (k : Nat) : cntLt Z x k ≤ k := by unfold cntLt; have := List.countP_le_length (p := fun z => decide (z < x)) (l := (List.range k).map Z); simpa using this
theorem cntGt_le (Z : Nat → Int) (x : Int) (k : Nat) : cntGt Z x k ≤ k := by unfold cntGt; have := List.countP_le_length (p := fun z => decide (x < z)) (l := (List.range k).map Z); simpa using this
theorem cntLt_yes (Z : Nat → Int) (x : Int) (k : Nat) (h : Z k < x) : cntLt Z x (k + 1) = cntLt Z x k + 1 := by unfold cntLt; rw [countP_snoc]; simp [h]
theorem cntLt_no (Z : Nat → Int) (x : Int) (k : Nat) (h : ¬ Z k < x) : cntLt Z x (k + 1) = cntLt Z x k := by unfold cntLt; rw [countP_snoc]; simp [h]
theorem cntGt_yes (Z : Nat → Int) (x : Int) (k : Nat) (h : x < Z k) : cntGt Z x (k + 1) = cntGt Z x k + 1 := by unfold cntGt; rw [countP_snoc]; simp [h]
theorem cntGt_no (Z : Nat → Int) (x : Int) (k : Nat) (h : ¬ x < Z k) : cntGt Z x (k + 1) = cntGt Z x k := by unfold cntGt; rw [countP_snoc]; simp [h]

set_option maxRecDepth 100000 in
set_option maxHeartbeats 2000000 in
theorem heapWalk (a : Option Addr) (n cap : Nat) (Z : Nat → Int) (i : Int) (w : World) (hn : n ≤ 9223372036854775807) (hZ : IntRow w a n Z) :
    Calls Try.prog 3 #[.slice a n cap, .int .i64 i] w fun e w' => e = .returned (.bool true) ∧ Below w.heap.size w w' := by
  have q22 : ∀ (w : World) (a : Option Addr) (n c n' c' : Nat), (binOp .neq 22 (.slice a n c) (.slice none n' c')).run Try.prog w = .ok (.bool (!a.isNone)) w := fun w a n c n' c' => run_neq_slice_nil_any w _ _ a n c n' c' Try.underlying22
  by_cases hb : n ≤ 1048576
  · have hb' : decide (n ≤ 1048576) = true := by simpa using hb
    go_enter Try.func3, Try.ntmps3
    go_wp2_with fail
    refine (zzBytesHeap_any a n cap i _ hn).mono ?_
    rintro e w' ⟨rfl, hw⟩
    rw [hw, hb']
    clear hw hb'
    by_cases h1 : 4096 < n
    · go_wp2
      go_ret
      exact ⟨rfl, Below.refl _ _⟩
    by_cases hi0 : i < 0
    · go_wp2
      go_ret
      exact ⟨rfl, Below.refl _ _⟩
    by_cases hi1 : (n : Int) ≤ i
    · go_wp2
      go_ret
      exact ⟨rfl, Below.refl _ _⟩
    obtain ⟨b, off, e, _, _⟩ := hZ 0 (by omega)
    have hmk := run_make_row' (P := Try.prog) 22 21 (.int .i32 0) 4 Try.underlying22 Try.info21 rfl .i64 .i64 n (by omega) (by omega)
    have hcp := fun ty => copied (P := Try.prog) w 22 21 ty (.int .i32 0) a n cap (i32s Z n) (i32s_length _ _) Try.underlying22 (by kernel_rfl) hZ.cells (i32s_one _ _)
    have ht : i.toNat < n := by omega
    subst e
    go_wp2_with fail
    go_loopg [43, 7] n (fun g v p wr => ∃ k : Nat, k ≤ n ∧ g = n - k ∧ v = .int .i64 k ∧ CopyIn w n Z k wr)
    case atStart => exact ⟨0, by omega, rfl, rfl, CopyIn.start _ _ _⟩
    case round =>
      obtain ⟨k, hk, hgk, rfl, hin⟩ := hrel
      have hG : Hid (gk = n - k) := hgk
      clear hgk
      by_cases hlt : k < n
      · have c1 := hin.2.1.cell (k := k) (i32s_get Z hlt)
        have c2 := hin.1.cell (i := k) hlt
        have c3 := hin.1.frozen k
        have hin1 := hin.step
        go_wp2
        go_roundg (n - (k + 1))
        case measure => have := hG.out; omega
        case rel => exact ⟨k + 1, by omega, rfl, by go_num, hin1⟩
      · have hkn : n = k := by omega
        subst hkn
        clear hlt hG
        have hR := hin.done
        go_wp2_with fail
        refine (sort_any _ n _ _ (by simp) (by omega) hR).mono ?_
        rintro e W3 ⟨rfl, ys, hord, hperm, hrow, hgrow⟩
        have hH3 : Row W3 w.heap.size 21 (i32s Z n) := hin.2.1.grown hgrow (by simp)
        have hB3 : Below w.heap.size w W3 := hin.2.2.grown hgrow hin.2.2.size (fun k e => by cases e; omega)
        have hlen : ys.length = n := by rw [hperm.length_eq]; simp
        have hci : W3.cell? ⟨w.heap.size, i.toNat, none⟩ = some (.int .i32 (Z i.toNat)) := hH3.cell (i32s_get Z ht)
        have HO : Hid (Ord ys ∧ ys.Perm ((List.range n).map Z)) := ⟨hord, hperm⟩
        have HL : Hid (ys.length = n) := hlen
        clear hord hperm hgrow hR hin hmk hcp hlen
        obtain ⟨x, hx⟩ : ∃ x, x = Z i.toNat := ⟨_, rfl⟩
        rw [← hx] at hci
        have HX : Hid (x = Z i.toNat) := hx
        clear hx
        go_wp2_with fail
        go_loopg [8, 9, 10, 58] n (fun g vf vl _ v wr => ∃ (k nd : Nat) (f l : Int), k ≤ n ∧ g = n - k ∧ v = .int .i64 k ∧ vf = .int .i64 f ∧ vl = .int .i64 l ∧ Hid (Seen ys x k f l) ∧ wr = W3.drewN nd)
        case atStart => exact ⟨0, 0, -1, -1, by omega, rfl, rfl, rfl, rfl, Seen.start _ _, rfl⟩
        case round =>
          obtain ⟨k, nd, f, l, hk, hgk, rfl, rfl, rfl, hseen, rfl⟩ := hrel
          have hG : Hid (gk = n - k) := hgk
          clear hgk
          by_cases hlt : k < n
          · have hkl : k < ys.length := by rw [HL.out]; exact hlt
            have c1 : W3.cell? ⟨w.heap.size + 1, k, none⟩ = some (.int .i32 ys[k]) := hrow.cell (by simp [i32l, hkl])
            have hli : (k : Int) < (n : Int) := by omega
            have hii : i < (n : Int) := by omega
            have hbd := hseen.out.bd
            rw [HL.out] at hbd
            obtain ⟨y, hy⟩ : ∃ y, y = ys[k] := ⟨_, rfl⟩
            rw [← hy] at c1
            by_cases hyx : y = x
            · have e1 : (y == x) = true := by simp [hyx]
              by_cases hf : f < 0
              · have hs1 : Hid (Seen ys x (k + 1) k k) := hseen.out.first hkl (by rw [← hy, hyx]) hf
                clear hseen hyx hy
                go_wp2
                go_quiet (fail)
                go_wp2
                go_roundg (n - (k + 1))
                case measure => have := hG.out; omega
                case rel => exact ⟨k + 1, _, _, _, by omega, rfl, by go_num, rfl, rfl, hs1, rfl⟩
              · have hs1 : Hid (Seen ys x (k + 1) f k) := hseen.out.again hkl (by rw [← hy, hyx]) (by omega)
                clear hseen hyx hy
                go_wp2
                go_quiet (fail)
                go_wp2
                go_roundg (n - (k + 1))
                case measure => have := hG.out; omega
                case rel => exact ⟨k + 1, _, _, _, by omega, rfl, by go_num, rfl, rfl, hs1, rfl⟩
            · have e1 : (y == x) = false := by simp [hyx]
              have hs1 : Hid (Seen ys x (k + 1) f l) := hseen.out.miss hkl (by rw [← hy]; exact hyx)
              clear hseen hyx hy
              go_wp2
              go_quiet (fail)
              go_wp2
              go_roundg (n - (k + 1))
              case measure => have := hG.out; omega
              case rel => exact ⟨k + 1, _, _, _, by omega, rfl, by go_num, rfl, rfl, hs1, rfl⟩
          · have hkn : n = k := by omega
            subst hkn
            have hx : x ∈ (List.range n).map Z := by rw [HX.out]; exact List.mem_map.2 ⟨i.toNat, by simpa using ht, rfl⟩
            have hs := hseen.out
            have hbd := hs.bd
            rw [HL.out] at hbd
            obtain ⟨hb0, hb1, hb2, hb3⟩ := hbd
            rw [← HL.out] at hs
            have hrk := ranks (HO.out).1 (HO.out).2 hx (by rw [HL.out] at hs ⊢; exact hs)
            simp only [List.length_map, List.length_range] at hrk
            have HR : Hid (((cntLt Z x n : Nat) : Int) = f ∧ ((cntGt Z x n : Nat) : Int) = n - 1 - l) := hrk
            clear hrk hs hx hseen hlt hG HO hrow HX hk
            go_wp2_with fail
            go_loopg [11, 12, 13, 77] n (fun g va vb _ v wr => ∃ k nd : Nat, k ≤ n ∧ g = n - k ∧ v = .int .i64 k ∧ va = .int .i64 (cntLt Z x k) ∧ vb = .int .i64 (cntGt Z x k) ∧ wr = W3.drewN nd)
            case atStart => exact ⟨0, nd, by omega, rfl, rfl, rfl, rfl, rfl⟩
            case round =>
              obtain ⟨k, nd2, hk, hgk, rfl, rfl, rfl, rfl⟩ := hrel
              have hG : Hid (gk = n - k) := hgk
              clear hgk
              have l1 := cntLt_le Z x k
              have l2 := cntGt_le Z x k
              by_cases hlt : k < n
              · have c1 : W3.cell? ⟨w.heap.size, k, none⟩ = some (.int .i32 (Z k)) := hH3.cell (i32s_get Z hlt)
                have hc : (Hid (decide (Z k < x) = true) ∧ Hid (cntLt Z x (k + 1) = cntLt Z x k + 1)) ∨ (Hid (decide (Z k < x) = false) ∧ Hid (cntLt Z x (k + 1) = cntLt Z x k)) := by
                  by_cases h : Z k < x
                  · exact .inl ⟨decide_eq_true h, cntLt_yes Z x k h⟩
                  · exact .inr ⟨decide_eq_false h, cntLt_no Z x k h⟩
                have hd : (Hid (decide (x < Z k) = true) ∧ Hid (cntGt Z x (k + 1) = cntGt Z x k + 1)) ∨ (Hid (decide (x < Z k) = false) ∧ Hid (cntGt Z x (k + 1) = cntGt Z x k)) := by
                  by_cases h : x < Z k
                  · exact .inl ⟨decide_eq_true h, cntGt_yes Z x k h⟩
                  · exact .inr ⟨decide_eq_false h, cntGt_no Z x k h⟩
                rcases hc with ⟨hc, hc'⟩ | ⟨hc, hc'⟩ <;> rcases hd with ⟨hd, hd'⟩ | ⟨hd, hd'⟩
                all_goals
                  go_wp2_with fail
                  refine (less_any w.heap.size n k i (Z k) x _ (by omega) (by omega) (by omega) (by omega) (by exact c1) (by exact hci)).mono ?_
                  rintro e w4 ⟨rfl, m4, rfl⟩
                  rw [hc.out]
                  go_wp2_with fail
                  refine (less_any w.heap.size n i k x (Z k) _ (by omega) (by omega) (by omega) (by omega) (by exact hci) (by exact c1)).mono ?_
                  rintro e w5 ⟨rfl, m5, rfl⟩
                  rw [hd.out]
                  go_wp2
                  go_roundg (n - (k + 1))
                  case measure => have := hG.out; omega
                  case rel => exact ⟨k + 1, _, by omega, rfl, by go_num, by rw [hc'.out] <;> go_num, by rw [hd'.out] <;> go_num, rfl⟩
              · have hkn : n = k := by omega
                subst hkn
                have q1 : (((cntLt Z x n : Nat) : Int) == f) = true := by rw [HR.out.1]; exact beq_self_eq_true _
                have q2 : (((cntGt Z x n : Nat) : Int) == (n : Int) - 1 - l) = true := by rw [HR.out.2]; exact beq_self_eq_true _
                clear hlt hG HR
                go_wp2
                go_ret
                exact ⟨rfl, below_drewN hB3 _⟩
  · have hb' : decide (n ≤ 1048576) = false := by simpa using hb
    go_enter Try.func3, Try.ntmps3
    go_wp2_with fail
    refine (zzBytesHeap_any a n cap i _ hn).mono ?_
    rintro e w' ⟨rfl, hw⟩
    rw [hw, hb']
    clear hw hb'
    go_wp2
    go_ret
    exact ⟨rfl, Below.refl _ _⟩
end Go.Proofs.Qxb6613322a
