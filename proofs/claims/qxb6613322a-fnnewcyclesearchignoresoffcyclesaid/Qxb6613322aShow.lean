/-
  WHAT A SEARCH OVER A SCHEDULE SHOWS (ZZcycleSearchParts behind ZZnewCycleSearch).
-/
import Derived.Test.Qxb6613322aLawCalls
import Derived.Test.Qxb6613322aPlain
import Derived.Test.Qxb6613322aRank
namespace Go.Proofs.Qxb6613322a
open Go.RowKit
set_option linter.unusedVariables false

/-- the component of an acquisition -/
def kc (T C : Nat → Int) : Nat → Int := fun a => C (T a).toNat
/-- the runs' ends -/
def en (T E C : Nat → Int) (S : List Nat) : List Nat := ends E (fun a => C (T a).toNat) S S.length

structure Shown (w : World) (m n nt : Nat) (S : List Nat) (T E C : Nat → Int) (X : Nat → Bool) (v1 v2 v3 v4 v5 v6 v7 v8 v9 v10 : Value) : Prop where
  r1 : Rd w v1 m (fun p => T (S.getD p 0))
  r2 : Rd w v2 m (fun p => (grp E (fun a => C (T a).toNat) S p : Int))
  r3 : Rd w v3 m (fun p => (nxt (fun q => X (S.getD q 0)) m p : Int))
  r4 : Rd w v4 n (fun a => (plc S m a : Int))
  r5 : Rd w v5 (ends E (fun a => C (T a).toNat) S m).length (fun j => ((ends E (fun a => C (T a).toNat) S m).getD j 0 : Int))
  r6 : Rd w v6 (ends E (fun a => C (T a).toNat) S m).length (fun j => ((ends E (fun a => C (T a).toNat) S m).getD j 0 : Int))
  r7 : Rd w v7 (ends E (fun a => C (T a).toNat) S m).length (fun j => ((ends E (fun a => C (T a).toNat) S m).getD j 0 : Int))
  r8 : Rd w v8 (ends E (fun a => C (T a).toNat) S m).length (fun j => ((ends E (fun a => C (T a).toNat) S m).getD j 0 : Int))
  r9 : Rd w v9 nt (fun _ => -1)
  r10 : Rd w v10 nt (fun _ => 0)
theorem Shown.below {w w' : World} {m n nt : Nat} {S : List Nat} {T E C : Nat → Int} {X : Nat → Bool} {v1 v2 v3 v4 v5 v6 v7 v8 v9 v10 : Value} (h : Shown w m n nt S T E C X v1 v2 v3 v4 v5 v6 v7 v8 v9 v10) (hb : Below w.heap.size w w') : Shown w' m n nt S T E C X v1 v2 v3 v4 v5 v6 v7 v8 v9 v10 :=
  ⟨h.r1.below hb, h.r2.below hb, h.r3.below hb, h.r4.below hb, h.r5.below hb, h.r6.below hb, h.r7.below hb, h.r8.below hb, h.r9.below hb, h.r10.below hb⟩
def Seen13 (w : World) (m n nt : Nat) (S : List Nat) (T E C : Nat → Int) (X : Nat → Bool) (e : Ending) (w' : World) : Prop :=
  ∃ v1 v2 v3 v4 v5 v6 v7 v8 v9 v10, e = .returned (.tuple #[.bool true, v1, v2, v3, v4, v5, v6, v7, v8, v9, v10, .int .i64 0]) ∧ Shown w' m n nt S T E C X v1 v2 v3 v4 v5 v6 v7 v8 v9 v10 ∧ Below w.heap.size w w'

theorem show13 {B0 CK m n nt q : Nat} {S : List Nat} {T E C : Nat → Int} {X : Nat → Bool} {w0 w : World} {v : Value} (hm : m ≤ 4096) (hn : n ≤ 4096) (hnt : nt ≤ 65536) (hout : Out25 B0 CK m n nt q S T E C X w0 v w) :
    Calls Try.prog 13 #[v] w fun e w' => Seen13 w m n nt S T E C X e w' := by
  obtain ⟨SB, gL, gP, gD, gR, gQ, rfl, hf⟩ := hout
  obtain ⟨vC, hrow⟩ := hf.row
  obtain ⟨gC, gH, hgr, hgc⟩ := hf.grps
  have hng : (ends E (fun a => C (T a).toNat) S m).length ≤ 4096 := Nat.le_trans (ends_le _ _ _ _) hm
  have hp : PIn w SB m n nt (ends E (fun a => C (T a).toNat) S m).length gL gP gD gR gQ q gC gH (fT T S m) (fG E (fun a => C (T a).toNat) S m) (fun k => (nxt (fun q => X (S.getD q 0)) m k : Int)) (fP S m) (fun _ => -1) (fun _ => 0) (fun j => ((ends E (fun a => C (T a).toNat) S m).getD j 0 : Int)) := by
    refine ⟨hrow.cell rfl, hrow.cell rfl, hrow.cell rfl, hrow.cell rfl, hrow.cell rfl, hf.rL, hf.rP, hf.rD, hf.rR, hgr, fun j hj i hi => ?_⟩
    rw [getD_lt hj]
    exact hgc j hj i hi
  refine (parts13 SB m n nt _ gL gP gD gR gQ q gC gH _ _ _ _ _ _ _ w hm hn hnt hng hp).mono ?_
  rintro e w' ⟨v1, v2, v3, v4, v5, v6, v7, v8, v9, v10, rfl, h1, h2, h3, h4, h5, h6, h7, h8, h9, h10, hb⟩
  refine ⟨v1, v2, v3, v4, v5, v6, v7, v8, v9, v10, rfl, ⟨h1.congr fun k hk => ?_, h2.congr fun k hk => ?_, h3, h4.congr fun k hk => ?_, h5, h6, h7, h8, h9, h10⟩, hb⟩
  · simp [fT, hk]
  · simp [fG, hk]
  · rfl
end Go.Proofs.Qxb6613322a
