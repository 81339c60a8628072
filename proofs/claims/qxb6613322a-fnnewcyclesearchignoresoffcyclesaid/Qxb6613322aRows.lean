/-
  No cell of these rows narrows 'for every input' (looked for: loops, veiled, ifaces, maps, wideKeys, modest, calm, conditions, laid).
  DERIVED. THE GIVEN ROWS OF THIS SEAT. 3 by the template 'for every input the law returns true; each argument reads behind the call as it read before'; 0 by the template 'total and deterministic' (their statements: Qxb6613322aTotals.lean).
  GIVEN WITH THE SEED: the statements are not yours to turn. If you find one false, say at which input.
  Laid BY PROGRAM, IN A SANDBOX (cutbox-rows.mjs): the forced cells as the released guide's own fill.sh prints them over the translation 4faa9ed7df55bf86… (all of the seat's roots in one cut). By AI agents, Wed Nov 11 2026. No macro, syntax, notation, axiom, sorry.
-/
import Derived.Test.Qxb6613322aChecked
import GoSem.Claim
import GoSem.ClaimJoined
import GoSem.ClaimMapViews
import Derived.JoinedTies
import Derived.KernelRfl
namespace Go.Proofs.Qxb6613322a
/- THE CELL 'sum', in the pinned program and in every row, IS THE sha256 OF THE DUMP (.gsa) THAT Qxb6613322aProg.lean LOADS. Nothing in Lean hashes anything: it is a label: what it is worth is what the hold of that sum in a sandbox is worth. -/
noncomputable def Try.pinned : Pinned := { name := "qxb6613322a", sum := "4faa9ed7df55bf868ea61e842f68ef3337655a8c6675eb9eb0630d242c78d1c6", checked := Try.checked }
namespace Rows
def none {H : Type} : Left H := { results := [], args := [] }

/-- 'zzlaws_schedule_b1.FnIdHeapLessRanksAsSorted': WHATEVER THE INPUT: true; the input reads as it did. -/
def fnIdHeapLessRanksAsSortedSpec : ChangeSpec := { name := "fnIdHeapLessRanksAsSorted", fn := fun _ => fun
  | [d1, d2] => { results := [.lit (.bool true)], args := [d1, d2] }
  | _ => none }
def fnIdHeapLessRanksAsSortedRow : OpenClaim := { program := "qxb6613322a", sum := "4faa9ed7df55bf868ea61e842f68ef3337655a8c6675eb9eb0630d242c78d1c6", func := "example.com/lockwright/lockwright/zzlaws_schedule_b1.FnIdHeapLessRanksAsSorted", spec := "fnIdHeapLessRanksAsSorted", plainKeys := false, apart := false }
def FnIdHeapLessRanksAsSortedSaid : Prop := fnIdHeapLessRanksAsSortedRow.holds Try.pinned (OpenSpec.ofChange fnIdHeapLessRanksAsSortedSpec)

/-- ITS FALSE NEIGHBOUR: 'it returns false'. Refute it at one input. -/
def fnIdHeapLessRanksAsSortedWrong : ChangeSpec := { name := "fnIdHeapLessRanksAsSorted", fn := fun _ => fun
  | [d1, d2] => { results := [.lit (.bool false)], args := [d1, d2] }
  | _ => none }
def FnIdHeapLessRanksAsSortedWrongFalsely : Prop := fnIdHeapLessRanksAsSortedRow.holds Try.pinned (OpenSpec.ofChange fnIdHeapLessRanksAsSortedWrong)

/-- 'zzlaws_schedule_b1.FnNewCycleSearchSpec': WHATEVER THE INPUT: true; the input reads as it did. -/
def fnNewCycleSearchSpecSpec : ChangeSpec := { name := "fnNewCycleSearchSpec", fn := fun _ => fun
  | [d1, d2, d3, d4, d5, d6] => { results := [.lit (.bool true)], args := [d1, d2, d3, d4, d5, d6] }
  | _ => none }
def fnNewCycleSearchSpecRow : OpenClaim := { program := "qxb6613322a", sum := "4faa9ed7df55bf868ea61e842f68ef3337655a8c6675eb9eb0630d242c78d1c6", func := "example.com/lockwright/lockwright/zzlaws_schedule_b1.FnNewCycleSearchSpec", spec := "fnNewCycleSearchSpec", unfollowed := true, recurses := true, plainKeys := false, apart := false }
def FnNewCycleSearchSpecSaid : Prop := fnNewCycleSearchSpecRow.holds Try.pinned (OpenSpec.ofChange fnNewCycleSearchSpecSpec)

/-- ITS FALSE NEIGHBOUR: 'it returns false'. Refute it at one input. -/
def fnNewCycleSearchSpecWrong : ChangeSpec := { name := "fnNewCycleSearchSpec", fn := fun _ => fun
  | [d1, d2, d3, d4, d5, d6] => { results := [.lit (.bool false)], args := [d1, d2, d3, d4, d5, d6] }
  | _ => none }
def FnNewCycleSearchSpecWrongFalsely : Prop := fnNewCycleSearchSpecRow.holds Try.pinned (OpenSpec.ofChange fnNewCycleSearchSpecWrong)

/-- 'zzlaws_schedule_b1.FnNewCycleSearchIgnoresOffCycle': WHATEVER THE INPUT: true; the input reads as it did. -/
def fnNewCycleSearchIgnoresOffCycleSpec : ChangeSpec := { name := "fnNewCycleSearchIgnoresOffCycle", fn := fun _ => fun
  | [d1, d2, d3, d4, d5, d6] => { results := [.lit (.bool true)], args := [d1, d2, d3, d4, d5, d6] }
  | _ => none }
def fnNewCycleSearchIgnoresOffCycleRow : OpenClaim := { program := "qxb6613322a", sum := "4faa9ed7df55bf868ea61e842f68ef3337655a8c6675eb9eb0630d242c78d1c6", func := "example.com/lockwright/lockwright/zzlaws_schedule_b1.FnNewCycleSearchIgnoresOffCycle", spec := "fnNewCycleSearchIgnoresOffCycle", unfollowed := true, recurses := true, plainKeys := false, apart := false }
def FnNewCycleSearchIgnoresOffCycleSaid : Prop := fnNewCycleSearchIgnoresOffCycleRow.holds Try.pinned (OpenSpec.ofChange fnNewCycleSearchIgnoresOffCycleSpec)

/-- ITS FALSE NEIGHBOUR: 'it returns false'. Refute it at one input. -/
def fnNewCycleSearchIgnoresOffCycleWrong : ChangeSpec := { name := "fnNewCycleSearchIgnoresOffCycle", fn := fun _ => fun
  | [d1, d2, d3, d4, d5, d6] => { results := [.lit (.bool false)], args := [d1, d2, d3, d4, d5, d6] }
  | _ => none }
def FnNewCycleSearchIgnoresOffCycleWrongFalsely : Prop := fnNewCycleSearchIgnoresOffCycleRow.holds Try.pinned (OpenSpec.ofChange fnNewCycleSearchIgnoresOffCycleWrong)

end Rows
end Go.Proofs.Qxb6613322a
