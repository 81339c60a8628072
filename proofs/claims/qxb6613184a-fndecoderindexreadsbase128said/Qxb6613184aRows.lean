/-
  No cell of these rows narrows 'for every input' (looked for: loops, veiled, ifaces, maps, wideKeys, modest, calm, conditions, laid).
  DERIVED. THE GIVEN ROWS OF THIS SEAT. 5 by the template 'for every input the law returns true; each argument reads behind the call as it read before'; 0 by the template 'total and deterministic' (their statements: Qxb6613184aTotals.lean).
  GIVEN WITH THE SEED: the statements are not yours to turn. If you find one false, say at which input.
  Laid BY PROGRAM, IN A SANDBOX (cutbox-rows.mjs): the forced cells as the released guide's own fill.sh prints them over the translation ecdd46b0630d004e… (all of the seat's roots in one cut). By AI agents, Wed Nov 11 2026. No macro, syntax, notation, axiom, sorry.
-/
import Derived.Test.Qxb6613184aChecked
import GoSem.Claim
import GoSem.ClaimJoined
import GoSem.ClaimMapViews
import Derived.JoinedTies
import Derived.KernelRfl
namespace Go.Proofs.Qxb6613184a
/- THE CELL 'sum', in the pinned program and in every row, IS THE sha256 OF THE DUMP (.gsa) THAT Qxb6613184aProg.lean LOADS. Nothing in Lean hashes anything: it is a label: what it is worth is what the hold of that sum in a sandbox is worth. -/
noncomputable def Try.pinned : Pinned := { name := "qxb6613184a", sum := "ecdd46b0630d004e0f9cea8fcb9d18f93e805cdf1c157d8878d362a542fc7017", checked := Try.checked }
namespace Rows
def none {H : Type} : Left H := { results := [], args := [] }

/-- 'zzlaws_root_b1.FnAnyAnswerJoinedListsAndAddedName': WHATEVER THE INPUT: true; the input reads as it did. -/
def fnAnyAnswerJoinedListsAndAddedNameSpec : ChangeSpec := { name := "fnAnyAnswerJoinedListsAndAddedName", fn := fun _ => fun
  | [d1, d2, d3, d4, d5, d6] => { results := [.lit (.bool true)], args := [d1, d2, d3, d4, d5, d6] }
  | _ => none }
def fnAnyAnswerJoinedListsAndAddedNameRow : OpenClaim := { program := "qxb6613184a", sum := "ecdd46b0630d004e0f9cea8fcb9d18f93e805cdf1c157d8878d362a542fc7017", func := "example.com/quorumweave/quorumweave/zzlaws_root_b1.FnAnyAnswerJoinedListsAndAddedName", spec := "fnAnyAnswerJoinedListsAndAddedName", apart := false }
def FnAnyAnswerJoinedListsAndAddedNameSaid : Prop := fnAnyAnswerJoinedListsAndAddedNameRow.holds Try.pinned (OpenSpec.ofChange fnAnyAnswerJoinedListsAndAddedNameSpec)

/-- ITS FALSE NEIGHBOUR: 'it returns false'. Refute it at one input. -/
def fnAnyAnswerJoinedListsAndAddedNameWrong : ChangeSpec := { name := "fnAnyAnswerJoinedListsAndAddedName", fn := fun _ => fun
  | [d1, d2, d3, d4, d5, d6] => { results := [.lit (.bool false)], args := [d1, d2, d3, d4, d5, d6] }
  | _ => none }
def FnAnyAnswerJoinedListsAndAddedNameWrongFalsely : Prop := fnAnyAnswerJoinedListsAndAddedNameRow.holds Try.pinned (OpenSpec.ofChange fnAnyAnswerJoinedListsAndAddedNameWrong)

/-- 'zzlaws_root_b1.FnAnyAnswerDroppingOneName': WHATEVER THE INPUT: true; the input reads as it did. -/
def fnAnyAnswerDroppingOneNameSpec : ChangeSpec := { name := "fnAnyAnswerDroppingOneName", fn := fun _ => fun
  | [d1, d2, d3] => { results := [.lit (.bool true)], args := [d1, d2, d3] }
  | _ => none }
def fnAnyAnswerDroppingOneNameRow : OpenClaim := { program := "qxb6613184a", sum := "ecdd46b0630d004e0f9cea8fcb9d18f93e805cdf1c157d8878d362a542fc7017", func := "example.com/quorumweave/quorumweave/zzlaws_root_b1.FnAnyAnswerDroppingOneName", spec := "fnAnyAnswerDroppingOneName", apart := false }
def FnAnyAnswerDroppingOneNameSaid : Prop := fnAnyAnswerDroppingOneNameRow.holds Try.pinned (OpenSpec.ofChange fnAnyAnswerDroppingOneNameSpec)

/-- ITS FALSE NEIGHBOUR: 'it returns false'. Refute it at one input. -/
def fnAnyAnswerDroppingOneNameWrong : ChangeSpec := { name := "fnAnyAnswerDroppingOneName", fn := fun _ => fun
  | [d1, d2, d3] => { results := [.lit (.bool false)], args := [d1, d2, d3] }
  | _ => none }
def FnAnyAnswerDroppingOneNameWrongFalsely : Prop := fnAnyAnswerDroppingOneNameRow.holds Try.pinned (OpenSpec.ofChange fnAnyAnswerDroppingOneNameWrong)

/-- 'zzlaws_root_b1.FnDecoderIndexReadsBase128': WHATEVER THE INPUT: true; the input reads as it did. -/
def fnDecoderIndexReadsBase128Spec : ChangeSpec := { name := "fnDecoderIndexReadsBase128", fn := fun _ => fun
  | [d1, d2] => { results := [.lit (.bool true)], args := [d1, d2] }
  | _ => none }
def fnDecoderIndexReadsBase128Row : OpenClaim := { program := "qxb6613184a", sum := "ecdd46b0630d004e0f9cea8fcb9d18f93e805cdf1c157d8878d362a542fc7017", func := "example.com/quorumweave/quorumweave/zzlaws_root_b1.FnDecoderIndexReadsBase128", spec := "fnDecoderIndexReadsBase128", apart := false }
def FnDecoderIndexReadsBase128Said : Prop := fnDecoderIndexReadsBase128Row.holds Try.pinned (OpenSpec.ofChange fnDecoderIndexReadsBase128Spec)

/-- ITS FALSE NEIGHBOUR: 'it returns false'. Refute it at one input. -/
def fnDecoderIndexReadsBase128Wrong : ChangeSpec := { name := "fnDecoderIndexReadsBase128", fn := fun _ => fun
  | [d1, d2] => { results := [.lit (.bool false)], args := [d1, d2] }
  | _ => none }
def FnDecoderIndexReadsBase128WrongFalsely : Prop := fnDecoderIndexReadsBase128Row.holds Try.pinned (OpenSpec.ofChange fnDecoderIndexReadsBase128Wrong)

/-- 'zzlaws_root_b1.FnTagSizeGrowsByTheWritersBytes': WHATEVER THE INPUT: true; the input reads as it did. -/
def fnTagSizeGrowsByTheWritersBytesSpec : ChangeSpec := { name := "fnTagSizeGrowsByTheWritersBytes", fn := fun _ => fun
  | [d1, d2, d3, d4, d5, d6] => { results := [.lit (.bool true)], args := [d1, d2, d3, d4, d5, d6] }
  | _ => none }
def fnTagSizeGrowsByTheWritersBytesRow : OpenClaim := { program := "qxb6613184a", sum := "ecdd46b0630d004e0f9cea8fcb9d18f93e805cdf1c157d8878d362a542fc7017", func := "example.com/quorumweave/quorumweave/zzlaws_root_b1.FnTagSizeGrowsByTheWritersBytes", spec := "fnTagSizeGrowsByTheWritersBytes", apart := false }
def FnTagSizeGrowsByTheWritersBytesSaid : Prop := fnTagSizeGrowsByTheWritersBytesRow.holds Try.pinned (OpenSpec.ofChange fnTagSizeGrowsByTheWritersBytesSpec)

/-- ITS FALSE NEIGHBOUR: 'it returns false'. Refute it at one input. -/
def fnTagSizeGrowsByTheWritersBytesWrong : ChangeSpec := { name := "fnTagSizeGrowsByTheWritersBytes", fn := fun _ => fun
  | [d1, d2, d3, d4, d5, d6] => { results := [.lit (.bool false)], args := [d1, d2, d3, d4, d5, d6] }
  | _ => none }
def FnTagSizeGrowsByTheWritersBytesWrongFalsely : Prop := fnTagSizeGrowsByTheWritersBytesRow.holds Try.pinned (OpenSpec.ofChange fnTagSizeGrowsByTheWritersBytesWrong)

/-- 'zzlaws_root_b1.FnTagSizeRoomsEveryTagOfItsWriter': WHATEVER THE INPUT: true; the input reads as it did. -/
def fnTagSizeRoomsEveryTagOfItsWriterSpec : ChangeSpec := { name := "fnTagSizeRoomsEveryTagOfItsWriter", fn := fun _ => fun
  | [d1, d2, d3, d4, d5] => { results := [.lit (.bool true)], args := [d1, d2, d3, d4, d5] }
  | _ => none }
def fnTagSizeRoomsEveryTagOfItsWriterRow : OpenClaim := { program := "qxb6613184a", sum := "ecdd46b0630d004e0f9cea8fcb9d18f93e805cdf1c157d8878d362a542fc7017", func := "example.com/quorumweave/quorumweave/zzlaws_root_b1.FnTagSizeRoomsEveryTagOfItsWriter", spec := "fnTagSizeRoomsEveryTagOfItsWriter", apart := false }
def FnTagSizeRoomsEveryTagOfItsWriterSaid : Prop := fnTagSizeRoomsEveryTagOfItsWriterRow.holds Try.pinned (OpenSpec.ofChange fnTagSizeRoomsEveryTagOfItsWriterSpec)

/-- ITS FALSE NEIGHBOUR: 'it returns false'. Refute it at one input. -/
def fnTagSizeRoomsEveryTagOfItsWriterWrong : ChangeSpec := { name := "fnTagSizeRoomsEveryTagOfItsWriter", fn := fun _ => fun
  | [d1, d2, d3, d4, d5] => { results := [.lit (.bool false)], args := [d1, d2, d3, d4, d5] }
  | _ => none }
def FnTagSizeRoomsEveryTagOfItsWriterWrongFalsely : Prop := fnTagSizeRoomsEveryTagOfItsWriterRow.holds Try.pinned (OpenSpec.ofChange fnTagSizeRoomsEveryTagOfItsWriterWrong)

end Rows
end Go.Proofs.Qxb6613184a
