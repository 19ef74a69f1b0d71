/-
  NARROWER THAN 'FOR EVERY INPUT', by the rows' own cells (each row's printed sentence says how): FnSatisfiedByExaminesWithinBounds: loops · FnSatisfiedByIsMonotoneInTheSet: loops · FnMeetableNeverMetExactlyWhenAllNodesFail: loops · FnMeetableTwoDisjointQuorumsMeanMetTwice: loops · FnMeetableNeverFallsAsWithinShrinks: loops · FnValueEndFindsTheEndOfAnEncodedValue: loops · FnValueEndWalksTheMembersOfAContainer: loops.
  DERIVED. THE GIVEN ROWS OF THIS SEAT. 7 by the template 'for every input the law returns true; each argument reads behind the call as it read before'; 0 by the template 'total and deterministic' (their statements: Qxb6001451aTotals.lean).
  GIVEN WITH THE SEED: the statements are not yours to turn. If you find one false, say at which input.
  Laid BY PROGRAM, IN A SANDBOX (cutbox-rows.mjs): the forced cells as the released guide's own fill.sh prints them over the translation 52b4a2bfa22fafed… (all of the seat's roots in one cut). By AI agents, Wed Nov 11 2026. No macro, syntax, notation, axiom, sorry.
-/
import Derived.Test.Qxb6001451aChecked
import GoSem.Claim
import GoSem.ClaimJoined
import GoSem.ClaimMapViews
import Derived.JoinedTies
import Derived.KernelRfl
namespace Go.Proofs.Qxb6001451a
/- THE CELL 'sum', in the pinned program and in every row, IS THE sha256 OF THE DUMP (.gsa) THAT Qxb6001451aProg.lean LOADS. Nothing in Lean hashes anything: it is a label: what it is worth is what the hold of that sum in a sandbox is worth. -/
noncomputable def Try.pinned : Pinned := { name := "qxb6001451a", sum := "52b4a2bfa22fafed0a9e9870f2cff5c9aa01f43a0b4c4ad0ba3d96453c64dc61", checked := Try.checked }
namespace Rows
def none {H : Type} : Left H := { results := [], args := [] }

/-- 'zzlaws_root_b1.FnSatisfiedByExaminesWithinBounds': WHATEVER THE INPUT: true; the input reads as it did. -/
def fnSatisfiedByExaminesWithinBoundsSpec : ChangeSpec := { name := "fnSatisfiedByExaminesWithinBounds", fn := fun _ => fun
  | [d1, d2] => { results := [.lit (.bool true)], args := [d1, d2] }
  | _ => none }
def fnSatisfiedByExaminesWithinBoundsRow : OpenClaim := { program := "qxb6001451a", sum := "52b4a2bfa22fafed0a9e9870f2cff5c9aa01f43a0b4c4ad0ba3d96453c64dc61", func := "example.com/slicewise/slicewise/zzlaws_root_b1.FnSatisfiedByExaminesWithinBounds", spec := "fnSatisfiedByExaminesWithinBounds", recurses := true, loops := true, apart := false }
def FnSatisfiedByExaminesWithinBoundsSaid : Prop := fnSatisfiedByExaminesWithinBoundsRow.holds Try.pinned (OpenSpec.ofChange fnSatisfiedByExaminesWithinBoundsSpec)

/-- ITS FALSE NEIGHBOUR: 'it returns false'. Refute it at one input. -/
def fnSatisfiedByExaminesWithinBoundsWrong : ChangeSpec := { name := "fnSatisfiedByExaminesWithinBounds", fn := fun _ => fun
  | [d1, d2] => { results := [.lit (.bool false)], args := [d1, d2] }
  | _ => none }
def FnSatisfiedByExaminesWithinBoundsWrongFalsely : Prop := fnSatisfiedByExaminesWithinBoundsRow.holds Try.pinned (OpenSpec.ofChange fnSatisfiedByExaminesWithinBoundsWrong)

/-- 'zzlaws_root_b1.FnSatisfiedByIsMonotoneInTheSet': WHATEVER THE INPUT: true; the input reads as it did. -/
def fnSatisfiedByIsMonotoneInTheSetSpec : ChangeSpec := { name := "fnSatisfiedByIsMonotoneInTheSet", fn := fun _ => fun
  | [d1, d2, d3] => { results := [.lit (.bool true)], args := [d1, d2, d3] }
  | _ => none }
def fnSatisfiedByIsMonotoneInTheSetRow : OpenClaim := { program := "qxb6001451a", sum := "52b4a2bfa22fafed0a9e9870f2cff5c9aa01f43a0b4c4ad0ba3d96453c64dc61", func := "example.com/slicewise/slicewise/zzlaws_root_b1.FnSatisfiedByIsMonotoneInTheSet", spec := "fnSatisfiedByIsMonotoneInTheSet", recurses := true, loops := true, apart := false }
def FnSatisfiedByIsMonotoneInTheSetSaid : Prop := fnSatisfiedByIsMonotoneInTheSetRow.holds Try.pinned (OpenSpec.ofChange fnSatisfiedByIsMonotoneInTheSetSpec)

/-- ITS FALSE NEIGHBOUR: 'it returns false'. Refute it at one input. -/
def fnSatisfiedByIsMonotoneInTheSetWrong : ChangeSpec := { name := "fnSatisfiedByIsMonotoneInTheSet", fn := fun _ => fun
  | [d1, d2, d3] => { results := [.lit (.bool false)], args := [d1, d2, d3] }
  | _ => none }
def FnSatisfiedByIsMonotoneInTheSetWrongFalsely : Prop := fnSatisfiedByIsMonotoneInTheSetRow.holds Try.pinned (OpenSpec.ofChange fnSatisfiedByIsMonotoneInTheSetWrong)

/-- 'zzlaws_root_b1.FnMeetableNeverMetExactlyWhenAllNodesFail': WHATEVER THE INPUT: true; the input reads as it did. -/
def fnMeetableNeverMetExactlyWhenAllNodesFailSpec : ChangeSpec := { name := "fnMeetableNeverMetExactlyWhenAllNodesFail", fn := fun _ => fun
  | [d1, d2] => { results := [.lit (.bool true)], args := [d1, d2] }
  | _ => none }
def fnMeetableNeverMetExactlyWhenAllNodesFailRow : OpenClaim := { program := "qxb6001451a", sum := "52b4a2bfa22fafed0a9e9870f2cff5c9aa01f43a0b4c4ad0ba3d96453c64dc61", func := "example.com/slicewise/slicewise/zzlaws_root_b1.FnMeetableNeverMetExactlyWhenAllNodesFail", spec := "fnMeetableNeverMetExactlyWhenAllNodesFail", recurses := true, loops := true, apart := false }
def FnMeetableNeverMetExactlyWhenAllNodesFailSaid : Prop := fnMeetableNeverMetExactlyWhenAllNodesFailRow.holds Try.pinned (OpenSpec.ofChange fnMeetableNeverMetExactlyWhenAllNodesFailSpec)

/-- ITS FALSE NEIGHBOUR: 'it returns false'. Refute it at one input. -/
def fnMeetableNeverMetExactlyWhenAllNodesFailWrong : ChangeSpec := { name := "fnMeetableNeverMetExactlyWhenAllNodesFail", fn := fun _ => fun
  | [d1, d2] => { results := [.lit (.bool false)], args := [d1, d2] }
  | _ => none }
def FnMeetableNeverMetExactlyWhenAllNodesFailWrongFalsely : Prop := fnMeetableNeverMetExactlyWhenAllNodesFailRow.holds Try.pinned (OpenSpec.ofChange fnMeetableNeverMetExactlyWhenAllNodesFailWrong)

/-- 'zzlaws_root_b1.FnMeetableTwoDisjointQuorumsMeanMetTwice': WHATEVER THE INPUT: true; the input reads as it did. -/
def fnMeetableTwoDisjointQuorumsMeanMetTwiceSpec : ChangeSpec := { name := "fnMeetableTwoDisjointQuorumsMeanMetTwice", fn := fun _ => fun
  | [d1, d2, d3, d4] => { results := [.lit (.bool true)], args := [d1, d2, d3, d4] }
  | _ => none }
def fnMeetableTwoDisjointQuorumsMeanMetTwiceRow : OpenClaim := { program := "qxb6001451a", sum := "52b4a2bfa22fafed0a9e9870f2cff5c9aa01f43a0b4c4ad0ba3d96453c64dc61", func := "example.com/slicewise/slicewise/zzlaws_root_b1.FnMeetableTwoDisjointQuorumsMeanMetTwice", spec := "fnMeetableTwoDisjointQuorumsMeanMetTwice", recurses := true, loops := true, apart := false }
def FnMeetableTwoDisjointQuorumsMeanMetTwiceSaid : Prop := fnMeetableTwoDisjointQuorumsMeanMetTwiceRow.holds Try.pinned (OpenSpec.ofChange fnMeetableTwoDisjointQuorumsMeanMetTwiceSpec)

/-- ITS FALSE NEIGHBOUR: 'it returns false'. Refute it at one input. -/
def fnMeetableTwoDisjointQuorumsMeanMetTwiceWrong : ChangeSpec := { name := "fnMeetableTwoDisjointQuorumsMeanMetTwice", fn := fun _ => fun
  | [d1, d2, d3, d4] => { results := [.lit (.bool false)], args := [d1, d2, d3, d4] }
  | _ => none }
def FnMeetableTwoDisjointQuorumsMeanMetTwiceWrongFalsely : Prop := fnMeetableTwoDisjointQuorumsMeanMetTwiceRow.holds Try.pinned (OpenSpec.ofChange fnMeetableTwoDisjointQuorumsMeanMetTwiceWrong)

/-- 'zzlaws_root_b1.FnMeetableNeverFallsAsWithinShrinks': WHATEVER THE INPUT: true; the input reads as it did. -/
def fnMeetableNeverFallsAsWithinShrinksSpec : ChangeSpec := { name := "fnMeetableNeverFallsAsWithinShrinks", fn := fun _ => fun
  | [d1, d2, d3] => { results := [.lit (.bool true)], args := [d1, d2, d3] }
  | _ => none }
def fnMeetableNeverFallsAsWithinShrinksRow : OpenClaim := { program := "qxb6001451a", sum := "52b4a2bfa22fafed0a9e9870f2cff5c9aa01f43a0b4c4ad0ba3d96453c64dc61", func := "example.com/slicewise/slicewise/zzlaws_root_b1.FnMeetableNeverFallsAsWithinShrinks", spec := "fnMeetableNeverFallsAsWithinShrinks", recurses := true, loops := true, apart := false }
def FnMeetableNeverFallsAsWithinShrinksSaid : Prop := fnMeetableNeverFallsAsWithinShrinksRow.holds Try.pinned (OpenSpec.ofChange fnMeetableNeverFallsAsWithinShrinksSpec)

/-- ITS FALSE NEIGHBOUR: 'it returns false'. Refute it at one input. -/
def fnMeetableNeverFallsAsWithinShrinksWrong : ChangeSpec := { name := "fnMeetableNeverFallsAsWithinShrinks", fn := fun _ => fun
  | [d1, d2, d3] => { results := [.lit (.bool false)], args := [d1, d2, d3] }
  | _ => none }
def FnMeetableNeverFallsAsWithinShrinksWrongFalsely : Prop := fnMeetableNeverFallsAsWithinShrinksRow.holds Try.pinned (OpenSpec.ofChange fnMeetableNeverFallsAsWithinShrinksWrong)

/-- 'zzlaws_root_b1.FnValueEndFindsTheEndOfAnEncodedValue': WHATEVER THE INPUT: true; the input reads as it did. -/
def fnValueEndFindsTheEndOfAnEncodedValueSpec : ChangeSpec := { name := "fnValueEndFindsTheEndOfAnEncodedValue", fn := fun _ => fun
  | [d1, d2, d3] => { results := [.lit (.bool true)], args := [d1, d2, d3] }
  | _ => none }
def fnValueEndFindsTheEndOfAnEncodedValueRow : OpenClaim := { program := "qxb6001451a", sum := "52b4a2bfa22fafed0a9e9870f2cff5c9aa01f43a0b4c4ad0ba3d96453c64dc61", func := "example.com/slicewise/slicewise/zzlaws_root_b1.FnValueEndFindsTheEndOfAnEncodedValue", spec := "fnValueEndFindsTheEndOfAnEncodedValue", inPlace := ["internal/bytealg.IndexByteString"], recurses := true, loops := true, apart := false }
def FnValueEndFindsTheEndOfAnEncodedValueSaid : Prop := fnValueEndFindsTheEndOfAnEncodedValueRow.holds Try.pinned (OpenSpec.ofChange fnValueEndFindsTheEndOfAnEncodedValueSpec)

/-- ITS FALSE NEIGHBOUR: 'it returns false'. Refute it at one input. -/
def fnValueEndFindsTheEndOfAnEncodedValueWrong : ChangeSpec := { name := "fnValueEndFindsTheEndOfAnEncodedValue", fn := fun _ => fun
  | [d1, d2, d3] => { results := [.lit (.bool false)], args := [d1, d2, d3] }
  | _ => none }
def FnValueEndFindsTheEndOfAnEncodedValueWrongFalsely : Prop := fnValueEndFindsTheEndOfAnEncodedValueRow.holds Try.pinned (OpenSpec.ofChange fnValueEndFindsTheEndOfAnEncodedValueWrong)

/-- 'zzlaws_root_b1.FnValueEndWalksTheMembersOfAContainer': WHATEVER THE INPUT: true; the input reads as it did. -/
def fnValueEndWalksTheMembersOfAContainerSpec : ChangeSpec := { name := "fnValueEndWalksTheMembersOfAContainer", fn := fun _ => fun
  | [d1, d2] => { results := [.lit (.bool true)], args := [d1, d2] }
  | _ => none }
def fnValueEndWalksTheMembersOfAContainerRow : OpenClaim := { program := "qxb6001451a", sum := "52b4a2bfa22fafed0a9e9870f2cff5c9aa01f43a0b4c4ad0ba3d96453c64dc61", func := "example.com/slicewise/slicewise/zzlaws_root_b1.FnValueEndWalksTheMembersOfAContainer", spec := "fnValueEndWalksTheMembersOfAContainer", inPlace := ["internal/bytealg.IndexByteString"], recurses := true, loops := true, apart := false }
def FnValueEndWalksTheMembersOfAContainerSaid : Prop := fnValueEndWalksTheMembersOfAContainerRow.holds Try.pinned (OpenSpec.ofChange fnValueEndWalksTheMembersOfAContainerSpec)

/-- ITS FALSE NEIGHBOUR: 'it returns false'. Refute it at one input. -/
def fnValueEndWalksTheMembersOfAContainerWrong : ChangeSpec := { name := "fnValueEndWalksTheMembersOfAContainer", fn := fun _ => fun
  | [d1, d2] => { results := [.lit (.bool false)], args := [d1, d2] }
  | _ => none }
def FnValueEndWalksTheMembersOfAContainerWrongFalsely : Prop := fnValueEndWalksTheMembersOfAContainerRow.holds Try.pinned (OpenSpec.ofChange fnValueEndWalksTheMembersOfAContainerWrong)

end Rows
end Go.Proofs.Qxb6001451a
