/-
  No cell of these rows narrows 'for every input' (looked for: loops, veiled, ifaces, maps, wideKeys, modest, calm, conditions, laid).
  DERIVED. THE GIVEN ROWS OF THIS SEAT. 9 by the template 'for every input the law returns true; each argument reads behind the call as it read before'; 0 by the template 'total and deterministic' (their statements: Qxb6001398aTotals.lean).
  GIVEN WITH THE SEED: the statements are not yours to turn. If you find one false, say at which input.
  Laid BY PROGRAM, IN A SANDBOX (cutbox-rows.mjs): the forced cells as the released guide's own fill.sh prints them over the translation 303bbe1f0f89c3f5… (all of the seat's roots in one cut). By AI agents, Wed Nov 11 2026. No macro, syntax, notation, axiom, sorry.
-/
import Derived.Test.Qxb6001398aChecked
import GoSem.Claim
import GoSem.ClaimJoined
import GoSem.ClaimMapViews
import Derived.JoinedTies
import Derived.KernelRfl
namespace Go.Proofs.Qxb6001398a
/- THE CELL 'sum', in the pinned program and in every row, IS THE sha256 OF THE DUMP (.gsa) THAT Qxb6001398aProg.lean LOADS. Nothing in Lean hashes anything: it is a label: what it is worth is what the hold of that sum in a sandbox is worth. -/
noncomputable def Try.pinned : Pinned := { name := "qxb6001398a", sum := "303bbe1f0f89c3f53ee64c1bfd24a9eccff42dec43efee22c36da6abe376913a", checked := Try.checked }
namespace Rows
def none {H : Type} : Left H := { results := [], args := [] }

/-- 'zzlaws_root_b1.FnDigitsValueReadsBackItsDecimal': WHATEVER THE INPUT: true; the input reads as it did. -/
def fnDigitsValueReadsBackItsDecimalSpec : ChangeSpec := { name := "fnDigitsValueReadsBackItsDecimal", fn := fun _ => fun
  | [d1, d2] => { results := [.lit (.bool true)], args := [d1, d2] }
  | _ => none }
def fnDigitsValueReadsBackItsDecimalRow : OpenClaim := { program := "qxb6001398a", sum := "303bbe1f0f89c3f53ee64c1bfd24a9eccff42dec43efee22c36da6abe376913a", func := "example.com/zhaomu/zhaomu/zzlaws_root_b1.FnDigitsValueReadsBackItsDecimal", spec := "fnDigitsValueReadsBackItsDecimal", apart := false }
def FnDigitsValueReadsBackItsDecimalSaid : Prop := fnDigitsValueReadsBackItsDecimalRow.holds Try.pinned (OpenSpec.ofChange fnDigitsValueReadsBackItsDecimalSpec)

/-- ITS FALSE NEIGHBOUR: 'it returns false'. Refute it at one input. -/
def fnDigitsValueReadsBackItsDecimalWrong : ChangeSpec := { name := "fnDigitsValueReadsBackItsDecimal", fn := fun _ => fun
  | [d1, d2] => { results := [.lit (.bool false)], args := [d1, d2] }
  | _ => none }
def FnDigitsValueReadsBackItsDecimalWrongFalsely : Prop := fnDigitsValueReadsBackItsDecimalRow.holds Try.pinned (OpenSpec.ofChange fnDigitsValueReadsBackItsDecimalWrong)

/-- 'zzlaws_root_b1.FnDigitsValueAcceptsExactlyDigits': WHATEVER THE INPUT: true; the input reads as it did. -/
def fnDigitsValueAcceptsExactlyDigitsSpec : ChangeSpec := { name := "fnDigitsValueAcceptsExactlyDigits", fn := fun _ => fun
  | [d] => { results := [.lit (.bool true)], args := [d] }
  | _ => none }
def fnDigitsValueAcceptsExactlyDigitsRow : OpenClaim := { program := "qxb6001398a", sum := "303bbe1f0f89c3f53ee64c1bfd24a9eccff42dec43efee22c36da6abe376913a", func := "example.com/zhaomu/zhaomu/zzlaws_root_b1.FnDigitsValueAcceptsExactlyDigits", spec := "fnDigitsValueAcceptsExactlyDigits", apart := false }
def FnDigitsValueAcceptsExactlyDigitsSaid : Prop := fnDigitsValueAcceptsExactlyDigitsRow.holds Try.pinned (OpenSpec.ofChange fnDigitsValueAcceptsExactlyDigitsSpec)

/-- ITS FALSE NEIGHBOUR: 'it returns false'. Refute it at one input. -/
def fnDigitsValueAcceptsExactlyDigitsWrong : ChangeSpec := { name := "fnDigitsValueAcceptsExactlyDigits", fn := fun _ => fun
  | [d] => { results := [.lit (.bool false)], args := [d] }
  | _ => none }
def FnDigitsValueAcceptsExactlyDigitsWrongFalsely : Prop := fnDigitsValueAcceptsExactlyDigitsRow.holds Try.pinned (OpenSpec.ofChange fnDigitsValueAcceptsExactlyDigitsWrong)

/-- 'zzlaws_root_b1.FnDigitsValueLeadingZeroNeutral': WHATEVER THE INPUT: true; the input reads as it did. -/
def fnDigitsValueLeadingZeroNeutralSpec : ChangeSpec := { name := "fnDigitsValueLeadingZeroNeutral", fn := fun _ => fun
  | [d] => { results := [.lit (.bool true)], args := [d] }
  | _ => none }
def fnDigitsValueLeadingZeroNeutralRow : OpenClaim := { program := "qxb6001398a", sum := "303bbe1f0f89c3f53ee64c1bfd24a9eccff42dec43efee22c36da6abe376913a", func := "example.com/zhaomu/zhaomu/zzlaws_root_b1.FnDigitsValueLeadingZeroNeutral", spec := "fnDigitsValueLeadingZeroNeutral", apart := false }
def FnDigitsValueLeadingZeroNeutralSaid : Prop := fnDigitsValueLeadingZeroNeutralRow.holds Try.pinned (OpenSpec.ofChange fnDigitsValueLeadingZeroNeutralSpec)

/-- ITS FALSE NEIGHBOUR: 'it returns false'. Refute it at one input. -/
def fnDigitsValueLeadingZeroNeutralWrong : ChangeSpec := { name := "fnDigitsValueLeadingZeroNeutral", fn := fun _ => fun
  | [d] => { results := [.lit (.bool false)], args := [d] }
  | _ => none }
def FnDigitsValueLeadingZeroNeutralWrongFalsely : Prop := fnDigitsValueLeadingZeroNeutralRow.holds Try.pinned (OpenSpec.ofChange fnDigitsValueLeadingZeroNeutralWrong)

/-- 'zzlaws_root_b1.FnDateFieldsReadsBackWhatIsWritten': WHATEVER THE INPUT: true; the input reads as it did. -/
def fnDateFieldsReadsBackWhatIsWrittenSpec : ChangeSpec := { name := "fnDateFieldsReadsBackWhatIsWritten", fn := fun _ => fun
  | [d1, d2, d3] => { results := [.lit (.bool true)], args := [d1, d2, d3] }
  | _ => none }
def fnDateFieldsReadsBackWhatIsWrittenRow : OpenClaim := { program := "qxb6001398a", sum := "303bbe1f0f89c3f53ee64c1bfd24a9eccff42dec43efee22c36da6abe376913a", func := "example.com/zhaomu/zhaomu/zzlaws_root_b1.FnDateFieldsReadsBackWhatIsWritten", spec := "fnDateFieldsReadsBackWhatIsWritten", apart := false }
def FnDateFieldsReadsBackWhatIsWrittenSaid : Prop := fnDateFieldsReadsBackWhatIsWrittenRow.holds Try.pinned (OpenSpec.ofChange fnDateFieldsReadsBackWhatIsWrittenSpec)

/-- ITS FALSE NEIGHBOUR: 'it returns false'. Refute it at one input. -/
def fnDateFieldsReadsBackWhatIsWrittenWrong : ChangeSpec := { name := "fnDateFieldsReadsBackWhatIsWritten", fn := fun _ => fun
  | [d1, d2, d3] => { results := [.lit (.bool false)], args := [d1, d2, d3] }
  | _ => none }
def FnDateFieldsReadsBackWhatIsWrittenWrongFalsely : Prop := fnDateFieldsReadsBackWhatIsWrittenRow.holds Try.pinned (OpenSpec.ofChange fnDateFieldsReadsBackWhatIsWrittenWrong)

/-- 'zzlaws_root_b1.FnDateFieldsAcceptsExactlyTheShape': WHATEVER THE INPUT: true; the input reads as it did. -/
def fnDateFieldsAcceptsExactlyTheShapeSpec : ChangeSpec := { name := "fnDateFieldsAcceptsExactlyTheShape", fn := fun _ => fun
  | [d] => { results := [.lit (.bool true)], args := [d] }
  | _ => none }
def fnDateFieldsAcceptsExactlyTheShapeRow : OpenClaim := { program := "qxb6001398a", sum := "303bbe1f0f89c3f53ee64c1bfd24a9eccff42dec43efee22c36da6abe376913a", func := "example.com/zhaomu/zhaomu/zzlaws_root_b1.FnDateFieldsAcceptsExactlyTheShape", spec := "fnDateFieldsAcceptsExactlyTheShape", apart := false }
def FnDateFieldsAcceptsExactlyTheShapeSaid : Prop := fnDateFieldsAcceptsExactlyTheShapeRow.holds Try.pinned (OpenSpec.ofChange fnDateFieldsAcceptsExactlyTheShapeSpec)

/-- ITS FALSE NEIGHBOUR: 'it returns false'. Refute it at one input. -/
def fnDateFieldsAcceptsExactlyTheShapeWrong : ChangeSpec := { name := "fnDateFieldsAcceptsExactlyTheShape", fn := fun _ => fun
  | [d] => { results := [.lit (.bool false)], args := [d] }
  | _ => none }
def FnDateFieldsAcceptsExactlyTheShapeWrongFalsely : Prop := fnDateFieldsAcceptsExactlyTheShapeRow.holds Try.pinned (OpenSpec.ofChange fnDateFieldsAcceptsExactlyTheShapeWrong)

/-- 'zzlaws_root_b1.FnDateFieldsAcceptedTextRebuilds': WHATEVER THE INPUT: true; the input reads as it did. -/
def fnDateFieldsAcceptedTextRebuildsSpec : ChangeSpec := { name := "fnDateFieldsAcceptedTextRebuilds", fn := fun _ => fun
  | [d] => { results := [.lit (.bool true)], args := [d] }
  | _ => none }
def fnDateFieldsAcceptedTextRebuildsRow : OpenClaim := { program := "qxb6001398a", sum := "303bbe1f0f89c3f53ee64c1bfd24a9eccff42dec43efee22c36da6abe376913a", func := "example.com/zhaomu/zhaomu/zzlaws_root_b1.FnDateFieldsAcceptedTextRebuilds", spec := "fnDateFieldsAcceptedTextRebuilds", apart := false }
def FnDateFieldsAcceptedTextRebuildsSaid : Prop := fnDateFieldsAcceptedTextRebuildsRow.holds Try.pinned (OpenSpec.ofChange fnDateFieldsAcceptedTextRebuildsSpec)

/-- ITS FALSE NEIGHBOUR: 'it returns false'. Refute it at one input. -/
def fnDateFieldsAcceptedTextRebuildsWrong : ChangeSpec := { name := "fnDateFieldsAcceptedTextRebuilds", fn := fun _ => fun
  | [d] => { results := [.lit (.bool false)], args := [d] }
  | _ => none }
def FnDateFieldsAcceptedTextRebuildsWrongFalsely : Prop := fnDateFieldsAcceptedTextRebuildsRow.holds Try.pinned (OpenSpec.ofChange fnDateFieldsAcceptedTextRebuildsWrong)

/-- 'zzlaws_root_b1.FnPlainDecimalAcceptsExactlyTheGrammar': WHATEVER THE INPUT: true; the input reads as it did. -/
def fnPlainDecimalAcceptsExactlyTheGrammarSpec : ChangeSpec := { name := "fnPlainDecimalAcceptsExactlyTheGrammar", fn := fun _ => fun
  | [d1, d2] => { results := [.lit (.bool true)], args := [d1, d2] }
  | _ => none }
def fnPlainDecimalAcceptsExactlyTheGrammarRow : OpenClaim := { program := "qxb6001398a", sum := "303bbe1f0f89c3f53ee64c1bfd24a9eccff42dec43efee22c36da6abe376913a", func := "example.com/zhaomu/zhaomu/zzlaws_root_b1.FnPlainDecimalAcceptsExactlyTheGrammar", spec := "fnPlainDecimalAcceptsExactlyTheGrammar", apart := false }
def FnPlainDecimalAcceptsExactlyTheGrammarSaid : Prop := fnPlainDecimalAcceptsExactlyTheGrammarRow.holds Try.pinned (OpenSpec.ofChange fnPlainDecimalAcceptsExactlyTheGrammarSpec)

/-- ITS FALSE NEIGHBOUR: 'it returns false'. Refute it at one input. -/
def fnPlainDecimalAcceptsExactlyTheGrammarWrong : ChangeSpec := { name := "fnPlainDecimalAcceptsExactlyTheGrammar", fn := fun _ => fun
  | [d1, d2] => { results := [.lit (.bool false)], args := [d1, d2] }
  | _ => none }
def FnPlainDecimalAcceptsExactlyTheGrammarWrongFalsely : Prop := fnPlainDecimalAcceptsExactlyTheGrammarRow.holds Try.pinned (OpenSpec.ofChange fnPlainDecimalAcceptsExactlyTheGrammarWrong)

/-- 'zzlaws_root_b1.FnPlainDecimalDigitsIsTheValue': WHATEVER THE INPUT: true; the input reads as it did. -/
def fnPlainDecimalDigitsIsTheValueSpec : ChangeSpec := { name := "fnPlainDecimalDigitsIsTheValue", fn := fun _ => fun
  | [d1, d2] => { results := [.lit (.bool true)], args := [d1, d2] }
  | _ => none }
def fnPlainDecimalDigitsIsTheValueRow : OpenClaim := { program := "qxb6001398a", sum := "303bbe1f0f89c3f53ee64c1bfd24a9eccff42dec43efee22c36da6abe376913a", func := "example.com/zhaomu/zhaomu/zzlaws_root_b1.FnPlainDecimalDigitsIsTheValue", spec := "fnPlainDecimalDigitsIsTheValue", apart := false }
def FnPlainDecimalDigitsIsTheValueSaid : Prop := fnPlainDecimalDigitsIsTheValueRow.holds Try.pinned (OpenSpec.ofChange fnPlainDecimalDigitsIsTheValueSpec)

/-- ITS FALSE NEIGHBOUR: 'it returns false'. Refute it at one input. -/
def fnPlainDecimalDigitsIsTheValueWrong : ChangeSpec := { name := "fnPlainDecimalDigitsIsTheValue", fn := fun _ => fun
  | [d1, d2] => { results := [.lit (.bool false)], args := [d1, d2] }
  | _ => none }
def FnPlainDecimalDigitsIsTheValueWrongFalsely : Prop := fnPlainDecimalDigitsIsTheValueRow.holds Try.pinned (OpenSpec.ofChange fnPlainDecimalDigitsIsTheValueWrong)

/-- 'zzlaws_root_b1.FnPlainDecimalMonotoneInPlaces': WHATEVER THE INPUT: true; the input reads as it did. -/
def fnPlainDecimalMonotoneInPlacesSpec : ChangeSpec := { name := "fnPlainDecimalMonotoneInPlaces", fn := fun _ => fun
  | [d1, d2, d3] => { results := [.lit (.bool true)], args := [d1, d2, d3] }
  | _ => none }
def fnPlainDecimalMonotoneInPlacesRow : OpenClaim := { program := "qxb6001398a", sum := "303bbe1f0f89c3f53ee64c1bfd24a9eccff42dec43efee22c36da6abe376913a", func := "example.com/zhaomu/zhaomu/zzlaws_root_b1.FnPlainDecimalMonotoneInPlaces", spec := "fnPlainDecimalMonotoneInPlaces", apart := false }
def FnPlainDecimalMonotoneInPlacesSaid : Prop := fnPlainDecimalMonotoneInPlacesRow.holds Try.pinned (OpenSpec.ofChange fnPlainDecimalMonotoneInPlacesSpec)

/-- ITS FALSE NEIGHBOUR: 'it returns false'. Refute it at one input. -/
def fnPlainDecimalMonotoneInPlacesWrong : ChangeSpec := { name := "fnPlainDecimalMonotoneInPlaces", fn := fun _ => fun
  | [d1, d2, d3] => { results := [.lit (.bool false)], args := [d1, d2, d3] }
  | _ => none }
def FnPlainDecimalMonotoneInPlacesWrongFalsely : Prop := fnPlainDecimalMonotoneInPlacesRow.holds Try.pinned (OpenSpec.ofChange fnPlainDecimalMonotoneInPlacesWrong)

end Rows
end Go.Proofs.Qxb6001398a
