/-
  No cell of these rows narrows 'for every input' (looked for: loops, veiled, ifaces, maps, wideKeys, modest, calm, conditions, laid).
  DERIVED. THE GIVEN ROWS OF THIS SEAT. 2 by the template 'for every input the law returns true; each argument reads behind the call as it read before'; 0 by the template 'total and deterministic' (their statements: Qxb6001559aTotals.lean).
  GIVEN WITH THE SEED: the statements are not yours to turn. If you find one false, say at which input.
  Laid BY PROGRAM, IN A SANDBOX (cutbox-rows.mjs): the forced cells as the released guide's own fill.sh prints them over the translation 51027e599c4d4d95… (all of the seat's roots in one cut). By AI agents, Wed Nov 11 2026. No macro, syntax, notation, axiom, sorry.
-/
import Derived.Test.Qxb6001559aChecked
import GoSem.Claim
import GoSem.ClaimJoined
import GoSem.ClaimMapViews
import Derived.JoinedTies
import Derived.KernelRfl
namespace Go.Proofs.Qxb6001559a
/- THE CELL 'sum', in the pinned program and in every row, IS THE sha256 OF THE DUMP (.gsa) THAT Qxb6001559aProg.lean LOADS. Nothing in Lean hashes anything: it is a label: what it is worth is what the hold of that sum in a sandbox is worth. -/
noncomputable def Try.pinned : Pinned := { name := "qxb6001559a", sum := "51027e599c4d4d95f4a1d76f0b310dda319a70e6ed57e5d77b2302d674458c5c", checked := Try.checked }
namespace Rows
def none {H : Type} : Left H := { results := [], args := [] }

/-- 'zzlaws_pkg_httpapi_b1.FnStringEndRoundTripsEncoder': WHATEVER THE INPUT: true; the input reads as it did. -/
def fnStringEndRoundTripsEncoderSpec : ChangeSpec := { name := "fnStringEndRoundTripsEncoder", fn := fun _ => fun
  | [d1, d2, d3, d4] => { results := [.lit (.bool true)], args := [d1, d2, d3, d4] }
  | _ => none }
def fnStringEndRoundTripsEncoderRow : OpenClaim := { program := "qxb6001559a", sum := "51027e599c4d4d95f4a1d76f0b310dda319a70e6ed57e5d77b2302d674458c5c", func := "example.com/castellan/castellan/zzlaws_pkg_httpapi_b1.FnStringEndRoundTripsEncoder", spec := "fnStringEndRoundTripsEncoder", apart := false }
def FnStringEndRoundTripsEncoderSaid : Prop := fnStringEndRoundTripsEncoderRow.holds Try.pinned (OpenSpec.ofChange fnStringEndRoundTripsEncoderSpec)

/-- ITS FALSE NEIGHBOUR: 'it returns false'. Refute it at one input. -/
def fnStringEndRoundTripsEncoderWrong : ChangeSpec := { name := "fnStringEndRoundTripsEncoder", fn := fun _ => fun
  | [d1, d2, d3, d4] => { results := [.lit (.bool false)], args := [d1, d2, d3, d4] }
  | _ => none }
def FnStringEndRoundTripsEncoderWrongFalsely : Prop := fnStringEndRoundTripsEncoderRow.holds Try.pinned (OpenSpec.ofChange fnStringEndRoundTripsEncoderWrong)

/-- 'zzlaws_pkg_httpapi_b1.FnStringEndMatchesBackslashParity': WHATEVER THE INPUT: true; the input reads as it did. -/
def fnStringEndMatchesBackslashParitySpec : ChangeSpec := { name := "fnStringEndMatchesBackslashParity", fn := fun _ => fun
  | [d1, d2] => { results := [.lit (.bool true)], args := [d1, d2] }
  | _ => none }
def fnStringEndMatchesBackslashParityRow : OpenClaim := { program := "qxb6001559a", sum := "51027e599c4d4d95f4a1d76f0b310dda319a70e6ed57e5d77b2302d674458c5c", func := "example.com/castellan/castellan/zzlaws_pkg_httpapi_b1.FnStringEndMatchesBackslashParity", spec := "fnStringEndMatchesBackslashParity", apart := false }
def FnStringEndMatchesBackslashParitySaid : Prop := fnStringEndMatchesBackslashParityRow.holds Try.pinned (OpenSpec.ofChange fnStringEndMatchesBackslashParitySpec)

/-- ITS FALSE NEIGHBOUR: 'it returns false'. Refute it at one input. -/
def fnStringEndMatchesBackslashParityWrong : ChangeSpec := { name := "fnStringEndMatchesBackslashParity", fn := fun _ => fun
  | [d1, d2] => { results := [.lit (.bool false)], args := [d1, d2] }
  | _ => none }
def FnStringEndMatchesBackslashParityWrongFalsely : Prop := fnStringEndMatchesBackslashParityRow.holds Try.pinned (OpenSpec.ofChange fnStringEndMatchesBackslashParityWrong)

end Rows
end Go.Proofs.Qxb6001559a
