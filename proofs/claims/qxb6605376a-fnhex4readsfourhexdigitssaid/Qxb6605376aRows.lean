/-
  No cell of these rows narrows 'for every input' (looked for: loops, veiled, ifaces, maps, wideKeys, modest, calm, conditions, laid).
  DERIVED. THE GIVEN ROWS OF THIS SEAT. 4 by the template 'for every input the law returns true; each argument reads behind the call as it read before'; 0 by the template 'total and deterministic' (their statements: Qxb6605376aTotals.lean).
  GIVEN WITH THE SEED: the statements are not yours to turn. If you find one false, say at which input.
  Laid BY PROGRAM, IN A SANDBOX (cutbox-rows.mjs): the forced cells as the released guide's own fill.sh prints them over the translation 18b36c36b8aca256… (all of the seat's roots in one cut). By AI agents, Wed Nov 11 2026. No macro, syntax, notation, axiom, sorry.
-/
import Derived.Test.Qxb6605376aChecked
import GoSem.Claim
import GoSem.ClaimJoined
import GoSem.ClaimMapViews
import Derived.JoinedTies
import Derived.KernelRfl
namespace Go.Proofs.Qxb6605376a
/- THE CELL 'sum', in the pinned program and in every row, IS THE sha256 OF THE DUMP (.gsa) THAT Qxb6605376aProg.lean LOADS. Nothing in Lean hashes anything: it is a label: what it is worth is what the hold of that sum in a sandbox is worth. -/
noncomputable def Try.pinned : Pinned := { name := "qxb6605376a", sum := "18b36c36b8aca256984032fc2d4547c03fc2d595696c7a1941e04d9961b6849e", checked := Try.checked }
namespace Rows
def none {H : Type} : Left H := { results := [], args := [] }

/-- 'zzlaws_internal_jsonobj_b1.FnHex4ReadsFourHexDigits': WHATEVER THE INPUT: true; the input reads as it did. -/
def fnHex4ReadsFourHexDigitsSpec : ChangeSpec := { name := "fnHex4ReadsFourHexDigits", fn := fun _ => fun
  | [d] => { results := [.lit (.bool true)], args := [d] }
  | _ => none }
def fnHex4ReadsFourHexDigitsRow : OpenClaim := { program := "qxb6605376a", sum := "18b36c36b8aca256984032fc2d4547c03fc2d595696c7a1941e04d9961b6849e", func := "example.com/kestrelvox/kestrelvox/zzlaws_internal_jsonobj_b1.FnHex4ReadsFourHexDigits", spec := "fnHex4ReadsFourHexDigits", apart := false }
def FnHex4ReadsFourHexDigitsSaid : Prop := fnHex4ReadsFourHexDigitsRow.holds Try.pinned (OpenSpec.ofChange fnHex4ReadsFourHexDigitsSpec)

/-- ITS FALSE NEIGHBOUR: 'it returns false'. Refute it at one input. -/
def fnHex4ReadsFourHexDigitsWrong : ChangeSpec := { name := "fnHex4ReadsFourHexDigits", fn := fun _ => fun
  | [d] => { results := [.lit (.bool false)], args := [d] }
  | _ => none }
def FnHex4ReadsFourHexDigitsWrongFalsely : Prop := fnHex4ReadsFourHexDigitsRow.holds Try.pinned (OpenSpec.ofChange fnHex4ReadsFourHexDigitsWrong)

/-- 'zzlaws_internal_jsonobj_b1.FnHex4ReadsWhatFourDigitsWrite': WHATEVER THE INPUT: true; the input reads as it did. -/
def fnHex4ReadsWhatFourDigitsWriteSpec : ChangeSpec := { name := "fnHex4ReadsWhatFourDigitsWrite", fn := fun _ => fun
  | [d1, d2, d3] => { results := [.lit (.bool true)], args := [d1, d2, d3] }
  | _ => none }
def fnHex4ReadsWhatFourDigitsWriteRow : OpenClaim := { program := "qxb6605376a", sum := "18b36c36b8aca256984032fc2d4547c03fc2d595696c7a1941e04d9961b6849e", func := "example.com/kestrelvox/kestrelvox/zzlaws_internal_jsonobj_b1.FnHex4ReadsWhatFourDigitsWrite", spec := "fnHex4ReadsWhatFourDigitsWrite", apart := false }
def FnHex4ReadsWhatFourDigitsWriteSaid : Prop := fnHex4ReadsWhatFourDigitsWriteRow.holds Try.pinned (OpenSpec.ofChange fnHex4ReadsWhatFourDigitsWriteSpec)

/-- ITS FALSE NEIGHBOUR: 'it returns false'. Refute it at one input. -/
def fnHex4ReadsWhatFourDigitsWriteWrong : ChangeSpec := { name := "fnHex4ReadsWhatFourDigitsWrite", fn := fun _ => fun
  | [d1, d2, d3] => { results := [.lit (.bool false)], args := [d1, d2, d3] }
  | _ => none }
def FnHex4ReadsWhatFourDigitsWriteWrongFalsely : Prop := fnHex4ReadsWhatFourDigitsWriteRow.holds Try.pinned (OpenSpec.ofChange fnHex4ReadsWhatFourDigitsWriteWrong)

/-- 'zzlaws_internal_jsonobj_b1.FnSpaceStopsAtFirstNonSpace': WHATEVER THE INPUT: true; the input reads as it did. -/
def fnSpaceStopsAtFirstNonSpaceSpec : ChangeSpec := { name := "fnSpaceStopsAtFirstNonSpace", fn := fun _ => fun
  | [d1, d2, d3] => { results := [.lit (.bool true)], args := [d1, d2, d3] }
  | _ => none }
def fnSpaceStopsAtFirstNonSpaceRow : OpenClaim := { program := "qxb6605376a", sum := "18b36c36b8aca256984032fc2d4547c03fc2d595696c7a1941e04d9961b6849e", func := "example.com/kestrelvox/kestrelvox/zzlaws_internal_jsonobj_b1.FnSpaceStopsAtFirstNonSpace", spec := "fnSpaceStopsAtFirstNonSpace", apart := false }
def FnSpaceStopsAtFirstNonSpaceSaid : Prop := fnSpaceStopsAtFirstNonSpaceRow.holds Try.pinned (OpenSpec.ofChange fnSpaceStopsAtFirstNonSpaceSpec)

/-- ITS FALSE NEIGHBOUR: 'it returns false'. Refute it at one input. -/
def fnSpaceStopsAtFirstNonSpaceWrong : ChangeSpec := { name := "fnSpaceStopsAtFirstNonSpace", fn := fun _ => fun
  | [d1, d2, d3] => { results := [.lit (.bool false)], args := [d1, d2, d3] }
  | _ => none }
def FnSpaceStopsAtFirstNonSpaceWrongFalsely : Prop := fnSpaceStopsAtFirstNonSpaceRow.holds Try.pinned (OpenSpec.ofChange fnSpaceStopsAtFirstNonSpaceWrong)

/-- 'zzlaws_internal_jsonobj_b1.FnSpaceLandsOnTokenAndStaysThere': WHATEVER THE INPUT: true; the input reads as it did. -/
def fnSpaceLandsOnTokenAndStaysThereSpec : ChangeSpec := { name := "fnSpaceLandsOnTokenAndStaysThere", fn := fun _ => fun
  | [d1, d2, d3] => { results := [.lit (.bool true)], args := [d1, d2, d3] }
  | _ => none }
def fnSpaceLandsOnTokenAndStaysThereRow : OpenClaim := { program := "qxb6605376a", sum := "18b36c36b8aca256984032fc2d4547c03fc2d595696c7a1941e04d9961b6849e", func := "example.com/kestrelvox/kestrelvox/zzlaws_internal_jsonobj_b1.FnSpaceLandsOnTokenAndStaysThere", spec := "fnSpaceLandsOnTokenAndStaysThere", apart := false }
def FnSpaceLandsOnTokenAndStaysThereSaid : Prop := fnSpaceLandsOnTokenAndStaysThereRow.holds Try.pinned (OpenSpec.ofChange fnSpaceLandsOnTokenAndStaysThereSpec)

/-- ITS FALSE NEIGHBOUR: 'it returns false'. Refute it at one input. -/
def fnSpaceLandsOnTokenAndStaysThereWrong : ChangeSpec := { name := "fnSpaceLandsOnTokenAndStaysThere", fn := fun _ => fun
  | [d1, d2, d3] => { results := [.lit (.bool false)], args := [d1, d2, d3] }
  | _ => none }
def FnSpaceLandsOnTokenAndStaysThereWrongFalsely : Prop := fnSpaceLandsOnTokenAndStaysThereRow.holds Try.pinned (OpenSpec.ofChange fnSpaceLandsOnTokenAndStaysThereWrong)

end Rows
end Go.Proofs.Qxb6605376a
