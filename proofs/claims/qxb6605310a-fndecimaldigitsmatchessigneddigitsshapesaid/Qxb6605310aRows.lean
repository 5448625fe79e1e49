/-
  No cell of these rows narrows 'for every input' (looked for: loops, veiled, ifaces, maps, wideKeys, modest, calm, conditions, laid).
  DERIVED. THE GIVEN ROWS OF THIS SEAT. 1 by the template 'for every input the law returns true; each argument reads behind the call as it read before'; 0 by the template 'total and deterministic' (their statements: Qxb6605310aTotals.lean).
  GIVEN WITH THE SEED: the statements are not yours to turn. If you find one false, say at which input.
  Laid BY PROGRAM, IN A SANDBOX (cutbox-rows.mjs): the forced cells as the released guide's own fill.sh prints them over the translation a0b4fe45ddca3627… (all of the seat's roots in one cut). By AI agents, Wed Nov 11 2026. No macro, syntax, notation, axiom, sorry.
-/
import Derived.Test.Qxb6605310aChecked
import GoSem.Claim
import GoSem.ClaimJoined
import GoSem.ClaimMapViews
import Derived.JoinedTies
import Derived.KernelRfl
namespace Go.Proofs.Qxb6605310a
/- THE CELL 'sum', in the pinned program and in every row, IS THE sha256 OF THE DUMP (.gsa) THAT Qxb6605310aProg.lean LOADS. Nothing in Lean hashes anything: it is a label: what it is worth is what the hold of that sum in a sandbox is worth. -/
noncomputable def Try.pinned : Pinned := { name := "qxb6605310a", sum := "a0b4fe45ddca362758a58eadcc1661b5d72dfa69c638d55a96083cc26d94ed2d", checked := Try.checked }
namespace Rows
def none {H : Type} : Left H := { results := [], args := [] }

/-- 'zzlaws_internal_yamlfile_b1.FnDecimalDigitsMatchesSignedDigitsShape': WHATEVER THE INPUT: true; the input reads as it did. -/
def fnDecimalDigitsMatchesSignedDigitsShapeSpec : ChangeSpec := { name := "fnDecimalDigitsMatchesSignedDigitsShape", fn := fun _ => fun
  | [d] => { results := [.lit (.bool true)], args := [d] }
  | _ => none }
def fnDecimalDigitsMatchesSignedDigitsShapeRow : OpenClaim := { program := "qxb6605310a", sum := "a0b4fe45ddca362758a58eadcc1661b5d72dfa69c638d55a96083cc26d94ed2d", func := "example.com/vestline/vestline/zzlaws_internal_yamlfile_b1.FnDecimalDigitsMatchesSignedDigitsShape", spec := "fnDecimalDigitsMatchesSignedDigitsShape", apart := false }
def FnDecimalDigitsMatchesSignedDigitsShapeSaid : Prop := fnDecimalDigitsMatchesSignedDigitsShapeRow.holds Try.pinned (OpenSpec.ofChange fnDecimalDigitsMatchesSignedDigitsShapeSpec)

/-- ITS FALSE NEIGHBOUR: 'it returns false'. Refute it at one input. -/
def fnDecimalDigitsMatchesSignedDigitsShapeWrong : ChangeSpec := { name := "fnDecimalDigitsMatchesSignedDigitsShape", fn := fun _ => fun
  | [d] => { results := [.lit (.bool false)], args := [d] }
  | _ => none }
def FnDecimalDigitsMatchesSignedDigitsShapeWrongFalsely : Prop := fnDecimalDigitsMatchesSignedDigitsShapeRow.holds Try.pinned (OpenSpec.ofChange fnDecimalDigitsMatchesSignedDigitsShapeWrong)

end Rows
end Go.Proofs.Qxb6605310a
