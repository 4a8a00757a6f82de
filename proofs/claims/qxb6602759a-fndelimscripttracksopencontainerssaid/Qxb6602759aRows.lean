/-
  No cell of these rows narrows 'for every input' (looked for: loops, veiled, ifaces, maps, wideKeys, modest, calm, conditions, laid).
  DERIVED. THE GIVEN ROWS OF THIS SEAT. 6 by the template 'for every input the law returns true; each argument reads behind the call as it read before'; 0 by the template 'total and deterministic' (their statements: Qxb6602759aTotals.lean).
  GIVEN WITH THE SEED: the statements are not yours to turn. If you find one false, say at which input.
  Laid BY PROGRAM, IN A SANDBOX (cutbox-rows.mjs): the forced cells as the released guide's own fill.sh prints them over the translation 2946aa11cb40717b… (all of the seat's roots in one cut). By AI agents, Wed Nov 11 2026. No macro, syntax, notation, axiom, sorry.
-/
import Derived.Test.Qxb6602759aChecked
import GoSem.Claim
import GoSem.ClaimJoined
import GoSem.ClaimMapViews
import Derived.JoinedTies
import Derived.KernelRfl
namespace Go.Proofs.Qxb6602759a
/- THE CELL 'sum', in the pinned program and in every row, IS THE sha256 OF THE DUMP (.gsa) THAT Qxb6602759aProg.lean LOADS. Nothing in Lean hashes anything: it is a label: what it is worth is what the hold of that sum in a sandbox is worth. -/
noncomputable def Try.pinned : Pinned := { name := "qxb6602759a", sum := "2946aa11cb40717bba99077e78902595c074a12e80fcc3d7553841df908f5b27", checked := Try.checked }
namespace Rows
def none {H : Type} : Left H := { results := [], args := [] }

/-- 'zzlaws_internal_jsonview_b1.FnHexValueMatchesDigitSearch': WHATEVER THE INPUT: true; the input reads as it did. -/
def fnHexValueMatchesDigitSearchSpec : ChangeSpec := { name := "fnHexValueMatchesDigitSearch", fn := fun _ => fun
  | [d] => { results := [.lit (.bool true)], args := [d] }
  | _ => none }
def fnHexValueMatchesDigitSearchRow : OpenClaim := { program := "qxb6602759a", sum := "2946aa11cb40717bba99077e78902595c074a12e80fcc3d7553841df908f5b27", func := "example.com/framewright/framewright/zzlaws_internal_jsonview_b1.FnHexValueMatchesDigitSearch", spec := "fnHexValueMatchesDigitSearch", apart := false }
def FnHexValueMatchesDigitSearchSaid : Prop := fnHexValueMatchesDigitSearchRow.holds Try.pinned (OpenSpec.ofChange fnHexValueMatchesDigitSearchSpec)

/-- ITS FALSE NEIGHBOUR: 'it returns false'. Refute it at one input. -/
def fnHexValueMatchesDigitSearchWrong : ChangeSpec := { name := "fnHexValueMatchesDigitSearch", fn := fun _ => fun
  | [d] => { results := [.lit (.bool false)], args := [d] }
  | _ => none }
def FnHexValueMatchesDigitSearchWrongFalsely : Prop := fnHexValueMatchesDigitSearchRow.holds Try.pinned (OpenSpec.ofChange fnHexValueMatchesDigitSearchWrong)

/-- 'zzlaws_internal_jsonview_b1.FnHexValueReadsAppendEscapeDigits': WHATEVER THE INPUT: true; the input reads as it did. -/
def fnHexValueReadsAppendEscapeDigitsSpec : ChangeSpec := { name := "fnHexValueReadsAppendEscapeDigits", fn := fun _ => fun
  | [d] => { results := [.lit (.bool true)], args := [d] }
  | _ => none }
def fnHexValueReadsAppendEscapeDigitsRow : OpenClaim := { program := "qxb6602759a", sum := "2946aa11cb40717bba99077e78902595c074a12e80fcc3d7553841df908f5b27", func := "example.com/framewright/framewright/zzlaws_internal_jsonview_b1.FnHexValueReadsAppendEscapeDigits", spec := "fnHexValueReadsAppendEscapeDigits", apart := false }
def FnHexValueReadsAppendEscapeDigitsSaid : Prop := fnHexValueReadsAppendEscapeDigitsRow.holds Try.pinned (OpenSpec.ofChange fnHexValueReadsAppendEscapeDigitsSpec)

/-- ITS FALSE NEIGHBOUR: 'it returns false'. Refute it at one input. -/
def fnHexValueReadsAppendEscapeDigitsWrong : ChangeSpec := { name := "fnHexValueReadsAppendEscapeDigits", fn := fun _ => fun
  | [d] => { results := [.lit (.bool false)], args := [d] }
  | _ => none }
def FnHexValueReadsAppendEscapeDigitsWrongFalsely : Prop := fnHexValueReadsAppendEscapeDigitsRow.holds Try.pinned (OpenSpec.ofChange fnHexValueReadsAppendEscapeDigitsWrong)

/-- 'zzlaws_internal_jsonview_b1.FnAppendEscapeDecodesBackToByte': WHATEVER THE INPUT: true; the input reads as it did. -/
def fnAppendEscapeDecodesBackToByteSpec : ChangeSpec := { name := "fnAppendEscapeDecodesBackToByte", fn := fun _ => fun
  | [d1, d2] => { results := [.lit (.bool true)], args := [d1, d2] }
  | _ => none }
def fnAppendEscapeDecodesBackToByteRow : OpenClaim := { program := "qxb6602759a", sum := "2946aa11cb40717bba99077e78902595c074a12e80fcc3d7553841df908f5b27", func := "example.com/framewright/framewright/zzlaws_internal_jsonview_b1.FnAppendEscapeDecodesBackToByte", spec := "fnAppendEscapeDecodesBackToByte", apart := false }
def FnAppendEscapeDecodesBackToByteSaid : Prop := fnAppendEscapeDecodesBackToByteRow.holds Try.pinned (OpenSpec.ofChange fnAppendEscapeDecodesBackToByteSpec)

/-- ITS FALSE NEIGHBOUR: 'it returns false'. Refute it at one input. -/
def fnAppendEscapeDecodesBackToByteWrong : ChangeSpec := { name := "fnAppendEscapeDecodesBackToByte", fn := fun _ => fun
  | [d1, d2] => { results := [.lit (.bool false)], args := [d1, d2] }
  | _ => none }
def FnAppendEscapeDecodesBackToByteWrongFalsely : Prop := fnAppendEscapeDecodesBackToByteRow.holds Try.pinned (OpenSpec.ofChange fnAppendEscapeDecodesBackToByteWrong)

/-- 'zzlaws_internal_jsonview_b1.FnAppendEscapeTailIsPlainASCII': WHATEVER THE INPUT: true; the input reads as it did. -/
def fnAppendEscapeTailIsPlainASCIISpec : ChangeSpec := { name := "fnAppendEscapeTailIsPlainASCII", fn := fun _ => fun
  | [d1, d2] => { results := [.lit (.bool true)], args := [d1, d2] }
  | _ => none }
def fnAppendEscapeTailIsPlainASCIIRow : OpenClaim := { program := "qxb6602759a", sum := "2946aa11cb40717bba99077e78902595c074a12e80fcc3d7553841df908f5b27", func := "example.com/framewright/framewright/zzlaws_internal_jsonview_b1.FnAppendEscapeTailIsPlainASCII", spec := "fnAppendEscapeTailIsPlainASCII", apart := false }
def FnAppendEscapeTailIsPlainASCIISaid : Prop := fnAppendEscapeTailIsPlainASCIIRow.holds Try.pinned (OpenSpec.ofChange fnAppendEscapeTailIsPlainASCIISpec)

/-- ITS FALSE NEIGHBOUR: 'it returns false'. Refute it at one input. -/
def fnAppendEscapeTailIsPlainASCIIWrong : ChangeSpec := { name := "fnAppendEscapeTailIsPlainASCII", fn := fun _ => fun
  | [d1, d2] => { results := [.lit (.bool false)], args := [d1, d2] }
  | _ => none }
def FnAppendEscapeTailIsPlainASCIIWrongFalsely : Prop := fnAppendEscapeTailIsPlainASCIIRow.holds Try.pinned (OpenSpec.ofChange fnAppendEscapeTailIsPlainASCIIWrong)

/-- 'zzlaws_internal_jsonview_b1.FnDelimOpenThenCloseRestoresState': WHATEVER THE INPUT: true; the input reads as it did. -/
def fnDelimOpenThenCloseRestoresStateSpec : ChangeSpec := { name := "fnDelimOpenThenCloseRestoresState", fn := fun _ => fun
  | [d1, d2, d3, d4, d5, d6, d7] => { results := [.lit (.bool true)], args := [d1, d2, d3, d4, d5, d6, d7] }
  | _ => none }
def fnDelimOpenThenCloseRestoresStateRow : OpenClaim := { program := "qxb6602759a", sum := "2946aa11cb40717bba99077e78902595c074a12e80fcc3d7553841df908f5b27", func := "example.com/framewright/framewright/zzlaws_internal_jsonview_b1.FnDelimOpenThenCloseRestoresState", spec := "fnDelimOpenThenCloseRestoresState", apart := false }
def FnDelimOpenThenCloseRestoresStateSaid : Prop := fnDelimOpenThenCloseRestoresStateRow.holds Try.pinned (OpenSpec.ofChange fnDelimOpenThenCloseRestoresStateSpec)

/-- ITS FALSE NEIGHBOUR: 'it returns false'. Refute it at one input. -/
def fnDelimOpenThenCloseRestoresStateWrong : ChangeSpec := { name := "fnDelimOpenThenCloseRestoresState", fn := fun _ => fun
  | [d1, d2, d3, d4, d5, d6, d7] => { results := [.lit (.bool false)], args := [d1, d2, d3, d4, d5, d6, d7] }
  | _ => none }
def FnDelimOpenThenCloseRestoresStateWrongFalsely : Prop := fnDelimOpenThenCloseRestoresStateRow.holds Try.pinned (OpenSpec.ofChange fnDelimOpenThenCloseRestoresStateWrong)

/-- 'zzlaws_internal_jsonview_b1.FnDelimScriptTracksOpenContainers': WHATEVER THE INPUT: true; the input reads as it did. -/
def fnDelimScriptTracksOpenContainersSpec : ChangeSpec := { name := "fnDelimScriptTracksOpenContainers", fn := fun _ => fun
  | [d] => { results := [.lit (.bool true)], args := [d] }
  | _ => none }
def fnDelimScriptTracksOpenContainersRow : OpenClaim := { program := "qxb6602759a", sum := "2946aa11cb40717bba99077e78902595c074a12e80fcc3d7553841df908f5b27", func := "example.com/framewright/framewright/zzlaws_internal_jsonview_b1.FnDelimScriptTracksOpenContainers", spec := "fnDelimScriptTracksOpenContainers", apart := false }
def FnDelimScriptTracksOpenContainersSaid : Prop := fnDelimScriptTracksOpenContainersRow.holds Try.pinned (OpenSpec.ofChange fnDelimScriptTracksOpenContainersSpec)

/-- ITS FALSE NEIGHBOUR: 'it returns false'. Refute it at one input. -/
def fnDelimScriptTracksOpenContainersWrong : ChangeSpec := { name := "fnDelimScriptTracksOpenContainers", fn := fun _ => fun
  | [d] => { results := [.lit (.bool false)], args := [d] }
  | _ => none }
def FnDelimScriptTracksOpenContainersWrongFalsely : Prop := fnDelimScriptTracksOpenContainersRow.holds Try.pinned (OpenSpec.ofChange fnDelimScriptTracksOpenContainersWrong)

end Rows
end Go.Proofs.Qxb6602759a
