/-
  No cell of these rows narrows 'for every input' (looked for: loops, veiled, ifaces, maps, wideKeys, modest, calm, conditions, laid).
  DERIVED. THE GIVEN ROWS OF THIS SEAT. 4 by the template 'for every input the law returns true; each argument reads behind the call as it read before'; 0 by the template 'total and deterministic' (their statements: Qxb6603129aTotals.lean).
  GIVEN WITH THE SEED: the statements are not yours to turn. If you find one false, say at which input.
  Laid BY PROGRAM, IN A SANDBOX (cutbox-rows.mjs): the forced cells as the released guide's own fill.sh prints them over the translation 23e91bbca5a7353b… (all of the seat's roots in one cut). By AI agents, Wed Nov 11 2026. No macro, syntax, notation, axiom, sorry.
-/
import Derived.Test.Qxb6603129aChecked
import GoSem.Claim
import GoSem.ClaimJoined
import GoSem.ClaimMapViews
import Derived.JoinedTies
import Derived.KernelRfl
namespace Go.Proofs.Qxb6603129a
/- THE CELL 'sum', in the pinned program and in every row, IS THE sha256 OF THE DUMP (.gsa) THAT Qxb6603129aProg.lean LOADS. Nothing in Lean hashes anything: it is a label: what it is worth is what the hold of that sum in a sandbox is worth. -/
noncomputable def Try.pinned : Pinned := { name := "qxb6603129a", sum := "23e91bbca5a7353b1eb536ea1b7a13059fd9f41fd54850612599253911a3e0ff", checked := Try.checked }
namespace Rows
def none {H : Type} : Left H := { results := [], args := [] }

/-- 'zzlaws_internal_kinds_gcp_b1.FnProjectNumberMatchesValueModel': WHATEVER THE INPUT: true; the input reads as it did. -/
def fnProjectNumberMatchesValueModelSpec : ChangeSpec := { name := "fnProjectNumberMatchesValueModel", fn := fun _ => fun
  | [d] => { results := [.lit (.bool true)], args := [d] }
  | _ => none }
def fnProjectNumberMatchesValueModelRow : OpenClaim := { program := "qxb6603129a", sum := "23e91bbca5a7353b1eb536ea1b7a13059fd9f41fd54850612599253911a3e0ff", func := "example.com/tokenwright/tokenwright/zzlaws_internal_kinds_gcp_b1.FnProjectNumberMatchesValueModel", spec := "fnProjectNumberMatchesValueModel", unfollowed := true, recurses := true, apart := false }
def FnProjectNumberMatchesValueModelSaid : Prop := fnProjectNumberMatchesValueModelRow.holds Try.pinned (OpenSpec.ofChange fnProjectNumberMatchesValueModelSpec)

/-- ITS FALSE NEIGHBOUR: 'it returns false'. Refute it at one input. -/
def fnProjectNumberMatchesValueModelWrong : ChangeSpec := { name := "fnProjectNumberMatchesValueModel", fn := fun _ => fun
  | [d] => { results := [.lit (.bool false)], args := [d] }
  | _ => none }
def FnProjectNumberMatchesValueModelWrongFalsely : Prop := fnProjectNumberMatchesValueModelRow.holds Try.pinned (OpenSpec.ofChange fnProjectNumberMatchesValueModelWrong)

/-- 'zzlaws_internal_kinds_gcp_b1.FnProjectNumberAcceptsExactlyInt64Decimals': WHATEVER THE INPUT: true; the input reads as it did. -/
def fnProjectNumberAcceptsExactlyInt64DecimalsSpec : ChangeSpec := { name := "fnProjectNumberAcceptsExactlyInt64Decimals", fn := fun _ => fun
  | [d] => { results := [.lit (.bool true)], args := [d] }
  | _ => none }
def fnProjectNumberAcceptsExactlyInt64DecimalsRow : OpenClaim := { program := "qxb6603129a", sum := "23e91bbca5a7353b1eb536ea1b7a13059fd9f41fd54850612599253911a3e0ff", func := "example.com/tokenwright/tokenwright/zzlaws_internal_kinds_gcp_b1.FnProjectNumberAcceptsExactlyInt64Decimals", spec := "fnProjectNumberAcceptsExactlyInt64Decimals", unfollowed := true, recurses := true, apart := false }
def FnProjectNumberAcceptsExactlyInt64DecimalsSaid : Prop := fnProjectNumberAcceptsExactlyInt64DecimalsRow.holds Try.pinned (OpenSpec.ofChange fnProjectNumberAcceptsExactlyInt64DecimalsSpec)

/-- ITS FALSE NEIGHBOUR: 'it returns false'. Refute it at one input. -/
def fnProjectNumberAcceptsExactlyInt64DecimalsWrong : ChangeSpec := { name := "fnProjectNumberAcceptsExactlyInt64Decimals", fn := fun _ => fun
  | [d] => { results := [.lit (.bool false)], args := [d] }
  | _ => none }
def FnProjectNumberAcceptsExactlyInt64DecimalsWrongFalsely : Prop := fnProjectNumberAcceptsExactlyInt64DecimalsRow.holds Try.pinned (OpenSpec.ofChange fnProjectNumberAcceptsExactlyInt64DecimalsWrong)

/-- 'zzlaws_internal_kinds_gcp_b1.FnProviderMatchesSegmentModel': WHATEVER THE INPUT: true; the input reads as it did. -/
def fnProviderMatchesSegmentModelSpec : ChangeSpec := { name := "fnProviderMatchesSegmentModel", fn := fun _ => fun
  | [d] => { results := [.lit (.bool true)], args := [d] }
  | _ => none }
def fnProviderMatchesSegmentModelRow : OpenClaim := { program := "qxb6603129a", sum := "23e91bbca5a7353b1eb536ea1b7a13059fd9f41fd54850612599253911a3e0ff", func := "example.com/tokenwright/tokenwright/zzlaws_internal_kinds_gcp_b1.FnProviderMatchesSegmentModel", spec := "fnProviderMatchesSegmentModel", inPlace := ["internal/bytealg.IndexByteString", "internal/bytealg.IndexString"], unfollowed := true, recurses := true, named := ["internal/bytealg.MaxLen"], apart := false }
def FnProviderMatchesSegmentModelSaid : Prop := fnProviderMatchesSegmentModelRow.holds Try.pinned (OpenSpec.ofChange fnProviderMatchesSegmentModelSpec)

/-- ITS FALSE NEIGHBOUR: 'it returns false'. Refute it at one input. -/
def fnProviderMatchesSegmentModelWrong : ChangeSpec := { name := "fnProviderMatchesSegmentModel", fn := fun _ => fun
  | [d] => { results := [.lit (.bool false)], args := [d] }
  | _ => none }
def FnProviderMatchesSegmentModelWrongFalsely : Prop := fnProviderMatchesSegmentModelRow.holds Try.pinned (OpenSpec.ofChange fnProviderMatchesSegmentModelWrong)

/-- 'zzlaws_internal_kinds_gcp_b1.FnProviderAgreesWithItsParts': WHATEVER THE INPUT: true; the input reads as it did. -/
def fnProviderAgreesWithItsPartsSpec : ChangeSpec := { name := "fnProviderAgreesWithItsParts", fn := fun _ => fun
  | [d1, d2, d3] => { results := [.lit (.bool true)], args := [d1, d2, d3] }
  | _ => none }
def fnProviderAgreesWithItsPartsRow : OpenClaim := { program := "qxb6603129a", sum := "23e91bbca5a7353b1eb536ea1b7a13059fd9f41fd54850612599253911a3e0ff", func := "example.com/tokenwright/tokenwright/zzlaws_internal_kinds_gcp_b1.FnProviderAgreesWithItsParts", spec := "fnProviderAgreesWithItsParts", inPlace := ["internal/bytealg.IndexByteString", "internal/bytealg.IndexString"], unfollowed := true, recurses := true, named := ["internal/bytealg.MaxLen"], apart := false }
def FnProviderAgreesWithItsPartsSaid : Prop := fnProviderAgreesWithItsPartsRow.holds Try.pinned (OpenSpec.ofChange fnProviderAgreesWithItsPartsSpec)

/-- ITS FALSE NEIGHBOUR: 'it returns false'. Refute it at one input. -/
def fnProviderAgreesWithItsPartsWrong : ChangeSpec := { name := "fnProviderAgreesWithItsParts", fn := fun _ => fun
  | [d1, d2, d3] => { results := [.lit (.bool false)], args := [d1, d2, d3] }
  | _ => none }
def FnProviderAgreesWithItsPartsWrongFalsely : Prop := fnProviderAgreesWithItsPartsRow.holds Try.pinned (OpenSpec.ofChange fnProviderAgreesWithItsPartsWrong)

end Rows
end Go.Proofs.Qxb6603129a
