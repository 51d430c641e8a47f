/-
  No cell of these rows narrows 'for every input' (looked for: loops, veiled, ifaces, maps, wideKeys, modest, calm, conditions, laid).
  DERIVED. THE GIVEN ROWS OF THIS SEAT. 5 by the template 'for every input the law returns true; each argument reads behind the call as it read before'; 0 by the template 'total and deterministic' (their statements: Qxb6619218aTotals.lean).
  GIVEN WITH THE SEED: the statements are not yours to turn. If you find one false, say at which input.
  Laid BY PROGRAM, IN A SANDBOX (cutbox-rows.mjs): the forced cells as the released guide's own fill.sh prints them over the translation bc219c9e54a65c69… (all of the seat's roots in one cut). By AI agents, Wed Nov 11 2026. No macro, syntax, notation, axiom, sorry.
-/
import Derived.Test.Qxb6619218aChecked
import GoSem.Claim
import GoSem.ClaimJoined
import GoSem.ClaimMapViews
import Derived.JoinedTies
import Derived.KernelRfl
namespace Go.Proofs.Qxb6619218a
/- THE CELL 'sum', in the pinned program and in every row, IS THE sha256 OF THE DUMP (.gsa) THAT Qxb6619218aProg.lean LOADS. Nothing in Lean hashes anything: it is a label: what it is worth is what the hold of that sum in a sandbox is worth. -/
noncomputable def Try.pinned : Pinned := { name := "qxb6619218a", sum := "bc219c9e54a65c69437d826330b7f16f3390d7040734cb674fa61859d654d459", checked := Try.checked }
namespace Rows
def none {H : Type} : Left H := { results := [], args := [] }

/-- 'zzlaws_internal_policy_b1.FnPlacesOfAreEveryPlaceOfTheKey': WHATEVER THE INPUT: true; the input reads as it did. -/
def fnPlacesOfAreEveryPlaceOfTheKeySpec : ChangeSpec := { name := "fnPlacesOfAreEveryPlaceOfTheKey", fn := fun _ => fun
  | [d1, d2] => { results := [.lit (.bool true)], args := [d1, d2] }
  | _ => none }
def fnPlacesOfAreEveryPlaceOfTheKeyRow : OpenClaim := { program := "qxb6619218a", sum := "bc219c9e54a65c69437d826330b7f16f3390d7040734cb674fa61859d654d459", func := "example.com/rules-over-resources/rules-over-resources/zzlaws_internal_policy_b1.FnPlacesOfAreEveryPlaceOfTheKey", spec := "fnPlacesOfAreEveryPlaceOfTheKey", apart := false }
def FnPlacesOfAreEveryPlaceOfTheKeySaid : Prop := fnPlacesOfAreEveryPlaceOfTheKeyRow.holds Try.pinned (OpenSpec.ofChange fnPlacesOfAreEveryPlaceOfTheKeySpec)

/-- ITS FALSE NEIGHBOUR: 'it returns false'. Refute it at one input. -/
def fnPlacesOfAreEveryPlaceOfTheKeyWrong : ChangeSpec := { name := "fnPlacesOfAreEveryPlaceOfTheKey", fn := fun _ => fun
  | [d1, d2] => { results := [.lit (.bool false)], args := [d1, d2] }
  | _ => none }
def FnPlacesOfAreEveryPlaceOfTheKeyWrongFalsely : Prop := fnPlacesOfAreEveryPlaceOfTheKeyRow.holds Try.pinned (OpenSpec.ofChange fnPlacesOfAreEveryPlaceOfTheKeyWrong)

/-- 'zzlaws_internal_policy_b1.FnPlacesOfKeepsAnsweringTrueFromItsIndex': WHATEVER THE INPUT: true; the input reads as it did. -/
def fnPlacesOfKeepsAnsweringTrueFromItsIndexSpec : ChangeSpec := { name := "fnPlacesOfKeepsAnsweringTrueFromItsIndex", fn := fun _ => fun
  | [d1, d2, d3] => { results := [.lit (.bool true)], args := [d1, d2, d3] }
  | _ => none }
def fnPlacesOfKeepsAnsweringTrueFromItsIndexRow : OpenClaim := { program := "qxb6619218a", sum := "bc219c9e54a65c69437d826330b7f16f3390d7040734cb674fa61859d654d459", func := "example.com/rules-over-resources/rules-over-resources/zzlaws_internal_policy_b1.FnPlacesOfKeepsAnsweringTrueFromItsIndex", spec := "fnPlacesOfKeepsAnsweringTrueFromItsIndex", apart := false }
def FnPlacesOfKeepsAnsweringTrueFromItsIndexSaid : Prop := fnPlacesOfKeepsAnsweringTrueFromItsIndexRow.holds Try.pinned (OpenSpec.ofChange fnPlacesOfKeepsAnsweringTrueFromItsIndexSpec)

/-- ITS FALSE NEIGHBOUR: 'it returns false'. Refute it at one input. -/
def fnPlacesOfKeepsAnsweringTrueFromItsIndexWrong : ChangeSpec := { name := "fnPlacesOfKeepsAnsweringTrueFromItsIndex", fn := fun _ => fun
  | [d1, d2, d3] => { results := [.lit (.bool false)], args := [d1, d2, d3] }
  | _ => none }
def FnPlacesOfKeepsAnsweringTrueFromItsIndexWrongFalsely : Prop := fnPlacesOfKeepsAnsweringTrueFromItsIndexRow.holds Try.pinned (OpenSpec.ofChange fnPlacesOfKeepsAnsweringTrueFromItsIndexWrong)

/-- 'zzlaws_internal_policy_b1.FnLatestOfIsTheGreatestPreferringStable': WHATEVER THE INPUT: true; the input reads as it did. -/
def fnLatestOfIsTheGreatestPreferringStableSpec : ChangeSpec := { name := "fnLatestOfIsTheGreatestPreferringStable", fn := fun _ => fun
  | [d] => { results := [.lit (.bool true)], args := [d] }
  | _ => none }
def fnLatestOfIsTheGreatestPreferringStableRow : OpenClaim := { program := "qxb6619218a", sum := "bc219c9e54a65c69437d826330b7f16f3390d7040734cb674fa61859d654d459", func := "example.com/rules-over-resources/rules-over-resources/zzlaws_internal_policy_b1.FnLatestOfIsTheGreatestPreferringStable", spec := "fnLatestOfIsTheGreatestPreferringStable", apart := false }
def FnLatestOfIsTheGreatestPreferringStableSaid : Prop := fnLatestOfIsTheGreatestPreferringStableRow.holds Try.pinned (OpenSpec.ofChange fnLatestOfIsTheGreatestPreferringStableSpec)

/-- ITS FALSE NEIGHBOUR: 'it returns false'. Refute it at one input. -/
def fnLatestOfIsTheGreatestPreferringStableWrong : ChangeSpec := { name := "fnLatestOfIsTheGreatestPreferringStable", fn := fun _ => fun
  | [d] => { results := [.lit (.bool false)], args := [d] }
  | _ => none }
def FnLatestOfIsTheGreatestPreferringStableWrongFalsely : Prop := fnLatestOfIsTheGreatestPreferringStableRow.holds Try.pinned (OpenSpec.ofChange fnLatestOfIsTheGreatestPreferringStableWrong)

/-- 'zzlaws_internal_policy_b1.FnLatestOfCutAnywhere': WHATEVER THE INPUT: true; the input reads as it did. -/
def fnLatestOfCutAnywhereSpec : ChangeSpec := { name := "fnLatestOfCutAnywhere", fn := fun _ => fun
  | [d1, d2] => { results := [.lit (.bool true)], args := [d1, d2] }
  | _ => none }
def fnLatestOfCutAnywhereRow : OpenClaim := { program := "qxb6619218a", sum := "bc219c9e54a65c69437d826330b7f16f3390d7040734cb674fa61859d654d459", func := "example.com/rules-over-resources/rules-over-resources/zzlaws_internal_policy_b1.FnLatestOfCutAnywhere", spec := "fnLatestOfCutAnywhere", apart := false }
def FnLatestOfCutAnywhereSaid : Prop := fnLatestOfCutAnywhereRow.holds Try.pinned (OpenSpec.ofChange fnLatestOfCutAnywhereSpec)

/-- ITS FALSE NEIGHBOUR: 'it returns false'. Refute it at one input. -/
def fnLatestOfCutAnywhereWrong : ChangeSpec := { name := "fnLatestOfCutAnywhere", fn := fun _ => fun
  | [d1, d2] => { results := [.lit (.bool false)], args := [d1, d2] }
  | _ => none }
def FnLatestOfCutAnywhereWrongFalsely : Prop := fnLatestOfCutAnywhereRow.holds Try.pinned (OpenSpec.ofChange fnLatestOfCutAnywhereWrong)

/-- 'zzlaws_internal_policy_b1.FnMarksWithFoldIsAnyAndSum': WHATEVER THE INPUT: true; the input reads as it did. -/
def fnMarksWithFoldIsAnyAndSumSpec : ChangeSpec := { name := "fnMarksWithFoldIsAnyAndSum", fn := fun _ => fun
  | [d] => { results := [.lit (.bool true)], args := [d] }
  | _ => none }
def fnMarksWithFoldIsAnyAndSumRow : OpenClaim := { program := "qxb6619218a", sum := "bc219c9e54a65c69437d826330b7f16f3390d7040734cb674fa61859d654d459", func := "example.com/rules-over-resources/rules-over-resources/zzlaws_internal_policy_b1.FnMarksWithFoldIsAnyAndSum", spec := "fnMarksWithFoldIsAnyAndSum", apart := false }
def FnMarksWithFoldIsAnyAndSumSaid : Prop := fnMarksWithFoldIsAnyAndSumRow.holds Try.pinned (OpenSpec.ofChange fnMarksWithFoldIsAnyAndSumSpec)

/-- ITS FALSE NEIGHBOUR: 'it returns false'. Refute it at one input. -/
def fnMarksWithFoldIsAnyAndSumWrong : ChangeSpec := { name := "fnMarksWithFoldIsAnyAndSum", fn := fun _ => fun
  | [d] => { results := [.lit (.bool false)], args := [d] }
  | _ => none }
def FnMarksWithFoldIsAnyAndSumWrongFalsely : Prop := fnMarksWithFoldIsAnyAndSumRow.holds Try.pinned (OpenSpec.ofChange fnMarksWithFoldIsAnyAndSumWrong)

end Rows
end Go.Proofs.Qxb6619218a
