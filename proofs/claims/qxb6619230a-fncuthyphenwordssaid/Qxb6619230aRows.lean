/-
  No cell of these rows narrows 'for every input' (looked for: loops, veiled, ifaces, maps, wideKeys, modest, calm, conditions, laid).
  DERIVED. THE GIVEN ROWS OF THIS SEAT. 3 by the template 'for every input the law returns true; each argument reads behind the call as it read before'; 0 by the template 'total and deterministic' (their statements: Qxb6619230aTotals.lean).
  GIVEN WITH THE SEED: the statements are not yours to turn. If you find one false, say at which input.
  Laid BY PROGRAM, IN A SANDBOX (cutbox-rows.mjs): the forced cells as the released guide's own fill.sh prints them over the translation 93393c4a53d0ae9a… (all of the seat's roots in one cut). By AI agents, Wed Nov 11 2026. No macro, syntax, notation, axiom, sorry.
-/
import Derived.Test.Qxb6619230aChecked
import GoSem.Claim
import GoSem.ClaimJoined
import GoSem.ClaimMapViews
import Derived.JoinedTies
import Derived.KernelRfl
namespace Go.Proofs.Qxb6619230a
/- THE CELL 'sum', in the pinned program and in every row, IS THE sha256 OF THE DUMP (.gsa) THAT Qxb6619230aProg.lean LOADS. Nothing in Lean hashes anything: it is a label: what it is worth is what the hold of that sum in a sandbox is worth. -/
noncomputable def Try.pinned : Pinned := { name := "qxb6619230a", sum := "93393c4a53d0ae9ab581408e9afc37ee73fe0262960526f218316e491e926b2b", checked := Try.checked }
namespace Rows
def none {H : Type} : Left H := { results := [], args := [] }

/-- 'zzlaws_root_b1.FnReadPrereleaseFrame': WHATEVER THE INPUT: true; the input reads as it did. -/
def fnReadPrereleaseFrameSpec : ChangeSpec := { name := "fnReadPrereleaseFrame", fn := fun _ => fun
  | [d1, d2, d3, d4, d5] => { results := [.lit (.bool true)], args := [d1, d2, d3, d4, d5] }
  | _ => none }
def fnReadPrereleaseFrameRow : OpenClaim := { program := "qxb6619230a", sum := "93393c4a53d0ae9ab581408e9afc37ee73fe0262960526f218316e491e926b2b", func := "example.com/vernier/vernier/zzlaws_root_b1.FnReadPrereleaseFrame", spec := "fnReadPrereleaseFrame", apart := false }
def FnReadPrereleaseFrameSaid : Prop := fnReadPrereleaseFrameRow.holds Try.pinned (OpenSpec.ofChange fnReadPrereleaseFrameSpec)

/-- ITS FALSE NEIGHBOUR: 'it returns false'. Refute it at one input. -/
def fnReadPrereleaseFrameWrong : ChangeSpec := { name := "fnReadPrereleaseFrame", fn := fun _ => fun
  | [d1, d2, d3, d4, d5] => { results := [.lit (.bool false)], args := [d1, d2, d3, d4, d5] }
  | _ => none }
def FnReadPrereleaseFrameWrongFalsely : Prop := fnReadPrereleaseFrameRow.holds Try.pinned (OpenSpec.ofChange fnReadPrereleaseFrameWrong)

/-- 'zzlaws_root_b1.FnOrderAtFirstDifference': WHATEVER THE INPUT: true; the input reads as it did. -/
def fnOrderAtFirstDifferenceSpec : ChangeSpec := { name := "fnOrderAtFirstDifference", fn := fun _ => fun
  | [d1, d2, d3] => { results := [.lit (.bool true)], args := [d1, d2, d3] }
  | _ => none }
def fnOrderAtFirstDifferenceRow : OpenClaim := { program := "qxb6619230a", sum := "93393c4a53d0ae9ab581408e9afc37ee73fe0262960526f218316e491e926b2b", func := "example.com/vernier/vernier/zzlaws_root_b1.FnOrderAtFirstDifference", spec := "fnOrderAtFirstDifference", apart := false }
def FnOrderAtFirstDifferenceSaid : Prop := fnOrderAtFirstDifferenceRow.holds Try.pinned (OpenSpec.ofChange fnOrderAtFirstDifferenceSpec)

/-- ITS FALSE NEIGHBOUR: 'it returns false'. Refute it at one input. -/
def fnOrderAtFirstDifferenceWrong : ChangeSpec := { name := "fnOrderAtFirstDifference", fn := fun _ => fun
  | [d1, d2, d3] => { results := [.lit (.bool false)], args := [d1, d2, d3] }
  | _ => none }
def FnOrderAtFirstDifferenceWrongFalsely : Prop := fnOrderAtFirstDifferenceRow.holds Try.pinned (OpenSpec.ofChange fnOrderAtFirstDifferenceWrong)

/-- 'zzlaws_root_b1.FnCutHyphenWords': WHATEVER THE INPUT: true; the input reads as it did. -/
def fnCutHyphenWordsSpec : ChangeSpec := { name := "fnCutHyphenWords", fn := fun _ => fun
  | [d] => { results := [.lit (.bool true)], args := [d] }
  | _ => none }
def fnCutHyphenWordsRow : OpenClaim := { program := "qxb6619230a", sum := "93393c4a53d0ae9ab581408e9afc37ee73fe0262960526f218316e491e926b2b", func := "example.com/vernier/vernier/zzlaws_root_b1.FnCutHyphenWords", spec := "fnCutHyphenWords", apart := false }
def FnCutHyphenWordsSaid : Prop := fnCutHyphenWordsRow.holds Try.pinned (OpenSpec.ofChange fnCutHyphenWordsSpec)

/-- ITS FALSE NEIGHBOUR: 'it returns false'. Refute it at one input. -/
def fnCutHyphenWordsWrong : ChangeSpec := { name := "fnCutHyphenWords", fn := fun _ => fun
  | [d] => { results := [.lit (.bool false)], args := [d] }
  | _ => none }
def FnCutHyphenWordsWrongFalsely : Prop := fnCutHyphenWordsRow.holds Try.pinned (OpenSpec.ofChange fnCutHyphenWordsWrong)

end Rows
end Go.Proofs.Qxb6619230a
