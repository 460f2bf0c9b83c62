/-
  No cell of these rows narrows 'for every input' (looked for: loops, veiled, ifaces, maps, wideKeys, modest, calm, conditions, laid).
  DERIVED. THE GIVEN ROWS OF THIS SEAT. 5 by the template 'for every input the law returns true; each argument reads behind the call as it read before'; 0 by the template 'total and deterministic' (their statements: Qxb6603359aTotals.lean).
  GIVEN WITH THE SEED: the statements are not yours to turn. If you find one false, say at which input.
  Laid BY PROGRAM, IN A SANDBOX (cutbox-rows.mjs): the forced cells as the released guide's own fill.sh prints them over the translation 6cd89d33bdac2b06… (all of the seat's roots in one cut). By AI agents, Wed Nov 11 2026. No macro, syntax, notation, axiom, sorry.
-/
import Derived.Test.Qxb6603359aChecked
import GoSem.Claim
import GoSem.ClaimJoined
import GoSem.ClaimMapViews
import Derived.JoinedTies
import Derived.KernelRfl
namespace Go.Proofs.Qxb6603359a
/- THE CELL 'sum', in the pinned program and in every row, IS THE sha256 OF THE DUMP (.gsa) THAT Qxb6603359aProg.lean LOADS. Nothing in Lean hashes anything: it is a label: what it is worth is what the hold of that sum in a sandbox is worth. -/
noncomputable def Try.pinned : Pinned := { name := "qxb6603359a", sum := "6cd89d33bdac2b065113263d4940b1c1176ba7361092507102fda20d5ded0a9b", checked := Try.checked }
namespace Rows
def none {H : Type} : Left H := { results := [], args := [] }

/-- 'zzlaws_appraisal_b1.FnContainsIsOverlayNoChange': WHATEVER THE INPUT: true; the input reads as it did. -/
def fnContainsIsOverlayNoChangeSpec : ChangeSpec := { name := "fnContainsIsOverlayNoChange", fn := fun _ => fun
  | [d1, d2] => { results := [.lit (.bool true)], args := [d1, d2] }
  | _ => none }
def fnContainsIsOverlayNoChangeRow : OpenClaim := { program := "qxb6603359a", sum := "6cd89d33bdac2b065113263d4940b1c1176ba7361092507102fda20d5ded0a9b", func := "example.com/glowworm/glowworm/zzlaws_appraisal_b1.FnContainsIsOverlayNoChange", spec := "fnContainsIsOverlayNoChange", unfollowed := true, recurses := true, apart := false }
def FnContainsIsOverlayNoChangeSaid : Prop := fnContainsIsOverlayNoChangeRow.holds Try.pinned (OpenSpec.ofChange fnContainsIsOverlayNoChangeSpec)

/-- ITS FALSE NEIGHBOUR: 'it returns false'. Refute it at one input. -/
def fnContainsIsOverlayNoChangeWrong : ChangeSpec := { name := "fnContainsIsOverlayNoChange", fn := fun _ => fun
  | [d1, d2] => { results := [.lit (.bool false)], args := [d1, d2] }
  | _ => none }
def FnContainsIsOverlayNoChangeWrongFalsely : Prop := fnContainsIsOverlayNoChangeRow.holds Try.pinned (OpenSpec.ofChange fnContainsIsOverlayNoChangeWrong)

/-- 'zzlaws_appraisal_b1.FnContainsIsPreorder': WHATEVER THE INPUT: true; the input reads as it did. -/
def fnContainsIsPreorderSpec : ChangeSpec := { name := "fnContainsIsPreorder", fn := fun _ => fun
  | [d1, d2, d3] => { results := [.lit (.bool true)], args := [d1, d2, d3] }
  | _ => none }
def fnContainsIsPreorderRow : OpenClaim := { program := "qxb6603359a", sum := "6cd89d33bdac2b065113263d4940b1c1176ba7361092507102fda20d5ded0a9b", func := "example.com/glowworm/glowworm/zzlaws_appraisal_b1.FnContainsIsPreorder", spec := "fnContainsIsPreorder", unfollowed := true, recurses := true, apart := false }
def FnContainsIsPreorderSaid : Prop := fnContainsIsPreorderRow.holds Try.pinned (OpenSpec.ofChange fnContainsIsPreorderSpec)

/-- ITS FALSE NEIGHBOUR: 'it returns false'. Refute it at one input. -/
def fnContainsIsPreorderWrong : ChangeSpec := { name := "fnContainsIsPreorder", fn := fun _ => fun
  | [d1, d2, d3] => { results := [.lit (.bool false)], args := [d1, d2, d3] }
  | _ => none }
def FnContainsIsPreorderWrongFalsely : Prop := fnContainsIsPreorderRow.holds Try.pinned (OpenSpec.ofChange fnContainsIsPreorderWrong)

/-- 'zzlaws_appraisal_b1.FnContainsMutualIsEquality': WHATEVER THE INPUT: true; the input reads as it did. -/
def fnContainsMutualIsEqualitySpec : ChangeSpec := { name := "fnContainsMutualIsEquality", fn := fun _ => fun
  | [d1, d2] => { results := [.lit (.bool true)], args := [d1, d2] }
  | _ => none }
def fnContainsMutualIsEqualityRow : OpenClaim := { program := "qxb6603359a", sum := "6cd89d33bdac2b065113263d4940b1c1176ba7361092507102fda20d5ded0a9b", func := "example.com/glowworm/glowworm/zzlaws_appraisal_b1.FnContainsMutualIsEquality", spec := "fnContainsMutualIsEquality", unfollowed := true, recurses := true, apart := false }
def FnContainsMutualIsEqualitySaid : Prop := fnContainsMutualIsEqualityRow.holds Try.pinned (OpenSpec.ofChange fnContainsMutualIsEqualitySpec)

/-- ITS FALSE NEIGHBOUR: 'it returns false'. Refute it at one input. -/
def fnContainsMutualIsEqualityWrong : ChangeSpec := { name := "fnContainsMutualIsEquality", fn := fun _ => fun
  | [d1, d2] => { results := [.lit (.bool false)], args := [d1, d2] }
  | _ => none }
def FnContainsMutualIsEqualityWrongFalsely : Prop := fnContainsMutualIsEqualityRow.holds Try.pinned (OpenSpec.ofChange fnContainsMutualIsEqualityWrong)

/-- 'zzlaws_appraisal_b1.FnTwiceAgreesWithSortedModel': WHATEVER THE INPUT: true; the input reads as it did. -/
def fnTwiceAgreesWithSortedModelSpec : ChangeSpec := { name := "fnTwiceAgreesWithSortedModel", fn := fun _ => fun
  | [d] => { results := [.lit (.bool true)], args := [d] }
  | _ => none }
def fnTwiceAgreesWithSortedModelRow : OpenClaim := { program := "qxb6603359a", sum := "6cd89d33bdac2b065113263d4940b1c1176ba7361092507102fda20d5ded0a9b", func := "example.com/glowworm/glowworm/zzlaws_appraisal_b1.FnTwiceAgreesWithSortedModel", spec := "fnTwiceAgreesWithSortedModel", unfollowed := true, recurses := true, apart := false }
def FnTwiceAgreesWithSortedModelSaid : Prop := fnTwiceAgreesWithSortedModelRow.holds Try.pinned (OpenSpec.ofChange fnTwiceAgreesWithSortedModelSpec)

/-- ITS FALSE NEIGHBOUR: 'it returns false'. Refute it at one input. -/
def fnTwiceAgreesWithSortedModelWrong : ChangeSpec := { name := "fnTwiceAgreesWithSortedModel", fn := fun _ => fun
  | [d] => { results := [.lit (.bool false)], args := [d] }
  | _ => none }
def FnTwiceAgreesWithSortedModelWrongFalsely : Prop := fnTwiceAgreesWithSortedModelRow.holds Try.pinned (OpenSpec.ofChange fnTwiceAgreesWithSortedModelWrong)

/-- 'zzlaws_appraisal_b1.FnTwiceWitnessAndReversal': WHATEVER THE INPUT: true; the input reads as it did. -/
def fnTwiceWitnessAndReversalSpec : ChangeSpec := { name := "fnTwiceWitnessAndReversal", fn := fun _ => fun
  | [d] => { results := [.lit (.bool true)], args := [d] }
  | _ => none }
def fnTwiceWitnessAndReversalRow : OpenClaim := { program := "qxb6603359a", sum := "6cd89d33bdac2b065113263d4940b1c1176ba7361092507102fda20d5ded0a9b", func := "example.com/glowworm/glowworm/zzlaws_appraisal_b1.FnTwiceWitnessAndReversal", spec := "fnTwiceWitnessAndReversal", unfollowed := true, recurses := true, apart := false }
def FnTwiceWitnessAndReversalSaid : Prop := fnTwiceWitnessAndReversalRow.holds Try.pinned (OpenSpec.ofChange fnTwiceWitnessAndReversalSpec)

/-- ITS FALSE NEIGHBOUR: 'it returns false'. Refute it at one input. -/
def fnTwiceWitnessAndReversalWrong : ChangeSpec := { name := "fnTwiceWitnessAndReversal", fn := fun _ => fun
  | [d] => { results := [.lit (.bool false)], args := [d] }
  | _ => none }
def FnTwiceWitnessAndReversalWrongFalsely : Prop := fnTwiceWitnessAndReversalRow.holds Try.pinned (OpenSpec.ofChange fnTwiceWitnessAndReversalWrong)

end Rows
end Go.Proofs.Qxb6603359a
