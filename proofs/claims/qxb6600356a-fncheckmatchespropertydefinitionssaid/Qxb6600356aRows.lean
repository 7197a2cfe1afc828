/-
  No cell of these rows narrows 'for every input' (looked for: loops, veiled, ifaces, maps, wideKeys, modest, calm, conditions, laid).
  DERIVED. THE GIVEN ROWS OF THIS SEAT. 8 by the template 'for every input the law returns true; each argument reads behind the call as it read before'; 0 by the template 'total and deterministic' (their statements: Qxb6600356aTotals.lean).
  GIVEN WITH THE SEED: the statements are not yours to turn. If you find one false, say at which input.
  Laid BY PROGRAM, IN A SANDBOX (cutbox-rows.mjs): the forced cells as the released guide's own fill.sh prints them over the translation cf829e42cdc486d4… (all of the seat's roots in one cut). By AI agents, Wed Nov 11 2026. No macro, syntax, notation, axiom, sorry.
-/
import Derived.Test.Qxb6600356aChecked
import GoSem.Claim
import GoSem.ClaimJoined
import GoSem.ClaimMapViews
import Derived.JoinedTies
import Derived.KernelRfl
namespace Go.Proofs.Qxb6600356a
/- THE CELL 'sum', in the pinned program and in every row, IS THE sha256 OF THE DUMP (.gsa) THAT Qxb6600356aProg.lean LOADS. Nothing in Lean hashes anything: it is a label: what it is worth is what the hold of that sum in a sandbox is worth. -/
noncomputable def Try.pinned : Pinned := { name := "qxb6600356a", sum := "cf829e42cdc486d493ef4a0c3bad08903fd6b310d99ef9b6652c3468ca643290", checked := Try.checked }
namespace Rows
def none {H : Type} : Left H := { results := [], args := [] }

/-- 'zzlaws_graded_b1.FnLowerMedianIsCeilHalfOrderStatistic': WHATEVER THE INPUT: true; the input reads as it did. -/
def fnLowerMedianIsCeilHalfOrderStatisticSpec : ChangeSpec := { name := "fnLowerMedianIsCeilHalfOrderStatistic", fn := fun _ => fun
  | [d] => { results := [.lit (.bool true)], args := [d] }
  | _ => none }
def fnLowerMedianIsCeilHalfOrderStatisticRow : OpenClaim := { program := "qxb6600356a", sum := "cf829e42cdc486d493ef4a0c3bad08903fd6b310d99ef9b6652c3468ca643290", func := "example.com/parley/parley/zzlaws_graded_b1.FnLowerMedianIsCeilHalfOrderStatistic", spec := "fnLowerMedianIsCeilHalfOrderStatistic", recurses := true, apart := false }
def FnLowerMedianIsCeilHalfOrderStatisticSaid : Prop := fnLowerMedianIsCeilHalfOrderStatisticRow.holds Try.pinned (OpenSpec.ofChange fnLowerMedianIsCeilHalfOrderStatisticSpec)

/-- ITS FALSE NEIGHBOUR: 'it returns false'. Refute it at one input. -/
def fnLowerMedianIsCeilHalfOrderStatisticWrong : ChangeSpec := { name := "fnLowerMedianIsCeilHalfOrderStatistic", fn := fun _ => fun
  | [d] => { results := [.lit (.bool false)], args := [d] }
  | _ => none }
def FnLowerMedianIsCeilHalfOrderStatisticWrongFalsely : Prop := fnLowerMedianIsCeilHalfOrderStatisticRow.holds Try.pinned (OpenSpec.ofChange fnLowerMedianIsCeilHalfOrderStatisticWrong)

/-- 'zzlaws_graded_b1.FnLowerMedianAboveExactlyWhenMajorityAbove': WHATEVER THE INPUT: true; the input reads as it did. -/
def fnLowerMedianAboveExactlyWhenMajorityAboveSpec : ChangeSpec := { name := "fnLowerMedianAboveExactlyWhenMajorityAbove", fn := fun _ => fun
  | [d1, d2] => { results := [.lit (.bool true)], args := [d1, d2] }
  | _ => none }
def fnLowerMedianAboveExactlyWhenMajorityAboveRow : OpenClaim := { program := "qxb6600356a", sum := "cf829e42cdc486d493ef4a0c3bad08903fd6b310d99ef9b6652c3468ca643290", func := "example.com/parley/parley/zzlaws_graded_b1.FnLowerMedianAboveExactlyWhenMajorityAbove", spec := "fnLowerMedianAboveExactlyWhenMajorityAbove", recurses := true, apart := false }
def FnLowerMedianAboveExactlyWhenMajorityAboveSaid : Prop := fnLowerMedianAboveExactlyWhenMajorityAboveRow.holds Try.pinned (OpenSpec.ofChange fnLowerMedianAboveExactlyWhenMajorityAboveSpec)

/-- ITS FALSE NEIGHBOUR: 'it returns false'. Refute it at one input. -/
def fnLowerMedianAboveExactlyWhenMajorityAboveWrong : ChangeSpec := { name := "fnLowerMedianAboveExactlyWhenMajorityAbove", fn := fun _ => fun
  | [d1, d2] => { results := [.lit (.bool false)], args := [d1, d2] }
  | _ => none }
def FnLowerMedianAboveExactlyWhenMajorityAboveWrongFalsely : Prop := fnLowerMedianAboveExactlyWhenMajorityAboveRow.holds Try.pinned (OpenSpec.ofChange fnLowerMedianAboveExactlyWhenMajorityAboveWrong)

/-- 'zzlaws_graded_b1.FnLowerMedianRisesByAtMostTheRiseOfOneCount': WHATEVER THE INPUT: true; the input reads as it did. -/
def fnLowerMedianRisesByAtMostTheRiseOfOneCountSpec : ChangeSpec := { name := "fnLowerMedianRisesByAtMostTheRiseOfOneCount", fn := fun _ => fun
  | [d1, d2, d3] => { results := [.lit (.bool true)], args := [d1, d2, d3] }
  | _ => none }
def fnLowerMedianRisesByAtMostTheRiseOfOneCountRow : OpenClaim := { program := "qxb6600356a", sum := "cf829e42cdc486d493ef4a0c3bad08903fd6b310d99ef9b6652c3468ca643290", func := "example.com/parley/parley/zzlaws_graded_b1.FnLowerMedianRisesByAtMostTheRiseOfOneCount", spec := "fnLowerMedianRisesByAtMostTheRiseOfOneCount", recurses := true, apart := false }
def FnLowerMedianRisesByAtMostTheRiseOfOneCountSaid : Prop := fnLowerMedianRisesByAtMostTheRiseOfOneCountRow.holds Try.pinned (OpenSpec.ofChange fnLowerMedianRisesByAtMostTheRiseOfOneCountSpec)

/-- ITS FALSE NEIGHBOUR: 'it returns false'. Refute it at one input. -/
def fnLowerMedianRisesByAtMostTheRiseOfOneCountWrong : ChangeSpec := { name := "fnLowerMedianRisesByAtMostTheRiseOfOneCount", fn := fun _ => fun
  | [d1, d2, d3] => { results := [.lit (.bool false)], args := [d1, d2, d3] }
  | _ => none }
def FnLowerMedianRisesByAtMostTheRiseOfOneCountWrongFalsely : Prop := fnLowerMedianRisesByAtMostTheRiseOfOneCountRow.holds Try.pinned (OpenSpec.ofChange fnLowerMedianRisesByAtMostTheRiseOfOneCountWrong)

/-- 'zzlaws_graded_b1.FnReportedIsBestRankedHeldPair': WHATEVER THE INPUT: true; the input reads as it did. -/
def fnReportedIsBestRankedHeldPairSpec : ChangeSpec := { name := "fnReportedIsBestRankedHeldPair", fn := fun _ => fun
  | [d1, d2, d3, d4] => { results := [.lit (.bool true)], args := [d1, d2, d3, d4] }
  | _ => none }
def fnReportedIsBestRankedHeldPairRow : OpenClaim := { program := "qxb6600356a", sum := "cf829e42cdc486d493ef4a0c3bad08903fd6b310d99ef9b6652c3468ca643290", func := "example.com/parley/parley/zzlaws_graded_b1.FnReportedIsBestRankedHeldPair", spec := "fnReportedIsBestRankedHeldPair", apart := false }
def FnReportedIsBestRankedHeldPairSaid : Prop := fnReportedIsBestRankedHeldPairRow.holds Try.pinned (OpenSpec.ofChange fnReportedIsBestRankedHeldPairSpec)

/-- ITS FALSE NEIGHBOUR: 'it returns false'. Refute it at one input. -/
def fnReportedIsBestRankedHeldPairWrong : ChangeSpec := { name := "fnReportedIsBestRankedHeldPair", fn := fun _ => fun
  | [d1, d2, d3, d4] => { results := [.lit (.bool false)], args := [d1, d2, d3, d4] }
  | _ => none }
def FnReportedIsBestRankedHeldPairWrongFalsely : Prop := fnReportedIsBestRankedHeldPairRow.holds Try.pinned (OpenSpec.ofChange fnReportedIsBestRankedHeldPairWrong)

/-- 'zzlaws_graded_b1.FnReportedOfUnionIsBetterOfTheTwo': WHATEVER THE INPUT: true; the input reads as it did. -/
def fnReportedOfUnionIsBetterOfTheTwoSpec : ChangeSpec := { name := "fnReportedOfUnionIsBetterOfTheTwo", fn := fun _ => fun
  | [d1, d2, d3, d4, d5, d6, d7, d8] => { results := [.lit (.bool true)], args := [d1, d2, d3, d4, d5, d6, d7, d8] }
  | _ => none }
def fnReportedOfUnionIsBetterOfTheTwoRow : OpenClaim := { program := "qxb6600356a", sum := "cf829e42cdc486d493ef4a0c3bad08903fd6b310d99ef9b6652c3468ca643290", func := "example.com/parley/parley/zzlaws_graded_b1.FnReportedOfUnionIsBetterOfTheTwo", spec := "fnReportedOfUnionIsBetterOfTheTwo", apart := false }
def FnReportedOfUnionIsBetterOfTheTwoSaid : Prop := fnReportedOfUnionIsBetterOfTheTwoRow.holds Try.pinned (OpenSpec.ofChange fnReportedOfUnionIsBetterOfTheTwoSpec)

/-- ITS FALSE NEIGHBOUR: 'it returns false'. Refute it at one input. -/
def fnReportedOfUnionIsBetterOfTheTwoWrong : ChangeSpec := { name := "fnReportedOfUnionIsBetterOfTheTwo", fn := fun _ => fun
  | [d1, d2, d3, d4, d5, d6, d7, d8] => { results := [.lit (.bool false)], args := [d1, d2, d3, d4, d5, d6, d7, d8] }
  | _ => none }
def FnReportedOfUnionIsBetterOfTheTwoWrongFalsely : Prop := fnReportedOfUnionIsBetterOfTheTwoRow.holds Try.pinned (OpenSpec.ofChange fnReportedOfUnionIsBetterOfTheTwoWrong)

/-- 'zzlaws_graded_b1.FnCheckMatchesPropertyDefinitions': WHATEVER THE INPUT: true; the input reads as it did. -/
def fnCheckMatchesPropertyDefinitionsSpec : ChangeSpec := { name := "fnCheckMatchesPropertyDefinitions", fn := fun _ => fun
  | [d1, d2] => { results := [.lit (.bool true)], args := [d1, d2] }
  | _ => none }
def fnCheckMatchesPropertyDefinitionsRow : OpenClaim := { program := "qxb6600356a", sum := "cf829e42cdc486d493ef4a0c3bad08903fd6b310d99ef9b6652c3468ca643290", func := "example.com/parley/parley/zzlaws_graded_b1.FnCheckMatchesPropertyDefinitions", spec := "fnCheckMatchesPropertyDefinitions", apart := false }
def FnCheckMatchesPropertyDefinitionsSaid : Prop := fnCheckMatchesPropertyDefinitionsRow.holds Try.pinned (OpenSpec.ofChange fnCheckMatchesPropertyDefinitionsSpec)

/-- ITS FALSE NEIGHBOUR: 'it returns false'. Refute it at one input. -/
def fnCheckMatchesPropertyDefinitionsWrong : ChangeSpec := { name := "fnCheckMatchesPropertyDefinitions", fn := fun _ => fun
  | [d1, d2] => { results := [.lit (.bool false)], args := [d1, d2] }
  | _ => none }
def FnCheckMatchesPropertyDefinitionsWrongFalsely : Prop := fnCheckMatchesPropertyDefinitionsRow.holds Try.pinned (OpenSpec.ofChange fnCheckMatchesPropertyDefinitionsWrong)

/-- 'zzlaws_graded_b1.FnCheckDroppingANodeBreaksNoKeptProperty': WHATEVER THE INPUT: true; the input reads as it did. -/
def fnCheckDroppingANodeBreaksNoKeptPropertySpec : ChangeSpec := { name := "fnCheckDroppingANodeBreaksNoKeptProperty", fn := fun _ => fun
  | [d1, d2, d3] => { results := [.lit (.bool true)], args := [d1, d2, d3] }
  | _ => none }
def fnCheckDroppingANodeBreaksNoKeptPropertyRow : OpenClaim := { program := "qxb6600356a", sum := "cf829e42cdc486d493ef4a0c3bad08903fd6b310d99ef9b6652c3468ca643290", func := "example.com/parley/parley/zzlaws_graded_b1.FnCheckDroppingANodeBreaksNoKeptProperty", spec := "fnCheckDroppingANodeBreaksNoKeptProperty", apart := false }
def FnCheckDroppingANodeBreaksNoKeptPropertySaid : Prop := fnCheckDroppingANodeBreaksNoKeptPropertyRow.holds Try.pinned (OpenSpec.ofChange fnCheckDroppingANodeBreaksNoKeptPropertySpec)

/-- ITS FALSE NEIGHBOUR: 'it returns false'. Refute it at one input. -/
def fnCheckDroppingANodeBreaksNoKeptPropertyWrong : ChangeSpec := { name := "fnCheckDroppingANodeBreaksNoKeptProperty", fn := fun _ => fun
  | [d1, d2, d3] => { results := [.lit (.bool false)], args := [d1, d2, d3] }
  | _ => none }
def FnCheckDroppingANodeBreaksNoKeptPropertyWrongFalsely : Prop := fnCheckDroppingANodeBreaksNoKeptPropertyRow.holds Try.pinned (OpenSpec.ofChange fnCheckDroppingANodeBreaksNoKeptPropertyWrong)

/-- 'zzlaws_graded_b1.FnCheckIgnoresTheOrderOfNodes': WHATEVER THE INPUT: true; the input reads as it did. -/
def fnCheckIgnoresTheOrderOfNodesSpec : ChangeSpec := { name := "fnCheckIgnoresTheOrderOfNodes", fn := fun _ => fun
  | [d1, d2] => { results := [.lit (.bool true)], args := [d1, d2] }
  | _ => none }
def fnCheckIgnoresTheOrderOfNodesRow : OpenClaim := { program := "qxb6600356a", sum := "cf829e42cdc486d493ef4a0c3bad08903fd6b310d99ef9b6652c3468ca643290", func := "example.com/parley/parley/zzlaws_graded_b1.FnCheckIgnoresTheOrderOfNodes", spec := "fnCheckIgnoresTheOrderOfNodes", apart := false }
def FnCheckIgnoresTheOrderOfNodesSaid : Prop := fnCheckIgnoresTheOrderOfNodesRow.holds Try.pinned (OpenSpec.ofChange fnCheckIgnoresTheOrderOfNodesSpec)

/-- ITS FALSE NEIGHBOUR: 'it returns false'. Refute it at one input. -/
def fnCheckIgnoresTheOrderOfNodesWrong : ChangeSpec := { name := "fnCheckIgnoresTheOrderOfNodes", fn := fun _ => fun
  | [d1, d2] => { results := [.lit (.bool false)], args := [d1, d2] }
  | _ => none }
def FnCheckIgnoresTheOrderOfNodesWrongFalsely : Prop := fnCheckIgnoresTheOrderOfNodesRow.holds Try.pinned (OpenSpec.ofChange fnCheckIgnoresTheOrderOfNodesWrong)

end Rows
end Go.Proofs.Qxb6600356a
