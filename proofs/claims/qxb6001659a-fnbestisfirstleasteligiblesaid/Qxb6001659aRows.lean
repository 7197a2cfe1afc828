/-
  No cell of these rows narrows 'for every input' (looked for: loops, veiled, ifaces, maps, wideKeys, modest, calm, conditions, laid).
  DERIVED. THE GIVEN ROWS OF THIS SEAT. 10 by the template 'for every input the law returns true; each argument reads behind the call as it read before'; 0 by the template 'total and deterministic' (their statements: Qxb6001659aTotals.lean).
  GIVEN WITH THE SEED: the statements are not yours to turn. If you find one false, say at which input.
  Laid BY PROGRAM, IN A SANDBOX (cutbox-rows.mjs): the forced cells as the released guide's own fill.sh prints them over the translation 8e4d1b4d45b158af… (all of the seat's roots in one cut). By AI agents, Wed Nov 11 2026. No macro, syntax, notation, axiom, sorry.
-/
import Derived.Test.Qxb6001659aChecked
import GoSem.Claim
import GoSem.ClaimJoined
import GoSem.ClaimMapViews
import Derived.JoinedTies
import Derived.KernelRfl
namespace Go.Proofs.Qxb6001659a
/- THE CELL 'sum', in the pinned program and in every row, IS THE sha256 OF THE DUMP (.gsa) THAT Qxb6001659aProg.lean LOADS. Nothing in Lean hashes anything: it is a label: what it is worth is what the hold of that sum in a sandbox is worth. -/
noncomputable def Try.pinned : Pinned := { name := "qxb6001659a", sum := "8e4d1b4d45b158af8e2f17b01b2c7e2ba88252843ad84312aeea1d2c8f81305b", checked := Try.checked }
namespace Rows
def none {H : Type} : Left H := { results := [], args := [] }

/-- 'zzlaws_internal_resp_g1.FnSplitArgsRefusesUnclosedQuote': WHATEVER THE INPUT: true; the input reads as it did. -/
def fnSplitArgsRefusesUnclosedQuoteSpec : ChangeSpec := { name := "fnSplitArgsRefusesUnclosedQuote", fn := fun _ => fun
  | [d1, d2, d3] => { results := [.lit (.bool true)], args := [d1, d2, d3] }
  | _ => none }
def fnSplitArgsRefusesUnclosedQuoteRow : OpenClaim := { program := "qxb6001659a", sum := "8e4d1b4d45b158af8e2f17b01b2c7e2ba88252843ad84312aeea1d2c8f81305b", func := "example.com/tidewatch/tidewatch/zzlaws_internal_resp_g1.FnSplitArgsRefusesUnclosedQuote", spec := "fnSplitArgsRefusesUnclosedQuote", inPlace := ["internal/abi.NoEscape"], apart := false }
def FnSplitArgsRefusesUnclosedQuoteSaid : Prop := fnSplitArgsRefusesUnclosedQuoteRow.holds Try.pinned (OpenSpec.ofChange fnSplitArgsRefusesUnclosedQuoteSpec)

/-- ITS FALSE NEIGHBOUR: 'it returns false'. Refute it at one input. -/
def fnSplitArgsRefusesUnclosedQuoteWrong : ChangeSpec := { name := "fnSplitArgsRefusesUnclosedQuote", fn := fun _ => fun
  | [d1, d2, d3] => { results := [.lit (.bool false)], args := [d1, d2, d3] }
  | _ => none }
def FnSplitArgsRefusesUnclosedQuoteWrongFalsely : Prop := fnSplitArgsRefusesUnclosedQuoteRow.holds Try.pinned (OpenSpec.ofChange fnSplitArgsRefusesUnclosedQuoteWrong)

/-- 'zzlaws_internal_resp_g1.FnSplitArgsRefusesTextGluedToClosingQuote': WHATEVER THE INPUT: true; the input reads as it did. -/
def fnSplitArgsRefusesTextGluedToClosingQuoteSpec : ChangeSpec := { name := "fnSplitArgsRefusesTextGluedToClosingQuote", fn := fun _ => fun
  | [d1, d2, d3, d4, d5] => { results := [.lit (.bool true)], args := [d1, d2, d3, d4, d5] }
  | _ => none }
def fnSplitArgsRefusesTextGluedToClosingQuoteRow : OpenClaim := { program := "qxb6001659a", sum := "8e4d1b4d45b158af8e2f17b01b2c7e2ba88252843ad84312aeea1d2c8f81305b", func := "example.com/tidewatch/tidewatch/zzlaws_internal_resp_g1.FnSplitArgsRefusesTextGluedToClosingQuote", spec := "fnSplitArgsRefusesTextGluedToClosingQuote", inPlace := ["internal/abi.NoEscape"], apart := false }
def FnSplitArgsRefusesTextGluedToClosingQuoteSaid : Prop := fnSplitArgsRefusesTextGluedToClosingQuoteRow.holds Try.pinned (OpenSpec.ofChange fnSplitArgsRefusesTextGluedToClosingQuoteSpec)

/-- ITS FALSE NEIGHBOUR: 'it returns false'. Refute it at one input. -/
def fnSplitArgsRefusesTextGluedToClosingQuoteWrong : ChangeSpec := { name := "fnSplitArgsRefusesTextGluedToClosingQuote", fn := fun _ => fun
  | [d1, d2, d3, d4, d5] => { results := [.lit (.bool false)], args := [d1, d2, d3, d4, d5] }
  | _ => none }
def FnSplitArgsRefusesTextGluedToClosingQuoteWrongFalsely : Prop := fnSplitArgsRefusesTextGluedToClosingQuoteRow.holds Try.pinned (OpenSpec.ofChange fnSplitArgsRefusesTextGluedToClosingQuoteWrong)

/-- 'zzlaws_internal_selection_g1.FnBestIsFirstLeastEligible': WHATEVER THE INPUT: true; the input reads as it did. -/
def fnBestIsFirstLeastEligibleSpec : ChangeSpec := { name := "fnBestIsFirstLeastEligible", fn := fun _ => fun
  | [d] => { results := [.lit (.bool true)], args := [d] }
  | _ => none }
def fnBestIsFirstLeastEligibleRow : OpenClaim := { program := "qxb6001659a", sum := "8e4d1b4d45b158af8e2f17b01b2c7e2ba88252843ad84312aeea1d2c8f81305b", func := "example.com/tidewatch/tidewatch/zzlaws_internal_selection_g1.FnBestIsFirstLeastEligible", spec := "fnBestIsFirstLeastEligible", apart := false }
def FnBestIsFirstLeastEligibleSaid : Prop := fnBestIsFirstLeastEligibleRow.holds Try.pinned (OpenSpec.ofChange fnBestIsFirstLeastEligibleSpec)

/-- ITS FALSE NEIGHBOUR: 'it returns false'. Refute it at one input. -/
def fnBestIsFirstLeastEligibleWrong : ChangeSpec := { name := "fnBestIsFirstLeastEligible", fn := fun _ => fun
  | [d] => { results := [.lit (.bool false)], args := [d] }
  | _ => none }
def FnBestIsFirstLeastEligibleWrongFalsely : Prop := fnBestIsFirstLeastEligibleRow.holds Try.pinned (OpenSpec.ofChange fnBestIsFirstLeastEligibleWrong)

/-- 'zzlaws_internal_selection_g1.FnPassedOverExplainsBest': WHATEVER THE INPUT: true; the input reads as it did. -/
def fnPassedOverExplainsBestSpec : ChangeSpec := { name := "fnPassedOverExplainsBest", fn := fun _ => fun
  | [d] => { results := [.lit (.bool true)], args := [d] }
  | _ => none }
def fnPassedOverExplainsBestRow : OpenClaim := { program := "qxb6001659a", sum := "8e4d1b4d45b158af8e2f17b01b2c7e2ba88252843ad84312aeea1d2c8f81305b", func := "example.com/tidewatch/tidewatch/zzlaws_internal_selection_g1.FnPassedOverExplainsBest", spec := "fnPassedOverExplainsBest", apart := false }
def FnPassedOverExplainsBestSaid : Prop := fnPassedOverExplainsBestRow.holds Try.pinned (OpenSpec.ofChange fnPassedOverExplainsBestSpec)

/-- ITS FALSE NEIGHBOUR: 'it returns false'. Refute it at one input. -/
def fnPassedOverExplainsBestWrong : ChangeSpec := { name := "fnPassedOverExplainsBest", fn := fun _ => fun
  | [d] => { results := [.lit (.bool false)], args := [d] }
  | _ => none }
def FnPassedOverExplainsBestWrongFalsely : Prop := fnPassedOverExplainsBestRow.holds Try.pinned (OpenSpec.ofChange fnPassedOverExplainsBestWrong)

/-- 'zzlaws_internal_selection_g1.FnBestOrderFree': WHATEVER THE INPUT: true; the input reads as it did. -/
def fnBestOrderFreeSpec : ChangeSpec := { name := "fnBestOrderFree", fn := fun _ => fun
  | [d1, d2, d3] => { results := [.lit (.bool true)], args := [d1, d2, d3] }
  | _ => none }
def fnBestOrderFreeRow : OpenClaim := { program := "qxb6001659a", sum := "8e4d1b4d45b158af8e2f17b01b2c7e2ba88252843ad84312aeea1d2c8f81305b", func := "example.com/tidewatch/tidewatch/zzlaws_internal_selection_g1.FnBestOrderFree", spec := "fnBestOrderFree", apart := false }
def FnBestOrderFreeSaid : Prop := fnBestOrderFreeRow.holds Try.pinned (OpenSpec.ofChange fnBestOrderFreeSpec)

/-- ITS FALSE NEIGHBOUR: 'it returns false'. Refute it at one input. -/
def fnBestOrderFreeWrong : ChangeSpec := { name := "fnBestOrderFree", fn := fun _ => fun
  | [d1, d2, d3] => { results := [.lit (.bool false)], args := [d1, d2, d3] }
  | _ => none }
def FnBestOrderFreeWrongFalsely : Prop := fnBestOrderFreeRow.holds Try.pinned (OpenSpec.ofChange fnBestOrderFreeWrong)

/-- 'zzlaws_internal_selection_g1.FnCompareStrictOrder': WHATEVER THE INPUT: true; the input reads as it did. -/
def fnCompareStrictOrderSpec : ChangeSpec := { name := "fnCompareStrictOrder", fn := fun _ => fun
  | [d1, d2, d3] => { results := [.lit (.bool true)], args := [d1, d2, d3] }
  | _ => none }
def fnCompareStrictOrderRow : OpenClaim := { program := "qxb6001659a", sum := "8e4d1b4d45b158af8e2f17b01b2c7e2ba88252843ad84312aeea1d2c8f81305b", func := "example.com/tidewatch/tidewatch/zzlaws_internal_selection_g1.FnCompareStrictOrder", spec := "fnCompareStrictOrder", apart := false }
def FnCompareStrictOrderSaid : Prop := fnCompareStrictOrderRow.holds Try.pinned (OpenSpec.ofChange fnCompareStrictOrderSpec)

/-- ITS FALSE NEIGHBOUR: 'it returns false'. Refute it at one input. -/
def fnCompareStrictOrderWrong : ChangeSpec := { name := "fnCompareStrictOrder", fn := fun _ => fun
  | [d1, d2, d3] => { results := [.lit (.bool false)], args := [d1, d2, d3] }
  | _ => none }
def FnCompareStrictOrderWrongFalsely : Prop := fnCompareStrictOrderRow.holds Try.pinned (OpenSpec.ofChange fnCompareStrictOrderWrong)

/-- 'zzlaws_internal_server_g1.FnStatusOfConcatenationIsWorseOfParts': WHATEVER THE INPUT: true; the input reads as it did. -/
def fnStatusOfConcatenationIsWorseOfPartsSpec : ChangeSpec := { name := "fnStatusOfConcatenationIsWorseOfParts", fn := fun _ => fun
  | [d1, d2] => { results := [.lit (.bool true)], args := [d1, d2] }
  | _ => none }
def fnStatusOfConcatenationIsWorseOfPartsRow : OpenClaim := { program := "qxb6001659a", sum := "8e4d1b4d45b158af8e2f17b01b2c7e2ba88252843ad84312aeea1d2c8f81305b", func := "example.com/tidewatch/tidewatch/zzlaws_internal_server_g1.FnStatusOfConcatenationIsWorseOfParts", spec := "fnStatusOfConcatenationIsWorseOfParts", apart := false }
def FnStatusOfConcatenationIsWorseOfPartsSaid : Prop := fnStatusOfConcatenationIsWorseOfPartsRow.holds Try.pinned (OpenSpec.ofChange fnStatusOfConcatenationIsWorseOfPartsSpec)

/-- ITS FALSE NEIGHBOUR: 'it returns false'. Refute it at one input. -/
def fnStatusOfConcatenationIsWorseOfPartsWrong : ChangeSpec := { name := "fnStatusOfConcatenationIsWorseOfParts", fn := fun _ => fun
  | [d1, d2] => { results := [.lit (.bool false)], args := [d1, d2] }
  | _ => none }
def FnStatusOfConcatenationIsWorseOfPartsWrongFalsely : Prop := fnStatusOfConcatenationIsWorseOfPartsRow.holds Try.pinned (OpenSpec.ofChange fnStatusOfConcatenationIsWorseOfPartsWrong)

/-- 'zzlaws_internal_sim_g1.FnCommandArgsReturnsTheBulkStringsOfAnArray': WHATEVER THE INPUT: true; the input reads as it did. -/
def fnCommandArgsReturnsTheBulkStringsOfAnArraySpec : ChangeSpec := { name := "fnCommandArgsReturnsTheBulkStringsOfAnArray", fn := fun _ => fun
  | [d1, d2] => { results := [.lit (.bool true)], args := [d1, d2] }
  | _ => none }
def fnCommandArgsReturnsTheBulkStringsOfAnArrayRow : OpenClaim := { program := "qxb6001659a", sum := "8e4d1b4d45b158af8e2f17b01b2c7e2ba88252843ad84312aeea1d2c8f81305b", func := "example.com/tidewatch/tidewatch/zzlaws_internal_sim_g1.FnCommandArgsReturnsTheBulkStringsOfAnArray", spec := "fnCommandArgsReturnsTheBulkStringsOfAnArray", apart := false }
def FnCommandArgsReturnsTheBulkStringsOfAnArraySaid : Prop := fnCommandArgsReturnsTheBulkStringsOfAnArrayRow.holds Try.pinned (OpenSpec.ofChange fnCommandArgsReturnsTheBulkStringsOfAnArraySpec)

/-- ITS FALSE NEIGHBOUR: 'it returns false'. Refute it at one input. -/
def fnCommandArgsReturnsTheBulkStringsOfAnArrayWrong : ChangeSpec := { name := "fnCommandArgsReturnsTheBulkStringsOfAnArray", fn := fun _ => fun
  | [d1, d2] => { results := [.lit (.bool false)], args := [d1, d2] }
  | _ => none }
def FnCommandArgsReturnsTheBulkStringsOfAnArrayWrongFalsely : Prop := fnCommandArgsReturnsTheBulkStringsOfAnArrayRow.holds Try.pinned (OpenSpec.ofChange fnCommandArgsReturnsTheBulkStringsOfAnArrayWrong)

/-- 'zzlaws_internal_sim_g1.FnCommandArgsRefusesOneBadElement': WHATEVER THE INPUT: true; the input reads as it did. -/
def fnCommandArgsRefusesOneBadElementSpec : ChangeSpec := { name := "fnCommandArgsRefusesOneBadElement", fn := fun _ => fun
  | [d1, d2, d3, d4] => { results := [.lit (.bool true)], args := [d1, d2, d3, d4] }
  | _ => none }
def fnCommandArgsRefusesOneBadElementRow : OpenClaim := { program := "qxb6001659a", sum := "8e4d1b4d45b158af8e2f17b01b2c7e2ba88252843ad84312aeea1d2c8f81305b", func := "example.com/tidewatch/tidewatch/zzlaws_internal_sim_g1.FnCommandArgsRefusesOneBadElement", spec := "fnCommandArgsRefusesOneBadElement", apart := false }
def FnCommandArgsRefusesOneBadElementSaid : Prop := fnCommandArgsRefusesOneBadElementRow.holds Try.pinned (OpenSpec.ofChange fnCommandArgsRefusesOneBadElementSpec)

/-- ITS FALSE NEIGHBOUR: 'it returns false'. Refute it at one input. -/
def fnCommandArgsRefusesOneBadElementWrong : ChangeSpec := { name := "fnCommandArgsRefusesOneBadElement", fn := fun _ => fun
  | [d1, d2, d3, d4] => { results := [.lit (.bool false)], args := [d1, d2, d3, d4] }
  | _ => none }
def FnCommandArgsRefusesOneBadElementWrongFalsely : Prop := fnCommandArgsRefusesOneBadElementRow.holds Try.pinned (OpenSpec.ofChange fnCommandArgsRefusesOneBadElementWrong)

/-- 'zzlaws_internal_wire_g1.FnIsRunIDIsLowerHexOf20Bytes': WHATEVER THE INPUT: true; the input reads as it did. -/
def fnIsRunIDIsLowerHexOf20BytesSpec : ChangeSpec := { name := "fnIsRunIDIsLowerHexOf20Bytes", fn := fun _ => fun
  | [d] => { results := [.lit (.bool true)], args := [d] }
  | _ => none }
def fnIsRunIDIsLowerHexOf20BytesRow : OpenClaim := { program := "qxb6001659a", sum := "8e4d1b4d45b158af8e2f17b01b2c7e2ba88252843ad84312aeea1d2c8f81305b", func := "example.com/tidewatch/tidewatch/zzlaws_internal_wire_g1.FnIsRunIDIsLowerHexOf20Bytes", spec := "fnIsRunIDIsLowerHexOf20Bytes", apart := false }
def FnIsRunIDIsLowerHexOf20BytesSaid : Prop := fnIsRunIDIsLowerHexOf20BytesRow.holds Try.pinned (OpenSpec.ofChange fnIsRunIDIsLowerHexOf20BytesSpec)

/-- ITS FALSE NEIGHBOUR: 'it returns false'. Refute it at one input. -/
def fnIsRunIDIsLowerHexOf20BytesWrong : ChangeSpec := { name := "fnIsRunIDIsLowerHexOf20Bytes", fn := fun _ => fun
  | [d] => { results := [.lit (.bool false)], args := [d] }
  | _ => none }
def FnIsRunIDIsLowerHexOf20BytesWrongFalsely : Prop := fnIsRunIDIsLowerHexOf20BytesRow.holds Try.pinned (OpenSpec.ofChange fnIsRunIDIsLowerHexOf20BytesWrong)

end Rows
end Go.Proofs.Qxb6001659a
