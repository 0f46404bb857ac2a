/-
  No cell of these rows narrows 'for every input' (looked for: loops, veiled, ifaces, maps, wideKeys, modest, calm, conditions, laid).
  DERIVED. THE GIVEN ROWS OF THIS SEAT. 5 by the template 'for every input the law returns true; each argument reads behind the call as it read before'; 0 by the template 'total and deterministic' (their statements: Qxb6001517aTotals.lean).
  GIVEN WITH THE SEED: the statements are not yours to turn. If you find one false, say at which input.
  Laid BY PROGRAM, IN A SANDBOX (cutbox-rows.mjs): the forced cells as the released guide's own fill.sh prints them over the translation 2798a42dcdd08599… (all of the seat's roots in one cut). By AI agents, Wed Nov 11 2026. No macro, syntax, notation, axiom, sorry.
-/
import Derived.Test.Qxb6001517aChecked
import GoSem.Claim
import GoSem.ClaimJoined
import GoSem.ClaimMapViews
import Derived.JoinedTies
import Derived.KernelRfl
namespace Go.Proofs.Qxb6001517a
/- THE CELL 'sum', in the pinned program and in every row, IS THE sha256 OF THE DUMP (.gsa) THAT Qxb6001517aProg.lean LOADS. Nothing in Lean hashes anything: it is a label: what it is worth is what the hold of that sum in a sandbox is worth. -/
noncomputable def Try.pinned : Pinned := { name := "qxb6001517a", sum := "2798a42dcdd08599eaebdd650d98e3aa26e9aa2c65c4c8903c92ec5dc4a28bb7", checked := Try.checked }
namespace Rows
def none {H : Type} : Left H := { results := [], args := [] }

/-- 'zzlaws_internal_wire_b1.FnSkipStringEndsJustPastItsClosingQuote': WHATEVER THE INPUT: true; the input reads as it did. -/
def fnSkipStringEndsJustPastItsClosingQuoteSpec : ChangeSpec := { name := "fnSkipStringEndsJustPastItsClosingQuote", fn := fun _ => fun
  | [d1, d2, d3] => { results := [.lit (.bool true)], args := [d1, d2, d3] }
  | _ => none }
def fnSkipStringEndsJustPastItsClosingQuoteRow : OpenClaim := { program := "qxb6001517a", sum := "2798a42dcdd08599eaebdd650d98e3aa26e9aa2c65c4c8903c92ec5dc4a28bb7", func := "example.com/concordat/concordat/zzlaws_internal_wire_b1.FnSkipStringEndsJustPastItsClosingQuote", spec := "fnSkipStringEndsJustPastItsClosingQuote", apart := false }
def FnSkipStringEndsJustPastItsClosingQuoteSaid : Prop := fnSkipStringEndsJustPastItsClosingQuoteRow.holds Try.pinned (OpenSpec.ofChange fnSkipStringEndsJustPastItsClosingQuoteSpec)

/-- ITS FALSE NEIGHBOUR: 'it returns false'. Refute it at one input. -/
def fnSkipStringEndsJustPastItsClosingQuoteWrong : ChangeSpec := { name := "fnSkipStringEndsJustPastItsClosingQuote", fn := fun _ => fun
  | [d1, d2, d3] => { results := [.lit (.bool false)], args := [d1, d2, d3] }
  | _ => none }
def FnSkipStringEndsJustPastItsClosingQuoteWrongFalsely : Prop := fnSkipStringEndsJustPastItsClosingQuoteRow.holds Try.pinned (OpenSpec.ofChange fnSkipStringEndsJustPastItsClosingQuoteWrong)

/-- 'zzlaws_internal_wire_b1.FnSkipValueSpansAContainerBuiltByScript': WHATEVER THE INPUT: true; the input reads as it did. -/
def fnSkipValueSpansAContainerBuiltByScriptSpec : ChangeSpec := { name := "fnSkipValueSpansAContainerBuiltByScript", fn := fun _ => fun
  | [d1, d2, d3] => { results := [.lit (.bool true)], args := [d1, d2, d3] }
  | _ => none }
def fnSkipValueSpansAContainerBuiltByScriptRow : OpenClaim := { program := "qxb6001517a", sum := "2798a42dcdd08599eaebdd650d98e3aa26e9aa2c65c4c8903c92ec5dc4a28bb7", func := "example.com/concordat/concordat/zzlaws_internal_wire_b1.FnSkipValueSpansAContainerBuiltByScript", spec := "fnSkipValueSpansAContainerBuiltByScript", inPlace := ["internal/bytealg.IndexByteString"], apart := false }
def FnSkipValueSpansAContainerBuiltByScriptSaid : Prop := fnSkipValueSpansAContainerBuiltByScriptRow.holds Try.pinned (OpenSpec.ofChange fnSkipValueSpansAContainerBuiltByScriptSpec)

/-- ITS FALSE NEIGHBOUR: 'it returns false'. Refute it at one input. -/
def fnSkipValueSpansAContainerBuiltByScriptWrong : ChangeSpec := { name := "fnSkipValueSpansAContainerBuiltByScript", fn := fun _ => fun
  | [d1, d2, d3] => { results := [.lit (.bool false)], args := [d1, d2, d3] }
  | _ => none }
def FnSkipValueSpansAContainerBuiltByScriptWrongFalsely : Prop := fnSkipValueSpansAContainerBuiltByScriptRow.holds Try.pinned (OpenSpec.ofChange fnSkipValueSpansAContainerBuiltByScriptWrong)

/-- 'zzlaws_internal_wire_b1.FnSkipValueStopsAtTheEndOfABareToken': WHATEVER THE INPUT: true; the input reads as it did. -/
def fnSkipValueStopsAtTheEndOfABareTokenSpec : ChangeSpec := { name := "fnSkipValueStopsAtTheEndOfABareToken", fn := fun _ => fun
  | [d1, d2, d3, d4] => { results := [.lit (.bool true)], args := [d1, d2, d3, d4] }
  | _ => none }
def fnSkipValueStopsAtTheEndOfABareTokenRow : OpenClaim := { program := "qxb6001517a", sum := "2798a42dcdd08599eaebdd650d98e3aa26e9aa2c65c4c8903c92ec5dc4a28bb7", func := "example.com/concordat/concordat/zzlaws_internal_wire_b1.FnSkipValueStopsAtTheEndOfABareToken", spec := "fnSkipValueStopsAtTheEndOfABareToken", inPlace := ["internal/bytealg.IndexByteString"], apart := false }
def FnSkipValueStopsAtTheEndOfABareTokenSaid : Prop := fnSkipValueStopsAtTheEndOfABareTokenRow.holds Try.pinned (OpenSpec.ofChange fnSkipValueStopsAtTheEndOfABareTokenSpec)

/-- ITS FALSE NEIGHBOUR: 'it returns false'. Refute it at one input. -/
def fnSkipValueStopsAtTheEndOfABareTokenWrong : ChangeSpec := { name := "fnSkipValueStopsAtTheEndOfABareToken", fn := fun _ => fun
  | [d1, d2, d3, d4] => { results := [.lit (.bool false)], args := [d1, d2, d3, d4] }
  | _ => none }
def FnSkipValueStopsAtTheEndOfABareTokenWrongFalsely : Prop := fnSkipValueStopsAtTheEndOfABareTokenRow.holds Try.pinned (OpenSpec.ofChange fnSkipValueStopsAtTheEndOfABareTokenWrong)

/-- 'zzlaws_internal_wire_b1.FnMoreCountsTheElementsOfAList': WHATEVER THE INPUT: true; the input reads as it did. -/
def fnMoreCountsTheElementsOfAListSpec : ChangeSpec := { name := "fnMoreCountsTheElementsOfAList", fn := fun _ => fun
  | [d1, d2, d3] => { results := [.lit (.bool true)], args := [d1, d2, d3] }
  | _ => none }
def fnMoreCountsTheElementsOfAListRow : OpenClaim := { program := "qxb6001517a", sum := "2798a42dcdd08599eaebdd650d98e3aa26e9aa2c65c4c8903c92ec5dc4a28bb7", func := "example.com/concordat/concordat/zzlaws_internal_wire_b1.FnMoreCountsTheElementsOfAList", spec := "fnMoreCountsTheElementsOfAList", inPlace := ["internal/bytealg.IndexByteString"], apart := false }
def FnMoreCountsTheElementsOfAListSaid : Prop := fnMoreCountsTheElementsOfAListRow.holds Try.pinned (OpenSpec.ofChange fnMoreCountsTheElementsOfAListSpec)

/-- ITS FALSE NEIGHBOUR: 'it returns false'. Refute it at one input. -/
def fnMoreCountsTheElementsOfAListWrong : ChangeSpec := { name := "fnMoreCountsTheElementsOfAList", fn := fun _ => fun
  | [d1, d2, d3] => { results := [.lit (.bool false)], args := [d1, d2, d3] }
  | _ => none }
def FnMoreCountsTheElementsOfAListWrongFalsely : Prop := fnMoreCountsTheElementsOfAListRow.holds Try.pinned (OpenSpec.ofChange fnMoreCountsTheElementsOfAListWrong)

/-- 'zzlaws_internal_wire_b1.FnScanStepsStayWithinTheData': WHATEVER THE INPUT: true; the input reads as it did. -/
def fnScanStepsStayWithinTheDataSpec : ChangeSpec := { name := "fnScanStepsStayWithinTheData", fn := fun _ => fun
  | [d1, d2] => { results := [.lit (.bool true)], args := [d1, d2] }
  | _ => none }
def fnScanStepsStayWithinTheDataRow : OpenClaim := { program := "qxb6001517a", sum := "2798a42dcdd08599eaebdd650d98e3aa26e9aa2c65c4c8903c92ec5dc4a28bb7", func := "example.com/concordat/concordat/zzlaws_internal_wire_b1.FnScanStepsStayWithinTheData", spec := "fnScanStepsStayWithinTheData", inPlace := ["internal/bytealg.IndexByteString"], apart := false }
def FnScanStepsStayWithinTheDataSaid : Prop := fnScanStepsStayWithinTheDataRow.holds Try.pinned (OpenSpec.ofChange fnScanStepsStayWithinTheDataSpec)

/-- ITS FALSE NEIGHBOUR: 'it returns false'. Refute it at one input. -/
def fnScanStepsStayWithinTheDataWrong : ChangeSpec := { name := "fnScanStepsStayWithinTheData", fn := fun _ => fun
  | [d1, d2] => { results := [.lit (.bool false)], args := [d1, d2] }
  | _ => none }
def FnScanStepsStayWithinTheDataWrongFalsely : Prop := fnScanStepsStayWithinTheDataRow.holds Try.pinned (OpenSpec.ofChange fnScanStepsStayWithinTheDataWrong)

end Rows
end Go.Proofs.Qxb6001517a
