/-
  No cell of these rows narrows 'for every input' (looked for: loops, veiled, ifaces, maps, wideKeys, modest, calm, conditions, laid).
  DERIVED. THE GIVEN ROWS OF THIS SEAT. 6 by the template 'for every input the law returns true; each argument reads behind the call as it read before'; 0 by the template 'total and deterministic' (their statements: Qxb6601076aModsTotals.lean).
  GIVEN WITH THE SEED: the statements are not yours to turn. If you find one false, say at which input.
  Laid BY PROGRAM, IN A SANDBOX (cutbox-rows.mjs): the forced cells as the released guide's own fill.sh prints them over the translation 8e46e28ea09b58d4… (all of the seat's roots in one cut). By AI agents, Wed Nov 11 2026. No macro, syntax, notation, axiom, sorry.
-/
import Derived.Test.Qxb6601076aModsChecked
import GoSem.Claim
import GoSem.ClaimJoined
import GoSem.ClaimMapViews
import Derived.JoinedTies
import Derived.KernelRfl
namespace Go.Proofs.Qxb6601076aMods
/- THE CELL 'sum', in the pinned program and in every row, IS THE sha256 OF THE DUMP (.gsa) THAT Qxb6601076aModsProg.lean LOADS. Nothing in Lean hashes anything: it is a label: what it is worth is what the hold of that sum in a sandbox is worth. -/
noncomputable def Trym.pinned : Pinned := { name := "qxb6601076amods", sum := "8e46e28ea09b58d48a13f4f74912a3c78ae624360ba0dc65eeb982ab37a345c4", checked := Trym.checked }
namespace Rows
def none {H : Type} : Left H := { results := [], args := [] }

/-- 'zzlaws_root_b1.FnCompareRangeCaseTable': WHATEVER THE INPUT: true; the input reads as it did. -/
def fnCompareRangeCaseTableSpec : ChangeSpec := { name := "fnCompareRangeCaseTable", fn := fun _ => fun
  | [d1, d2, d3] => { results := [.lit (.bool true)], args := [d1, d2, d3] }
  | _ => none }
def fnCompareRangeCaseTableRow : OpenClaim := { program := "qxb6601076amods", sum := "8e46e28ea09b58d48a13f4f74912a3c78ae624360ba0dc65eeb982ab37a345c4", func := "example.com/weftline/weftline/zzlaws_root_b1.FnCompareRangeCaseTable", spec := "fnCompareRangeCaseTable", make := .lifted ["publicsums"], apart := false }
def FnCompareRangeCaseTableSaid : Prop := fnCompareRangeCaseTableRow.holds Trym.pinned (OpenSpec.ofChange fnCompareRangeCaseTableSpec)

/-- ITS FALSE NEIGHBOUR: 'it returns false'. Refute it at one input. -/
def fnCompareRangeCaseTableWrong : ChangeSpec := { name := "fnCompareRangeCaseTable", fn := fun _ => fun
  | [d1, d2, d3] => { results := [.lit (.bool false)], args := [d1, d2, d3] }
  | _ => none }
def FnCompareRangeCaseTableWrongFalsely : Prop := fnCompareRangeCaseTableRow.holds Trym.pinned (OpenSpec.ofChange fnCompareRangeCaseTableWrong)

/-- 'zzlaws_root_b1.FnCompareRangeFallsAsKRises': WHATEVER THE INPUT: true; the input reads as it did. -/
def fnCompareRangeFallsAsKRisesSpec : ChangeSpec := { name := "fnCompareRangeFallsAsKRises", fn := fun _ => fun
  | [d1, d2, d3, d4] => { results := [.lit (.bool true)], args := [d1, d2, d3, d4] }
  | _ => none }
def fnCompareRangeFallsAsKRisesRow : OpenClaim := { program := "qxb6601076amods", sum := "8e46e28ea09b58d48a13f4f74912a3c78ae624360ba0dc65eeb982ab37a345c4", func := "example.com/weftline/weftline/zzlaws_root_b1.FnCompareRangeFallsAsKRises", spec := "fnCompareRangeFallsAsKRises", make := .lifted ["publicsums"], apart := false }
def FnCompareRangeFallsAsKRisesSaid : Prop := fnCompareRangeFallsAsKRisesRow.holds Trym.pinned (OpenSpec.ofChange fnCompareRangeFallsAsKRisesSpec)

/-- ITS FALSE NEIGHBOUR: 'it returns false'. Refute it at one input. -/
def fnCompareRangeFallsAsKRisesWrong : ChangeSpec := { name := "fnCompareRangeFallsAsKRises", fn := fun _ => fun
  | [d1, d2, d3, d4] => { results := [.lit (.bool false)], args := [d1, d2, d3, d4] }
  | _ => none }
def FnCompareRangeFallsAsKRisesWrongFalsely : Prop := fnCompareRangeFallsAsKRisesRow.holds Trym.pinned (OpenSpec.ofChange fnCompareRangeFallsAsKRisesWrong)

/-- 'zzlaws_root_b1.FnCompareRangeSearchAgreesWithScan': WHATEVER THE INPUT: true; the input reads as it did. -/
def fnCompareRangeSearchAgreesWithScanSpec : ChangeSpec := { name := "fnCompareRangeSearchAgreesWithScan", fn := fun _ => fun
  | [d1, d2] => { results := [.lit (.bool true)], args := [d1, d2] }
  | _ => none }
def fnCompareRangeSearchAgreesWithScanRow : OpenClaim := { program := "qxb6601076amods", sum := "8e46e28ea09b58d48a13f4f74912a3c78ae624360ba0dc65eeb982ab37a345c4", func := "example.com/weftline/weftline/zzlaws_root_b1.FnCompareRangeSearchAgreesWithScan", spec := "fnCompareRangeSearchAgreesWithScan", make := .lifted ["publicsums"], apart := false }
def FnCompareRangeSearchAgreesWithScanSaid : Prop := fnCompareRangeSearchAgreesWithScanRow.holds Trym.pinned (OpenSpec.ofChange fnCompareRangeSearchAgreesWithScanSpec)

/-- ITS FALSE NEIGHBOUR: 'it returns false'. Refute it at one input. -/
def fnCompareRangeSearchAgreesWithScanWrong : ChangeSpec := { name := "fnCompareRangeSearchAgreesWithScan", fn := fun _ => fun
  | [d1, d2] => { results := [.lit (.bool false)], args := [d1, d2] }
  | _ => none }
def FnCompareRangeSearchAgreesWithScanWrongFalsely : Prop := fnCompareRangeSearchAgreesWithScanRow.holds Trym.pinned (OpenSpec.ofChange fnCompareRangeSearchAgreesWithScanWrong)

/-- 'zzlaws_root_b1.FnSummarizeLeastIsMinOfPresent': WHATEVER THE INPUT: true; the input reads as it did. -/
def fnSummarizeLeastIsMinOfPresentSpec : ChangeSpec := { name := "fnSummarizeLeastIsMinOfPresent", fn := fun _ => fun
  | [d1, d2, d3, d4, d5, d6, d7, d8, d9, d10, d11] => { results := [.lit (.bool true)], args := [d1, d2, d3, d4, d5, d6, d7, d8, d9, d10, d11] }
  | _ => none }
def fnSummarizeLeastIsMinOfPresentRow : OpenClaim := { program := "qxb6601076amods", sum := "8e46e28ea09b58d48a13f4f74912a3c78ae624360ba0dc65eeb982ab37a345c4", func := "example.com/weftline/weftline/zzlaws_root_b1.FnSummarizeLeastIsMinOfPresent", spec := "fnSummarizeLeastIsMinOfPresent", make := .lifted ["publicsums"], apart := false }
def FnSummarizeLeastIsMinOfPresentSaid : Prop := fnSummarizeLeastIsMinOfPresentRow.holds Trym.pinned (OpenSpec.ofChange fnSummarizeLeastIsMinOfPresentSpec)

/-- ITS FALSE NEIGHBOUR: 'it returns false'. Refute it at one input. -/
def fnSummarizeLeastIsMinOfPresentWrong : ChangeSpec := { name := "fnSummarizeLeastIsMinOfPresent", fn := fun _ => fun
  | [d1, d2, d3, d4, d5, d6, d7, d8, d9, d10, d11] => { results := [.lit (.bool false)], args := [d1, d2, d3, d4, d5, d6, d7, d8, d9, d10, d11] }
  | _ => none }
def FnSummarizeLeastIsMinOfPresentWrongFalsely : Prop := fnSummarizeLeastIsMinOfPresentRow.holds Trym.pinned (OpenSpec.ofChange fnSummarizeLeastIsMinOfPresentWrong)

/-- 'zzlaws_root_b1.FnSummarizeTreeLeastIsSubtreeMin': WHATEVER THE INPUT: true; the input reads as it did. -/
def fnSummarizeTreeLeastIsSubtreeMinSpec : ChangeSpec := { name := "fnSummarizeTreeLeastIsSubtreeMin", fn := fun _ => fun
  | [d] => { results := [.lit (.bool true)], args := [d] }
  | _ => none }
def fnSummarizeTreeLeastIsSubtreeMinRow : OpenClaim := { program := "qxb6601076amods", sum := "8e46e28ea09b58d48a13f4f74912a3c78ae624360ba0dc65eeb982ab37a345c4", func := "example.com/weftline/weftline/zzlaws_root_b1.FnSummarizeTreeLeastIsSubtreeMin", spec := "fnSummarizeTreeLeastIsSubtreeMin", make := .lifted ["publicsums"], apart := false }
def FnSummarizeTreeLeastIsSubtreeMinSaid : Prop := fnSummarizeTreeLeastIsSubtreeMinRow.holds Trym.pinned (OpenSpec.ofChange fnSummarizeTreeLeastIsSubtreeMinSpec)

/-- ITS FALSE NEIGHBOUR: 'it returns false'. Refute it at one input. -/
def fnSummarizeTreeLeastIsSubtreeMinWrong : ChangeSpec := { name := "fnSummarizeTreeLeastIsSubtreeMin", fn := fun _ => fun
  | [d] => { results := [.lit (.bool false)], args := [d] }
  | _ => none }
def FnSummarizeTreeLeastIsSubtreeMinWrongFalsely : Prop := fnSummarizeTreeLeastIsSubtreeMinRow.holds Trym.pinned (OpenSpec.ofChange fnSummarizeTreeLeastIsSubtreeMinWrong)

/-- 'zzlaws_root_b1.FnOwnTextCopiesEachSpanApart': WHATEVER THE INPUT: true; the input reads as it did. -/
def fnOwnTextCopiesEachSpanApartSpec : ChangeSpec := { name := "fnOwnTextCopiesEachSpanApart", fn := fun _ => fun
  | [d1, d2] => { results := [.lit (.bool true)], args := [d1, d2] }
  | _ => none }
def fnOwnTextCopiesEachSpanApartRow : OpenClaim := { program := "qxb6601076amods", sum := "8e46e28ea09b58d48a13f4f74912a3c78ae624360ba0dc65eeb982ab37a345c4", func := "example.com/weftline/weftline/zzlaws_root_b1.FnOwnTextCopiesEachSpanApart", spec := "fnOwnTextCopiesEachSpanApart", make := .lifted ["publicsums"], apart := false }
def FnOwnTextCopiesEachSpanApartSaid : Prop := fnOwnTextCopiesEachSpanApartRow.holds Trym.pinned (OpenSpec.ofChange fnOwnTextCopiesEachSpanApartSpec)

/-- ITS FALSE NEIGHBOUR: 'it returns false'. Refute it at one input. -/
def fnOwnTextCopiesEachSpanApartWrong : ChangeSpec := { name := "fnOwnTextCopiesEachSpanApart", fn := fun _ => fun
  | [d1, d2] => { results := [.lit (.bool false)], args := [d1, d2] }
  | _ => none }
def FnOwnTextCopiesEachSpanApartWrongFalsely : Prop := fnOwnTextCopiesEachSpanApartRow.holds Trym.pinned (OpenSpec.ofChange fnOwnTextCopiesEachSpanApartWrong)

end Rows
end Go.Proofs.Qxb6601076aMods
