/-
  No cell of these rows narrows 'for every input' (looked for: loops, veiled, ifaces, maps, wideKeys, modest, calm, conditions, laid).
  DERIVED. THE GIVEN ROWS OF THIS SEAT. 6 by the template 'for every input the law returns true; each argument reads behind the call as it read before'; 0 by the template 'total and deterministic' (their statements: Qxb6601136aModsTotals.lean).
  GIVEN WITH THE SEED: the statements are not yours to turn. If you find one false, say at which input.
  Laid BY PROGRAM, IN A SANDBOX (cutbox-rows.mjs): the forced cells as the released guide's own fill.sh prints them over the translation dd045f9e83faf049… (all of the seat's roots in one cut). By AI agents, Wed Nov 11 2026. No macro, syntax, notation, axiom, sorry.
-/
import Derived.Test.Qxb6601136aModsChecked
import GoSem.Claim
import GoSem.ClaimJoined
import GoSem.ClaimMapViews
import Derived.JoinedTies
import Derived.KernelRfl
namespace Go.Proofs.Qxb6601136aMods
/- THE CELL 'sum', in the pinned program and in every row, IS THE sha256 OF THE DUMP (.gsa) THAT Qxb6601136aModsProg.lean LOADS. Nothing in Lean hashes anything: it is a label: what it is worth is what the hold of that sum in a sandbox is worth. -/
noncomputable def Trym.pinned : Pinned := { name := "qxb6601136amods", sum := "dd045f9e83faf049e2f3e862e4a935a54301cdd97efdd29a3d3b8a3aceb2eb3b", checked := Trym.checked }
namespace Rows
def none {H : Type} : Left H := { results := [], args := [] }

/-- 'zzlaws_replay_b1.FnAskAsksFewestNodesCoveringPending': WHATEVER THE INPUT: true; the input reads as it did. -/
def fnAskAsksFewestNodesCoveringPendingSpec : ChangeSpec := { name := "fnAskAsksFewestNodesCoveringPending", fn := fun _ => fun
  | [d1, d2, d3, d4, d5, d6, d7] => { results := [.lit (.bool true)], args := [d1, d2, d3, d4, d5, d6, d7] }
  | _ => none }
def fnAskAsksFewestNodesCoveringPendingRow : OpenClaim := { program := "qxb6601136amods", sum := "dd045f9e83faf049e2f3e862e4a935a54301cdd97efdd29a3d3b8a3aceb2eb3b", func := "example.com/surgekeel/surgekeel/zzlaws_replay_b1.FnAskAsksFewestNodesCoveringPending", spec := "fnAskAsksFewestNodesCoveringPending", make := .lifted ["publicsums"], apart := false }
def FnAskAsksFewestNodesCoveringPendingSaid : Prop := fnAskAsksFewestNodesCoveringPendingRow.holds Trym.pinned (OpenSpec.ofChange fnAskAsksFewestNodesCoveringPendingSpec)

/-- ITS FALSE NEIGHBOUR: 'it returns false'. Refute it at one input. -/
def fnAskAsksFewestNodesCoveringPendingWrong : ChangeSpec := { name := "fnAskAsksFewestNodesCoveringPending", fn := fun _ => fun
  | [d1, d2, d3, d4, d5, d6, d7] => { results := [.lit (.bool false)], args := [d1, d2, d3, d4, d5, d6, d7] }
  | _ => none }
def FnAskAsksFewestNodesCoveringPendingWrongFalsely : Prop := fnAskAsksFewestNodesCoveringPendingRow.holds Trym.pinned (OpenSpec.ofChange fnAskAsksFewestNodesCoveringPendingWrong)

/-- 'zzlaws_replay_b1.FnAskAgainForNoMorePendingAsksNone': WHATEVER THE INPUT: true; the input reads as it did. -/
def fnAskAgainForNoMorePendingAsksNoneSpec : ChangeSpec := { name := "fnAskAgainForNoMorePendingAsksNone", fn := fun _ => fun
  | [d1, d2, d3, d4, d5, d6, d7, d8, d9] => { results := [.lit (.bool true)], args := [d1, d2, d3, d4, d5, d6, d7, d8, d9] }
  | _ => none }
def fnAskAgainForNoMorePendingAsksNoneRow : OpenClaim := { program := "qxb6601136amods", sum := "dd045f9e83faf049e2f3e862e4a935a54301cdd97efdd29a3d3b8a3aceb2eb3b", func := "example.com/surgekeel/surgekeel/zzlaws_replay_b1.FnAskAgainForNoMorePendingAsksNone", spec := "fnAskAgainForNoMorePendingAsksNone", make := .lifted ["publicsums"], apart := false }
def FnAskAgainForNoMorePendingAsksNoneSaid : Prop := fnAskAgainForNoMorePendingAsksNoneRow.holds Trym.pinned (OpenSpec.ofChange fnAskAgainForNoMorePendingAsksNoneSpec)

/-- ITS FALSE NEIGHBOUR: 'it returns false'. Refute it at one input. -/
def fnAskAgainForNoMorePendingAsksNoneWrong : ChangeSpec := { name := "fnAskAgainForNoMorePendingAsksNone", fn := fun _ => fun
  | [d1, d2, d3, d4, d5, d6, d7, d8, d9] => { results := [.lit (.bool false)], args := [d1, d2, d3, d4, d5, d6, d7, d8, d9] }
  | _ => none }
def FnAskAgainForNoMorePendingAsksNoneWrongFalsely : Prop := fnAskAgainForNoMorePendingAsksNoneRow.holds Trym.pinned (OpenSpec.ofChange fnAskAgainForNoMorePendingAsksNoneWrong)

/-- 'zzlaws_replay_b1.FnPlaceStartsAllPendingThatFit': WHATEVER THE INPUT: true; the input reads as it did. -/
def fnPlaceStartsAllPendingThatFitSpec : ChangeSpec := { name := "fnPlaceStartsAllPendingThatFit", fn := fun _ => fun
  | [d1, d2, d3, d4, d5, d6] => { results := [.lit (.bool true)], args := [d1, d2, d3, d4, d5, d6] }
  | _ => none }
def fnPlaceStartsAllPendingThatFitRow : OpenClaim := { program := "qxb6601136amods", sum := "dd045f9e83faf049e2f3e862e4a935a54301cdd97efdd29a3d3b8a3aceb2eb3b", func := "example.com/surgekeel/surgekeel/zzlaws_replay_b1.FnPlaceStartsAllPendingThatFit", spec := "fnPlaceStartsAllPendingThatFit", make := .lifted ["publicsums"], apart := false }
def FnPlaceStartsAllPendingThatFitSaid : Prop := fnPlaceStartsAllPendingThatFitRow.holds Trym.pinned (OpenSpec.ofChange fnPlaceStartsAllPendingThatFitSpec)

/-- ITS FALSE NEIGHBOUR: 'it returns false'. Refute it at one input. -/
def fnPlaceStartsAllPendingThatFitWrong : ChangeSpec := { name := "fnPlaceStartsAllPendingThatFit", fn := fun _ => fun
  | [d1, d2, d3, d4, d5, d6] => { results := [.lit (.bool false)], args := [d1, d2, d3, d4, d5, d6] }
  | _ => none }
def FnPlaceStartsAllPendingThatFitWrongFalsely : Prop := fnPlaceStartsAllPendingThatFitRow.holds Trym.pinned (OpenSpec.ofChange fnPlaceStartsAllPendingThatFitWrong)

/-- 'zzlaws_replay_b1.FnPlaceAgainStartsNothing': WHATEVER THE INPUT: true; the input reads as it did. -/
def fnPlaceAgainStartsNothingSpec : ChangeSpec := { name := "fnPlaceAgainStartsNothing", fn := fun _ => fun
  | [d1, d2, d3, d4, d5, d6, d7] => { results := [.lit (.bool true)], args := [d1, d2, d3, d4, d5, d6, d7] }
  | _ => none }
def fnPlaceAgainStartsNothingRow : OpenClaim := { program := "qxb6601136amods", sum := "dd045f9e83faf049e2f3e862e4a935a54301cdd97efdd29a3d3b8a3aceb2eb3b", func := "example.com/surgekeel/surgekeel/zzlaws_replay_b1.FnPlaceAgainStartsNothing", spec := "fnPlaceAgainStartsNothing", make := .lifted ["publicsums"], apart := false }
def FnPlaceAgainStartsNothingSaid : Prop := fnPlaceAgainStartsNothingRow.holds Trym.pinned (OpenSpec.ofChange fnPlaceAgainStartsNothingSpec)

/-- ITS FALSE NEIGHBOUR: 'it returns false'. Refute it at one input. -/
def fnPlaceAgainStartsNothingWrong : ChangeSpec := { name := "fnPlaceAgainStartsNothing", fn := fun _ => fun
  | [d1, d2, d3, d4, d5, d6, d7] => { results := [.lit (.bool false)], args := [d1, d2, d3, d4, d5, d6, d7] }
  | _ => none }
def FnPlaceAgainStartsNothingWrongFalsely : Prop := fnPlaceAgainStartsNothingRow.holds Trym.pinned (OpenSpec.ofChange fnPlaceAgainStartsNothingWrong)

/-- 'zzlaws_replay_b1.FnScaleToKeepsFirstNPodsAndAsksFewestNodes': WHATEVER THE INPUT: true; the input reads as it did. -/
def fnScaleToKeepsFirstNPodsAndAsksFewestNodesSpec : ChangeSpec := { name := "fnScaleToKeepsFirstNPodsAndAsksFewestNodes", fn := fun _ => fun
  | [d1, d2, d3, d4, d5, d6, d7] => { results := [.lit (.bool true)], args := [d1, d2, d3, d4, d5, d6, d7] }
  | _ => none }
def fnScaleToKeepsFirstNPodsAndAsksFewestNodesRow : OpenClaim := { program := "qxb6601136amods", sum := "dd045f9e83faf049e2f3e862e4a935a54301cdd97efdd29a3d3b8a3aceb2eb3b", func := "example.com/surgekeel/surgekeel/zzlaws_replay_b1.FnScaleToKeepsFirstNPodsAndAsksFewestNodes", spec := "fnScaleToKeepsFirstNPodsAndAsksFewestNodes", make := .lifted ["publicsums"], apart := false }
def FnScaleToKeepsFirstNPodsAndAsksFewestNodesSaid : Prop := fnScaleToKeepsFirstNPodsAndAsksFewestNodesRow.holds Trym.pinned (OpenSpec.ofChange fnScaleToKeepsFirstNPodsAndAsksFewestNodesSpec)

/-- ITS FALSE NEIGHBOUR: 'it returns false'. Refute it at one input. -/
def fnScaleToKeepsFirstNPodsAndAsksFewestNodesWrong : ChangeSpec := { name := "fnScaleToKeepsFirstNPodsAndAsksFewestNodes", fn := fun _ => fun
  | [d1, d2, d3, d4, d5, d6, d7] => { results := [.lit (.bool false)], args := [d1, d2, d3, d4, d5, d6, d7] }
  | _ => none }
def FnScaleToKeepsFirstNPodsAndAsksFewestNodesWrongFalsely : Prop := fnScaleToKeepsFirstNPodsAndAsksFewestNodesRow.holds Trym.pinned (OpenSpec.ofChange fnScaleToKeepsFirstNPodsAndAsksFewestNodesWrong)

/-- 'zzlaws_replay_b1.FnScaleToSameTargetTwiceChangesNothing': WHATEVER THE INPUT: true; the input reads as it did. -/
def fnScaleToSameTargetTwiceChangesNothingSpec : ChangeSpec := { name := "fnScaleToSameTargetTwiceChangesNothing", fn := fun _ => fun
  | [d1, d2, d3, d4, d5, d6, d7, d8] => { results := [.lit (.bool true)], args := [d1, d2, d3, d4, d5, d6, d7, d8] }
  | _ => none }
def fnScaleToSameTargetTwiceChangesNothingRow : OpenClaim := { program := "qxb6601136amods", sum := "dd045f9e83faf049e2f3e862e4a935a54301cdd97efdd29a3d3b8a3aceb2eb3b", func := "example.com/surgekeel/surgekeel/zzlaws_replay_b1.FnScaleToSameTargetTwiceChangesNothing", spec := "fnScaleToSameTargetTwiceChangesNothing", make := .lifted ["publicsums"], apart := false }
def FnScaleToSameTargetTwiceChangesNothingSaid : Prop := fnScaleToSameTargetTwiceChangesNothingRow.holds Trym.pinned (OpenSpec.ofChange fnScaleToSameTargetTwiceChangesNothingSpec)

/-- ITS FALSE NEIGHBOUR: 'it returns false'. Refute it at one input. -/
def fnScaleToSameTargetTwiceChangesNothingWrong : ChangeSpec := { name := "fnScaleToSameTargetTwiceChangesNothing", fn := fun _ => fun
  | [d1, d2, d3, d4, d5, d6, d7, d8] => { results := [.lit (.bool false)], args := [d1, d2, d3, d4, d5, d6, d7, d8] }
  | _ => none }
def FnScaleToSameTargetTwiceChangesNothingWrongFalsely : Prop := fnScaleToSameTargetTwiceChangesNothingRow.holds Trym.pinned (OpenSpec.ofChange fnScaleToSameTargetTwiceChangesNothingWrong)

end Rows
end Go.Proofs.Qxb6601136aMods
