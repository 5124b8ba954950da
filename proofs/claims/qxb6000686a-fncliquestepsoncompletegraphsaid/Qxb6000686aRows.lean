/-
  No cell of these rows narrows 'for every input' (looked for: loops, veiled, ifaces, maps, wideKeys, modest, calm, conditions, laid).
  DERIVED. THE GIVEN ROWS OF THIS SEAT. 9 by the template 'for every input the law returns true; each argument reads behind the call as it read before'; 0 by the template 'total and deterministic' (their statements: Qxb6000686aTotals.lean).
  GIVEN WITH THE SEED: the statements are not yours to turn. If you find one false, say at which input.
  Laid BY PROGRAM, IN A SANDBOX (cutbox-rows.mjs): the forced cells as the released guide's own fill.sh prints them over the translation b2828da8e50f1d16… (all of the seat's roots in one cut). By AI agents, Wed Nov 11 2026. No macro, syntax, notation, axiom, sorry.
-/
import Derived.Test.Qxb6000686aChecked
import GoSem.Claim
import GoSem.ClaimJoined
import GoSem.ClaimMapViews
import Derived.JoinedTies
import Derived.KernelRfl
namespace Go.Proofs.Qxb6000686a
/- THE CELL 'sum', in the pinned program and in every row, IS THE sha256 OF THE DUMP (.gsa) THAT Qxb6000686aProg.lean LOADS. Nothing in Lean hashes anything: it is a label: what it is worth is what the hold of that sum in a sandbox is worth. -/
noncomputable def Try.pinned : Pinned := { name := "qxb6000686a", sum := "b2828da8e50f1d161b1d6571b9cea6cd1513af324b661a1625d4337760c87983", checked := Try.checked }
namespace Rows
def none {H : Type} : Left H := { results := [], args := [] }

/-- 'zzlaws_internal_lock_b1.FnCliqueStepsOnCompleteGraph': WHATEVER THE INPUT: true; the input reads as it did. -/
def fnCliqueStepsOnCompleteGraphSpec : ChangeSpec := { name := "fnCliqueStepsOnCompleteGraph", fn := fun _ => fun
  | [d1, d2, d3] => { results := [.lit (.bool true)], args := [d1, d2, d3] }
  | _ => none }
def fnCliqueStepsOnCompleteGraphRow : OpenClaim := { program := "qxb6000686a", sum := "b2828da8e50f1d161b1d6571b9cea6cd1513af324b661a1625d4337760c87983", func := "example.com/waitgraph/waitgraph/zzlaws_internal_lock_b1.FnCliqueStepsOnCompleteGraph", spec := "fnCliqueStepsOnCompleteGraph", apart := false }
def FnCliqueStepsOnCompleteGraphSaid : Prop := fnCliqueStepsOnCompleteGraphRow.holds Try.pinned (OpenSpec.ofChange fnCliqueStepsOnCompleteGraphSpec)

/-- ITS FALSE NEIGHBOUR: 'it returns false'. Refute it at one input. -/
def fnCliqueStepsOnCompleteGraphWrong : ChangeSpec := { name := "fnCliqueStepsOnCompleteGraph", fn := fun _ => fun
  | [d1, d2, d3] => { results := [.lit (.bool false)], args := [d1, d2, d3] }
  | _ => none }
def FnCliqueStepsOnCompleteGraphWrongFalsely : Prop := fnCliqueStepsOnCompleteGraphRow.holds Try.pinned (OpenSpec.ofChange fnCliqueStepsOnCompleteGraphWrong)

/-- 'zzlaws_internal_lock_b1.FnCliqueStepsZeroExactlyWithoutMutualPartner': WHATEVER THE INPUT: true; the input reads as it did. -/
def fnCliqueStepsZeroExactlyWithoutMutualPartnerSpec : ChangeSpec := { name := "fnCliqueStepsZeroExactlyWithoutMutualPartner", fn := fun _ => fun
  | [d1, d2, d3] => { results := [.lit (.bool true)], args := [d1, d2, d3] }
  | _ => none }
def fnCliqueStepsZeroExactlyWithoutMutualPartnerRow : OpenClaim := { program := "qxb6000686a", sum := "b2828da8e50f1d161b1d6571b9cea6cd1513af324b661a1625d4337760c87983", func := "example.com/waitgraph/waitgraph/zzlaws_internal_lock_b1.FnCliqueStepsZeroExactlyWithoutMutualPartner", spec := "fnCliqueStepsZeroExactlyWithoutMutualPartner", apart := false }
def FnCliqueStepsZeroExactlyWithoutMutualPartnerSaid : Prop := fnCliqueStepsZeroExactlyWithoutMutualPartnerRow.holds Try.pinned (OpenSpec.ofChange fnCliqueStepsZeroExactlyWithoutMutualPartnerSpec)

/-- ITS FALSE NEIGHBOUR: 'it returns false'. Refute it at one input. -/
def fnCliqueStepsZeroExactlyWithoutMutualPartnerWrong : ChangeSpec := { name := "fnCliqueStepsZeroExactlyWithoutMutualPartner", fn := fun _ => fun
  | [d1, d2, d3] => { results := [.lit (.bool false)], args := [d1, d2, d3] }
  | _ => none }
def FnCliqueStepsZeroExactlyWithoutMutualPartnerWrongFalsely : Prop := fnCliqueStepsZeroExactlyWithoutMutualPartnerRow.holds Try.pinned (OpenSpec.ofChange fnCliqueStepsZeroExactlyWithoutMutualPartnerWrong)

/-- 'zzlaws_internal_lock_b1.FnCliqueStepsLimitOnlyCaps': WHATEVER THE INPUT: true; the input reads as it did. -/
def fnCliqueStepsLimitOnlyCapsSpec : ChangeSpec := { name := "fnCliqueStepsLimitOnlyCaps", fn := fun _ => fun
  | [d1, d2, d3, d4] => { results := [.lit (.bool true)], args := [d1, d2, d3, d4] }
  | _ => none }
def fnCliqueStepsLimitOnlyCapsRow : OpenClaim := { program := "qxb6000686a", sum := "b2828da8e50f1d161b1d6571b9cea6cd1513af324b661a1625d4337760c87983", func := "example.com/waitgraph/waitgraph/zzlaws_internal_lock_b1.FnCliqueStepsLimitOnlyCaps", spec := "fnCliqueStepsLimitOnlyCaps", apart := false }
def FnCliqueStepsLimitOnlyCapsSaid : Prop := fnCliqueStepsLimitOnlyCapsRow.holds Try.pinned (OpenSpec.ofChange fnCliqueStepsLimitOnlyCapsSpec)

/-- ITS FALSE NEIGHBOUR: 'it returns false'. Refute it at one input. -/
def fnCliqueStepsLimitOnlyCapsWrong : ChangeSpec := { name := "fnCliqueStepsLimitOnlyCaps", fn := fun _ => fun
  | [d1, d2, d3, d4] => { results := [.lit (.bool false)], args := [d1, d2, d3, d4] }
  | _ => none }
def FnCliqueStepsLimitOnlyCapsWrongFalsely : Prop := fnCliqueStepsLimitOnlyCapsRow.holds Try.pinned (OpenSpec.ofChange fnCliqueStepsLimitOnlyCapsWrong)

/-- 'zzlaws_internal_lock_b1.FnSearchLeavesExactlyTheReachable': WHATEVER THE INPUT: true; the input reads as it did. -/
def fnSearchLeavesExactlyTheReachableSpec : ChangeSpec := { name := "fnSearchLeavesExactlyTheReachable", fn := fun _ => fun
  | [d1, d2, d3] => { results := [.lit (.bool true)], args := [d1, d2, d3] }
  | _ => none }
def fnSearchLeavesExactlyTheReachableRow : OpenClaim := { program := "qxb6000686a", sum := "b2828da8e50f1d161b1d6571b9cea6cd1513af324b661a1625d4337760c87983", func := "example.com/waitgraph/waitgraph/zzlaws_internal_lock_b1.FnSearchLeavesExactlyTheReachable", spec := "fnSearchLeavesExactlyTheReachable", apart := false }
def FnSearchLeavesExactlyTheReachableSaid : Prop := fnSearchLeavesExactlyTheReachableRow.holds Try.pinned (OpenSpec.ofChange fnSearchLeavesExactlyTheReachableSpec)

/-- ITS FALSE NEIGHBOUR: 'it returns false'. Refute it at one input. -/
def fnSearchLeavesExactlyTheReachableWrong : ChangeSpec := { name := "fnSearchLeavesExactlyTheReachable", fn := fun _ => fun
  | [d1, d2, d3] => { results := [.lit (.bool false)], args := [d1, d2, d3] }
  | _ => none }
def FnSearchLeavesExactlyTheReachableWrongFalsely : Prop := fnSearchLeavesExactlyTheReachableRow.holds Try.pinned (OpenSpec.ofChange fnSearchLeavesExactlyTheReachableWrong)

/-- 'zzlaws_internal_lock_b1.FnSearchOrderIsReverseTopologicalOnDAG': WHATEVER THE INPUT: true; the input reads as it did. -/
def fnSearchOrderIsReverseTopologicalOnDAGSpec : ChangeSpec := { name := "fnSearchOrderIsReverseTopologicalOnDAG", fn := fun _ => fun
  | [d1, d2, d3] => { results := [.lit (.bool true)], args := [d1, d2, d3] }
  | _ => none }
def fnSearchOrderIsReverseTopologicalOnDAGRow : OpenClaim := { program := "qxb6000686a", sum := "b2828da8e50f1d161b1d6571b9cea6cd1513af324b661a1625d4337760c87983", func := "example.com/waitgraph/waitgraph/zzlaws_internal_lock_b1.FnSearchOrderIsReverseTopologicalOnDAG", spec := "fnSearchOrderIsReverseTopologicalOnDAG", apart := false }
def FnSearchOrderIsReverseTopologicalOnDAGSaid : Prop := fnSearchOrderIsReverseTopologicalOnDAGRow.holds Try.pinned (OpenSpec.ofChange fnSearchOrderIsReverseTopologicalOnDAGSpec)

/-- ITS FALSE NEIGHBOUR: 'it returns false'. Refute it at one input. -/
def fnSearchOrderIsReverseTopologicalOnDAGWrong : ChangeSpec := { name := "fnSearchOrderIsReverseTopologicalOnDAG", fn := fun _ => fun
  | [d1, d2, d3] => { results := [.lit (.bool false)], args := [d1, d2, d3] }
  | _ => none }
def FnSearchOrderIsReverseTopologicalOnDAGWrongFalsely : Prop := fnSearchOrderIsReverseTopologicalOnDAGRow.holds Try.pinned (OpenSpec.ofChange fnSearchOrderIsReverseTopologicalOnDAGWrong)

/-- 'zzlaws_internal_lock_b1.FnSearchForgetsEarlierSearch': WHATEVER THE INPUT: true; the input reads as it did. -/
def fnSearchForgetsEarlierSearchSpec : ChangeSpec := { name := "fnSearchForgetsEarlierSearch", fn := fun _ => fun
  | [d1, d2, d3, d4, d5] => { results := [.lit (.bool true)], args := [d1, d2, d3, d4, d5] }
  | _ => none }
def fnSearchForgetsEarlierSearchRow : OpenClaim := { program := "qxb6000686a", sum := "b2828da8e50f1d161b1d6571b9cea6cd1513af324b661a1625d4337760c87983", func := "example.com/waitgraph/waitgraph/zzlaws_internal_lock_b1.FnSearchForgetsEarlierSearch", spec := "fnSearchForgetsEarlierSearch", apart := false }
def FnSearchForgetsEarlierSearchSaid : Prop := fnSearchForgetsEarlierSearchRow.holds Try.pinned (OpenSpec.ofChange fnSearchForgetsEarlierSearchSpec)

/-- ITS FALSE NEIGHBOUR: 'it returns false'. Refute it at one input. -/
def fnSearchForgetsEarlierSearchWrong : ChangeSpec := { name := "fnSearchForgetsEarlierSearch", fn := fun _ => fun
  | [d1, d2, d3, d4, d5] => { results := [.lit (.bool false)], args := [d1, d2, d3, d4, d5] }
  | _ => none }
def FnSearchForgetsEarlierSearchWrongFalsely : Prop := fnSearchForgetsEarlierSearchRow.holds Try.pinned (OpenSpec.ofChange fnSearchForgetsEarlierSearchWrong)

/-- 'zzlaws_internal_lock_b1.FnCycleStepsCountsCyclesThroughRoot': WHATEVER THE INPUT: true; the input reads as it did. -/
def fnCycleStepsCountsCyclesThroughRootSpec : ChangeSpec := { name := "fnCycleStepsCountsCyclesThroughRoot", fn := fun _ => fun
  | [d1, d2, d3] => { results := [.lit (.bool true)], args := [d1, d2, d3] }
  | _ => none }
def fnCycleStepsCountsCyclesThroughRootRow : OpenClaim := { program := "qxb6000686a", sum := "b2828da8e50f1d161b1d6571b9cea6cd1513af324b661a1625d4337760c87983", func := "example.com/waitgraph/waitgraph/zzlaws_internal_lock_b1.FnCycleStepsCountsCyclesThroughRoot", spec := "fnCycleStepsCountsCyclesThroughRoot", apart := false }
def FnCycleStepsCountsCyclesThroughRootSaid : Prop := fnCycleStepsCountsCyclesThroughRootRow.holds Try.pinned (OpenSpec.ofChange fnCycleStepsCountsCyclesThroughRootSpec)

/-- ITS FALSE NEIGHBOUR: 'it returns false'. Refute it at one input. -/
def fnCycleStepsCountsCyclesThroughRootWrong : ChangeSpec := { name := "fnCycleStepsCountsCyclesThroughRoot", fn := fun _ => fun
  | [d1, d2, d3] => { results := [.lit (.bool false)], args := [d1, d2, d3] }
  | _ => none }
def FnCycleStepsCountsCyclesThroughRootWrongFalsely : Prop := fnCycleStepsCountsCyclesThroughRootRow.holds Try.pinned (OpenSpec.ofChange fnCycleStepsCountsCyclesThroughRootWrong)

/-- 'zzlaws_internal_lock_b1.FnCycleStepsLimitOnlyCaps': WHATEVER THE INPUT: true; the input reads as it did. -/
def fnCycleStepsLimitOnlyCapsSpec : ChangeSpec := { name := "fnCycleStepsLimitOnlyCaps", fn := fun _ => fun
  | [d1, d2, d3, d4, d5] => { results := [.lit (.bool true)], args := [d1, d2, d3, d4, d5] }
  | _ => none }
def fnCycleStepsLimitOnlyCapsRow : OpenClaim := { program := "qxb6000686a", sum := "b2828da8e50f1d161b1d6571b9cea6cd1513af324b661a1625d4337760c87983", func := "example.com/waitgraph/waitgraph/zzlaws_internal_lock_b1.FnCycleStepsLimitOnlyCaps", spec := "fnCycleStepsLimitOnlyCaps", apart := false }
def FnCycleStepsLimitOnlyCapsSaid : Prop := fnCycleStepsLimitOnlyCapsRow.holds Try.pinned (OpenSpec.ofChange fnCycleStepsLimitOnlyCapsSpec)

/-- ITS FALSE NEIGHBOUR: 'it returns false'. Refute it at one input. -/
def fnCycleStepsLimitOnlyCapsWrong : ChangeSpec := { name := "fnCycleStepsLimitOnlyCaps", fn := fun _ => fun
  | [d1, d2, d3, d4, d5] => { results := [.lit (.bool false)], args := [d1, d2, d3, d4, d5] }
  | _ => none }
def FnCycleStepsLimitOnlyCapsWrongFalsely : Prop := fnCycleStepsLimitOnlyCapsRow.holds Try.pinned (OpenSpec.ofChange fnCycleStepsLimitOnlyCapsWrong)

/-- 'zzlaws_internal_lock_b1.FnCycleStepsZeroExactlyWithoutCycleThroughRoot': WHATEVER THE INPUT: true; the input reads as it did. -/
def fnCycleStepsZeroExactlyWithoutCycleThroughRootSpec : ChangeSpec := { name := "fnCycleStepsZeroExactlyWithoutCycleThroughRoot", fn := fun _ => fun
  | [d1, d2, d3, d4] => { results := [.lit (.bool true)], args := [d1, d2, d3, d4] }
  | _ => none }
def fnCycleStepsZeroExactlyWithoutCycleThroughRootRow : OpenClaim := { program := "qxb6000686a", sum := "b2828da8e50f1d161b1d6571b9cea6cd1513af324b661a1625d4337760c87983", func := "example.com/waitgraph/waitgraph/zzlaws_internal_lock_b1.FnCycleStepsZeroExactlyWithoutCycleThroughRoot", spec := "fnCycleStepsZeroExactlyWithoutCycleThroughRoot", apart := false }
def FnCycleStepsZeroExactlyWithoutCycleThroughRootSaid : Prop := fnCycleStepsZeroExactlyWithoutCycleThroughRootRow.holds Try.pinned (OpenSpec.ofChange fnCycleStepsZeroExactlyWithoutCycleThroughRootSpec)

/-- ITS FALSE NEIGHBOUR: 'it returns false'. Refute it at one input. -/
def fnCycleStepsZeroExactlyWithoutCycleThroughRootWrong : ChangeSpec := { name := "fnCycleStepsZeroExactlyWithoutCycleThroughRoot", fn := fun _ => fun
  | [d1, d2, d3, d4] => { results := [.lit (.bool false)], args := [d1, d2, d3, d4] }
  | _ => none }
def FnCycleStepsZeroExactlyWithoutCycleThroughRootWrongFalsely : Prop := fnCycleStepsZeroExactlyWithoutCycleThroughRootRow.holds Try.pinned (OpenSpec.ofChange fnCycleStepsZeroExactlyWithoutCycleThroughRootWrong)

end Rows
end Go.Proofs.Qxb6000686a
