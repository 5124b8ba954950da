/-
  No cell of these rows narrows 'for every input' (looked for: loops, veiled, ifaces, maps, wideKeys, modest, calm, conditions, laid).
  DERIVED. THE GIVEN ROWS OF THIS SEAT. 4 by the template 'for every input the law returns true; each argument reads behind the call as it read before'; 0 by the template 'total and deterministic' (their statements: Qxb6601481aTotals.lean).
  GIVEN WITH THE SEED: the statements are not yours to turn. If you find one false, say at which input.
  Laid BY PROGRAM, IN A SANDBOX (cutbox-rows.mjs): the forced cells as the released guide's own fill.sh prints them over the translation a0c42db83e2575e7… (all of the seat's roots in one cut). By AI agents, Wed Nov 11 2026. No macro, syntax, notation, axiom, sorry.
-/
import Derived.Test.Qxb6601481aChecked
import GoSem.Claim
import GoSem.ClaimJoined
import GoSem.ClaimMapViews
import Derived.JoinedTies
import Derived.KernelRfl
namespace Go.Proofs.Qxb6601481a
/- THE CELL 'sum', in the pinned program and in every row, IS THE sha256 OF THE DUMP (.gsa) THAT Qxb6601481aProg.lean LOADS. Nothing in Lean hashes anything: it is a label: what it is worth is what the hold of that sum in a sandbox is worth. -/
noncomputable def Try.pinned : Pinned := { name := "qxb6601481a", sum := "a0c42db83e2575e7ca6e0ae9818288f236aede3f9398b0e4a885557c6cd8c7d1", checked := Try.checked }
namespace Rows
def none {H : Type} : Left H := { results := [], args := [] }

/-- 'zzlaws_sim_b1.FnAtOnceIsLargestFittingCount': WHATEVER THE INPUT: true; the input reads as it did. -/
def fnAtOnceIsLargestFittingCountSpec : ChangeSpec := { name := "fnAtOnceIsLargestFittingCount", fn := fun _ => fun
  | [d1, d2] => { results := [.lit (.bool true)], args := [d1, d2] }
  | _ => none }
def fnAtOnceIsLargestFittingCountRow : OpenClaim := { program := "qxb6601481a", sum := "a0c42db83e2575e7ca6e0ae9818288f236aede3f9398b0e4a885557c6cd8c7d1", func := "example.com/concordice/concordice/zzlaws_sim_b1.FnAtOnceIsLargestFittingCount", spec := "fnAtOnceIsLargestFittingCount", apart := false }
def FnAtOnceIsLargestFittingCountSaid : Prop := fnAtOnceIsLargestFittingCountRow.holds Try.pinned (OpenSpec.ofChange fnAtOnceIsLargestFittingCountSpec)

/-- ITS FALSE NEIGHBOUR: 'it returns false'. Refute it at one input. -/
def fnAtOnceIsLargestFittingCountWrong : ChangeSpec := { name := "fnAtOnceIsLargestFittingCount", fn := fun _ => fun
  | [d1, d2] => { results := [.lit (.bool false)], args := [d1, d2] }
  | _ => none }
def FnAtOnceIsLargestFittingCountWrongFalsely : Prop := fnAtOnceIsLargestFittingCountRow.holds Try.pinned (OpenSpec.ofChange fnAtOnceIsLargestFittingCountWrong)

/-- 'zzlaws_sim_b1.FnAtOnceFallsAsTheRunGrows': WHATEVER THE INPUT: true; the input reads as it did. -/
def fnAtOnceFallsAsTheRunGrowsSpec : ChangeSpec := { name := "fnAtOnceFallsAsTheRunGrows", fn := fun _ => fun
  | [d1, d2, d3, d4] => { results := [.lit (.bool true)], args := [d1, d2, d3, d4] }
  | _ => none }
def fnAtOnceFallsAsTheRunGrowsRow : OpenClaim := { program := "qxb6601481a", sum := "a0c42db83e2575e7ca6e0ae9818288f236aede3f9398b0e4a885557c6cd8c7d1", func := "example.com/concordice/concordice/zzlaws_sim_b1.FnAtOnceFallsAsTheRunGrows", spec := "fnAtOnceFallsAsTheRunGrows", apart := false }
def FnAtOnceFallsAsTheRunGrowsSaid : Prop := fnAtOnceFallsAsTheRunGrowsRow.holds Try.pinned (OpenSpec.ofChange fnAtOnceFallsAsTheRunGrowsSpec)

/-- ITS FALSE NEIGHBOUR: 'it returns false'. Refute it at one input. -/
def fnAtOnceFallsAsTheRunGrowsWrong : ChangeSpec := { name := "fnAtOnceFallsAsTheRunGrows", fn := fun _ => fun
  | [d1, d2, d3, d4] => { results := [.lit (.bool false)], args := [d1, d2, d3, d4] }
  | _ => none }
def FnAtOnceFallsAsTheRunGrowsWrongFalsely : Prop := fnAtOnceFallsAsTheRunGrowsRow.holds Try.pinned (OpenSpec.ofChange fnAtOnceFallsAsTheRunGrowsWrong)

/-- 'zzlaws_sim_b1.FnAddIsOrderFree': WHATEVER THE INPUT: true; the input reads as it did. -/
def fnAddIsOrderFreeSpec : ChangeSpec := { name := "fnAddIsOrderFree", fn := fun _ => fun
  | [d1, d2, d3] => { results := [.lit (.bool true)], args := [d1, d2, d3] }
  | _ => none }
def fnAddIsOrderFreeRow : OpenClaim := { program := "qxb6601481a", sum := "a0c42db83e2575e7ca6e0ae9818288f236aede3f9398b0e4a885557c6cd8c7d1", func := "example.com/concordice/concordice/zzlaws_sim_b1.FnAddIsOrderFree", spec := "fnAddIsOrderFree", apart := false }
def FnAddIsOrderFreeSaid : Prop := fnAddIsOrderFreeRow.holds Try.pinned (OpenSpec.ofChange fnAddIsOrderFreeSpec)

/-- ITS FALSE NEIGHBOUR: 'it returns false'. Refute it at one input. -/
def fnAddIsOrderFreeWrong : ChangeSpec := { name := "fnAddIsOrderFree", fn := fun _ => fun
  | [d1, d2, d3] => { results := [.lit (.bool false)], args := [d1, d2, d3] }
  | _ => none }
def FnAddIsOrderFreeWrongFalsely : Prop := fnAddIsOrderFreeRow.holds Try.pinned (OpenSpec.ofChange fnAddIsOrderFreeWrong)

/-- 'zzlaws_sim_b1.FnAddAllThenReportCountsAndAverages': WHATEVER THE INPUT: true; the input reads as it did. -/
def fnAddAllThenReportCountsAndAveragesSpec : ChangeSpec := { name := "fnAddAllThenReportCountsAndAverages", fn := fun _ => fun
  | [d1, d2, d3, d4] => { results := [.lit (.bool true)], args := [d1, d2, d3, d4] }
  | _ => none }
def fnAddAllThenReportCountsAndAveragesRow : OpenClaim := { program := "qxb6601481a", sum := "a0c42db83e2575e7ca6e0ae9818288f236aede3f9398b0e4a885557c6cd8c7d1", func := "example.com/concordice/concordice/zzlaws_sim_b1.FnAddAllThenReportCountsAndAverages", spec := "fnAddAllThenReportCountsAndAverages", apart := false }
def FnAddAllThenReportCountsAndAveragesSaid : Prop := fnAddAllThenReportCountsAndAveragesRow.holds Try.pinned (OpenSpec.ofChange fnAddAllThenReportCountsAndAveragesSpec)

/-- ITS FALSE NEIGHBOUR: 'it returns false'. Refute it at one input. -/
def fnAddAllThenReportCountsAndAveragesWrong : ChangeSpec := { name := "fnAddAllThenReportCountsAndAverages", fn := fun _ => fun
  | [d1, d2, d3, d4] => { results := [.lit (.bool false)], args := [d1, d2, d3, d4] }
  | _ => none }
def FnAddAllThenReportCountsAndAveragesWrongFalsely : Prop := fnAddAllThenReportCountsAndAveragesRow.holds Try.pinned (OpenSpec.ofChange fnAddAllThenReportCountsAndAveragesWrong)

end Rows
end Go.Proofs.Qxb6601481a
