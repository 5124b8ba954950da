/-
  No cell of these rows narrows 'for every input' (looked for: loops, veiled, ifaces, maps, wideKeys, modest, calm, conditions, laid).
  DERIVED. THE GIVEN ROWS OF THIS SEAT. 4 by the template 'for every input the law returns true; each argument reads behind the call as it read before'; 0 by the template 'total and deterministic' (their statements: Qxb6000704aTotals.lean).
  GIVEN WITH THE SEED: the statements are not yours to turn. If you find one false, say at which input.
  Laid BY PROGRAM, IN A SANDBOX (cutbox-rows.mjs): the forced cells as the released guide's own fill.sh prints them over the translation 11806166e17c5dfd… (all of the seat's roots in one cut). By AI agents, Wed Nov 11 2026. No macro, syntax, notation, axiom, sorry.
-/
import Derived.Test.Qxb6000704aChecked
import GoSem.Claim
import GoSem.ClaimJoined
import GoSem.ClaimMapViews
import Derived.JoinedTies
import Derived.KernelRfl
namespace Go.Proofs.Qxb6000704a
/- THE CELL 'sum', in the pinned program and in every row, IS THE sha256 OF THE DUMP (.gsa) THAT Qxb6000704aProg.lean LOADS. Nothing in Lean hashes anything: it is a label: what it is worth is what the hold of that sum in a sandbox is worth. -/
noncomputable def Try.pinned : Pinned := { name := "qxb6000704a", sum := "11806166e17c5dfd3f73a2f6f1d5a08a342b966dbaae64088e7219a546810a2d", checked := Try.checked }
namespace Rows
def none {H : Type} : Left H := { results := [], args := [] }

/-- 'zzlaws_root_b1.FnMotionMeanPerPixelModel': WHATEVER THE INPUT: true; the input reads as it did. -/
def fnMotionMeanPerPixelModelSpec : ChangeSpec := { name := "fnMotionMeanPerPixelModel", fn := fun _ => fun
  | [d1, d2, d3] => { results := [.lit (.bool true)], args := [d1, d2, d3] }
  | _ => none }
def fnMotionMeanPerPixelModelRow : OpenClaim := { program := "qxb6000704a", sum := "11806166e17c5dfd3f73a2f6f1d5a08a342b966dbaae64088e7219a546810a2d", func := "example.com/mask3/mask3/zzlaws_root_b1.FnMotionMeanPerPixelModel", spec := "fnMotionMeanPerPixelModel", apart := false }
def FnMotionMeanPerPixelModelSaid : Prop := fnMotionMeanPerPixelModelRow.holds Try.pinned (OpenSpec.ofChange fnMotionMeanPerPixelModelSpec)

/-- ITS FALSE NEIGHBOUR: 'it returns false'. Refute it at one input. -/
def fnMotionMeanPerPixelModelWrong : ChangeSpec := { name := "fnMotionMeanPerPixelModel", fn := fun _ => fun
  | [d1, d2, d3] => { results := [.lit (.bool false)], args := [d1, d2, d3] }
  | _ => none }
def FnMotionMeanPerPixelModelWrongFalsely : Prop := fnMotionMeanPerPixelModelRow.holds Try.pinned (OpenSpec.ofChange fnMotionMeanPerPixelModelWrong)

/-- 'zzlaws_root_b1.FnMotionMeanMonotone': WHATEVER THE INPUT: true; the input reads as it did. -/
def fnMotionMeanMonotoneSpec : ChangeSpec := { name := "fnMotionMeanMonotone", fn := fun _ => fun
  | [d1, d2, d3, d4] => { results := [.lit (.bool true)], args := [d1, d2, d3, d4] }
  | _ => none }
def fnMotionMeanMonotoneRow : OpenClaim := { program := "qxb6000704a", sum := "11806166e17c5dfd3f73a2f6f1d5a08a342b966dbaae64088e7219a546810a2d", func := "example.com/mask3/mask3/zzlaws_root_b1.FnMotionMeanMonotone", spec := "fnMotionMeanMonotone", apart := false }
def FnMotionMeanMonotoneSaid : Prop := fnMotionMeanMonotoneRow.holds Try.pinned (OpenSpec.ofChange fnMotionMeanMonotoneSpec)

/-- ITS FALSE NEIGHBOUR: 'it returns false'. Refute it at one input. -/
def fnMotionMeanMonotoneWrong : ChangeSpec := { name := "fnMotionMeanMonotone", fn := fun _ => fun
  | [d1, d2, d3, d4] => { results := [.lit (.bool false)], args := [d1, d2, d3, d4] }
  | _ => none }
def FnMotionMeanMonotoneWrongFalsely : Prop := fnMotionMeanMonotoneRow.holds Try.pinned (OpenSpec.ofChange fnMotionMeanMonotoneWrong)

/-- 'zzlaws_root_b1.FnRowChunkReassemblesRow': WHATEVER THE INPUT: true; the input reads as it did. -/
def fnRowChunkReassemblesRowSpec : ChangeSpec := { name := "fnRowChunkReassemblesRow", fn := fun _ => fun
  | [d1, d2, d3] => { results := [.lit (.bool true)], args := [d1, d2, d3] }
  | _ => none }
def fnRowChunkReassemblesRowRow : OpenClaim := { program := "qxb6000704a", sum := "11806166e17c5dfd3f73a2f6f1d5a08a342b966dbaae64088e7219a546810a2d", func := "example.com/mask3/mask3/zzlaws_root_b1.FnRowChunkReassemblesRow", spec := "fnRowChunkReassemblesRow", apart := false }
def FnRowChunkReassemblesRowSaid : Prop := fnRowChunkReassemblesRowRow.holds Try.pinned (OpenSpec.ofChange fnRowChunkReassemblesRowSpec)

/-- ITS FALSE NEIGHBOUR: 'it returns false'. Refute it at one input. -/
def fnRowChunkReassemblesRowWrong : ChangeSpec := { name := "fnRowChunkReassemblesRow", fn := fun _ => fun
  | [d1, d2, d3] => { results := [.lit (.bool false)], args := [d1, d2, d3] }
  | _ => none }
def FnRowChunkReassemblesRowWrongFalsely : Prop := fnRowChunkReassemblesRowRow.holds Try.pinned (OpenSpec.ofChange fnRowChunkReassemblesRowWrong)

/-- 'zzlaws_root_b1.FnRowChunkWholeIsRowsOwnPartIsScratch': WHATEVER THE INPUT: true; the input reads as it did. -/
def fnRowChunkWholeIsRowsOwnPartIsScratchSpec : ChangeSpec := { name := "fnRowChunkWholeIsRowsOwnPartIsScratch", fn := fun _ => fun
  | [d1, d2, d3, d4, d5] => { results := [.lit (.bool true)], args := [d1, d2, d3, d4, d5] }
  | _ => none }
def fnRowChunkWholeIsRowsOwnPartIsScratchRow : OpenClaim := { program := "qxb6000704a", sum := "11806166e17c5dfd3f73a2f6f1d5a08a342b966dbaae64088e7219a546810a2d", func := "example.com/mask3/mask3/zzlaws_root_b1.FnRowChunkWholeIsRowsOwnPartIsScratch", spec := "fnRowChunkWholeIsRowsOwnPartIsScratch", apart := false }
def FnRowChunkWholeIsRowsOwnPartIsScratchSaid : Prop := fnRowChunkWholeIsRowsOwnPartIsScratchRow.holds Try.pinned (OpenSpec.ofChange fnRowChunkWholeIsRowsOwnPartIsScratchSpec)

/-- ITS FALSE NEIGHBOUR: 'it returns false'. Refute it at one input. -/
def fnRowChunkWholeIsRowsOwnPartIsScratchWrong : ChangeSpec := { name := "fnRowChunkWholeIsRowsOwnPartIsScratch", fn := fun _ => fun
  | [d1, d2, d3, d4, d5] => { results := [.lit (.bool false)], args := [d1, d2, d3, d4, d5] }
  | _ => none }
def FnRowChunkWholeIsRowsOwnPartIsScratchWrongFalsely : Prop := fnRowChunkWholeIsRowsOwnPartIsScratchRow.holds Try.pinned (OpenSpec.ofChange fnRowChunkWholeIsRowsOwnPartIsScratchWrong)

end Rows
end Go.Proofs.Qxb6000704a
