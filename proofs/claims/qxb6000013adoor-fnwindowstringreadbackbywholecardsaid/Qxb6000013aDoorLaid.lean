/-
  FROM THE LISTED VARIABLES TO WHAT THE WALKS ASK; THE WITNESS's WORLD.
-/
import Derived.Test.Qxb6000013aDoorWalks
import Derived.ProofKit
import Derived.LaidMore
import Derived.OpenShut
import Derived.ShutString
import Derived.Stop.Joined
import Derived.Stop.LaidErr
import Derived.Lib.LaidTab
namespace Go.Proofs.Qxb6000013aDoor
open Go.ChangeShapes Go.WideShapes Go.ChangeAt Go.RowKit

theorem own : ownKnob Tryd.prog.godebug = none := by kernel_rfl

/-- the five listed variables, as every row of the seat lists them -/
def laidL : List (String × DataW Unit) := Rows.fnWholeSetTextMatchesDigitModelRow.laid

theorem gSyn : Tryd.prog.globalNamed "strconv.ErrSyntax" = some 0 := by kernel_rfl
theorem gRng : Tryd.prog.globalNamed "strconv.ErrRange" = some 1 := by kernel_rfl
theorem gTab : Tryd.prog.globalNamed pow10Name = some 2 := by kernel_rfl
theorem tSyn : (Tryd.prog.globals[0]?).map (·.type) = some 40 := by kernel_rfl
theorem tRng : (Tryd.prog.globals[1]?).map (·.type) = some 40 := by kernel_rfl
theorem tTab : (Tryd.prog.globals[2]?).map (·.type) = some 69 := by kernel_rfl
theorem cells77 : Tryd.prog.cellsOf 77 = 1 := by kernel_rfl
theorem cells9 : Tryd.prog.cellsOf 9 = 1 := by kernel_rfl
theorem cells48 : Tryd.prog.cellsOf 48 = 1 := by kernel_rfl
theorem cells69 : Tryd.prog.cellsOf 69 = 20 := by kernel_rfl
theorem star : "*" ++ "errors.errorString" = "*errors.errorString" := by decide
/-- THE ONE ROW OF THAT NAME. -/
theorem row75 (u : TypeId) (h : Tryd.prog.typeName? 3 u = some "*errors.errorString") : u = 75 :=
  typeName_ptr_named (nm := "errors.errorString") (by rw [star]; kernel_rfl) (by kernel_rfl) (by decide) u (by rw [star]; exact h)

theorem tab_same : (Rows.laid_internal_strconv_uint64pow10 : DataW Unit) = Lib.tabData .u64 Lib.pow10Tab := by kernel_rfl

theorem ready_of_laid {W : World} (h : laidMetH Tryd.prog laidL W) : Ready W := by
  rw [MakeChecks.laidMetH_plain _ _ _ (by kernel_rfl)] at h
  have h2 := h.tail.tail
  have h3 := h2.tail
  have h4 := h3.tail
  obtain ⟨a1, s1, v1, _, _, _⟩ := laid_sentinel h3 gRng tRng Tryd.underlying40 row75 Tryd.underlying75 Tryd.underlying77 rfl rfl Tryd.underlying9 cells77 cells9
  obtain ⟨a0, s0, v0, _, _, _⟩ := laid_sentinel h4 gSyn tSyn Tryd.underlying40 row75 Tryd.underlying75 Tryd.underlying77 rfl rfl Tryd.underlying9 cells77 cells9
  have h2' : laidMet Tryd.prog ((pow10Name, Lib.tabData .u64 Lib.pow10Tab) :: [("strconv.ErrRange", Rows.laid_strconv_ErrRange), ("strconv.ErrSyntax", Rows.laid_strconv_ErrSyntax)]) W := by
    rw [← tab_same]; exact h2
  exact ⟨⟨_, _, v0⟩, ⟨_, _, v1⟩, Lib.tabIs_of_head gTab tTab Tryd.underlying69 Tryd.underlying48 cells48 cells69 h2'⟩

/-- The door's own heap meets the condition: three closed facts. -/
theorem door_met (os : Os) (args : Array Value) : laidMetH Tryd.prog laidL ((World.doorLaid Tryd.prog 62 os).forCall (fun _ _ => 0) ⟨#[], args, []⟩).memory :=
  laidMetH_of_parts3 (fuel := 8) (laidMet_of_run' 8 (by kernel_rfl) (by kernel_rfl)) (by kernel_rfl) (by kernel_rfl)

/-- an int64's bounds, out of its form -/
theorem wf_i64 {a : Int} (h : (Lit.int .i64 a).wf = true) : -9223372036854775808 ≤ a ∧ a ≤ 9223372036854775807 := by
  have e1 : IntKind.i64.min = -9223372036854775808 := rfl
  have e2 : IntKind.i64.max = 9223372036854775807 := rfl
  simp [Lit.wf, e1, e2] at h
  omega
end Go.Proofs.Qxb6000013aDoor
