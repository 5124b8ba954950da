/-
  SEAT b6601481a: THE LAW (6): ITS PARTS BY NAME.
-/
import Derived.Test.Qxb6601481aZrep
import Derived.Test.Qxb6601481aEqA
import Derived.Test.Qxb6601481aEqB
import Derived.Test.Qxb6601481aEqC
import Derived.Test.Qxb6601481aEqD
import Derived.Test.Qxb6601481aByt
import Derived.Test.Qxb6601481aSum
namespace Go.Proofs.Qxb6601481a
open Go.RowKit Go.Deep

/-- the statements behind the first k -/
def dropS : Nat → Code → Code
  | 0, c => c
  | k + 1, .seq _ b => dropS k b
  | _ + 1, c => c
/-- the first statement -/
def headS : Code → Code
  | .seq a _ => a
  | c => c

/-- what the law is to end in -/
def Ends (w : World) : Exit → Act → World → Prop := bodyPost Try.prog Try.f6 (fun e w' => e = .returned (.bool true) ∧ Below w.heap.size w w')

theorem leq_run (a b : Nat) (h : notGt (FloatKind.f64.format.order a b)) (V : World) : (binOp .leq 28 (.float .f64 a) (.float .f64 b)).run Try.prog V = .ok (.bool true) V := by
  rcases h with h | h <;> simp [binOp, Op.floatCmp, h]
theorem nan_run (a : Nat) (h : FloatKind.f64.format.order a a = none) (V : World) : (binOp .eql 28 (.float .f64 a) (.float .f64 a)).run Try.prog V = .ok (.bool false) V := by
  have h2 : (FloatKind.f64.format.order a a == some .eq) = false := by rw [h]; rfl
  go_simp
theorem zero_run (V : World) : (binOp .neq 28 (.float .f64 0) (.float .f64 0)).run Try.prog V = .ok (.bool false) V := by
  have h2 : (FloatKind.f64.format.order 0 0 != some .eq) = false := by decide
  go_simp
end Go.Proofs.Qxb6601481a
