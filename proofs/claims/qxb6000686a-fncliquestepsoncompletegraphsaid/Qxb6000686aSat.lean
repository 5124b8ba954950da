/-
  THE WALKS OF THE SMALL FUNCTIONS: zzSatAdd (12), zzSatMul (13), multiply (42), add (43).
-/
import Derived.Test.Qxb6000686aRows
import Derived.Test.Qxb6000686aPlain
import Derived.WalkKit
import Derived.WalkSpells
import Derived.WalkLawsBesides
namespace Go.Proofs.Qxb6000686a
open Go.RowKit
set_option linter.unusedVariables false

theorem ret_int {k : IntKind} {a b : Int} (h : a = b) : Ending.returned (.int k a) = .returned (.int k b) := by rw [h]

theorem sA_yes {x y m : Int} (h : m - y < x) : m = sA x y m := by unfold sA; rw [if_pos (by omega)]
theorem sA_no {x y m : Int} (h : x ≤ m - y) : x + y = sA x y m := by unfold sA; rw [if_neg (by omega)]
theorem sM_zero {x y m : Int} (hm : 0 ≤ m) (h : y = 0) : x * y = sM x y m := by unfold sM; subst h; rw [Int.mul_zero, if_neg (by omega)]
theorem sM_yes {x y m : Int} (hy : 0 < y) (h : m / y < x) : m = sM x y m := by unfold sM; rw [if_pos ((div_lt_iff m x y hy).1 h)]
theorem sM_no {x y m : Int} (hy : 0 < y) (h : x ≤ m / y) : x * y = sM x y m := by unfold sM; rw [if_neg (fun c => absurd ((div_lt_iff m x y hy).2 c) (Int.not_lt.2 h))]
theorem mul_bd {x y m : Int} (hx : 0 ≤ x) (hy : 0 < y) (h : ¬ m / y < x) : 0 ≤ x * y ∧ x * y ≤ m :=
  ⟨Int.mul_nonneg hx (by omega), Int.not_lt.1 (fun c => h ((div_lt_iff m x y hy).2 c))⟩

set_option maxHeartbeats 400000 in
theorem satAdd_any (x y m : Int) (w : World) (hx : 0 ≤ x) (hy : 0 ≤ y) (hxm : x ≤ m) (hym : y ≤ m) (hm : m ≤ 9223372036854775807) :
    Calls Try.prog 12 #[.int .i64 x, .int .i64 y, .int .i64 m] w fun e w' => e = .returned (.int .i64 (sA x y m)) ∧ w' = w := by
  by_cases h : m - y < x
  · go_enter Try.func12, Try.ntmps12
    go_wp2
    go_ret
    exact ⟨ret_int (sA_yes h), rfl⟩
  · go_enter Try.func12, Try.ntmps12
    go_wp2
    go_ret
    exact ⟨ret_int (sA_no h), rfl⟩

set_option maxHeartbeats 400000 in
theorem satMul_any (x y m : Int) (w : World) (hx : 0 ≤ x) (hy : 0 < y) (hm0 : 0 ≤ m) (hm : m ≤ 9223372036854775807) (hy2 : y ≤ 9223372036854775807) :
    Calls Try.prog 13 #[.int .i64 x, .int .i64 y, .int .i64 m] w fun e w' => e = .returned (.int .i64 (sM x y m)) ∧ w' = w := by
  by_cases h : m / y < x
  · go_enter Try.func13, Try.ntmps13
    go_wp2
    go_ret
    exact ⟨ret_int (sM_yes hy h), rfl⟩
  · obtain ⟨b1, b2⟩ := mul_bd hx hy h
    go_enter Try.func13, Try.ntmps13
    go_wp2
    go_ret
    exact ⟨ret_int (sM_no hy h), rfl⟩

set_option maxHeartbeats 400000 in
theorem multiply_any (S : Nat) (x y lim : Int) (w : World) (hc : w.cell? ⟨S, 2, none⟩ = some (.int .i64 lim)) (hx : 0 ≤ x) (hy : 0 < y) (hm0 : 0 ≤ lim) (hm : lim ≤ 9223372036854775806) (hy2 : y ≤ 9223372036854775807) :
    Calls Try.prog 42 #[.pointer (some ⟨S, 0, none⟩), .int .i64 x, .int .i64 y] w fun e w' => e = .returned (.int .i64 (sM x y (lim + 1))) ∧ w' = w := by
  by_cases h : (lim + 1) / y < x
  · go_enter Try.func42, Try.ntmps42
    go_wp2
    go_ret
    exact ⟨ret_int (sM_yes hy h), rfl⟩
  · obtain ⟨b1, b2⟩ := mul_bd hx hy h
    go_enter Try.func42, Try.ntmps42
    go_wp2
    go_ret
    exact ⟨ret_int (sM_no hy h), rfl⟩

set_option maxHeartbeats 400000 in
theorem add_any (S : Nat) (x y lim : Int) (w : World) (hc : w.cell? ⟨S, 2, none⟩ = some (.int .i64 lim)) (hx : 0 ≤ x) (hy : 0 ≤ y) (hxm : x ≤ lim + 1) (hym : y ≤ lim + 1) (hm0 : 0 ≤ lim) (hm : lim ≤ 9223372036854775806) :
    Calls Try.prog 43 #[.pointer (some ⟨S, 0, none⟩), .int .i64 x, .int .i64 y] w fun e w' => e = .returned (.int .i64 (sA x y (lim + 1))) ∧ w' = w := by
  by_cases h : (lim + 1) - y < x
  · go_enter Try.func43, Try.ntmps43
    go_wp2
    go_ret
    exact ⟨ret_int (sA_yes h), rfl⟩
  · go_enter Try.func43, Try.ntmps43
    go_wp2
    go_ret
    exact ⟨ret_int (sA_no h), rfl⟩

/-- .. with the answer under a name -/
theorem multiply_eq (S : Nat) (x y o lim : Int) (w : World) (hc : w.cell? ⟨S, 2, none⟩ = some (.int .i64 lim)) (ho : sM x y (lim + 1) = o) (hx : 0 ≤ x) (hy : 0 < y) (hm0 : 0 ≤ lim) (hm : lim ≤ 9223372036854775806) (hy2 : y ≤ 9223372036854775807) :
    Calls Try.prog 42 #[.pointer (some ⟨S, 0, none⟩), .int .i64 x, .int .i64 y] w fun e w' => e = .returned (.int .i64 o) ∧ w' = w := by
  subst ho
  exact multiply_any S x y lim w hc hx hy hm0 hm hy2
theorem add_eq (S : Nat) (x y o lim : Int) (w : World) (hc : w.cell? ⟨S, 2, none⟩ = some (.int .i64 lim)) (ho : sA x y (lim + 1) = o) (hx : 0 ≤ x) (hy : 0 ≤ y) (hxm : x ≤ lim + 1) (hym : y ≤ lim + 1) (hm0 : 0 ≤ lim) (hm : lim ≤ 9223372036854775806) :
    Calls Try.prog 43 #[.pointer (some ⟨S, 0, none⟩), .int .i64 x, .int .i64 y] w fun e w' => e = .returned (.int .i64 o) ∧ w' = w := by
  subst ho
  exact add_any S x y lim w hc hx hy hxm hym hm0 hm
theorem satMul_eq (x y m o : Int) (w : World) (ho : sM x y m = o) (hx : 0 ≤ x) (hy : 0 < y) (hm0 : 0 ≤ m) (hm : m ≤ 9223372036854775807) (hy2 : y ≤ 9223372036854775807) :
    Calls Try.prog 13 #[.int .i64 x, .int .i64 y, .int .i64 m] w fun e w' => e = .returned (.int .i64 o) ∧ w' = w := by
  subst ho
  exact satMul_any x y m w hx hy hm0 hm hy2
theorem satAdd_eq (x y m o : Int) (w : World) (ho : sA x y m = o) (hx : 0 ≤ x) (hy : 0 ≤ y) (hxm : x ≤ m) (hym : y ≤ m) (hm : m ≤ 9223372036854775807) :
    Calls Try.prog 12 #[.int .i64 x, .int .i64 y, .int .i64 m] w fun e w' => e = .returned (.int .i64 o) ∧ w' = w := by
  subst ho
  exact satAdd_any x y m w hx hy hxm hym hm
end Go.Proofs.Qxb6000686a
