/-
  SEAT b6601481a: THE WALKS OF sameFloat (33), eqInts (34).
-/
import Derived.Test.Qxb6601481aAdd
namespace Go.Proofs.Qxb6601481a
open Go.RowKit Go.Deep
set_option linter.unusedVariables false
set_option linter.unusedSimpArgs false

set_option maxHeartbeats 1000000 in
theorem sameFloat_any (a : Nat) (w : World) : Calls Try.prog 33 #[.float .f64 a, .float .f64 a] w fun e w' => e = .returned (.bool true) ∧ w' = w := by
  by_cases h : (FloatKind.f64.format.order a a == some .eq) = true
  · go_enter Try.func33, Try.ntmps33
    go_wp2
    go_ret
    exact ⟨rfl, rfl⟩
  · have h1 : (FloatKind.f64.format.order a a == some .eq) = false := by simpa using h
    have h2 : (FloatKind.f64.format.order a a != some .eq) = true := by simp [bne, h1]
    clear h
    go_enter Try.func33, Try.ntmps33
    go_wp2
    go_ret
    exact ⟨rfl, rfl⟩

set_option maxHeartbeats 1000000 in
theorem eqInts_any (A B n : Nat) (f : Nat → Int) (w : World) (hn : n ≤ 1048576) (hA : w.rowIs A 3 n (fun i => .int .i64 (f i))) (hB : w.rowIs B 3 n (fun i => .int .i64 (f i))) :
    Calls Try.prog 34 #[.slice (some ⟨A, 0, none⟩) n n, .slice (some ⟨B, 0, none⟩) n n] w fun e w' => e = .returned (.bool true) ∧ ∃ k, w' = w.drewN k := by
  have hnil : ∀ (W : World) (a : Option Addr) (n c n' c' : Nat), (binOp .eql 54 (.slice a n c) (.slice none n' c')).run Try.prog W = .ok (.bool a.isNone) W := fun W a n c n' c' => Lib.run_eql_slice_nil W _ _ a n c n' c' Try.underlying54
  go_enter Try.func34, Try.ntmps34
  go_wp2
  go_loopw [5] (fun i wr => ∃ k j : Nat, k ≤ n ∧ i = .int .i64 k ∧ wr = w.drewN j) (fun i _ => n - (intOf i).toNat)
  case atStart => exact ⟨0, 0, Nat.zero_le _, rfl, rfl⟩
  case round =>
    obtain ⟨k, j, hk, rfl, rfl⟩ := hrel
    by_cases hlt : k < n
    · have q1 := hA.cell hlt
      have q2 := hB.cell hlt
      go_wp2
      go_quiet (fail)
      go_wp2
      go_roundw
      case rel => exact ⟨k + 1, _, by omega, by go_num, rfl⟩
      case measure => simp [intOf]; omega
    · have e : k = n := by omega
      subst e
      go_wp2
      go_ret
      exact ⟨rfl, _, rfl⟩
end Go.Proofs.Qxb6601481a
