/-
  SEAT b6000704a: THE WALK of FnMotionMeanPerPixelModel (func 3).
-/
import Derived.Test.Qxb6000704aMean2
namespace Go.Proofs.Qxb6000704a
open Go.RowKit

set_option maxHeartbeats 400000 in
theorem law3_big (W H : Int) (a : Option Addr) (len cap : Nat) (w : World) (h : (1048576 : Int) < (len : Int)) :
    Calls Try.prog 3 #[.int .i64 W, .int .i64 H, .slice a len cap] w fun e w' => e = .returned (.bool true) ∧ Below w.heap.size w w' := by
  go_enter Try.func3, Try.ntmps3
  go_wp2_with (go_at_call 7; refine (bytes7_no W H a len cap _ h).mono ?_; rintro e w' ⟨rfl, hw⟩; obtain rfl := hw.symm)
  go_ret
  exact ⟨rfl, Below.refl _ _⟩

set_option maxHeartbeats 400000 in
theorem law3_long (W H : Int) (a : Option Addr) (len cap : Nat) (w : World) (h0 : (len : Int) ≤ 1048576) (h : (131072 : Int) < (len : Int)) :
    Calls Try.prog 3 #[.int .i64 W, .int .i64 H, .slice a len cap] w fun e w' => e = .returned (.bool true) ∧ Below w.heap.size w w' := by
  go_enter Try.func3, Try.ntmps3
  go_wp2_with (go_at_call 7; refine (bytes7_yes W H a len cap _ h0).mono ?_; rintro e w' ⟨rfl, hw⟩; obtain rfl := hw.symm)
  go_ret
  exact ⟨rfl, Below.refl _ _⟩

set_option maxHeartbeats 400000 in
theorem law3_size (W H : Int) (a : Option Addr) (len cap : Nat) (w : World) (h0 : (len : Int) ≤ 131072) (h : W < 1 ∨ (1 ≤ W ∧ 65536 < W) ∨ (1 ≤ W ∧ W ≤ 65536 ∧ H < 1) ∨ (1 ≤ W ∧ W ≤ 65536 ∧ 1 ≤ H ∧ 65536 < H)) :
    Calls Try.prog 3 #[.int .i64 W, .int .i64 H, .slice a len cap] w fun e w' => e = .returned (.bool true) ∧ Below w.heap.size w w' := by
  have h1 : (len : Int) ≤ 1048576 := by omega
  have h2 : ¬ (131072 : Int) < (len : Int) := by omega
  rcases h with h | ⟨h3, h4⟩ | ⟨h3, h4, h5⟩ | ⟨h3, h4, h5, h6⟩
  · go_enter Try.func3, Try.ntmps3
    go_wp2_with (go_at_call 7; refine (bytes7_yes W H a len cap _ h1).mono ?_; rintro e w' ⟨rfl, hw⟩; obtain rfl := hw.symm)
    go_ret
    exact ⟨rfl, Below.refl _ _⟩
  · have h7 : ¬ W < 1 := by omega
    go_enter Try.func3, Try.ntmps3
    go_wp2_with (go_at_call 7; refine (bytes7_yes W H a len cap _ h1).mono ?_; rintro e w' ⟨rfl, hw⟩; obtain rfl := hw.symm)
    go_ret
    exact ⟨rfl, Below.refl _ _⟩
  · have h7 : ¬ W < 1 := by omega
    have h8 : ¬ 65536 < W := by omega
    go_enter Try.func3, Try.ntmps3
    go_wp2_with (go_at_call 7; refine (bytes7_yes W H a len cap _ h1).mono ?_; rintro e w' ⟨rfl, hw⟩; obtain rfl := hw.symm)
    go_ret
    exact ⟨rfl, Below.refl _ _⟩
  · have h7 : ¬ W < 1 := by omega
    have h8 : ¬ 65536 < W := by omega
    have h9 : ¬ H < 1 := by omega
    go_enter Try.func3, Try.ntmps3
    go_wp2_with (go_at_call 7; refine (bytes7_yes W H a len cap _ h1).mono ?_; rintro e w' ⟨rfl, hw⟩; obtain rfl := hw.symm)
    go_ret
    exact ⟨rfl, Below.refl _ _⟩

set_option maxHeartbeats 400000 in
theorem law3_count (W H : Nat) (a : Option Addr) (len cap : Nat) (w : World) (h0 : (len : Int) ≤ 131072) (hW0 : 1 ≤ W) (hW1 : W ≤ 65536) (hH0 : 1 ≤ H) (hH1 : H ≤ 65536) (h : len ≠ (W + 3) / 4 * ((H + 3) / 4)) :
    Calls Try.prog 3 #[.int .i64 W, .int .i64 H, .slice a len cap] w fun e w' => e = .returned (.bool true) ∧ Below w.heap.size w w' := by
  have h1 : (len : Int) ≤ 1048576 := by omega
  have h2 : ¬ (131072 : Int) < (len : Int) := by omega
  have h7 : ¬ (W : Int) < 1 := by omega
  have h8 : ¬ (65536 : Int) < (W : Int) := by omega
  have h9 : ¬ (H : Int) < 1 := by omega
  have h10 : ¬ (65536 : Int) < (H : Int) := by omega
  have hne : ¬ (len : Int) = ((W : Int) + 3) / 4 * (((H : Int) + 3) / 4) := by
    intro e
    apply h
    have : (((W + 3) / 4 * ((H + 3) / 4) : Nat) : Int) = ((W : Int) + 3) / 4 * (((H : Int) + 3) / 4) := by simp
    omega
  have hp : (W + 3) / 4 * ((H + 3) / 4) ≤ 16384 * 16384 := Nat.mul_le_mul (by omega) (by omega)
  have hp1 : ((W : Int) + 3) / 4 * (((H : Int) + 3) / 4) ≤ 268435456 := by
    have : (((W + 3) / 4 * ((H + 3) / 4) : Nat) : Int) = ((W : Int) + 3) / 4 * (((H : Int) + 3) / 4) := by simp
    omega
  have hp0 : 0 ≤ ((W : Int) + 3) / 4 * (((H : Int) + 3) / 4) := by
    have : (((W + 3) / 4 * ((H + 3) / 4) : Nat) : Int) = ((W : Int) + 3) / 4 * (((H : Int) + 3) / 4) := by simp
    omega
  clear hp h
  go_enter Try.func3, Try.ntmps3
  go_wp2_with (go_at_call 7; refine (bytes7_yes W H a len cap _ h1).mono ?_; rintro e w' ⟨rfl, hw⟩; obtain rfl := hw.symm)
  go_ret
  exact ⟨rfl, Below.refl _ _⟩

theorem const_bot : (13920626448202203136 : Nat) = word (-1048576) := by decide +kernel
theorem const_top : (4697254411347427328 : Nat) = word 1048576 := by decide +kernel

/-- a value that passes the law's tests is a whole number -/
theorem tested {v : Nat} {N : Int} (h1 : Ieee.double.order v 13920626448202203136 = some .gt ∨ Ieee.double.order v 13920626448202203136 = some .eq) (h2 : Ieee.double.order v 4697254411347427328 = some .lt ∨ Ieee.double.order v 4697254411347427328 = some .eq)
    (hN : floatToIntVal .f64 v .i64 = some N) (he : Ieee.double.order (word N) v = some .eq) : Rep v N ∧ N.natAbs ≤ 1048576 := by
  rw [const_bot] at h1
  rw [const_top] at h2
  obtain ⟨s, m, i, hv, hb⟩ := bounded h1 h2
  obtain ⟨N', hN', ha⟩ := to_int hv hb
  rw [hN] at hN'
  obtain rfl : N = N' := Option.some.inj hN'
  exact ⟨rep_of_eq hv hb (by omega) he, ha⟩
theorem tested_int {v : Nat} (h1 : Ieee.double.order v 13920626448202203136 = some .gt ∨ Ieee.double.order v 13920626448202203136 = some .eq) (h2 : Ieee.double.order v 4697254411347427328 = some .lt ∨ Ieee.double.order v 4697254411347427328 = some .eq) :
    ∃ N, floatToIntVal .f64 v .i64 = some N := by
  rw [const_bot] at h1
  rw [const_top] at h2
  obtain ⟨s, m, i, hv, hb⟩ := bounded h1 h2
  obtain ⟨N, hN, _⟩ := to_int hv hb
  exact ⟨N, hN⟩

/-- the value was looked at and passed -/
def Fine (u : Nat → Nat) (k : Nat) : Prop := ∀ i, i < k → ∃ N : Int, Rep (u i) N ∧ N.natAbs ≤ 1048576
theorem Fine.choose {u : Nat → Nat} {n : Nat} (h : Fine u n) : ∃ val : Nat → Int, (∀ i, i < n → Rep (u i) (val i)) ∧ ∀ i, i < n → (val i).natAbs ≤ 1048576 := by
  have h' : ∀ i, i < n → ∃ N : Int, Rep (u i) N ∧ N.natAbs ≤ 1048576 := h
  clear h
  refine ⟨fun i => if hi : i < n then Classical.choose (h' i hi) else 0, fun i hi => ?_, fun i hi => ?_⟩
  · dsimp only; rw [dif_pos hi]; exact (Classical.choose_spec (h' i hi)).1
  · dsimp only; rw [dif_pos hi]; exact (Classical.choose_spec (h' i hi)).2

end Go.Proofs.Qxb6000704a
