/-
  THE PLAIN MATHEMATICS OF FnCliqueStepsOnCompleteGraph: saturated sums and products, Pascal's triangle, the falling factorial: no Go in sight.
-/
namespace Go.Proofs.Qxb6000686a
set_option linter.unusedVariables false

/-- the saturated sum and product -/
def sA (x y m : Int) : Int := if m < x + y then m else x + y
def sM (x y m : Int) : Int := if m < x * y then m else x * y
/-- a natural number, capped -/
def cap (m : Int) (a : Nat) : Int := if m < (a : Int) then m else a

theorem cap_le (m : Int) (a : Nat) : cap m a ≤ m := by unfold cap; split <;> omega
theorem cap_le' (m : Int) (a : Nat) : cap m a ≤ a := by unfold cap; split <;> omega
theorem cap_nonneg (m : Int) (hm : 0 ≤ m) (a : Nat) : 0 ≤ cap m a := by unfold cap; split <;> omega
theorem cap_small {m : Int} {a : Nat} (h : (a : Int) ≤ m) : cap m a = a := if_neg (by omega)
theorem cap_big {m : Int} {a : Nat} (h : m ≤ (a : Int)) : cap m a = m := by unfold cap; split <;> omega
theorem cap_mono {m : Int} {a b : Nat} (h : a ≤ b) : cap m a ≤ cap m b := by unfold cap; split <;> split <;> omega

theorem sA_cap (m : Int) (hm : 0 ≤ m) (a b : Nat) : sA (cap m a) (cap m b) m = cap m (a + b) := by
  unfold sA cap
  have : ((a + b : Nat) : Int) = (a : Int) + b := by omega
  rw [this]
  repeat' split
  all_goals omega

theorem mul_ge (a b : Nat) (hb : 1 ≤ b) : a ≤ a * b := Nat.le_mul_of_pos_right a hb

theorem sM_plain (m : Int) (hm : 1 ≤ m) (a b : Nat) : sM (cap m a) (b : Int) m = cap m (a * b) := by
  unfold sM cap
  have e : ((a * b : Nat) : Int) = (a : Int) * b := by rw [Int.natCast_mul]
  rw [e]
  by_cases h : m < (a : Int)
  · rw [if_pos h]
    by_cases hb : b = 0
    · subst hb; simp
    · have hab : (a : Int) ≤ (a : Int) * b := by have := mul_ge a b (by omega); rw [← e]; omega
      have hmb : m ≤ m * b := by
        have : m * 1 ≤ m * b := Int.mul_le_mul_of_nonneg_left (by omega) (by omega)
        omega
      rw [if_pos (show m < (a : Int) * b by omega)]
      split <;> omega
  · rw [if_neg h]

theorem sM_cap (m : Int) (hm : 1 ≤ m) (a b : Nat) : sM (cap m a) (cap m b) m = cap m (a * b) := by
  by_cases h : m < (b : Int)
  · have e1 : cap m b = m := if_pos h
    rw [e1]
    obtain ⟨q, hq⟩ : ∃ q : Nat, m = q := ⟨m.toNat, by omega⟩
    have := sM_plain m hm a q
    rw [← hq] at this
    rw [this]
    by_cases ha : a = 0
    · subst ha; simp
    · have h1 : q ≤ a * q := by have := Nat.le_mul_of_pos_left q (show 0 < a by omega); omega
      have h2 : b ≤ a * b := Nat.le_mul_of_pos_left b (by omega)
      rw [cap_big (by omega), cap_big (by omega)]
  · have e1 : cap m b = b := if_neg h
    rw [e1]
    exact sM_plain m hm a b

/-- 'x > m/y' is 'x*y > m' -/
theorem div_lt_iff (m x y : Int) (hy : 0 < y) : (m / y < x) ↔ m < x * y := Int.ediv_lt_iff_lt_mul hy

/-! ### Pascal's triangle, the factorial, the falling factorial -/
def binom : Nat → Nat → Nat
  | _, 0 => 1
  | 0, _ + 1 => 0
  | n + 1, k + 1 => binom n k + binom n (k + 1)
def fact : Nat → Nat
  | 0 => 1
  | n + 1 => (n + 1) * fact n
def fall (n : Nat) : Nat → Nat
  | 0 => 1
  | j + 1 => fall n j * (n - j)

theorem binom_zero (n : Nat) : binom n 0 = 1 := by cases n <;> rfl
theorem binom_over : ∀ (n k : Nat), n < k → binom n k = 0
  | 0, k + 1, _ => rfl
  | n + 1, k + 1, h => by rw [binom, binom_over n k (by omega), binom_over n (k + 1) (by omega)]
theorem fall_succ (n : Nat) : ∀ j, fall (n + 1) (j + 1) = (n + 1) * fall n j
  | 0 => by simp [fall]
  | j + 1 => by
    have ih := fall_succ n j
    have e1 : fall (n + 1) (j + 1 + 1) = fall (n + 1) (j + 1) * (n + 1 - (j + 1)) := rfl
    have e2 : fall n (j + 1) = fall n j * (n - j) := rfl
    rw [e1, ih, e2, show n + 1 - (j + 1) = n - j by omega, Nat.mul_assoc]
theorem fall_over (n : Nat) : ∀ j, n < j → fall n j = 0
  | j + 1, h => by
    have e2 : fall n (j + 1) = fall n j * (n - j) := rfl
    rw [e2]
    by_cases hj : n < j
    · rw [fall_over n j hj, Nat.zero_mul]
    · rw [show n - j = 0 by omega, Nat.mul_zero]
theorem binom_fact : ∀ (n j : Nat), binom n j * fact j = fall n j
  | n, 0 => by rw [binom_zero]; rfl
  | 0, j + 1 => by rw [binom_over 0 (j + 1) (by omega), fall_over 0 (j + 1) (by omega), Nat.zero_mul]
  | n + 1, j + 1 => by
    have h1 := binom_fact n j
    have h2 := binom_fact n (j + 1)
    have e1 : fact (j + 1) = (j + 1) * fact j := rfl
    have e2 : fall n (j + 1) = fall n j * (n - j) := rfl
    rw [fall_succ, binom, Nat.add_mul, h2, e1, e2, ← Nat.mul_assoc, Nat.mul_comm (binom n j) (j + 1), Nat.mul_assoc, h1]
    by_cases hj : j ≤ n
    · rw [Nat.mul_comm (fall n j) (n - j), ← Nat.add_mul, show j + 1 + (n - j) = n + 1 by omega]
    · rw [fall_over n j (by omega)]; simp

/-- the number of the cycles of length j + 1 -/
theorem cycles_eq (n j : Nat) : binom n (j + 1) * fact j * (j + 1) = fall n (j + 1) := by
  rw [← binom_fact n (j + 1), show fact (j + 1) = (j + 1) * fact j from rfl, Nat.mul_assoc, Nat.mul_comm (fact j) (j + 1)]

theorem fall_div (n j : Nat) : fall n (j + 1) / (j + 1) = binom n (j + 1) * fact j := by
  rw [← cycles_eq n j, Nat.mul_div_cancel _ (by omega)]

/-- the steps of the cycles of lengths 2 .. j + 1 -/
def steps (n : Nat) : Nat → Nat
  | 0 => 0
  | j + 1 => steps n j + binom n (j + 2) * fact (j + 1) * (j + 3)

theorem steps_mono (n : Nat) : ∀ (d j : Nat), steps n j ≤ steps n (j + d)
  | 0, j => Nat.le_refl _
  | d + 1, j => by
    have := steps_mono n d j
    have e : steps n (j + (d + 1)) = steps n (j + d) + binom n (j + d + 2) * fact (j + d + 1) * (j + d + 3) := rfl
    omega

/-- where the orders pass the limit the steps do -/
theorem steps_ge (n j : Nat) : fall n (j + 2) ≤ steps n (j + 1) := by
  have e : steps n (j + 1) = steps n j + binom n (j + 2) * fact (j + 1) * (j + 3) := rfl
  have h : fall n (j + 2) = binom n (j + 2) * fact (j + 1) * (j + 1 + 1) := (cycles_eq n (j + 1)).symm
  rw [e, h]
  have : binom n (j + 2) * fact (j + 1) * (j + 1 + 1) ≤ binom n (j + 2) * fact (j + 1) * (j + 3) := Nat.mul_le_mul_left _ (by omega)
  omega

theorem fall_pos (n : Nat) : ∀ j, j ≤ n → 1 ≤ fall n j
  | 0, _ => Nat.le_refl _
  | j + 1, h => by
    have e2 : fall n (j + 1) = fall n j * (n - j) := rfl
    rw [e2]
    exact Nat.mul_pos (fall_pos n j (by omega)) (by omega)

/-! ### The loop over the lengths -/
theorem sM_fall (n q : Nat) (lim y : Int) (hy : y = ((n - (q + 1) : Nat) : Int)) : sM (fall n (q + 1) : Int) y (lim + 1) = cap (lim + 1) (fall n (q + 2)) := by
  have e : ((fall n (q + 2) : Nat) : Int) = (fall n (q + 1) : Int) * y := by
    rw [hy, show fall n (q + 2) = fall n (q + 1) * (n - (q + 1)) from rfl, Int.natCast_mul]
  unfold sM cap
  rw [e]
theorem sM_cyc (n q : Nat) (lim : Int) (x y : Int) (hx : x = (fall n (q + 2) : Int) / ((q : Int) + 2)) (hy : y = (q : Int) + 3) :
    sM x y (lim + 1) = cap (lim + 1) (binom n (q + 2) * fact (q + 1) * (q + 3)) := by
  have e1 : x = ((binom n (q + 2) * fact (q + 1) : Nat) : Int) := by
    rw [hx, ← fall_div n (q + 1)]
    show _ = ((fall n (q + 2) / (q + 1 + 1) : Nat) : Int)
    rw [Int.natCast_ediv]
    congr 1
  have e2 : y = ((q + 3 : Nat) : Int) := by rw [hy]; omega
  unfold sM cap
  rw [e1, e2, ← Int.natCast_mul]
theorem sA_steps (n q : Nat) (lim : Int) (hl : 0 ≤ lim) : sA (cap (lim + 1) (steps n q)) (cap (lim + 1) (binom n (q + 2) * fact (q + 1) * (q + 3))) (lim + 1) = cap (lim + 1) (steps n (q + 1)) :=
  sA_cap (lim + 1) (by omega) _ _
theorem cap_over (n q d : Nat) (lim : Int) (h : lim + 1 ≤ (fall n (q + 2) : Int)) : cap (lim + 1) (steps n (q + 1 + d)) = lim + 1 := by
  have h1 := steps_ge n q
  have h2 := steps_mono n d (q + 1)
  exact cap_big (by omega)
theorem cyc_nonneg (n q : Nat) : (0 : Int) ≤ (fall n (q + 2) : Int) / ((q : Int) + 2) := Int.ediv_nonneg (by omega) (by omega)

theorem fact_pos : ∀ q, 1 ≤ fact q
  | 0 => Nat.le_refl _
  | q + 1 => Nat.mul_pos (by omega) (fact_pos q)
theorem sM_fact (q : Nat) (lim : Int) (hl : 0 ≤ lim) (y : Int) (hy : y = ((q + 1 : Nat) : Int)) : sM (cap (lim + 1) (fact q)) y (lim + 1) = cap (lim + 1) (fact (q + 1)) := by
  rw [hy, sM_plain (lim + 1) (by omega), show fact (q + 1) = (q + 1) * fact q from rfl, Nat.mul_comm]
theorem sM_len (n q : Nat) (lim : Int) (hl : 0 ≤ lim) (y : Int) (hy : y = ((q + 3 : Nat) : Int)) : sM (cap (lim + 1) (binom n (q + 2) * fact (q + 1))) y (lim + 1) = cap (lim + 1) (binom n (q + 2) * fact (q + 1) * (q + 3)) := by
  rw [hy, sM_plain (lim + 1) (by omega)]
end Go.Proofs.Qxb6000686a
