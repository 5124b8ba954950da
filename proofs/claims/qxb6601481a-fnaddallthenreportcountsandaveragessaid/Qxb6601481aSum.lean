/-
  SEAT b6601481a: THE PLAIN SUMS.
-/
import Derived.Test.Qxb6601481aZadd
namespace Go.Proofs.Qxb6601481a
open Go.RowKit

def tot0 : Tot := ⟨0, 0, 0, 0, 0, 0, 0, 0, 0, 0, 0, 0, 0, fun _ => 0⟩
def tot (o : Nat → Out) : Nat → Tot
  | 0 => tot0
  | k + 1 => step (tot o k) (o k)
def rlo (o : Nat → Out) : Nat → Int
  | 0 => 0
  | k + 1 => if 0 < (o k).lr then (if (tot o k).dec = 0 ∨ (o k).lr < rlo o k then (o k).lr else rlo o k) else rlo o k
def plo (o : Nat → Out) : Nat → Int
  | 0 => 0
  | k + 1 => if k = 0 ∨ (o k).pp < plo o k then (o k).pp else plo o k
def phi (o : Nat → Out) : Nat → Int
  | 0 => 0
  | k + 1 => if k = 0 ∨ phi o k < (o k).pp then (o k).pp else phi o k

/-- what the law's second loop lets in -/
structure Fit (o : Nat → Out) (n : Nat) : Prop where
  lr : ∀ i, i < n → (o i).lr ≤ 1099511627776
  p1 : ∀ i, i < n → -1099511627776 ≤ (o i).pp
  p2 : ∀ i, i < n → (o i).pp ≤ 1099511627776

theorem b2_le (b : Bool) : 0 ≤ b2 b ∧ b2 b ≤ 1 := by cases b <;> simp [b2]

structure Small (o : Nat → Out) (k : Nat) : Prop where
  und : 0 ≤ (tot o k).und ∧ (tot o k).und ≤ k
  dis : 0 ≤ (tot o k).dis ∧ (tot o k).dis ≤ k
  val : 0 ≤ (tot o k).val ∧ (tot o k).val ≤ k
  ones : 0 ≤ (tot o k).ones ∧ (tot o k).ones ≤ k
  sf : 0 ≤ (tot o k).sf ∧ (tot o k).sf ≤ k
  dec : 0 ≤ (tot o k).dec ∧ (tot o k).dec ≤ k
  rs : 0 ≤ (tot o k).rs ∧ (tot o k).rs ≤ 1099511627776 * (k : Int)
  ps : -1099511627776 * (k : Int) ≤ (tot o k).ps ∧ (tot o k).ps ≤ 1099511627776 * (k : Int)
  na : ∀ j, 0 ≤ (tot o k).na j ∧ (tot o k).na j ≤ k
  rmax : 0 ≤ (tot o k).rmax ∧ (tot o k).rmax ≤ 1099511627776
  brlo : 0 ≤ rlo o k ∧ rlo o k ≤ 1099511627776
  bplo : -1099511627776 ≤ plo o k ∧ plo o k ≤ 1099511627776
  bphi : -1099511627776 ≤ phi o k ∧ phi o k ≤ 1099511627776
  lo : rlo o k * (tot o k).dec ≤ (tot o k).rs
  hi : (tot o k).rs ≤ (tot o k).rmax * (tot o k).dec
  plo' : plo o k * (k : Int) ≤ (tot o k).ps
  phi' : (tot o k).ps ≤ phi o k * (k : Int)
  pmax : (tot o k).pmax = mx 0 (phi o k)
  dec0 : (tot o k).dec = 0 → (tot o k).rs = 0

theorem small_zero (o : Nat → Out) : Small o 0 := by
  constructor <;> simp [tot, tot0, rlo, plo, phi, mx]

theorem mul_step {x y d s l : Int} (hd : 0 ≤ d) (hyx : y ≤ x) (hyl : y ≤ l) (h : x * d ≤ s) : y * (d + 1) ≤ s + l := by
  have := Int.mul_le_mul_of_nonneg_right hyx hd
  rw [Int.mul_add, Int.mul_one]
  omega
theorem mul_step' {x y d s l : Int} (hd : 0 ≤ d) (hyx : x ≤ y) (hyl : l ≤ y) (h : s ≤ x * d) : s + l ≤ y * (d + 1) := by
  have := Int.mul_le_mul_of_nonneg_right hyx hd
  rw [Int.mul_add, Int.mul_one]
  omega

theorem small_step (o : Nat → Out) (k : Nat) (h : Small o k) (h1 : (o k).lr ≤ 1099511627776) (h2 : -1099511627776 ≤ (o k).pp) (h3 : (o k).pp ≤ 1099511627776) : Small o (k + 1) := by
  have e1 := h.und
  have e2 := h.dis
  have e3 := h.val
  have e4 := h.ones
  have e5 := h.sf
  have e6 := h.dec
  have e7 := h.rs
  have e8 := h.ps
  have c1 := b2_le (o k).und
  have c2 := b2_le (o k).dis
  have c3 := b2_le (o k).val
  have c4 := b2_le (o k).ones
  have c5 := b2_le (o k).sf
  have r1 := h.rmax
  have r2 := h.brlo
  have p1 := h.bplo
  have p2 := h.bphi
  have hlo := h.lo
  have hhi := h.hi
  have hdec0 := h.dec0
  have hplo := h.plo'
  have hphi := h.phi'
  have hpm := h.pmax
  constructor
  · simp only [tot, step]; omega
  · simp only [tot, step]; omega
  · simp only [tot, step]; omega
  · simp only [tot, step]; omega
  · simp only [tot, step]; omega
  · simp only [tot, step]; split <;> omega
  · simp only [tot, step]; split <;> omega
  · simp only [tot, step]; omega
  · intro j
    have := h.na j
    have := b2_le ((o k).na (min j ((o k).nl - 1)))
    simp only [tot, step]
    omega
  · simp only [tot, step, mx]; split <;> (try split) <;> omega
  · simp only [rlo]; split <;> (try split) <;> omega
  · simp only [plo]; split <;> omega
  · simp only [phi]; split <;> omega
  · by_cases hp : 0 < (o k).lr
    · simp only [tot, step, rlo, if_pos hp]
      by_cases hd : (tot o k).dec = 0
      · rw [if_pos (Or.inl hd), hd, hdec0 hd]
        omega
      · by_cases hl : (o k).lr < rlo o k
        · rw [if_pos (Or.inr hl)]
          exact mul_step e6.1 (by omega) (by omega) hlo
        · rw [if_neg (by omega)]
          exact mul_step e6.1 (by omega) (by omega) hlo
    · simp only [tot, step, rlo, if_neg hp]
      exact hlo
  · by_cases hp : 0 < (o k).lr
    · simp only [tot, step, if_pos hp, mx]
      by_cases hl : (tot o k).rmax < (o k).lr
      · rw [if_pos hl]
        exact mul_step' e6.1 (by omega) (by omega) hhi
      · rw [if_neg hl]
        exact mul_step' e6.1 (by omega) (by omega) hhi
    · simp only [tot, step, if_neg hp]
      exact hhi
  · simp only [tot, step, plo]
    have hk : ((k + 1 : Nat) : Int) = (k : Int) + 1 := by omega
    rw [hk]
    by_cases h0 : k = 0
    · subst h0
      simp [tot, tot0]
    · by_cases hl : (o k).pp < plo o k
      · rw [if_pos (Or.inr hl)]
        exact mul_step (by omega) (by omega) (by omega) hplo
      · rw [if_neg (by omega)]
        exact mul_step (by omega) (by omega) (by omega) hplo
  · simp only [tot, step, phi]
    have hk : ((k + 1 : Nat) : Int) = (k : Int) + 1 := by omega
    rw [hk]
    by_cases h0 : k = 0
    · subst h0
      simp [tot, tot0]
    · by_cases hl : phi o k < (o k).pp
      · rw [if_pos (Or.inr hl)]
        exact mul_step' (by omega) (by omega) (by omega) hphi
      · rw [if_neg (by omega)]
        exact mul_step' (by omega) (by omega) (by omega) hphi
  · have e : phi o (k + 1) = if k = 0 ∨ phi o k < (o k).pp then (o k).pp else phi o k := rfl
    have e2 : (tot o (k + 1)).pmax = mx (tot o k).pmax (o k).pp := rfl
    rw [e2, hpm]
    by_cases h0 : k = 0
    · subst h0
      have e3 : phi o (0 + 1) = (o 0).pp := by rw [e, if_pos (Or.inl rfl)]
      rw [e3]
      simp [phi, mx]
    · by_cases hl : phi o k < (o k).pp
      · have e3 : phi o (k + 1) = (o k).pp := by rw [e, if_pos (Or.inr hl)]
        rw [e3]
        unfold mx
        (repeat' split) <;> omega
      · have e3 : phi o (k + 1) = phi o k := by rw [e, if_neg (by omega)]
        rw [e3]
        unfold mx
        (repeat' split) <;> omega
  · simp only [tot, step]
    split <;> omega

theorem small_all (o : Nat → Out) (n : Nat) (f : Fit o n) : ∀ k, k ≤ n → Small o k := by
  intro k
  induction k with
  | zero => intro _; exact small_zero o
  | succ k ih => intro hk; exact small_step o k (ih (by omega)) (f.lr k (by omega)) (f.p1 k (by omega)) (f.p2 k (by omega))

theorem Small.calm {o : Nat → Out} {k : Nat} (h : Small o k) (hk : k ≤ 4096) : Calm (tot o k) := by
  have e1 := h.und
  have e2 := h.dis
  have e3 := h.val
  have e4 := h.ones
  have e5 := h.sf
  have e6 := h.dec
  have e7 := h.rs
  have e8 := h.ps
  refine ⟨by omega, by omega, by omega, by omega, by omega, by omega, by omega, by omega, fun j => ?_⟩
  have := h.na j
  omega
end Go.Proofs.Qxb6601481a
