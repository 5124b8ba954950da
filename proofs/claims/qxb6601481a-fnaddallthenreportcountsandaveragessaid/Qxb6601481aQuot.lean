/-
  SEAT b6601481a: THE MEAN OF WHOLE NUMBERS, AS A DOUBLE, LIES BETWEEN THE LEAST AND THE GREATEST OF THEM: rounding is monotone.
-/
import Derived.Test.Qxb6601481aFloat
namespace Go.Proofs.Qxb6601481a
open Ieee

/-- the rung of a whole number -/
def rungOf (n : Nat) : Nat := (n.log2 + 1022) * 2 ^ 52 + n * 2 ^ (52 - n.log2)

theorem fraction_of {n : Nat} (h0 : n ≠ 0) (h : n < 2 ^ 53) : 2 ^ 52 ≤ n * 2 ^ (52 - n.log2) ∧ n * 2 ^ (52 - n.log2) < 2 ^ 53 := by
  have h52 := log2_small h0 h
  obtain ⟨hb1, hb2⟩ := log2_between h0
  constructor
  · have : 2 ^ n.log2 * 2 ^ (52 - n.log2) = 2 ^ 52 := by rw [← Nat.pow_add]; congr 1; omega
    rw [← this]
    exact Nat.mul_le_mul_right _ hb1
  · have : 2 ^ (n.log2 + 1) * 2 ^ (52 - n.log2) = 2 ^ 53 := by rw [← Nat.pow_add]; congr 1; omega
    rw [← this]
    exact Nat.mul_lt_mul_of_pos_right hb2 (Nat.two_pow_pos _)

/-- 'round half even' lies between the whole part and the whole part and one, and is exact on what is whole -/
theorem cut_between (neg : Bool) (n d : Nat) (hd : d ≤ n.log2 + 2) : n / 2 ^ d ≤ Toward.even.cut neg n d ∧ Toward.even.cut neg n d ≤ n / 2 ^ d + 1 ∧ (n % 2 ^ d = 0 → Toward.even.cut neg n d = n / 2 ^ d) := by
  unfold Toward.cut
  rw [Nat.min_eq_left hd, Nat.one_shiftLeft]
  dsimp only
  have hp := Nat.two_pow_pos d
  generalize hb : (decide (2 ^ d < 2 * (n % 2 ^ d)) || (2 ^ d == 2 * (n % 2 ^ d) && n / 2 ^ d % 2 == 1)) = b
  refine ⟨by omega, by cases b <;> simp, fun h => ?_⟩
  have : b = false := by
    rw [← hb, h]
    have h1 : (2 ^ d == 2 * 0) = false := beq_eq_false_iff_ne.2 (by omega)
    simp [h1]
  rw [this]
  simp

/-- WHAT IS WRITTEN of N / 2^Q, where N has at least 53 digits -/
theorem nearest_big (neg : Bool) (N Q : Nat) (h1 : 52 ≤ N.log2) (h2 : Q ≤ N.log2 + 1022) (h3 : N.log2 ≤ Q + 100) :
    ∃ kept, double.nearest neg N (-(Q : Int)) = double.word neg ((N.log2 + 1022 - Q) * 2 ^ 52 + kept) ∧ N / 2 ^ (N.log2 - 52) ≤ kept ∧ kept ≤ N / 2 ^ (N.log2 - 52) + 1 ∧ (N % 2 ^ (N.log2 - 52) = 0 → kept = N / 2 ^ (N.log2 - 52)) ∧ 2 ^ 52 ≤ N / 2 ^ (N.log2 - 52) ∧ N / 2 ^ (N.log2 - 52) < 2 ^ 53 := by
  have h0 : N ≠ 0 := by
    intro e
    subst e
    simp at h1
  obtain ⟨hb1, hb2⟩ := log2_between h0
  have hlo : 2 ^ 52 ≤ N / 2 ^ (N.log2 - 52) := by
    rw [Nat.le_div_iff_mul_le (Nat.two_pow_pos _), ← Nat.pow_add, show 52 + (N.log2 - 52) = N.log2 by omega]
    exact hb1
  have hhi : N / 2 ^ (N.log2 - 52) < 2 ^ 53 := by
    rw [Nat.div_lt_iff_lt_mul (Nat.two_pow_pos _), ← Nat.pow_add, show 53 + (N.log2 - 52) = N.log2 + 1 by omega]
    exact hb2
  obtain ⟨c1, c2, c3⟩ := cut_between neg N (N.log2 - 52) (by omega)
  have hlp : double.leastPlace = -1074 := by decide
  have hinf : double.infRung = 2047 * 2 ^ 52 := by decide
  have hbin : double.binade = 2 ^ 52 := rfl
  have hfr : double.fractionBits = 52 := rfl
  have hlast : max (-(Q : Int) + (N.log2 : Nat) - ((52 : Nat) : Int)) (-1074) = (N.log2 : Int) - Q - 52 := by omega
  refine ⟨Toward.even.cut neg N (N.log2 - 52), ?_, c1, c2, c3, hlo, hhi⟩
  unfold Format.nearest
  rw [if_neg h0]
  simp only [hlp, hinf, hbin, hfr]
  rw [hlast, show (-(Q : Int) - ((N.log2 : Int) - Q - 52)).toNat = 0 by omega, show ((N.log2 : Int) - Q - 52 - -(Q : Int)).toNat = N.log2 - 52 by omega, Nat.shiftLeft_zero,
    show ((N.log2 : Int) - Q - 52 - -1074).toNat = N.log2 + 1022 - Q by omega, Nat.min_eq_left]
  omega

/-- .. is not below a whole number that N / 2^Q is not below -/
theorem not_below (N Q lo : Nat) (kept : Nat) (h1 : 52 ≤ N.log2) (hl0 : lo ≠ 0) (hl : lo < 2 ^ 53) (hle : lo * 2 ^ Q ≤ N) (k1 : N / 2 ^ (N.log2 - 52) ≤ kept) (k4 : 2 ^ 52 ≤ N / 2 ^ (N.log2 - 52)) :
    rungOf lo ≤ (N.log2 + 1022 - Q) * 2 ^ 52 + kept := by
  obtain ⟨f1, f2⟩ := fraction_of hl0 hl
  have hl52 := log2_small hl0 hl
  have h0 : N ≠ 0 := by intro e; subst e; simp at h1
  obtain ⟨hb1, hb2⟩ := log2_between h0
  have hab : lo.log2 + Q ≤ N.log2 := by
    obtain ⟨la, _⟩ := log2_between hl0
    rcases Nat.lt_or_ge N.log2 (lo.log2 + Q) with hc | hc
    · have : 2 ^ (N.log2 + 1) ≤ 2 ^ (lo.log2 + Q) := Nat.pow_le_pow_right (by omega) (by omega)
      have h3 : 2 ^ lo.log2 * 2 ^ Q ≤ lo * 2 ^ Q := Nat.mul_le_mul_right _ la
      rw [← Nat.pow_add] at h3
      omega
    · exact hc
  unfold rungOf
  rcases Nat.lt_or_eq_of_le hab with hc | hc
  · generalize lo * 2 ^ (52 - lo.log2) = f at *
    generalize N / 2 ^ (N.log2 - 52) = g at *
    omega
  · have : lo * 2 ^ (52 - lo.log2) ≤ N / 2 ^ (N.log2 - 52) := by
      rw [Nat.le_div_iff_mul_le (Nat.two_pow_pos _), Nat.mul_assoc, ← Nat.pow_add, show 52 - lo.log2 + (N.log2 - 52) = Q by omega]
      exact hle
    generalize lo * 2 ^ (52 - lo.log2) = f at *
    omega

/-- .. nor above one that it is not above -/
theorem not_above (N Q hi : Nat) (kept : Nat) (h1 : 52 ≤ N.log2) (hl0 : hi ≠ 0) (hl : hi < 2 ^ 53) (hle : N ≤ hi * 2 ^ Q) (k2 : kept ≤ N / 2 ^ (N.log2 - 52) + 1) (k3 : N % 2 ^ (N.log2 - 52) = 0 → kept = N / 2 ^ (N.log2 - 52)) (k5 : N / 2 ^ (N.log2 - 52) < 2 ^ 53) :
    (N.log2 + 1022 - Q) * 2 ^ 52 + kept ≤ rungOf hi := by
  obtain ⟨f1, f2⟩ := fraction_of hl0 hl
  have hl52 := log2_small hl0 hl
  have h0 : N ≠ 0 := by intro e; subst e; simp at h1
  obtain ⟨hb1, hb2⟩ := log2_between h0
  have hab : N.log2 ≤ hi.log2 + Q := by
    obtain ⟨_, lb⟩ := log2_between hl0
    rcases Nat.lt_or_ge (hi.log2 + Q) N.log2 with hc | hc
    · have : 2 ^ (hi.log2 + 1 + Q) ≤ 2 ^ N.log2 := Nat.pow_le_pow_right (by omega) (by omega)
      have h3 : hi * 2 ^ Q < 2 ^ (hi.log2 + 1) * 2 ^ Q := Nat.mul_lt_mul_of_pos_right lb (Nat.two_pow_pos _)
      rw [← Nat.pow_add] at h3
      omega
    · exact hc
  unfold rungOf
  rcases Nat.lt_or_eq_of_le hab with hc | hc
  · generalize hi * 2 ^ (52 - hi.log2) = f at *
    generalize N / 2 ^ (N.log2 - 52) = g at *
    omega
  · have e1 : hi * 2 ^ Q = hi * 2 ^ (52 - hi.log2) * 2 ^ (N.log2 - 52) := by
      rw [Nat.mul_assoc, ← Nat.pow_add]
      congr 2
      omega
    rw [e1] at hle
    generalize hi * 2 ^ (52 - hi.log2) = f at *
    have hp := Nat.two_pow_pos (N.log2 - 52)
    have hdm := Nat.div_add_mod N (2 ^ (N.log2 - 52))
    generalize hG : 2 ^ (N.log2 - 52) = g at *
    have hq : N / g ≤ f := by
      rw [Nat.div_le_iff_le_mul hp]
      omega
    rcases Nat.lt_or_eq_of_le hq with hc2 | hc2
    · omega
    · have : N % g = 0 := by
        rw [hc2, Nat.mul_comm] at hdm
        omega
      rw [k3 this, hc2]
      omega
end Go.Proofs.Qxb6601481a
