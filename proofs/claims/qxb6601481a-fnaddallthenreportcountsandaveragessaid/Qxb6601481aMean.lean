/-
  SEAT b6601481a: THE MEAN: the quotient of two whole numbers, as doubles, compared with whole numbers.
-/
import Derived.Test.Qxb6601481aQuot
namespace Go.Proofs.Qxb6601481a
open Ieee

/-- a normal number's rung, read -/
theorem read_normal (neg : Bool) (rung : Nat) (h1 : 2 ^ 52 ≤ rung) (h2 : rung < 2047 * 2 ^ 52) : double.read (double.word neg rung) = .number neg (2 ^ 52 + rung % 2 ^ 52) (-1074 + ((rung / 2 ^ 52 - 1 : Nat) : Int)) := by
  have hlp : double.leastPlace = -1074 := by decide
  have hinf : double.infRung = 2047 * 2 ^ 52 := by decide
  have hbin : double.binade = 2 ^ 52 := rfl
  obtain ⟨hw1, hw2⟩ := word_parts neg rung (by omega)
  unfold Format.read
  rw [hw1, hw2, hbin, hinf, hlp]
  dsimp only
  rw [if_neg (by omega), if_pos h2]

/-- the sizes of two normal numbers stand as their rungs -/
theorem sizes (a b : Nat) (ha : 2 ^ 52 ≤ a) (hab : a ≤ b) (hb : b < 2047 * 2 ^ 52) :
    (2 ^ 52 + a % 2 ^ 52) * 2 ^ ((-1074 + ((a / 2 ^ 52 - 1 : Nat) : Int)) - min (-1074 + ((a / 2 ^ 52 - 1 : Nat) : Int)) (-1074 + ((b / 2 ^ 52 - 1 : Nat) : Int))).toNat ≤
      (2 ^ 52 + b % 2 ^ 52) * 2 ^ ((-1074 + ((b / 2 ^ 52 - 1 : Nat) : Int)) - min (-1074 + ((a / 2 ^ 52 - 1 : Nat) : Int)) (-1074 + ((b / 2 ^ 52 - 1 : Nat) : Int))).toNat := by
  have hd : a / 2 ^ 52 ≤ b / 2 ^ 52 := Nat.div_le_div_right hab
  rw [show ((-1074 + ((a / 2 ^ 52 - 1 : Nat) : Int)) - min (-1074 + ((a / 2 ^ 52 - 1 : Nat) : Int)) (-1074 + ((b / 2 ^ 52 - 1 : Nat) : Int))).toNat = 0 by omega,
    show ((-1074 + ((b / 2 ^ 52 - 1 : Nat) : Int)) - min (-1074 + ((a / 2 ^ 52 - 1 : Nat) : Int)) (-1074 + ((b / 2 ^ 52 - 1 : Nat) : Int))).toNat = b / 2 ^ 52 - a / 2 ^ 52 by omega, Nat.pow_zero, Nat.mul_one]
  rcases Nat.lt_or_eq_of_le hd with h | h
  · have h2 : 2 ^ 1 ≤ 2 ^ (b / 2 ^ 52 - a / 2 ^ 52) := Nat.pow_le_pow_right (by omega) (by omega)
    have h3 : (2 ^ 52 + b % 2 ^ 52) * 2 ^ 1 ≤ (2 ^ 52 + b % 2 ^ 52) * 2 ^ (b / 2 ^ 52 - a / 2 ^ 52) := Nat.mul_le_mul_left _ h2
    generalize (2 ^ 52 + b % 2 ^ 52) * 2 ^ (b / 2 ^ 52 - a / 2 ^ 52) = z at *
    omega
  · rw [h, Nat.sub_self, Nat.pow_zero, Nat.mul_one]
    omega

def notGt (o : Option Ordering) : Prop := o = some .lt ∨ o = some .eq

theorem cmp_le {x y : Int} (h : x ≤ y) : notGt (some (compare x y)) := by
  rcases Int.lt_or_eq_of_le h with h | h
  · exact Or.inl (by rw [Int.compare_eq_lt.2 h])
  · exact Or.inr (by rw [Int.compare_eq_eq.2 h])

theorem order_pos (a b : Nat) (ha : 2 ^ 52 ≤ a) (hab : a ≤ b) (hb : b < 2047 * 2 ^ 52) : notGt (double.order (double.word false a) (double.word false b)) := by
  have hs := sizes a b ha hab hb
  unfold Format.order
  rw [read_normal false a ha (by omega), read_normal false b (by omega) hb]
  unfold Datum.order
  dsimp only
  rw [signed_abs, signed_abs]
  refine cmp_le ?_
  simp only [Bool.false_eq_true, if_false]
  exact Int.ofNat_le.2 hs

theorem order_neg (a b : Nat) (ha : 2 ^ 52 ≤ a) (hab : a ≤ b) (hb : b < 2047 * 2 ^ 52) : notGt (double.order (double.word true b) (double.word true a)) := by
  have hs := sizes a b ha hab hb
  rw [Int.min_comm] at hs
  unfold Format.order
  rw [read_normal true a ha (by omega), read_normal true b (by omega) hb]
  unfold Datum.order
  dsimp only
  rw [signed_abs, signed_abs]
  refine cmp_le ?_
  simp only [if_true]
  exact Int.neg_le_neg (Int.ofNat_le.2 hs)

/-- a negative number or a zero is not above a positive number or a zero -/
theorem order_signs {x y : Nat} {s t : Bool} {m n : Nat} {i j : Int} (hx : double.read x = .number s m i) (hy : double.read y = .number t n j) (hs : s = true ∨ m = 0) (ht : t = false ∨ n = 0) : notGt (double.order x y) := by
  unfold Format.order
  rw [hx, hy]
  unfold Datum.order
  dsimp only
  rw [signed_abs, signed_abs]
  refine cmp_le ?_
  have h1 : (if s then -((m * 2 ^ (i - min i j).toNat : Nat) : Int) else ((m * 2 ^ (i - min i j).toNat : Nat) : Int)) ≤ 0 := by
    rcases hs with rfl | rfl
    · simp only [if_true]
      omega
    · cases s <;> simp
  have h2 : 0 ≤ (if t then -((n * 2 ^ (j - min i j).toNat : Nat) : Int) else ((n * 2 ^ (j - min i j).toNat : Nat) : Int)) := by
    rcases ht with rfl | rfl
    · simp only [Bool.false_eq_true, if_false]
      omega
    · cases t <;> simp
  omega

theorem rung_bounds {n : Nat} (h0 : n ≠ 0) (h : n < 2 ^ 53) : 2 ^ 52 ≤ rungOf n ∧ rungOf n < 2047 * 2 ^ 52 := by
  obtain ⟨f1, f2⟩ := fraction_of h0 h
  have := log2_small h0 h
  unfold rungOf
  omega

theorem word_rung (n : Int) (h0 : n ≠ 0) (h : n.natAbs < 2 ^ 53) : word n = double.word (decide (n < 0)) (rungOf n.natAbs) := by
  have e := write_word (decide (n < 0)) n 0 h (by omega) rfl
  have e2 := nearest_whole (decide (n < 0)) n.natAbs 0 (by omega) h (by omega)
  rw [← e, e2]
  rfl

/-- the digits of a quotient with the one that tells of what is left over -/
def digits (X K : Nat) : Nat := 2 * (X / K) + (X % K != 0).toNat

theorem digits_low (X K L : Nat) (hK : 0 < K) (h : L * K ≤ X) : 2 * L ≤ digits X K := by
  have : L ≤ X / K := (Nat.le_div_iff_mul_le hK).2 h
  unfold digits
  omega
theorem digits_high (X K L : Nat) (hK : 0 < K) (h : X ≤ L * K) : digits X K ≤ 2 * L := by
  have hdm := Nat.div_add_mod X K
  unfold digits
  by_cases h0 : X % K = 0
  · rw [h0]
    have : X / K ≤ L := by
      rcases Nat.lt_or_ge L (X / K) with hc | hc
      · have h3 : K * (L + 1) ≤ K * (X / K) := Nat.mul_le_mul_left _ hc
        rw [Nat.mul_add, Nat.mul_comm K L] at h3
        omega
      · exact hc
    simp
    omega
  · have hb : (X % K != 0).toNat = 1 := by simp [h0]
    rw [hb]
    have : X / K < L := by
      rcases Nat.lt_or_ge (X / K) L with hc | hc
      · exact hc
      · have h3 : K * L ≤ K * (X / K) := Nat.mul_le_mul_left _ hc
        rw [Nat.mul_comm K L] at h3
        omega
    omega
theorem digits_size (X K : Nat) (h1 : 2 ^ 106 ≤ X) (h2 : X < 2 ^ 107) (h3 : 2 ^ 52 ≤ K) (h4 : K < 2 ^ 53) : 2 ^ 54 ≤ digits X K ∧ digits X K < 2 ^ 56 := by
  have hK : 0 < K := by omega
  have a := digits_low X K (2 ^ 53) hK (by omega)
  have b : X / K < 2 ^ 55 := (Nat.div_lt_iff_lt_mul hK).2 (by omega)
  have c : (X % K != 0).toNat ≤ 1 := Bool.toNat_le _
  unfold digits at a ⊢
  omega

theorem log_size (N : Nat) (h1 : 2 ^ 54 ≤ N) (h2 : N < 2 ^ 56) : 54 ≤ N.log2 ∧ N.log2 ≤ 55 := by
  have hN0 : N ≠ 0 := by omega
  constructor
  · rcases Nat.lt_or_ge N.log2 54 with h | h
    · have h3 : 2 ^ (N.log2 + 1) ≤ 2 ^ 54 := Nat.pow_le_pow_right (by omega) (by omega)
      have := (log2_between hN0).2
      omega
    · exact h
  · rcases Nat.lt_or_ge 55 N.log2 with h | h
    · have h3 : 2 ^ 56 ≤ 2 ^ N.log2 := Nat.pow_le_pow_right (by omega) (by omega)
      have := (log2_between hN0).1
      omega
    · exact h

theorem quotient_rung (neg : Bool) (n d : Nat) (hn0 : n ≠ 0) (hn : n < 2 ^ 53) (hd0 : d ≠ 0) (hd : d < 2 ^ 53) :
    ∃ rung, (Datum.quotient 54 (.number neg (n * 2 ^ (52 - n.log2)) (-((52 - n.log2 : Nat) : Int))) (.number false (d * 2 ^ (52 - d.log2)) (-((52 - d.log2 : Nat) : Int)))).map double.write = some (double.word neg rung) ∧
      2 ^ 52 ≤ rung ∧ rung < 2047 * 2 ^ 52 ∧ (∀ lo, lo ≠ 0 → lo < 2 ^ 53 → lo * d ≤ n → rungOf lo ≤ rung) ∧ (∀ hi, hi ≠ 0 → hi < 2 ^ 53 → n ≤ hi * d → rung ≤ rungOf hi) := by
  obtain ⟨m1, m2⟩ := fraction_of hn0 hn
  obtain ⟨k1, k2⟩ := fraction_of hd0 hd
  have ln := log2_small hn0 hn
  have ld := log2_small hd0 hd
  have lm : (n * 2 ^ (52 - n.log2)).log2 = 52 := log2_at m1 m2
  have lk : (d * 2 ^ (52 - d.log2)).log2 = 52 := log2_at k1 k2
  have hk : d * 2 ^ (52 - d.log2) ≠ 0 := by omega
  obtain ⟨R, hR⟩ : ∃ R : Nat, R + (52 - d.log2) = 54 + (52 - n.log2) := ⟨54 + (52 - n.log2) - (52 - d.log2), by omega⟩
  have hplace : -((52 - n.log2 : Nat) : Int) - -((52 - d.log2 : Nat) : Int) - ((54 + 52 - 52 : Nat) : Int) - 1 = -((R + 1 : Nat) : Int) := by omega
  have hq : (Datum.quotient 54 (.number neg (n * 2 ^ (52 - n.log2)) (-((52 - n.log2 : Nat) : Int))) (.number false (d * 2 ^ (52 - d.log2)) (-((52 - d.log2 : Nat) : Int)))) = some (.number neg (digits (n * 2 ^ (52 - n.log2) * 2 ^ 54) (d * 2 ^ (52 - d.log2))) (-((R + 1 : Nat) : Int))) := by
    unfold Datum.quotient
    dsimp only
    rw [if_neg hk, lm, lk, Nat.shiftLeft_eq, hplace, Bool.xor_false]
    rfl
  have hKp : 0 < d * 2 ^ (52 - d.log2) := by omega
  have hX : n * 2 ^ (52 - n.log2) * 2 ^ 54 = n * 2 ^ R * 2 ^ (52 - d.log2) := by
    rw [Nat.mul_assoc, Nat.mul_assoc, ← Nat.pow_add, ← Nat.pow_add]
    congr 2
    omega
  obtain ⟨s1, s2⟩ := digits_size (n * 2 ^ (52 - n.log2) * 2 ^ 54) (d * 2 ^ (52 - d.log2)) (by omega) (by omega) k1 k2
  have low : ∀ lo, lo * d ≤ n → lo * 2 ^ (R + 1) ≤ digits (n * 2 ^ (52 - n.log2) * 2 ^ 54) (d * 2 ^ (52 - d.log2)) := by
    intro lo hle
    rw [Nat.pow_succ, ← Nat.mul_assoc, Nat.mul_comm _ 2]
    refine digits_low _ _ _ hKp ?_
    rw [hX, Nat.mul_mul_mul_comm, Nat.mul_assoc n]
    exact Nat.mul_le_mul_right _ hle
  have high : ∀ hi, n ≤ hi * d → digits (n * 2 ^ (52 - n.log2) * 2 ^ 54) (d * 2 ^ (52 - d.log2)) ≤ hi * 2 ^ (R + 1) := by
    intro hi hle
    rw [show hi * 2 ^ (R + 1) = 2 * (hi * 2 ^ R) by rw [Nat.pow_succ, ← Nat.mul_assoc, Nat.mul_comm _ 2]]
    refine digits_high _ _ _ hKp ?_
    rw [hX, Nat.mul_mul_mul_comm, Nat.mul_assoc n]
    exact Nat.mul_le_mul_right _ hle
  rw [hq]
  clear hq hX hKp hk
  generalize digits (n * 2 ^ (52 - n.log2) * 2 ^ 54) (d * 2 ^ (52 - d.log2)) = N at s1 s2 low high ⊢
  obtain ⟨l1, l2⟩ := log_size N s1 s2
  have hR2 : R + 1 ≤ 107 := by omega
  obtain ⟨kept, e, c1, c2, c3, c4, c5⟩ := nearest_big neg N (R + 1) (by omega) (by omega) (by omega)
  refine ⟨(N.log2 + 1022 - (R + 1)) * 2 ^ 52 + kept, ?_, by omega, by omega, fun lo h0 hl hle => not_below N (R + 1) lo kept (by omega) h0 hl (low lo hle) c1 c4, fun hi h0 hl hle => not_above N (R + 1) hi kept (by omega) h0 hl (high hi hle) c2 c3 c5⟩
  show some (double.nearest neg N (-((R + 1 : Nat) : Int))) = _
  rw [e]

theorem read_word (n : Int) (h0 : n ≠ 0) (h : n.natAbs < 2 ^ 53) : double.read (word n) = .number (decide (n < 0)) (n.natAbs * 2 ^ (52 - n.natAbs.log2)) (-((52 - n.natAbs.log2 : Nat) : Int)) := by
  rw [word_rung n h0 h]
  exact read_whole _ _ (by omega) h

theorem natAbs_le {a b d : Int} (ha : 0 ≤ a) (hd : 0 < d) (h : a * d ≤ b) : a.natAbs * d.natAbs ≤ b.natAbs := by
  have h1 : ((a.natAbs * d.natAbs : Nat) : Int) = a * d := by
    rw [Int.natCast_mul, Int.natAbs_of_nonneg ha, Int.natAbs_of_nonneg (Int.le_of_lt hd)]
  have h2 := Int.mul_nonneg ha (Int.le_of_lt hd)
  omega
theorem le_natAbs {a b d : Int} (hb : 0 ≤ b) (ha : 0 ≤ a) (hd : 0 < d) (h : b ≤ a * d) : b.natAbs ≤ a.natAbs * d.natAbs := by
  have h1 : ((a.natAbs * d.natAbs : Nat) : Int) = a * d := by
    rw [Int.natCast_mul, Int.natAbs_of_nonneg ha, Int.natAbs_of_nonneg (Int.le_of_lt hd)]
  omega

/-- ████ THE MEAN lies between -/
theorem div_between (s d lo hi : Int) (hs : s.natAbs < 2 ^ 53) (hd : 0 < d) (hd2 : d.natAbs < 2 ^ 53) (hlo : lo.natAbs < 2 ^ 53) (hhi : hi.natAbs < 2 ^ 53) (h1 : lo * d ≤ s) (h2 : s ≤ hi * d) :
    ∃ r, double.div (word s) (word d) = some r ∧ notGt (double.order (word lo) r) ∧ notGt (double.order r (word hi)) ∧ double.order r r = some .eq := by
  have hdd : decide (d < 0) = false := decide_eq_false (by omega)
  have sign_low : ∀ x : Int, x ≤ 0 → x.natAbs < 2 ^ 53 → ∃ b m i, double.read (word x) = .number b m i ∧ (b = true ∨ m = 0) := by
    intro x hx hx2
    obtain ⟨b, q, _, e, hb⟩ := word_repP x hx2
    refine ⟨_, _, _, e, ?_⟩
    by_cases h0 : x = 0
    · right
      rw [h0]
      simp
    · left
      rw [hb]
      exact decide_eq_true (by omega)
  have sign_high : ∀ x : Int, 0 ≤ x → x.natAbs < 2 ^ 53 → ∃ b m i, double.read (word x) = .number b m i ∧ (b = false ∨ m = 0) := by
    intro x hx hx2
    obtain ⟨b, q, _, e, hb⟩ := word_repP x hx2
    refine ⟨_, _, _, e, Or.inl ?_⟩
    rw [hb]
    exact decide_eq_false (by omega)
  by_cases h0 : s = 0
  · subst h0
    have hl : lo ≤ 0 := by
      rcases Int.lt_or_le 0 lo with h | h
      · have := Int.mul_pos h hd
        omega
      · exact h
    have hh : 0 ≤ hi := by
      rcases Int.lt_or_le hi 0 with h | h
      · have := Int.mul_neg_of_neg_of_pos h hd
        omega
      · exact h
    refine ⟨word 0, ?_, ?_, ?_, ?_⟩
    · unfold Format.div
      rw [read_word d (by omega) hd2, hdd, word_zero, show double.read 0 = .number false 0 (-1074) from read_zero false]
      unfold Datum.quotient
      dsimp only
      have hk : d.natAbs * 2 ^ (52 - d.natAbs.log2) ≠ 0 := Nat.mul_ne_zero (by omega) (Nat.pos_iff_ne_zero.1 (Nat.two_pow_pos _))
      rw [if_neg hk, Nat.zero_shiftLeft, Nat.zero_div, Nat.zero_mod]
      show some (double.nearest false 0 _) = some 0
      rw [nearest_zero]
      rfl
    · rw [order_whole (word_repP lo hlo).rep (word_repP 0 (by decide)).rep]
      exact cmp_le hl
    · rw [order_whole (word_repP 0 (by decide)).rep (word_repP hi hhi).rep]
      exact cmp_le hh
    · rw [order_whole (word_repP 0 (by decide)).rep (word_repP 0 (by decide)).rep]
      rfl
  · obtain ⟨rung, e, b1, b2, low, high⟩ := quotient_rung (decide (s < 0)) s.natAbs d.natAbs (by omega) hs (by omega) hd2
    have hdiv : double.div (word s) (word d) = some (double.word (decide (s < 0)) rung) := by
      unfold Format.div
      rw [read_word d (by omega) hd2, hdd, read_word s h0 hs]
      exact e
    have hself : double.order (double.word (decide (s < 0)) rung) (double.word (decide (s < 0)) rung) = some .eq := order_self_word _ _ (by rw [show double.infRung = 2047 * 2 ^ 52 by decide]; omega)
    refine ⟨_, hdiv, ?_, ?_, hself⟩
    · by_cases hneg : s < 0
      · rw [decide_eq_true hneg]
        have hl : lo < 0 := by
          rcases Int.lt_or_le lo 0 with h | h
          · exact h
          · have := Int.mul_nonneg h (Int.le_of_lt hd)
            omega
        rw [word_rung lo (by omega) hlo, decide_eq_true hl]
        have hq : s.natAbs ≤ lo.natAbs * d.natAbs := by
          have h5 := le_natAbs (a := -lo) (b := -s) (by omega) (by omega) hd (by rw [Int.neg_mul]; omega)
          rwa [Int.natAbs_neg, Int.natAbs_neg] at h5
        exact order_neg rung _ b1 (high _ (by omega) hlo hq) (rung_bounds (by omega) hlo).2
      · rw [decide_eq_false hneg]
        by_cases hl : lo ≤ 0
        · obtain ⟨b, m, i, er, hb⟩ := sign_low lo hl hlo
          exact order_signs er (read_normal false rung b1 b2) hb (Or.inl rfl)
        · rw [word_rung lo (by omega) hlo, decide_eq_false (by omega)]
          exact order_pos _ rung (rung_bounds (by omega) hlo).1 (low _ (by omega) hlo (natAbs_le (by omega) hd h1)) b2
    · by_cases hneg : s < 0
      · rw [decide_eq_true hneg]
        by_cases hh : 0 ≤ hi
        · obtain ⟨b, m, i, er, hb⟩ := sign_high hi hh hhi
          exact order_signs (read_normal true rung b1 b2) er (Or.inl rfl) hb
        · rw [word_rung hi (by omega) hhi, decide_eq_true (by omega)]
          have hq : hi.natAbs * d.natAbs ≤ s.natAbs := by
            have h5 := natAbs_le (a := -hi) (b := -s) (by omega) hd (by rw [Int.neg_mul]; omega)
            rwa [Int.natAbs_neg, Int.natAbs_neg] at h5
          exact order_neg _ rung (rung_bounds (by omega) hhi).1 (low _ (by omega) hhi hq) b2
      · rw [decide_eq_false hneg]
        have hh : 0 < hi := by
          rcases Int.lt_or_le 0 hi with h | h
          · exact h
          · have : hi * d ≤ 0 := Int.mul_nonpos_of_nonpos_of_nonneg h (Int.le_of_lt hd)
            omega
        rw [word_rung hi (by omega) hhi, decide_eq_false (by omega)]
        exact order_pos rung _ b1 (high _ (by omega) hhi (le_natAbs (by omega) (by omega) hd h2)) (rung_bounds (by omega) hhi).2
end Go.Proofs.Qxb6601481a
