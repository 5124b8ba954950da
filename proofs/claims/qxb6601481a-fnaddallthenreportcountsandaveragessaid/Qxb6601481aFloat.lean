/-
  SEAT b6601481a: WHOLE NUMBERS BELOW 2^53 IN DOUBLES ARE EXACT: what a double that holds one reads as, sums, products.
-/
import Derived.Laws.FloatArith
namespace Go.Proofs.Qxb6601481a
open Ieee

theorem log2_at {n k : Nat} (h1 : 2 ^ k ≤ n) (h2 : n < 2 ^ (k + 1)) : n.log2 = k := by
  have h0 : n ≠ 0 := by
    have := Nat.two_pow_pos k
    omega
  exact (Nat.log2_eq_iff h0).2 ⟨h1, h2⟩

theorem log2_between {n : Nat} (h0 : n ≠ 0) : 2 ^ n.log2 ≤ n ∧ n < 2 ^ (n.log2 + 1) := (Nat.log2_eq_iff h0).1 rfl

theorem log2_shift {n : Nat} (h0 : n ≠ 0) (q : Nat) : (n * 2 ^ q).log2 = n.log2 + q := by
  obtain ⟨h1, h2⟩ := log2_between h0
  refine log2_at ?_ ?_
  · rw [Nat.pow_add]
    exact Nat.mul_le_mul_right _ h1
  · rw [show n.log2 + q + 1 = (n.log2 + 1) + q by omega, Nat.pow_add]
    exact Nat.mul_lt_mul_of_pos_right h2 (Nat.two_pow_pos q)

theorem log2_small {n : Nat} (h0 : n ≠ 0) (h : n < 2 ^ 53) : n.log2 ≤ 52 := by
  obtain ⟨h1, _⟩ := log2_between h0
  rcases Nat.lt_or_ge 52 n.log2 with hl | hl
  · have : 2 ^ 53 ≤ 2 ^ n.log2 := Nat.pow_le_pow_right (by omega) hl
    omega
  · exact hl

theorem cut_exact (neg : Bool) (a k : Nat) (ha : a ≠ 0) : Toward.even.cut neg (a * 2 ^ k) k = a := by
  have hl := log2_shift ha k
  unfold Toward.cut
  rw [hl]
  have hm : min k (a.log2 + k + 2) = k := by omega
  simp only [hm, Nat.one_shiftLeft, Nat.mul_mod_left]
  have hp : 0 < 2 ^ k := Nat.two_pow_pos k
  rw [Nat.mul_div_cancel _ hp]
  have h1 : (2 ^ k == 2 * 0) = false := beq_eq_false_iff_ne.2 (by omega)
  simp [h1]

theorem cut_zero (neg : Bool) (a : Nat) : Toward.even.cut neg a 0 = a := by
  unfold Toward.cut
  simp [Nat.mod_one]

/-- THE WORD OF A WHOLE NUMBER, however its digits lie. -/
theorem nearest_whole (neg : Bool) (n q : Nat) (h0 : n ≠ 0) (h : n < 2 ^ 53) (hq : q ≤ 4000) : double.nearest neg (n * 2 ^ q) (-(q : Int)) = double.word neg ((n.log2 + 1022) * 2 ^ 52 + n * 2 ^ (52 - n.log2)) := by
  have hl := log2_shift h0 q
  have h52 := log2_small h0 h
  have hpos : n * 2 ^ q ≠ 0 := Nat.mul_ne_zero h0 (Nat.pos_iff_ne_zero.1 (Nat.two_pow_pos q))
  obtain ⟨hb1, hb2⟩ := log2_between h0
  have hlp : double.leastPlace = -1074 := by decide
  have hinf : double.infRung = 2047 * 2 ^ 52 := by decide
  have hbin : double.binade = 2 ^ 52 := rfl
  have hfr : double.fractionBits = 52 := rfl
  have hn2 : n * 2 ^ (52 - n.log2) < 2 ^ 53 := by
    have : 2 ^ (n.log2 + 1) * 2 ^ (52 - n.log2) = 2 ^ 53 := by rw [← Nat.pow_add]; congr 1; omega
    rw [← this]
    exact Nat.mul_lt_mul_of_pos_right hb2 (Nat.two_pow_pos _)
  have hlast : max (-(q : Int) + ((n * 2 ^ q).log2 : Nat) - ((52 : Nat) : Int)) (-1074) = (n.log2 : Int) - 52 := by
    rw [hl]
    omega
  have hkept : Toward.even.cut neg ((n * 2 ^ q) <<< (-(q : Int) - ((n.log2 : Int) - 52)).toNat) (((n.log2 : Int) - 52) - -(q : Int)).toNat = n * 2 ^ (52 - n.log2) := by
    rcases Nat.lt_or_ge q (52 - n.log2) with hlt | hge
    · rw [show (((n.log2 : Int) - 52) - -(q : Int)).toNat = 0 by omega, show (-(q : Int) - ((n.log2 : Int) - 52)).toNat = 52 - n.log2 - q by omega, cut_zero, Nat.shiftLeft_eq, Nat.mul_assoc, ← Nat.pow_add]
      congr 2
      omega
    · rw [show (-(q : Int) - ((n.log2 : Int) - 52)).toNat = 0 by omega, show (((n.log2 : Int) - 52) - -(q : Int)).toNat = q - (52 - n.log2) by omega, Nat.shiftLeft_zero]
      rw [show n * 2 ^ q = (n * 2 ^ (52 - n.log2)) * 2 ^ (q - (52 - n.log2)) by rw [Nat.mul_assoc, ← Nat.pow_add]; congr 2; omega]
      exact cut_exact _ _ _ (Nat.mul_ne_zero h0 (Nat.pos_iff_ne_zero.1 (Nat.two_pow_pos _)))
  unfold Format.nearest
  rw [if_neg hpos]
  simp only [hlp, hinf, hbin, hfr]
  rw [hlast, hkept]
  rw [show ((n.log2 : Int) - 52 - -1074).toNat = n.log2 + 1022 by omega, Nat.min_eq_left]
  omega

/-- a word's sign and rung, read back -/
theorem word_parts (neg : Bool) (rung : Nat) (h : rung < 2 ^ 63) : (double.word neg rung / double.signWeight % 2 == 1) = neg ∧ double.word neg rung % double.signWeight = rung := by
  have hs : double.signWeight = 2 ^ 63 := rfl
  rw [hs]
  cases neg
  · have e : double.word false rung = rung := rfl
    rw [e, Nat.div_eq_of_lt h, Nat.mod_eq_of_lt h]
    exact ⟨rfl, rfl⟩
  · have e : double.word true rung = 2 ^ 63 + rung := rfl
    rw [e]
    have h1 : (2 ^ 63 + rung) / 2 ^ 63 = 1 := by omega
    have h2 : (2 ^ 63 + rung) % 2 ^ 63 = rung := by omega
    rw [h1, h2]
    exact ⟨rfl, rfl⟩

theorem read_whole (neg : Bool) (n : Nat) (h0 : n ≠ 0) (h : n < 2 ^ 53) : double.read (double.word neg ((n.log2 + 1022) * 2 ^ 52 + n * 2 ^ (52 - n.log2))) = .number neg (n * 2 ^ (52 - n.log2)) (-((52 - n.log2 : Nat) : Int)) := by
  have h52 := log2_small h0 h
  obtain ⟨hb1, hb2⟩ := log2_between h0
  have hlp : double.leastPlace = -1074 := by decide
  have hinf : double.infRung = 2047 * 2 ^ 52 := by decide
  have hbin : double.binade = 2 ^ 52 := rfl
  have hn2 : n * 2 ^ (52 - n.log2) < 2 ^ 53 := by
    have : 2 ^ (n.log2 + 1) * 2 ^ (52 - n.log2) = 2 ^ 53 := by rw [← Nat.pow_add]; congr 1; omega
    rw [← this]
    exact Nat.mul_lt_mul_of_pos_right hb2 (Nat.two_pow_pos _)
  have hn1 : 2 ^ 52 ≤ n * 2 ^ (52 - n.log2) := by
    have : 2 ^ n.log2 * 2 ^ (52 - n.log2) = 2 ^ 52 := by rw [← Nat.pow_add]; congr 1; omega
    rw [← this]
    exact Nat.mul_le_mul_right _ hb1
  generalize hm : n * 2 ^ (52 - n.log2) = m at *
  generalize n.log2 = l at *
  obtain ⟨hw1, hw2⟩ := word_parts neg ((l + 1022) * 2 ^ 52 + m) (by omega)
  unfold Format.read
  rw [hw1, hw2, hbin, hinf, hlp]
  dsimp only
  rw [if_neg (by omega), if_pos (by omega)]
  congr 1 <;> omega

/-- THE WORD OF A WHOLE NUMBER -/
def word (n : Int) : Nat := floatOfInt .f64 n

/-- the bits x hold the whole number n (a zero of either sign) -/
def Rep (x : Nat) (n : Int) : Prop := ∃ (s : Bool) (q : Nat), q ≤ 1074 ∧ double.read x = .number s (n.natAbs * 2 ^ q) (-(q : Int)) ∧ (n ≠ 0 → s = decide (n < 0))
/-- .. and a zero is the positive one -/
def RepP (x : Nat) (n : Int) : Prop := ∃ (s : Bool) (q : Nat), q ≤ 1074 ∧ double.read x = .number s (n.natAbs * 2 ^ q) (-(q : Int)) ∧ s = decide (n < 0)
theorem RepP.rep {x : Nat} {n : Int} (h : RepP x n) : Rep x n := by
  obtain ⟨s, q, h1, h2, h3⟩ := h
  exact ⟨s, q, h1, h2, fun _ => h3⟩

theorem word_zero : word 0 = 0 := by decide
theorem word_eq (n : Int) : word n = double.nearest (decide (n < 0)) n.natAbs 0 := rfl

theorem nearest_zero (s : Bool) (p : Int) : double.nearest s 0 p = double.word s 0 := by
  unfold Format.nearest
  rw [if_pos rfl]
theorem read_zero (s : Bool) : double.read (double.word s 0) = .number s 0 (-1074) := by
  cases s <;> decide

theorem rz (q : Nat) : (0 : Int).natAbs * 2 ^ q = 0 := by simp
theorem rep_zero (s : Bool) : ∃ q : Nat, q ≤ 1074 ∧ double.read (double.word s 0) = .number s ((0 : Int).natAbs * 2 ^ q) (-(q : Int)) :=
  by
  obtain ⟨q, hq⟩ : ∃ q : Nat, q = 1074 := ⟨_, rfl⟩
  refine ⟨q, by omega, ?_⟩
  rw [read_zero, rz, hq]
  rfl
/-- a whole number is written exactly, however its digits lie -/
theorem write_whole (s : Bool) (n : Int) (q : Nat) (h : n.natAbs < 2 ^ 53) (hq : q ≤ 4000) (hs : n ≠ 0 → s = decide (n < 0)) : Rep (double.nearest s (n.natAbs * 2 ^ q) (-(q : Int))) n := by
  by_cases h0 : n = 0
  · subst h0
    rw [show (0 : Int).natAbs * 2 ^ q = 0 by simp, nearest_zero]
    obtain ⟨p, h1, h2⟩ := rep_zero s
    exact ⟨s, p, h1, h2, fun h => absurd rfl h⟩
  · have hn : n.natAbs ≠ 0 := by omega
    rw [nearest_whole s _ q hn h hq]
    exact ⟨s, 52 - n.natAbs.log2, by omega, read_whole s _ hn h, hs⟩
theorem write_word (s : Bool) (n : Int) (q : Nat) (h : n.natAbs < 2 ^ 53) (hq : q ≤ 4000) (hs : s = decide (n < 0)) : double.nearest s (n.natAbs * 2 ^ q) (-(q : Int)) = word n := by
  rw [word_eq, ← hs]
  by_cases h0 : n = 0
  · subst h0
    rw [show (0 : Int).natAbs * 2 ^ q = 0 by simp, nearest_zero, show (0 : Int).natAbs = 0 from rfl, nearest_zero]
  · have hn : n.natAbs ≠ 0 := by omega
    rw [nearest_whole s _ q hn h hq]
    have := nearest_whole s _ 0 hn h (by omega)
    simpa using this.symm
theorem word_repP (n : Int) (h : n.natAbs < 2 ^ 53) : RepP (word n) n := by
  by_cases h0 : n = 0
  · subst h0
    obtain ⟨p, h1, h2⟩ := rep_zero false
    exact ⟨false, p, h1, h2, rfl⟩
  · have hn : n.natAbs ≠ 0 := by omega
    have e := write_word (decide (n < 0)) n 0 h (by omega) rfl
    have e2 := nearest_whole (decide (n < 0)) _ 0 hn h (by omega)
    rw [← e, e2]
    exact ⟨_, 52 - n.natAbs.log2, by omega, read_whole _ _ hn h, rfl⟩

/-- 'signed', of a whole number's digits -/
theorem signed_whole (s : Bool) (n : Int) (q M : Nat) (hq : q ≤ M) (hs : n ≠ 0 → s = decide (n < 0)) : signed s (n.natAbs * 2 ^ q) (M - q) = n * 2 ^ M := by
  have e : (n.natAbs * 2 ^ q) <<< (M - q) = n.natAbs * 2 ^ M := by
    rw [Nat.shiftLeft_eq, Nat.mul_assoc, ← Nat.pow_add]
    congr 2
    omega
  unfold signed
  rw [e]
  have ep : ((n.natAbs * 2 ^ M : Nat) : Int) = (n.natAbs : Int) * 2 ^ M := by simp
  rw [ep]
  by_cases h0 : n = 0
  · subst h0
    simp
  · rw [hs h0]
    by_cases hn : n < 0
    · rw [decide_eq_true hn, if_pos rfl, ← Int.neg_mul]
      congr 1
      omega
    · rw [decide_eq_false hn, if_neg (by simp)]
      congr 1
      omega

theorem pow_ne (M : Nat) : (2 : Int) ^ M ≠ 0 := by
  have : 0 < (2 : Int) ^ M := Int.pow_pos (by decide)
  omega

/-- THE SUM: exact, and never the negative zero -/
theorem add_whole {x y : Nat} {n k : Int} (hx : RepP x n) (hy : Rep y k) (h : (n + k).natAbs < 2 ^ 53) : double.add x y = some (word (n + k)) := by
  obtain ⟨s, q, hq, ex, hs⟩ := hx
  obtain ⟨t, r, hr, ey, ht⟩ := hy
  unfold Format.add
  rw [ex, ey]
  unfold Datum.sum
  dsimp only
  have hb : min (-(q : Int)) (-(r : Int)) = -((max q r : Nat) : Int) := by omega
  rw [hb, show (-(q : Int) - -((max q r : Nat) : Int)).toNat = max q r - q by omega, show (-(r : Int) - -((max q r : Nat) : Int)).toNat = max q r - r by omega,
    signed_whole s n q _ (by omega) (fun _ => hs), signed_whole t k r _ (by omega) ht, ← Int.add_mul]
  have hM : max q r ≤ 4000 := by omega
  generalize max q r = M at *
  have hp : 0 < (2 : Int) ^ M := Int.pow_pos (by decide)
  have habs : ((n + k) * 2 ^ M).natAbs = (n + k).natAbs * 2 ^ M := by
    rw [Int.natAbs_mul, Int.natAbs_pow]
    rfl
  have hz : ((n + k) * 2 ^ M = 0) ↔ n + k = 0 := by
    constructor
    · intro e
      rcases Int.mul_eq_zero.1 e with e | e
      · exact e
      · exact absurd e (pow_ne M)
    · intro e
      rw [e, Int.zero_mul]
  have hlt : ((n + k) * 2 ^ M < 0) ↔ n + k < 0 := by
    constructor
    · intro e
      rcases Int.lt_or_le (n + k) 0 with h | h
      · exact h
      · have := Int.mul_nonneg h (Int.le_of_lt hp)
        exact absurd e (by omega)
    · intro e
      exact Int.mul_neg_of_neg_of_pos e hp
  rw [habs]
  simp only [Option.map_some, Option.some.injEq]
  unfold Format.write
  dsimp only
  refine write_word _ (n + k) M h hM ?_
  by_cases h0 : n + k = 0
  · rw [if_pos (hz.2 h0), h0, hs]
    by_cases hn : n = 0
    · subst hn
      simp
    · rw [ht (by omega)]
      by_cases hneg : n < 0
      · rw [decide_eq_true hneg, decide_eq_false (by omega : ¬ k < 0)]
        rfl
      · rw [decide_eq_false hneg]
        rfl
  · rw [if_neg (fun e => h0 (hz.1 e))]
    simp only [hlt]

/-- THE PRODUCT by a positive whole number: exact -/
theorem mul_whole {x y : Nat} {n k : Int} (hx : Rep x n) (hy : Rep y k) (hk : 0 < k) (h : (n * k).natAbs < 2 ^ 53) : ∃ r, double.mul x y = some r ∧ Rep r (n * k) := by
  obtain ⟨s, q, hq, ex, hs⟩ := hx
  obtain ⟨t, r, hr, ey, ht⟩ := hy
  unfold Format.mul
  rw [ex, ey]
  unfold Datum.product
  simp only [Option.map_some]
  refine ⟨_, rfl, ?_⟩
  unfold Format.write
  dsimp only
  have e1 : n.natAbs * 2 ^ q * (k.natAbs * 2 ^ r) = (n * k).natAbs * 2 ^ (q + r) := by
    rw [Int.natAbs_mul, Nat.pow_add, Nat.mul_assoc, Nat.mul_assoc, Nat.mul_left_comm (2 ^ q)]
  have e2 : -(q : Int) + -(r : Int) = -((q + r : Nat) : Int) := by omega
  rw [e1, e2]
  refine write_whole _ (n * k) (q + r) h (by omega) fun h0 => ?_
  have hn : n ≠ 0 := fun e => h0 (by rw [e, Int.zero_mul])
  rw [hs hn, ht (by omega), decide_eq_false (by omega : ¬ k < 0), Bool.xor_false]
  rcases Int.lt_or_le n 0 with h1 | h1
  · rw [decide_eq_true h1, decide_eq_true (Int.mul_neg_of_neg_of_pos h1 hk)]
  · have := Int.mul_nonneg h1 (Int.le_of_lt hk)
    rw [decide_eq_false (by omega), decide_eq_false (by omega)]

/-- a double that an operation wrote is equal to itself where it is no NaN -/
theorem order_self_word (neg : Bool) (rung : Nat) (h : rung ≤ double.infRung) : double.order (double.word neg rung) (double.word neg rung) = some .eq := by
  have hinf : double.infRung = 2047 * 2 ^ 52 := by decide
  obtain ⟨h1, h2⟩ := word_parts neg rung (by omega)
  unfold Format.order Format.read
  rw [h1, h2]
  dsimp only
  split
  · simp [Datum.order]
  · split
    · simp [Datum.order]
    · rw [if_pos (by omega)]
      simp [Datum.order]
theorem order_self_nearest (neg : Bool) (mag : Nat) (place : Int) : double.order (double.nearest neg mag place) (double.nearest neg mag place) = some .eq := by
  unfold Format.nearest
  split
  · exact order_self_word neg 0 (Nat.zero_le _)
  · exact order_self_word neg _ (Nat.min_le_right _ _)

/-- THE QUOTIENT of two whole numbers, the second not 0: some number, equal to itself -/
theorem div_whole {x y : Nat} {n k : Int} (hx : Rep x n) (hy : Rep y k) (hk : k ≠ 0) : ∃ r, double.div x y = some r ∧ double.order r r = some .eq := by
  obtain ⟨s, q, hq, ex, hs⟩ := hx
  obtain ⟨t, r, hr, ey, ht⟩ := hy
  unfold Format.div
  rw [ex, ey]
  unfold Datum.quotient
  dsimp only
  rw [if_neg (Nat.mul_ne_zero (by omega) (Nat.pos_iff_ne_zero.1 (Nat.two_pow_pos r)))]
  simp only [Option.map_some]
  exact ⟨_, rfl, order_self_nearest _ _ _⟩

theorem cmp_mul (a b : Int) (M : Nat) : compare (a * 2 ^ M) (b * 2 ^ M) = compare a b := by
  have hp : 0 < (2 : Int) ^ M := Int.pow_pos (by decide)
  simp only [compare, compareOfLessAndEq]
  have h1 : (a * 2 ^ M < b * 2 ^ M) ↔ a < b := Int.mul_lt_mul_right hp
  have h2 : (a * 2 ^ M = b * 2 ^ M) ↔ a = b := ⟨fun e => Int.eq_of_mul_eq_mul_right (pow_ne M) e, fun e => by rw [e]⟩
  simp only [h1, h2]

/-- TWO WHOLE NUMBERS COMPARED -/
theorem order_whole {x y : Nat} {n k : Int} (hx : Rep x n) (hy : Rep y k) : double.order x y = some (compare n k) := by
  obtain ⟨s, q, hq, ex, hs⟩ := hx
  obtain ⟨t, r, hr, ey, ht⟩ := hy
  unfold Format.order
  rw [ex, ey]
  unfold Datum.order
  dsimp only
  have hb : min (-(q : Int)) (-(r : Int)) = -((max q r : Nat) : Int) := by omega
  rw [hb, show (-(q : Int) - -((max q r : Nat) : Int)).toNat = max q r - q by omega, show (-(r : Int) - -((max q r : Nat) : Int)).toNat = max q r - r by omega,
    signed_whole s n q _ (by omega) hs, signed_whole t k r _ (by omega) ht, cmp_mul]

/-- what a double reads as: of a number, how its digits may lie -/
theorem read_number {x : Nat} {s : Bool} {m : Nat} {i : Int} (h : double.read x = .number s m i) : -1074 ≤ i ∧ (0 < i → 2 ^ 52 ≤ m) := by
  have hlp : double.leastPlace = -1074 := by decide
  have hbin : double.binade = 2 ^ 52 := rfl
  unfold Format.read at h
  rw [hlp, hbin] at h
  dsimp only at h
  split at h
  · injection h with _ h2 h3
    omega
  · split at h
    · injection h with _ h2 h3
      omega
    · split at h <;> cases h

theorem word_top : double.read (word 1048576) = .number false (1048576 * 2 ^ 32) (-32) := by decide
theorem word_bot : double.read (word (-1048576)) = .number true (1048576 * 2 ^ 32) (-32) := by decide

theorem signed_abs (s : Bool) (m u : Nat) : signed s m u = (if s then -((m * 2 ^ u : Nat) : Int) else ((m * 2 ^ u : Nat) : Int)) := by
  unfold signed
  rw [Nat.shiftLeft_eq]

/-- 'v >= -(1<<20) && v <= 1<<20' holds: v is a number, and its size is bounded -/
theorem bounded {v : Nat} (h1 : double.order v (word (-1048576)) = some .gt ∨ double.order v (word (-1048576)) = some .eq) (h2 : double.order v (word 1048576) = some .lt ∨ double.order v (word 1048576) = some .eq) :
    ∃ s m i, double.read v = .number s m i ∧ ((0 ≤ i ∧ m * 2 ^ i.toNat ≤ 1048576) ∨ (i < 0 ∧ m ≤ 1048576 * 2 ^ (-i).toNat)) := by
  unfold Format.order at h1 h2
  rw [word_bot] at h1
  rw [word_top] at h2
  cases hv : double.read v with
  | nan s f => rw [hv] at h1; simp [Datum.order] at h1
  | infinity s => rw [hv] at h1 h2; cases s <;> simp [Datum.order] at h1 h2
  | number s m i =>
    rw [hv] at h1 h2
    refine ⟨s, m, i, rfl, ?_⟩
    unfold Datum.order at h1 h2
    dsimp only at h1 h2
    simp only [Option.some.injEq] at h1 h2
    have key : m * 2 ^ (i - min i (-32)).toNat ≤ 1048576 * 2 ^ 32 * 2 ^ (-32 - min i (-32)).toNat := by
      rw [signed_abs, signed_abs] at h1 h2
      cases s
      · have : ¬ ((1048576 * 2 ^ 32 * 2 ^ (-32 - min i (-32)).toNat : Nat) : Int) < ((m * 2 ^ (i - min i (-32)).toNat : Nat) : Int) := by
          intro hlt
          simp only [Bool.false_eq_true, if_false] at h2
          rw [Int.compare_eq_gt.2 hlt] at h2
          rcases h2 with h | h <;> cases h
        omega
      · have : ¬ (-((m * 2 ^ (i - min i (-32)).toNat : Nat) : Int)) < (-((1048576 * 2 ^ 32 * 2 ^ (-32 - min i (-32)).toNat : Nat) : Int)) := by
          intro hlt
          simp only [if_true] at h1
          rw [Int.compare_eq_lt.2 hlt] at h1
          rcases h1 with h | h <;> cases h
        omega
    rcases Int.lt_or_le i 0 with hi | hi
    · right
      refine ⟨hi, ?_⟩
      obtain ⟨D, hD⟩ : ∃ D : Nat, i = -(D : Int) := ⟨(-i).toNat, by omega⟩
      subst hD
      have e0 : (-(-(D : Int))).toNat = D := by omega
      have e1 : (-(D : Int) - min (-(D : Int)) (-32)).toNat = max D 32 - D := by omega
      have e2 : (-32 - min (-(D : Int)) (-32)).toNat = max D 32 - 32 := by omega
      rw [e1, e2, Nat.mul_assoc, ← Nat.pow_add, show 32 + (max D 32 - 32) = D + (max D 32 - D) by omega, Nat.pow_add, ← Nat.mul_assoc] at key
      rw [e0]
      exact Nat.le_of_mul_le_mul_right key (Nat.two_pow_pos _)
    · left
      refine ⟨hi, ?_⟩
      have e1 : (i - min i (-32)).toNat = i.toNat + 32 := by omega
      have e2 : (-32 - min i (-32)).toNat = 0 := by omega
      rw [e1, e2, Nat.pow_zero, Nat.mul_one, Nat.pow_add, ← Nat.mul_assoc] at key
      exact Nat.le_of_mul_le_mul_right key (Nat.two_pow_pos _)

theorem cut_down (s : Bool) (n d : Nat) : Toward.zero.cut s n d = n / 2 ^ min d (n.log2 + 2) := by
  unfold Toward.cut
  simp [Nat.one_shiftLeft]

/-- .. and 'int64(v)' is fixed by the language, and bounded -/
theorem to_int {v : Nat} {s : Bool} {m : Nat} {i : Int} (hv : double.read v = .number s m i) (hb : (0 ≤ i ∧ m * 2 ^ i.toNat ≤ 1048576) ∨ (i < 0 ∧ m ≤ 1048576 * 2 ^ (-i).toNat)) :
    ∃ N : Int, floatToIntVal .f64 v .i64 = some N ∧ N.natAbs ≤ 1048576 := by
  have hc : Toward.zero.cut s (m <<< i.toNat) (-i).toNat ≤ 1048576 := by
    rw [cut_down, Nat.shiftLeft_eq]
    rcases hb with ⟨hi, hb⟩ | ⟨hi, hb⟩
    · exact Nat.le_trans (Nat.div_le_self _ _) hb
    · rw [show i.toNat = 0 by omega, Nat.pow_zero, Nat.mul_one]
      rcases Nat.lt_or_ge (m.log2 + 2) (-i).toNat with h | h
      · rw [Nat.min_eq_right (by omega)]
        by_cases hm : m = 0
        · subst hm
          simp
        · rw [Nat.div_eq_of_lt (by have := (log2_between hm).2; have h2 : 2 ^ (m.log2 + 1) ≤ 2 ^ (m.log2 + 2) := Nat.pow_le_pow_right (by omega) (by omega); omega)]
          omega
      · rw [Nat.min_eq_left h]
        exact Nat.div_le_of_le_mul (by rw [Nat.mul_comm]; exact hb)
  have ht : (FloatKind.f64.decode v).toInt .zero = some (signed s (Toward.zero.cut s (m <<< i.toNat) (-i).toNat) 0) := by
    unfold FloatKind.decode
    rw [show FloatKind.f64.format = double from rfl, hv]
    rfl
  generalize Toward.zero.cut s (m <<< i.toNat) (-i).toNat = c at hc ht
  have hmin : IntKind.i64.min = -9223372036854775808 := by decide
  have hmax : IntKind.i64.max = 9223372036854775807 := by decide
  unfold floatToIntVal
  rw [ht]
  rw [signed_abs, Nat.pow_zero, Nat.mul_one]
  dsimp only
  rw [hmin, hmax]
  cases s
  · refine ⟨_, if_pos ⟨?_, ?_⟩, ?_⟩ <;> simp <;> omega
  · refine ⟨_, if_pos ⟨?_, ?_⟩, ?_⟩ <;> simp <;> omega

/-- 'float64(int64(v)) == v': v is that whole number -/
theorem rep_of_eq {v : Nat} {s : Bool} {m : Nat} {i : Int} (hv : double.read v = .number s m i) (hb : (0 ≤ i ∧ m * 2 ^ i.toNat ≤ 1048576) ∨ (i < 0 ∧ m ≤ 1048576 * 2 ^ (-i).toNat)) {N : Int} (hN : N.natAbs < 2 ^ 53)
    (he : double.order (word N) v = some .eq) : Rep v N := by
  obtain ⟨h1, h2⟩ := read_number hv
  have hi : i ≤ 0 := by
    rcases Int.lt_or_le 0 i with hi | hi
    · have h3 := h2 hi
      rcases hb with ⟨_, hb⟩ | ⟨hb, _⟩
      · have : m * 1 ≤ m * 2 ^ i.toNat := Nat.mul_le_mul_left _ (Nat.two_pow_pos _)
        omega
      · omega
    · exact hi
  obtain ⟨q, rfl⟩ : ∃ q : Nat, i = -(q : Int) := ⟨(-i).toNat, by omega⟩
  obtain ⟨t, r, hr, er, ht⟩ := word_repP N hN
  unfold Format.order at he
  rw [er, hv] at he
  unfold Datum.order at he
  dsimp only at he
  have hmn : min (-(r : Int)) (-(q : Int)) = -((max r q : Nat) : Int) := by omega
  rw [hmn, show (-(r : Int) - -((max r q : Nat) : Int)).toNat = max r q - r by omega, show (-(q : Int) - -((max r q : Nat) : Int)).toNat = max r q - q by omega, signed_whole t N r _ (by omega) (fun _ => ht), signed_abs] at he
  have hle : q ≤ max r q := by omega
  generalize max r q = M at he hle
  have he2 := Int.compare_eq_eq.1 (Option.some.inj he)
  have hp : (2 : Int) ^ M = 2 ^ q * 2 ^ (M - q) := by rw [← Int.pow_add]; congr 1; omega
  have hpn : (2 : Int) ^ (M - q) ≠ 0 := pow_ne _
  have e3 : N * 2 ^ q = if s then -(m : Int) else (m : Int) := by
    refine Int.eq_of_mul_eq_mul_right hpn ?_
    rw [Int.mul_assoc, ← hp, he2]
    cases s <;> simp [Int.neg_mul]
  have ea : (N * 2 ^ q).natAbs = N.natAbs * 2 ^ q := by
    rw [Int.natAbs_mul, Int.natAbs_pow]
    rfl
  have hm : m = N.natAbs * 2 ^ q := by
    rw [← ea, e3]
    cases s <;> simp
  refine ⟨s, q, by omega, by rw [hv, hm], fun h0 => ?_⟩
  have hpos : (0 : Int) < 2 ^ q := Int.pow_pos (by decide)
  cases s
  · have : ¬ N < 0 := by
      intro hneg
      have := Int.mul_neg_of_neg_of_pos hneg hpos
      rw [e3] at this
      simp at this
      omega
    rw [decide_eq_false this]
  · have : N < 0 := by
      rcases Int.lt_or_le N 0 with h | h
      · exact h
      · have h3 := Int.mul_nonneg h (Int.le_of_lt hpos)
        rw [e3] at h3
        simp only [if_true] at h3
        have hm0 : m = 0 := by omega
        rw [hm0] at hm
        have := Nat.mul_eq_zero.1 hm.symm
        have h2q := Nat.two_pow_pos q
        omega
    rw [decide_eq_true this]
end Go.Proofs.Qxb6601481a
