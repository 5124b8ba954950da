/-
  SEAT b6000704a: THE PLAIN LAW of FnMotionMeanPerPixelModel: the sum over blocks, each as often as it holds pixels, is the sum over pixels; and how great the sums get on the way.
-/
namespace Go.Proofs.Qxb6000704a

def sumTo (f : Nat → Int) : Nat → Int
  | 0 => 0
  | n + 1 => sumTo f n + f n

theorem sumTo_succ (f : Nat → Int) (n : Nat) : sumTo f (n + 1) = sumTo f n + f n := rfl

theorem sumTo_congr {f g : Nat → Int} : ∀ (n : Nat), (∀ i, i < n → f i = g i) → sumTo f n = sumTo g n
  | 0, _ => rfl
  | n + 1, h => by rw [sumTo_succ, sumTo_succ, sumTo_congr n (fun i hi => h i (by omega)), h n (by omega)]

theorem sumTo_add (f : Nat → Int) (m : Nat) : ∀ n, sumTo f (m + n) = sumTo f m + sumTo (fun i => f (m + i)) n
  | 0 => by simp [sumTo]
  | n + 1 => by rw [← Nat.add_assoc, sumTo_succ, sumTo_add f m n, sumTo_succ]; omega

theorem sumTo_rows (F : Nat → Int) (A : Nat) : ∀ D, sumTo F (D * A) = sumTo (fun r => sumTo (fun c => F (r * A + c)) A) D
  | 0 => by simp [sumTo]
  | D + 1 => by rw [Nat.succ_mul, sumTo_add, sumTo_rows F A D, sumTo_succ]

theorem sumTo_abs (f : Nat → Int) (B : Nat) : ∀ n, (∀ i, i < n → (f i).natAbs ≤ B) → (sumTo f n).natAbs ≤ n * B
  | 0, _ => by simp [sumTo]
  | n + 1, h => by
    have h1 := sumTo_abs f B n (fun i hi => h i (by omega))
    have h2 := h n (by omega)
    rw [sumTo_succ, Nat.succ_mul]
    omega

/-- how many of the first W places lie in block b -/
def span (W b : Nat) : Nat := min (W - 4 * b) 4

theorem sumTo_one (f : Nat → Int) (j : Nat) : ∀ k, sumTo (fun b => if b = j then f b else 0) k = if j < k then f j else 0
  | 0 => by simp [sumTo]
  | k + 1 => by
    rw [sumTo_succ, sumTo_one f j k]
    by_cases h : k = j
    · subst h
      simp
    · rw [if_neg h]
      by_cases h2 : j < k
      · rw [if_pos h2, if_pos (by omega)]
        omega
      · rw [if_neg h2, if_neg (by omega)]
        rfl

theorem sumTo_plus (f g : Nat → Int) : ∀ n, sumTo (fun i => f i + g i) n = sumTo f n + sumTo g n
  | 0 => rfl
  | n + 1 => by rw [sumTo_succ, sumTo_succ, sumTo_succ, sumTo_plus f g n]; omega

/-- by fours -/
theorem sumTo_four (f : Nat → Int) (k : Nat) : ∀ W, W ≤ 4 * k → sumTo (fun x => f (x / 4)) W = sumTo (fun b => f b * (span W b : Int)) k
  | 0, _ => by
    have : ∀ n, sumTo (fun b => f b * (span 0 b : Int)) n = 0 := fun n => by
      induction n with
      | zero => rfl
      | succ n ih => rw [sumTo_succ, ih]; simp [span]
    rw [this]
    rfl
  | W + 1, h => by
    rw [sumTo_succ, sumTo_four f k W (by omega)]
    have e : ∀ b, f b * (span (W + 1) b : Int) = f b * (span W b : Int) + (if b = W / 4 then f b else 0) := by
      intro b
      by_cases hb : b = W / 4
      · rw [if_pos hb]
        have : span (W + 1) b = span W b + 1 := by
          unfold span
          omega
        rw [this, Int.natCast_add, Int.mul_add]
        simp
      · rw [if_neg hb]
        have : span (W + 1) b = span W b := by
          unfold span
          omega
        rw [this]
        omega
    rw [sumTo_congr k (fun b _ => e b), sumTo_plus, sumTo_one, if_pos (by omega)]

/-- what the law sums: pixel by pixel -/
def pix (val : Nat → Int) (A y x : Nat) : Int := val (y / 4 * A + x / 4)
def rowSum (val : Nat → Int) (A W y : Nat) : Int := sumTo (pix val A y) W
/-- what Mean sums: block by block -/
def blk (val : Nat → Int) (A W H b : Nat) : Int := val b * ((span W (b % A) * span H (b / A) : Nat) : Int)

theorem mul_sumTo (f : Nat → Int) (c : Int) : ∀ n, sumTo f n * c = sumTo (fun i => f i * c) n
  | 0 => by simp [sumTo]
  | n + 1 => by rw [sumTo_succ, sumTo_succ, Int.add_mul, mul_sumTo f c n]

/-- ████ THE PLAIN LAW -/
theorem pixels_blocks (val : Nat → Int) (A D W H : Nat) (hA : A = (W + 3) / 4) (hD : D = (H + 3) / 4) (hW : 1 ≤ W) : sumTo (rowSum val A W) H = sumTo (blk val A W H) (D * A) := by
  have hA0 : 0 < A := by omega
  have e1 : sumTo (rowSum val A W) H = sumTo (fun y => (fun r => sumTo (fun x => val (r * A + x / 4)) W) (y / 4)) H := rfl
  rw [e1, sumTo_four (fun r => sumTo (fun x => val (r * A + x / 4)) W) D H (by omega), sumTo_rows]
  refine sumTo_congr D fun r _ => ?_
  rw [sumTo_four (fun c => val (r * A + c)) A W (by omega), mul_sumTo]
  refine sumTo_congr A fun c hc => ?_
  unfold blk
  have h1 : (r * A + c) % A = c := by rw [Nat.add_comm, Nat.add_mul_mod_self_right, Nat.mod_eq_of_lt hc]
  have h2 : (r * A + c) / A = r := by rw [Nat.add_comm, Nat.add_mul_div_right _ _ hA0, Nat.div_eq_of_lt hc, Nat.zero_add]
  rw [h1, h2, Int.natCast_mul, Int.mul_assoc]

/-- what stands in the law while it sums -/
def part (val : Nat → Int) (A W y x : Nat) : Int := sumTo (rowSum val A W) y + sumTo (pix val A y) x

theorem span_le (W b : Nat) : span W b ≤ 4 := by unfold span; omega

theorem blk_abs (val : Nat → Int) (A W H n b : Nat) (hv : ∀ b, b < n → (val b).natAbs ≤ 1048576) (hb : b < n) : (blk val A W H b).natAbs ≤ 16777216 := by
  unfold blk
  rw [Int.natAbs_mul]
  have h1 := hv b hb
  have h2 : span W (b % A) * span H (b / A) ≤ 4 * 4 := Nat.mul_le_mul (span_le _ _) (span_le _ _)
  have h3 : (val b).natAbs * (((span W (b % A) * span H (b / A) : Nat) : Int)).natAbs ≤ 1048576 * 16 := Nat.mul_le_mul h1 (by rw [Int.natAbs_natCast]; omega)
  omega

theorem blocks_abs (val : Nat → Int) (A W H n b : Nat) (hv : ∀ b, b < n → (val b).natAbs ≤ 1048576) (hn : n ≤ 131072) (hb : b ≤ n) : (sumTo (blk val A W H) b).natAbs < 2 ^ 53 := by
  have h := sumTo_abs (blk val A W H) 16777216 b (fun i hi => blk_abs val A W H n i hv (by omega))
  omega

theorem at_lt (A D W H y x : Nat) (hA : A = (W + 3) / 4) (hD : D = (H + 3) / 4) (hy : y < H) (hx : x < W) : y / 4 * A + x / 4 < D * A := by
  have h1 : y / 4 + 1 ≤ D := by omega
  have h2 : x / 4 < A := by omega
  have h3 : (y / 4 + 1) * A ≤ D * A := Nat.mul_le_mul_right _ h1
  rw [Nat.add_mul] at h3
  omega

theorem area (A D W H : Nat) (hA : A = (W + 3) / 4) (hD : D = (H + 3) / 4) (hn : D * A ≤ 131072) : H * W ≤ 2097152 := by
  have h1 : H * W ≤ (4 * D) * (4 * A) := Nat.mul_le_mul (by omega) (by omega)
  have h2 : (4 * D) * (4 * A) = 16 * (D * A) := by rw [Nat.mul_mul_mul_comm]
  omega

theorem part_abs (val : Nat → Int) (A D W H y x : Nat) (hA : A = (W + 3) / 4) (hD : D = (H + 3) / 4) (hn : D * A ≤ 131072) (hv : ∀ b, b < D * A → (val b).natAbs ≤ 1048576) (hy : y < H) (hx : x ≤ W) : (part val A W y x).natAbs < 2 ^ 53 := by
  have hr : ∀ i, i < H → (rowSum val A W i).natAbs ≤ W * 1048576 := fun i hi => sumTo_abs _ _ W fun j hj => hv _ (at_lt A D W H i j hA hD hi hj)
  have h1 := sumTo_abs (rowSum val A W) (W * 1048576) y (fun i hi => hr i (by omega))
  have h2 := sumTo_abs (pix val A y) 1048576 x (fun j hj => hv _ (at_lt A D W H y j hA hD hy (by omega)))
  have ha := area A D W H hA hD hn
  have h3 : y * (W * 1048576) + x * 1048576 ≤ H * W * 1048576 := by
    have h4 : (y + 1) * W ≤ H * W := Nat.mul_le_mul_right _ hy
    rw [Nat.add_mul, Nat.one_mul] at h4
    rw [← Nat.mul_assoc, ← Nat.add_mul]
    exact Nat.mul_le_mul_right _ (by omega)
  unfold part
  omega
theorem part_next (val : Nat → Int) (A W y : Nat) : part val A W y W = part val A W (y + 1) 0 := by
  unfold part
  rw [sumTo_succ]
  simp [sumTo, rowSum]
end Go.Proofs.Qxb6000704a
