/-
  THE LAW's OWN MEMORY: the rows of the complete graph while they are built; Pascal's row. No walk in this text.
-/
import Derived.Test.Qxb6000686aOne
namespace Go.Proofs.Qxb6000686a
open Go.RowKit Go.Deep
set_option linter.unusedVariables false

/-- k rows are built -/
structure Bld (w wr : World) (N m n k : Nat) (R : Nat → Nat) : Prop where
  below : Below N w wr
  top : wr.rowIs N 23 n (fun j => if j < k then .slice (some ⟨R j, 0, none⟩) m n else .slice none 0 0)
  rows : ∀ j, j < k → wr.rowIs (R j) 21 n (fun i => .int .i32 (if i < m then nbC j i else 0))
  hi : ∀ j, j < k → N < R j

/-- how many neighbours of k lie below q -/
def cnt (k q : Nat) : Nat := if q ≤ k then q else q - 1
theorem cnt_zero (k : Nat) : cnt k 0 = 0 := by unfold cnt; simp
theorem cnt_end {m k : Nat} (hk : k < m + 1) : cnt k (m + 1) = m := by unfold cnt; rw [if_neg (by omega)]; omega
theorem cnt_skip (k : Nat) : cnt k (k + 1) = cnt k k := by unfold cnt; rw [if_neg (by omega), if_pos (Nat.le_refl _)]; omega
theorem cnt_step {k q : Nat} (h : q ≠ k) : cnt k (q + 1) = cnt k q + 1 := by unfold cnt; split <;> split <;> omega
theorem cnt_nb {k q : Nat} (h : q ≠ k) : nb k (cnt k q) = q := by unfold cnt nb; split <;> split <;> omega
theorem cnt_lt {m k q : Nat} (hk : k < m + 1) (hq : q < m + 1) (h : q ≠ k) : cnt k q < m := by unfold cnt; split <;> omega

/-- .. and inside: row k is made (in block b), its first cells laid -/
structure Bin (w wr : World) (N m n k q b : Nat) (R : Nat → Nat) : Prop where
  bld : Bld w wr N m n k R
  hi : N < b
  new : ∀ j, j < k → R j ≠ b
  cur : wr.rowIs b 21 n (fun i => .int .i32 (if i < cnt k q then nbC k i else 0))

section
variable {w wr : World} {N m n k q b : Nat} {R : Nat → Nat}
theorem Bld.alloc (h : Bld w wr N m n k R) (o : Obj) : Bld w (wr.alloc o) N m n k R :=
  ⟨h.below.alloc (Nat.le_of_lt h.top.lt) o, h.top.alloc o, fun j hj => (h.rows j hj).alloc o, h.hi⟩
theorem Bld.other (h : Bld w wr N m n k R) {a : Addr} (ha : N < a.block) (hn : ∀ j, j < k → R j ≠ a.block) (v : Value) : Bld w (wr.setCell a v) N m n k R :=
  ⟨h.below.setCell (Nat.le_of_lt ha) v, h.top.setOther (by omega) v, fun j hj => (h.rows j hj).setOther (hn j hj) v, h.hi⟩
theorem Bld.inn (h : Bld w wr N m n k R) : Bin w (wr.alloc (.cells (madeCells #[.int .i32 0] n) 21)) N m n k 0 wr.heap.size R :=
  ⟨h.alloc _, h.top.lt, fun j hj => by have := (h.rows j hj).lt; omega, (World.rowIs_made wr (.int .i32 0) n 21).congr (fun i _ => by rw [cnt_zero, if_neg (by omega)])⟩
theorem Bin.skip (h : Bin w wr N m n k k b R) : Bin w wr N m n k (k + 1) b R := ⟨h.bld, h.hi, h.new, h.cur.congr (fun i _ => by rw [cnt_skip])⟩
theorem Bin.take (h : Bin w wr N m n k q b R) (hq : q ≠ k) (o : Obj) : Bin w ((wr.alloc o).setCell ⟨b, cnt k q, none⟩ (.int .i32 (q : Int))) N m n k (q + 1) b R := by
  refine ⟨(h.bld.alloc o).other h.hi h.new _, h.hi, h.new, ((h.cur.alloc o).set _ _).congr (fun i _ => ?_)⟩
  by_cases e : i = cnt k q
  · rw [if_pos e, if_pos (by rw [cnt_step hq]; omega), e]
    show _ = Value.int .i32 ((nb k (cnt k q) : Nat) : Int)
    rw [cnt_nb hq]
  · rw [if_neg e]
    by_cases e2 : i < cnt k q
    · rw [if_pos e2, if_pos (by rw [cnt_step hq]; omega)]
    · rw [if_neg e2, if_neg (by rw [cnt_step hq]; omega)]
/-- row k is laid into the top row -/
theorem Bin.out (h : Bin w wr N m n k n b R) (hn : n = m + 1) (hk : k < n) : Bld w (wr.setCell ⟨N, k, none⟩ (.slice (some ⟨b, 0, none⟩) m n)) N m n (k + 1) (fun j => if j = k then b else R j) := by
  refine ⟨h.bld.below.setCell (Nat.le_refl _) _, (h.bld.top.set k _).congr (fun j _ => ?_), fun j hj => ?_, fun j hj => ?_⟩
  · by_cases e : j = k
    · subst e; simp
    · rw [if_neg e]
      by_cases e2 : j < k
      · rw [if_pos e2, if_pos (by omega)]; simp [e]
      · rw [if_neg e2, if_neg (by omega)]
  · by_cases e : j = k
    · subst e
      have := (h.cur.setOther (a := ⟨N, j, none⟩) (by show b ≠ N; have := h.hi; omega) (.slice (some ⟨b, 0, none⟩) m n)).congr (g := fun i => .int .i32 (if i < m then nbC j i else 0)) (fun i _ => by rw [hn, cnt_end (by omega)])
      simpa using this
    · have := (h.bld.rows j (by omega)).setOther (a := ⟨N, k, none⟩) (by show R j ≠ N; have := h.bld.hi j (by omega); omega) (.slice (some ⟨b, 0, none⟩) m n)
      simpa [e] using this
  · by_cases e : j = k
    · simp [e]; exact h.hi
    · simp [e]; exact h.bld.hi j (by omega)
theorem bld_start (w : World) (m n : Nat) (R : Nat → Nat) : Bld w (w.alloc (.cells (madeCells #[.slice none 0 0] n) 23)) w.heap.size m n 0 R :=
  ⟨(Below.refl _ _).alloc (Nat.le_refl _) _, (World.rowIs_made w _ n 23).congr (fun j _ => by simp), fun j hj => absurd hj (Nat.not_lt_zero _), fun j hj => absurd hj (Nat.not_lt_zero _)⟩
/-- all rows are built: a source for ZZNewStepBound, in whatever later world -/
theorem Bld.src {W : World} (h : Bld w wr N m n n R) (hn : n = m + 1) (hb : Below wr.heap.size wr W) : Src W N n m n R nbC := by
  refine Src.later (w := wr) ⟨fun v hv => ?_, fun v hv i hi => ?_, h.top.lt, fun v hv => (h.rows v hv).lt⟩ hb
  · rw [h.top.cell hv, if_pos hv]
  · rw [(h.rows v hv).cell (by omega), if_pos hi]
end

/-! ### Pascal's row -/
/-- the row behind round i, position j of it still to do: what lies beyond j is of round i -/
def pas (M : Int) (i j x : Nat) : Int := if x ≤ j then cap M (binom (i - 1) x) else cap M (binom i x)
theorem pas_start (M : Int) (i x : Nat) (hi : 1 ≤ i) : cap M (binom (i - 1) x) = pas M i i x := by
  unfold pas
  split
  · rfl
  · rw [binom_over (i - 1) x (by omega), binom_over i x (by omega)]
theorem pas_end (M : Int) (i x : Nat) : pas M i 0 x = cap M (binom i x) := by
  unfold pas
  split
  · rename_i h
    rw [show x = 0 by omega, binom_zero, binom_zero]
  · rfl
theorem pas_step (M : Int) (hM : 0 ≤ M) (i j : Nat) (hj : 1 ≤ j) (hi : 1 ≤ i) : sA (pas M i j j) (pas M i j (j - 1)) M = cap M (binom i j) := by
  unfold pas
  rw [if_pos (Nat.le_refl _), if_pos (by omega), sA_cap M hM]
  congr 1
  obtain ⟨j', rfl⟩ : ∃ j', j = j' + 1 := ⟨j - 1, by omega⟩
  obtain ⟨i', rfl⟩ : ∃ i', i = i' + 1 := ⟨i - 1, by omega⟩
  show binom i' (j' + 1) + binom i' j' = binom i' j' + binom i' (j' + 1)
  omega
theorem pas_set (M : Int) (i j x : Nat) (hj : 1 ≤ j) : (if x = j then cap M (binom i j) else pas M i j x) = pas M i (j - 1) x := by
  unfold pas
  by_cases e : x = j
  · rw [if_pos e, if_neg (by omega), e]
  · rw [if_neg e]
    by_cases e2 : x ≤ j
    · rw [if_pos e2, if_pos (by omega)]
    · rw [if_neg e2, if_neg (by omega)]
theorem pas_bd (M : Int) (hM : 0 ≤ M) (i j x : Nat) : 0 ≤ pas M i j x ∧ pas M i j x ≤ M := by
  unfold pas
  split
  · exact ⟨cap_nonneg M hM _, cap_le M _⟩
  · exact ⟨cap_nonneg M hM _, cap_le M _⟩
end Go.Proofs.Qxb6000686a
