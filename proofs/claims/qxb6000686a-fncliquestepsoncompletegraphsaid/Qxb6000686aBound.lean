/-
  THE STATE OF A stepBound IN MEMORY WHILE cliqueSteps RUNS; the neighbours in the complete graph. No walk in this text.
-/
import Derived.Test.Qxb6000686aNew
namespace Go.Proofs.Qxb6000686a
open Go.RowKit Go.Deep
set_option linter.unusedVariables false

/-! ### The neighbours of v in the complete graph, in their order -/
def nb (v i : Nat) : Nat := if i < v then i else i + 1
theorem nb_lt {m v i : Nat} (hi : i < m) : nb v i < m + 1 := by unfold nb; split <;> omega
theorem nb_ne (v i : Nat) : nb v i ≠ v := by unfold nb; split <;> omega
theorem nb_inj {v i j : Nat} (h : nb v i = nb v j) : i = j := by unfold nb at h; split at h <;> split at h <;> omega
theorem nb_surj {m v j : Nat} (hj : j < m + 1) (hne : j ≠ v) (hv : v < m + 1) : ∃ i, i < m ∧ nb v i = j := by
  by_cases h : j < v
  · exact ⟨j, by omega, by unfold nb; rw [if_pos h]⟩
  · exact ⟨j - 1, by omega, by unfold nb; rw [if_neg (by omega)]; omega⟩
/-- .. as the rows hold them -/
def nbC (v i : Nat) : Int := (nb v i : Int)

/-! ### The stepBound -/
/-- the fourteen cells -/
def boxC (N n : Nat) (lim wk : Int) (cand : Value) (mark : Int) : Array Value :=
  #[.slice (some ⟨N + 1, 0, none⟩) n n, .slice (some ⟨N + 1 + 1 + n, 0, none⟩) n n, .int .i64 lim, .slice none 0 0, .int .i64 wk, .slice (some ⟨N + 1 + 1 + n + 1 + n, 0, none⟩) n n, .slice none 0 0, .slice none 0 0,
    .slice (some ⟨N + 1 + 1 + n + 1 + n + 1, 0, none⟩) n n, .slice (some ⟨N + 1 + 1 + n + 1 + n + 2, 0, none⟩) n n, cand, .slice (some ⟨N + 1 + 1 + n + 1 + n + 3, 0, none⟩) n n, .slice (some ⟨N + 1 + 1 + n + 1 + n + 4, 0, none⟩) n n, .int .i64 mark]

structure SB (w W : World) (N m n : Nat) (c : Nat → Nat → Int) (lim : Int) (cand : Value) (mark : Int) (f g : Nat → Int) : Prop where
  below : Below N w W
  size : N + 8 + 2 * n ≤ W.heap.size
  box : ∃ wk : Int, BoxAt W N (boxC N n lim wk cand mark)
  etop : W.rowIs (N + 1) 49 n (fun j => .slice (some ⟨N + 1 + 1 + j, 0, none⟩) m m)
  erow : ∀ j, j < n → W.rowIs (N + 1 + 1 + j) 47 m (fun i => .int .i32 (c j i))
  wtop : W.rowIs (N + 1 + 1 + n) 49 n (fun j => .slice (some ⟨N + 1 + 1 + n + 1 + j, 0, none⟩) m m)
  wrow : ∀ j, j < n → W.rowIs (N + 1 + 1 + n + 1 + j) 47 m (fun i => .int .i32 (c j i))
  ba : W.rowIs (N + 1 + 1 + n + 1 + n + 3) 3 n (fun j => .int .i64 (f j))
  wa : W.rowIs (N + 1 + 1 + n + 1 + n + 4) 3 n (fun j => .int .i64 (g j))

section
variable {w W W' : World} {N m n : Nat} {c : Nat → Nat → Int} {lim mark : Int} {cand : Value} {f g : Nat → Int}

theorem Fresh.sb (h : Fresh w W N m n c lim) : SB W W N m n c lim (.slice none 0 0) 0 (fun _ => 0) (fun _ => 0) :=
  ⟨Below.refl _ _, by rw [h.size]; omega, ⟨0, h.box⟩, h.etop, h.erow, h.wtop, h.wrow, h.ba, h.wa⟩

/-- Nothing below the end of the stepBound's own blocks has turned. -/
theorem SB.same (h : SB w W N m n c lim cand mark f g) (hb : Below (N + 8 + 2 * n) W W') : SB w W' N m n c lim cand mark f g := by
  have k : ∀ {b e q : Nat} {F : Nat → Value}, b < N + 8 + 2 * n → W.rowIs b e q F → W'.rowIs b e q F := fun hlt hr => hr.of_block (hb.block _ hlt)
  obtain ⟨wk, hx⟩ := h.box
  exact ⟨h.below.trans (hb.mono (by omega)), Nat.le_trans h.size hb.size, ⟨wk, (hb.block N (by omega)).trans hx⟩, k (by omega) h.etop, fun j hj => k (by omega) (h.erow j hj), k (by omega) h.wtop, fun j hj => k (by omega) (h.wrow j hj), k (by omega) h.ba, k (by omega) h.wa⟩

theorem SB.alloc (h : SB w W N m n c lim cand mark f g) (o : Obj) : SB w (W.alloc o) N m n c lim cand mark f g := h.same ((Below.refl _ _).alloc h.size o)
theorem SB.drew (h : SB w W N m n c lim cand mark f g) : SB w W.drew N m n c lim cand mark f g := h.same (Below.refl _ _).drew
theorem SB.high (h : SB w W N m n c lim cand mark f g) {a : Addr} (ha : N + 8 + 2 * n ≤ a.block) (v : Value) : SB w (W.setCell a v) N m n c lim cand mark f g := h.same ((Below.refl _ _).setCell ha v)

/-- a store into a cell of the box -/
theorem SB.boxed (h : SB w W N m n c lim cand mark f g) (i : Nat) (v : Value) {cand' : Value} {mark' : Int} (hv : ∀ wk, ∃ wk', (boxC N n lim wk cand mark).setIfInBounds i v = boxC N n lim wk' cand' mark') :
    SB w (W.setCell ⟨N, i, none⟩ v) N m n c lim cand' mark' f g := by
  obtain ⟨wk, hx⟩ := h.box
  obtain ⟨wk', hw⟩ := hv wk
  have k : ∀ {b e q : Nat} {F : Nat → Value}, b ≠ N → W.rowIs b e q F → (W.setCell ⟨N, i, none⟩ v).rowIs b e q F := fun hne hr => hr.setOther (a := ⟨N, i, none⟩) hne v
  exact ⟨h.below.setCell (Nat.le_refl _) _, by simpa using h.size, ⟨wk', hw ▸ hx.setCell i v⟩, k (by omega) h.etop, fun j hj => k (by omega) (h.erow j hj), k (by omega) h.wtop, fun j hj => k (by omega) (h.wrow j hj), k (by omega) h.ba, k (by omega) h.wa⟩
theorem SB.setMark (h : SB w W N m n c lim cand mark f g) (k : Int) : SB w (W.setCell ⟨N, 13, none⟩ (.int .i64 k)) N m n c lim cand k f g := h.boxed 13 _ fun wk => ⟨wk, rfl⟩
theorem SB.setCand (h : SB w W N m n c lim cand mark f g) (v : Value) : SB w (W.setCell ⟨N, 10, none⟩ v) N m n c lim v mark f g := h.boxed 10 _ fun wk => ⟨wk, rfl⟩
theorem SB.setWork (h : SB w W N m n c lim cand mark f g) (k : Int) : SB w (W.setCell ⟨N, 4, none⟩ (.int .i64 k)) N m n c lim cand mark f g := h.boxed 4 _ fun wk => ⟨k, rfl⟩

theorem SB.setBA (h : SB w W N m n c lim cand mark f g) (i : Nat) (v : Int) : SB w (W.setCell ⟨N + 1 + 1 + n + 1 + n + 3, i, none⟩ (.int .i64 v)) N m n c lim cand mark (fun j => if j = i then v else f j) g := by
  obtain ⟨wk, hx⟩ := h.box
  have k : ∀ {b e q : Nat} {F : Nat → Value}, b ≠ N + 1 + 1 + n + 1 + n + 3 → W.rowIs b e q F → (W.setCell ⟨N + 1 + 1 + n + 1 + n + 3, i, none⟩ (.int .i64 v)).rowIs b e q F := fun hne hr => hr.setOther (a := ⟨N + 1 + 1 + n + 1 + n + 3, i, none⟩) hne _
  refine ⟨h.below.setCell (show N ≤ N + 1 + 1 + n + 1 + n + 3 by omega) _, by simpa using h.size, ⟨wk, hx.setOther (show N ≠ N + 1 + 1 + n + 1 + n + 3 by omega) _⟩, k (by omega) h.etop, fun j hj => k (by omega) (h.erow j hj), k (by omega) h.wtop, fun j hj => k (by omega) (h.wrow j hj), (h.ba.set i _).congr (fun j _ => ?_), k (by omega) h.wa⟩
  by_cases e : j = i
  · rw [if_pos e, if_pos e]
  · rw [if_neg e, if_neg e]
theorem SB.setWA (h : SB w W N m n c lim cand mark f g) (i : Nat) (v : Int) : SB w (W.setCell ⟨N + 1 + 1 + n + 1 + n + 4, i, none⟩ (.int .i64 v)) N m n c lim cand mark f (fun j => if j = i then v else g j) := by
  obtain ⟨wk, hx⟩ := h.box
  have k : ∀ {b e q : Nat} {F : Nat → Value}, b ≠ N + 1 + 1 + n + 1 + n + 4 → W.rowIs b e q F → (W.setCell ⟨N + 1 + 1 + n + 1 + n + 4, i, none⟩ (.int .i64 v)).rowIs b e q F := fun hne hr => hr.setOther (a := ⟨N + 1 + 1 + n + 1 + n + 4, i, none⟩) hne _
  refine ⟨h.below.setCell (show N ≤ N + 1 + 1 + n + 1 + n + 4 by omega) _, by simpa using h.size, ⟨wk, hx.setOther (show N ≠ N + 1 + 1 + n + 1 + n + 4 by omega) _⟩, k (by omega) h.etop, fun j hj => k (by omega) (h.erow j hj), k (by omega) h.wtop, fun j hj => k (by omega) (h.wrow j hj), k (by omega) h.ba, (h.wa.set i _).congr (fun j _ => ?_)⟩
  by_cases e : j = i
  · rw [if_pos e, if_pos e]
  · rw [if_neg e, if_neg e]

/-- The cells that the walk reads. -/
theorem SB.c0 (h : SB w W N m n c lim cand mark f g) : W.cell? ⟨N, 0, none⟩ = some (.slice (some ⟨N + 1, 0, none⟩) n n) := by obtain ⟨wk, hx⟩ := h.box; exact hx.cell rfl
theorem SB.c1 (h : SB w W N m n c lim cand mark f g) : W.cell? ⟨N, 1, none⟩ = some (.slice (some ⟨N + 1 + 1 + n, 0, none⟩) n n) := by obtain ⟨wk, hx⟩ := h.box; exact hx.cell rfl
theorem SB.c2 (h : SB w W N m n c lim cand mark f g) : W.cell? ⟨N, 2, none⟩ = some (.int .i64 lim) := by obtain ⟨wk, hx⟩ := h.box; exact hx.cell rfl
theorem SB.c4 (h : SB w W N m n c lim cand mark f g) : ∃ wk, W.cell? ⟨N, 4, none⟩ = some (.int .i64 wk) := by obtain ⟨wk, hx⟩ := h.box; exact ⟨wk, hx.cell rfl⟩
theorem SB.c10 (h : SB w W N m n c lim cand mark f g) : W.cell? ⟨N, 10, none⟩ = some cand := by obtain ⟨wk, hx⟩ := h.box; exact hx.cell rfl
theorem SB.c11 (h : SB w W N m n c lim cand mark f g) : W.cell? ⟨N, 11, none⟩ = some (.slice (some ⟨N + 1 + 1 + n + 1 + n + 3, 0, none⟩) n n) := by obtain ⟨wk, hx⟩ := h.box; exact hx.cell rfl
theorem SB.c12 (h : SB w W N m n c lim cand mark f g) : W.cell? ⟨N, 12, none⟩ = some (.slice (some ⟨N + 1 + 1 + n + 1 + n + 4, 0, none⟩) n n) := by obtain ⟨wk, hx⟩ := h.box; exact hx.cell rfl
theorem SB.c13 (h : SB w W N m n c lim cand mark f g) : W.cell? ⟨N, 13, none⟩ = some (.int .i64 mark) := by obtain ⟨wk, hx⟩ := h.box; exact hx.cell rfl
theorem SB.free (h : SB w W N m n c lim cand mark f g) (i : Nat) : W.frozen? ⟨N, i, none⟩ = false := by obtain ⟨wk, hx⟩ := h.box; exact hx.frozen i
end

/-! ### The marks of one round -/
structure Mk (f : Nat → Int) (m X i : Nat) (T : Int) : Prop where
  done : ∀ j, j < i → f (nb X j) = T
  le : ∀ j, j < m + 1 → f j ≤ T
  x : f X < T
theorem mk_start {f : Nat → Int} {m X : Nat} {T : Int} (hX : X < m + 1) (h : ∀ j, j < m + 1 → f j ≤ T) : Mk f m X 0 (T + 1) :=
  ⟨fun j hj => absurd hj (Nat.not_lt_zero _), fun j hj => by have := h j hj; omega, by have := h X hX; omega⟩
theorem mk_step {f : Nat → Int} {m X i : Nat} {T : Int} (h : Mk f m X i T) : Mk (fun j => if j = nb X i then T else f j) m X (i + 1) T := by
  refine ⟨fun j hj => ?_, fun j hj => ?_, ?_⟩
  · by_cases e : j = i
    · subst e; simp
    · show (if nb X j = nb X i then T else f (nb X j)) = T
      split
      · rfl
      · exact h.done j (by omega)
  · show (if j = nb X i then T else f j) ≤ T
    split
    · exact Int.le_refl _
    · exact h.le j hj
  · show (if X = nb X i then T else f X) < T
    rw [if_neg (fun e => nb_ne X i e.symm)]
    exact h.x
theorem mk_end {f : Nat → Int} {m X : Nat} {T : Int} (h : Mk f m X m T) (hX : X < m + 1) (j : Nat) (hj : j < m + 1) (hne : j ≠ X) : f j = T := by
  obtain ⟨i, hi, rfl⟩ := nb_surj hj hne hX
  exact h.done i hi

/-! ### The rounds of the clique -/
/-- the one that joins in round t + 1 -/
def xs (r t : Nat) : Nat := if t = 0 then r else nb r (t - 1)
/-- how many candidates there are ahead of it -/
def Ls (m t : Nat) : Nat := if t = 0 then m else m + 1 - t
/-- is the first candidate the one that joins? -/
def sh (t : Nat) : Nat := if t = 0 then 0 else 1
/-- the candidates ahead of round t + 1 -/
def cd (r t i : Nat) : Nat := nb r (t - 1 + i)

theorem xs_lt {m r t : Nat} (hr : r < m + 1) (ht : t ≤ m) : xs r t < m + 1 := by
  unfold xs; split
  · exact hr
  · exact nb_lt (by omega)
theorem cd_lt {m r t i : Nat} (ht : t ≤ m) (hi : i < Ls m t) : cd r t i < m + 1 := by
  unfold Ls at hi; unfold cd
  split at hi
  · exact nb_lt (by omega)
  · exact nb_lt (by omega)
theorem cd_ne {r t i : Nat} (hi : sh t ≤ i) : cd r t i ≠ xs r t := by
  unfold sh at hi; unfold cd xs
  split
  · exact nb_ne r _
  · rename_i h
    rw [if_neg h] at hi
    intro e
    have := nb_inj e
    omega
theorem cd_eq {r t i : Nat} (hi : i < sh t) : cd r t i = xs r t := by
  unfold sh at hi; unfold cd xs
  split at hi
  · omega
  · rename_i h
    rw [if_neg h]
    congr 1
    omega
theorem cd_next (r t p : Nat) : cd r t (p + sh t) = cd r (t + 1) p := by
  unfold cd sh
  congr 1
  split <;> omega
theorem Ls_next {m t : Nat} (ht : t ≤ m) : Ls m t - sh t = Ls m (t + 1) ∧ sh t ≤ Ls m t ∧ Ls m (t + 1) = m - t := by
  unfold Ls sh
  rw [if_neg (show ¬ t + 1 = 0 by omega)]
  split <;> omega
theorem xs_next (r t : Nat) : xs r (t + 1) = cd r (t + 1) 0 := by
  unfold xs cd
  rw [if_neg (by omega)]
  rfl
theorem Ls_le {m t : Nat} (ht : t ≤ m) : Ls m t ≤ m := by unfold Ls; split <;> omega

/-- 'append(s, v)' WITHIN THE CAPACITY: the one cell is set, all else stands. -/
theorem wpList_append_one {P : Program} (w : World) {ops : Array Oper} {rest : List Oper} {o : Oper} {a : Act} {Q : Exit → Act → World → Prop}
    (hg : o.guard = none) (s x : Operand) (t : TypeId) (hop : o.op = Op.call { callee := Callee.builtin Builtin.append, args := #[s, x], argTypes := #[t, t] })
    (e : TypeId) (i : TypeInfo) (h1 : P.underlying t = some (.slice e)) (h2 : P.info? e = some i) (h4 : i.size = 1)
    (b n cap : Nat) (hs : a.eval s = .slice (some ⟨b, 0, none⟩) n cap) (ad : Addr) (c : Nat) (v : Value) (hx : a.eval x = .slice (some ad) 1 c)
    (hc : w.cell? ad = some v) (h1c : v.oneCell' = true) (hroom : n + 1 ≤ cap) (hsp : (w.cell? ⟨b, n, none⟩).isSome = true) (hfr : w.frozen? ⟨b, n, none⟩ = false)
    (hK : wpList P ops Q rest (a.put o.dst (.slice (some ⟨b, 0, none⟩) (n + 1) cap)) (w.setCell ⟨b, n, none⟩ v)) :
    wpList P ops Q (o :: rest) a w := by
  refine wpList_plain hg fun K hK' => ?_
  have hcell : ∀ j u, [v][j]? = some u → w.cell? (ad.add j) = some u := by
    intro j u hj
    match j, hj with
    | 0, hj =>
      obtain rfl : v = u := by simpa using hj
      have e : ad.add 0 = ad := by simp [Addr.add]
      rw [e]; exact hc
  have hrun := run_append_room_cells (P := P) w t o.type e i h1 h2 b 0 n cap ad 1 c [v] (by simp [h4]) hcell (fun u hu => by simp at hu; subst hu; exact h1c) hroom
    (fun j hj => by have : j = 0 := by simpa using hj
                    subst this; simpa [h4] using hsp)
    (fun j hj => by have : j = 0 := by simpa using hj
                    subst this; simpa [h4] using hfr)
  have e2 : w.setCells b (0 + n * i.size) [v] = w.setCell ⟨b, n, none⟩ v := by
    rw [h4]; simp [World.setCells]
  rw [e2] at hrun
  unfold Oper.wp
  simp [execOp, hop, resolve, invoke, builtin, hs, hx, hrun, Result.andThen]
  exact hK' _ _ hK
end Go.Proofs.Qxb6000686a
