/-
  THE WALK OF ZZNewStepBound (15): a fresh stepBound, the rows copied.
-/
import Derived.Test.Qxb6000686aSat
import Derived.Deep.OwnRows
import Derived.Deep.Cut
namespace Go.Proofs.Qxb6000686a
open Go.RowKit Go.Deep
set_option linter.unusedVariables false

theorem info3 : (Try.prog.info? 3).map (fun i => (i.zero, i.size, i.bytes)) = some (some (.int .i64 0), 1, 8) := by kernel_rfl
theorem info21 : (Try.prog.info? 21).map (fun i => (i.zero, i.size, i.bytes)) = some (some (.int .i32 0), 1, 4) := by kernel_rfl
theorem info47 : (Try.prog.info? 47).map (fun i => (i.zero, i.size, i.bytes)) = some (some (.int .i32 0), 1, 4) := by kernel_rfl
theorem info49 : (Try.prog.info? 49).map (fun i => (i.zero, i.size, i.bytes)) = some (some (.slice none 0 0), 1, 24) := by kernel_rfl
theorem info23 : (Try.prog.info? 23).map (fun i => (i.zero, i.size, i.bytes)) = some (some (.slice none 0 0), 1, 24) := by kernel_rfl

/-- THE COPYING LOOP: k rows are copied: the new top row is block T, the new rows T + 1 + j; below T the world is as wb was. -/
structure Cp (wb wr : World) (T m n k : Nat) (c : Nat → Nat → Int) : Prop where
  below : Below T wb wr
  size : wr.heap.size = T + 1 + k
  top : wr.rowIs T 49 n (fun j => if j < k then .slice (some ⟨T + 1 + j, 0, none⟩) m m else .slice none 0 0)
  rows : ∀ j, j < k → wr.rowIs (T + 1 + j) 47 m (fun i => .int .i32 (c j i))

/-- .. and inside: row k is made, i of its cells are filled. -/
structure Ci (wb wr : World) (T m n k i : Nat) (c : Nat → Nat → Int) : Prop where
  below : Below T wb wr
  size : wr.heap.size = T + 1 + k + 1
  top : wr.rowIs T 49 n (fun j => if j < k then .slice (some ⟨T + 1 + j, 0, none⟩) m m else .slice none 0 0)
  rows : ∀ j, j < k → wr.rowIs (T + 1 + j) 47 m (fun i => .int .i32 (c j i))
  cur : wr.rowIs (T + 1 + k) 47 m (fun j => if j < i then .int .i32 (c k j) else .int .i32 0)

theorem cp_in {wb wr : World} {T m n k : Nat} {c : Nat → Nat → Int} (h : Cp wb wr T m n k c) :
    Ci wb (wr.alloc (.cells (madeCells #[.int .i32 0] m) 47)) T m n k 0 c := by
  have hnew := World.rowIs_made wr (.int .i32 0) m 47
  rw [h.size] at hnew
  exact ⟨h.below.alloc (by rw [h.size]; omega) _, by simp [h.size], h.top.alloc _, fun j hj => (h.rows j hj).alloc _, hnew.congr (fun i _ => by simp)⟩

theorem ci_step {wb wr : World} {T m n k i : Nat} {c : Nat → Nat → Int} (h : Ci wb wr T m n k i c) :
    Ci wb (wr.setCell ⟨T + 1 + k, i, none⟩ (.int .i32 (c k i))) T m n k (i + 1) c := by
  refine ⟨h.below.setCell (by show T ≤ T + 1 + k; omega) _, by simp [h.size], h.top.setOther (by show T ≠ T + 1 + k; omega) _, fun j hj => (h.rows j hj).setOther (by show T + 1 + j ≠ T + 1 + k; omega) _, (h.cur.set i _).congr (fun j _ => ?_)⟩
  by_cases e : j = i
  · subst e; simp
  · rw [if_neg e]
    by_cases hlt : j < i
    · rw [if_pos hlt, if_pos (by omega)]
    · rw [if_neg hlt, if_neg (by omega)]

theorem ci_out {wb wr : World} {T m n k : Nat} {c : Nat → Nat → Int} (h : Ci wb wr T m n k m c) :
    Cp wb (wr.setCell ⟨T, k, none⟩ (.slice (some ⟨T + 1 + k, 0, none⟩) m m)) T m n (k + 1) c := by
  refine ⟨h.below.setCell (Nat.le_refl _) _, by simp [h.size]; omega, (h.top.set k _).congr (fun j _ => ?_), fun j hj => ?_⟩
  · by_cases e : j = k
    · subst e; simp
    · rw [if_neg e]
      by_cases hlt : j < k
      · rw [if_pos hlt, if_pos (by omega)]
      · rw [if_neg hlt, if_neg (by omega)]
  · by_cases e : j = k
    · subst e
      exact (h.cur.setOther (by show T + 1 + j ≠ T; omega) _).congr (fun i hi => by rw [if_pos hi])
    · exact (h.rows j (by omega)).setOther (by show T + 1 + j ≠ T; omega) _

/-- A source of rows, below block T. -/
structure Src (w : World) (b0 cp m n : Nat) (R : Nat → Nat) (c : Nat → Nat → Int) : Prop where
  top : ∀ v, v < n → w.cell? ⟨b0, v, none⟩ = some (.slice (some ⟨R v, 0, none⟩) m cp)
  row : ∀ v, v < n → ∀ i, i < m → w.cell? ⟨R v, i, none⟩ = some (.int .i32 (c v i))
  lt0 : b0 < w.heap.size
  ltR : ∀ v, v < n → R v < w.heap.size

theorem Src.later {w w' : World} {b0 cp m n : Nat} {R : Nat → Nat} {c : Nat → Nat → Int} (h : Src w b0 cp m n R c) (hb : Below w.heap.size w w') : Src w' b0 cp m n R c :=
  ⟨fun v hv => (hb.cell (p := ⟨b0, v, none⟩) h.lt0).trans (h.top v hv), fun v hv i hi => (hb.cell (p := ⟨R v, i, none⟩) (h.ltR v hv)).trans (h.row v hv i hi), Nat.lt_of_lt_of_le h.lt0 hb.size, fun v hv => Nat.lt_of_lt_of_le (h.ltR v hv) hb.size⟩

/-- the stepBound's fourteen cells -/
def boxA (N n : Nat) (lim : Int) : Array Value :=
  #[.slice (some ⟨N + 1, 0, none⟩) n n, .slice none 0 0, .int .i64 lim, .slice none 0 0, .int .i64 0, .slice none 0 0, .slice none 0 0, .slice none 0 0, .slice none 0 0, .slice none 0 0, .slice none 0 0, .slice none 0 0, .slice none 0 0, .int .i64 0]
/-- the world ahead of the first loop -/
def wb1 (w : World) (n : Nat) (lim : Int) : World := (w.alloc (.cells (boxA w.heap.size n lim) 52)).alloc (.cells (madeCells #[.slice none 0 0] n) 49)

theorem cp_start (w0 : World) (m n : Nat) (c : Nat → Nat → Int) : Cp (w0.alloc (.cells (madeCells #[.slice none 0 0] n) 49)) (w0.alloc (.cells (madeCells #[.slice none 0 0] n) 49)) w0.heap.size m n 0 c :=
  ⟨Below.refl _ _, by simp, (World.rowIs_made w0 _ n 49).congr (fun j _ => by simp), fun j hj => absurd hj (Nat.not_lt_zero _)⟩

theorem wb1_start (w : World) (m n : Nat) (lim : Int) (c : Nat → Nat → Int) : Cp (wb1 w n lim) (wb1 w n lim) (w.heap.size + 1) m n 0 c := by
  have h := cp_start (w.alloc (.cells (boxA w.heap.size n lim) 52)) m n c
  rw [show (w.alloc (.cells (boxA w.heap.size n lim) 52)).heap.size = w.heap.size + 1 by simp] at h
  exact h

theorem wb1_below (w : World) (n : Nat) (lim : Int) : Below w.heap.size w (wb1 w n lim) :=
  ((Below.refl _ _).alloc (Nat.le_refl _) _).alloc (by simp) _

theorem wb1_box (w : World) (n : Nat) (lim : Int) : (wb1 w n lim).heap[w.heap.size]? = some (.cells (boxA w.heap.size n lim) 52 (0, 0)) := by
  unfold wb1
  rw [blk_alloc_lt _ _ _ (by simp), blk_alloc_new]

theorem box_cell {wr : World} {N i : Nat} {A : Array Value} {v : Value} (hb : wr.heap[N]? = some (.cells A 52 (0, 0))) (hi : A[i]? = some v) :
    wr.cell? ⟨N, i, none⟩ = some v ∧ wr.frozen? ⟨N, i, none⟩ = false := by
  constructor
  · simp [World.cell?, hb, hi]
  · simp [World.frozen?, hb]
theorem box_alloc {wr : World} {N i : Nat} {A : Array Value} {v : Value} (hb : wr.heap[N]? = some (.cells A 52 (0, 0))) (hi : A[i]? = some v) (o : Obj) :
    (wr.alloc o).cell? ⟨N, i, none⟩ = some v ∧ (wr.alloc o).frozen? ⟨N, i, none⟩ = false := by
  have hlt : N < wr.heap.size := (Array.getElem?_eq_some_iff.1 hb).1
  exact box_cell ((blk_alloc_lt _ _ _ hlt).trans hb) hi

/-- Block N holds the cells A of a stepBound. -/
def BoxAt (w : World) (N : Nat) (A : Array Value) : Prop := w.heap[N]? = some (.cells A 52 (0, 0))
theorem BoxAt.lt {w : World} {N : Nat} {A : Array Value} (h : BoxAt w N A) : N < w.heap.size := (Array.getElem?_eq_some_iff.1 h).1
theorem BoxAt.alloc {w : World} {N : Nat} {A : Array Value} (h : BoxAt w N A) (o : Obj) : BoxAt (w.alloc o) N A := (blk_alloc_lt _ _ _ h.lt).trans h
theorem BoxAt.setCell {w : World} {N : Nat} {A : Array Value} (h : BoxAt w N A) (i : Nat) (v : Value) : BoxAt (w.setCell ⟨N, i, none⟩ v) N (A.setIfInBounds i v) := by
  unfold BoxAt at h ⊢
  simp [World.setCell, Array.getElem?_modify, h]
theorem BoxAt.setOther {w : World} {N : Nat} {A : Array Value} (h : BoxAt w N A) {a : Addr} (ha : N ≠ a.block) (v : Value) : BoxAt (w.setCell a v) N A := (blk_setCell_other _ _ _ _ ha).trans h
theorem BoxAt.cell {w : World} {N i : Nat} {A : Array Value} {v : Value} (h : BoxAt w N A) (hi : A[i]? = some v) : w.cell? ⟨N, i, none⟩ = some v := (box_cell h hi).1
theorem BoxAt.frozen {w : World} {N : Nat} {A : Array Value} (h : BoxAt w N A) (i : Nat) : w.frozen? ⟨N, i, none⟩ = false := by
  unfold BoxAt at h; simp [World.frozen?, h]

/-- Forget how a world was come by. -/
theorem gen_world {P : Program} {c : Code} {Q : Exit → Act → World → Prop} {a : Act} {w : World} (p : World → Prop) (hp : p w) (h : ∀ W, p W → Code.wp P c Q a W) : Code.wp P c Q a w := h w hp

/-- THE LAST ROWS OF ZZNewStepBound: t tables are made since w1; all old blocks but the box are as they were. -/
structure Tl (w1 W : World) (N : Nat) (A : Array Value) (t : Nat) : Prop where
  box : BoxAt W N A
  keep : ∀ b, b ≠ N → b < w1.heap.size → W.heap[b]? = w1.heap[b]?
  size : W.heap.size = w1.heap.size + t
  below : Below N w1 W
theorem Tl.start {w1 : World} {N : Nat} {A : Array Value} (h : BoxAt w1 N A) : Tl w1 w1 N A 0 := ⟨h, fun _ _ _ => rfl, rfl, Below.refl _ _⟩
theorem Tl.step {w1 W : World} {N : Nat} {A : Array Value} {t : Nat} (h : Tl w1 W N A t) (o : Obj) (f : Nat) (v : Value) : Tl w1 ((W.alloc o).setCell ⟨N, f, none⟩ v) N (A.setIfInBounds f v) (t + 1) := by
  have hlt := h.box.lt
  refine ⟨(h.box.alloc o).setCell f v, fun b hb hb1 => ?_, ?_, Below.setCell (p := ⟨N, f, none⟩) (h.below.alloc (Nat.le_of_lt hlt) o) (Nat.le_refl _) v⟩
  · rw [blk_setCell_other _ _ _ _ hb, blk_alloc_lt _ _ _ (by rw [h.size]; omega)]
    exact h.keep b hb hb1
  · simp [h.size]; omega
theorem Tl.row {w1 W : World} {N b e n : Nat} {A : Array Value} {t : Nat} {g : Nat → Value} (h : Tl w1 W N A t) (hr : w1.rowIs b e n g) (hb : b ≠ N) : W.rowIs b e n g := hr.of_block (h.keep b hb hr.lt)
/-- the table that is made in such a step -/
theorem Tl.made {w1 W : World} {N n e : Nat} {A : Array Value} {t : Nat} (h : Tl w1 W N A t) (z : Value) (f : Nat) (v : Value) : ((W.alloc (.cells (madeCells #[z] n) e)).setCell ⟨N, f, none⟩ v).rowIs (w1.heap.size + t) e n (fun _ => z) := by
  have hr := World.rowIs_made W z n e
  rw [h.size] at hr
  exact hr.setOther (a := ⟨N, f, none⟩) (by show w1.heap.size + t ≠ N; have := h.box.lt; rw [h.size] at this; have := h.below.size; intro e; subst e; have := h.box.lt; rw [h.size] at this; omega) v

/-- the world ahead of the second loop -/
def wb2 (wr : World) (N n : Nat) : World := (wr.alloc (.cells (madeCells #[.slice none 0 0] n) 49)).setCell ⟨N, 1, none⟩ (.slice (some ⟨N + 1 + 1 + n, 0, none⟩) n n)

theorem wb2_start {wb wr : World} {N m n : Nat} {c : Nat → Nat → Int} (h : Cp wb wr (N + 1) m n n c) : Cp (wb2 wr N n) (wb2 wr N n) (N + 1 + 1 + n) m n 0 c := by
  have hr := World.rowIs_made wr (.slice none 0 0) n 49
  rw [h.size] at hr
  refine ⟨Below.refl _ _, by simp [wb2, h.size], ?_, fun j hj => absurd hj (Nat.not_lt_zero _)⟩
  exact (hr.setOther (a := ⟨N, 1, none⟩) (by show N + 1 + 1 + n ≠ N; omega) _).congr (fun j _ => by simp)

theorem wb2_below {wb wr : World} {N m n : Nat} {c : Nat → Nat → Int} (h : Cp wb wr (N + 1) m n n c) : Below N wr (wb2 wr N n) :=
  Below.setCell (p := ⟨N, 1, none⟩) ((Below.refl N wr).alloc (by rw [h.size]; omega) _) (Nat.le_refl N) _

/-- a new stepBound's fourteen cells -/
def boxZ (N n : Nat) (lim : Int) : Array Value :=
  #[.slice (some ⟨N + 1, 0, none⟩) n n, .slice (some ⟨N + 1 + 1 + n, 0, none⟩) n n, .int .i64 lim, .slice none 0 0, .int .i64 0, .slice (some ⟨N + 1 + 1 + n + 1 + n, 0, none⟩) n n, .slice none 0 0, .slice none 0 0,
    .slice (some ⟨N + 1 + 1 + n + 1 + n + 1, 0, none⟩) n n, .slice (some ⟨N + 1 + 1 + n + 1 + n + 2, 0, none⟩) n n, .slice none 0 0, .slice (some ⟨N + 1 + 1 + n + 1 + n + 3, 0, none⟩) n n, .slice (some ⟨N + 1 + 1 + n + 1 + n + 4, 0, none⟩) n n, .int .i64 0]

/-- WHAT ZZNewStepBound LEAVES: the stepBound in block N = the old heap's size, the two copies of the rows, the tables. -/
structure Fresh (w W : World) (N m n : Nat) (c : Nat → Nat → Int) (lim : Int) : Prop where
  below : Below N w W
  size : W.heap.size = N + 8 + 2 * n
  box : BoxAt W N (boxZ N n lim)
  etop : W.rowIs (N + 1) 49 n (fun j => .slice (some ⟨N + 1 + 1 + j, 0, none⟩) m m)
  erow : ∀ j, j < n → W.rowIs (N + 1 + 1 + j) 47 m (fun i => .int .i32 (c j i))
  wtop : W.rowIs (N + 1 + 1 + n) 49 n (fun j => .slice (some ⟨N + 1 + 1 + n + 1 + j, 0, none⟩) m m)
  wrow : ∀ j, j < n → W.rowIs (N + 1 + 1 + n + 1 + j) 47 m (fun i => .int .i32 (c j i))
  ba : W.rowIs (N + 1 + 1 + n + 1 + n + 3) 3 n (fun _ => .int .i64 0)
  wa : W.rowIs (N + 1 + 1 + n + 1 + n + 4) 3 n (fun _ => .int .i64 0)

theorem fresh_of {w w1 w2 W : World} {m n : Nat} {c : Nat → Nat → Int} {lim : Int} (h1 : Cp (wb1 w n lim) w1 (w.heap.size + 1) m n n c) (h2 : Cp (wb2 w1 w.heap.size n) w2 (w.heap.size + 1 + 1 + n) m n n c)
    (h5 : Tl w2 W w.heap.size (boxZ w.heap.size n lim) 5) (hb : W.rowIs (w2.heap.size + 3) 3 n (fun _ => .int .i64 0)) (hc : W.rowIs (w2.heap.size + 4) 3 n (fun _ => .int .i64 0)) : Fresh w W w.heap.size m n c lim := by
  have hs2 := h2.size
  have b1 : Below w.heap.size w w1 := (wb1_below w n lim).trans (h1.below.mono (by omega))
  have b2 : Below w.heap.size w1 w2 := (wb2_below h1).trans (h2.below.mono (by omega))
  have k2 : ∀ {b e q : Nat} {g : Nat → Value}, b ≠ w.heap.size → b < w.heap.size + 1 + 1 + n → w1.rowIs b e q g → w2.rowIs b e q g := fun {b e q g} hbN hlt hr => by
    refine hr.of_block ?_
    rw [h2.below.block b hlt]
    unfold wb2
    rw [blk_setCell_other _ _ _ _ hbN, blk_alloc_lt _ _ _ (by rw [h1.size]; exact hlt)]
  refine ⟨b1.trans (b2.trans (h5.below)), by rw [h5.size, hs2]; omega, h5.box, ?_, fun j hj => ?_, ?_, fun j hj => ?_, ?_, ?_⟩
  · exact h5.row ((k2 (by omega) (by omega) h1.top).congr (fun j hj => by rw [if_pos hj])) (by omega)
  · exact h5.row (k2 (by omega) (by omega) (h1.rows j hj)) (by omega)
  · exact h5.row (h2.top.congr (fun j hj => by rw [if_pos hj])) (by omega)
  · exact h5.row (h2.rows j hj) (by omega)
  · rw [hs2] at hb; exact hb
  · rw [hs2] at hc; exact hc

set_option maxHeartbeats 1000000 in
set_option maxRecDepth 100000 in
theorem new_any (b0 cp m n : Nat) (R : Nat → Nat) (c : Nat → Nat → Int) (lim : Int) (w : World) (hn : n ≤ 512) (hm : m ≤ 512) (hs : Src w b0 cp m n R c) :
    Calls Try.prog 15 #[.slice (some ⟨b0, 0, none⟩) n n, .slice (some ⟨b0, 0, none⟩) n n, .int .i64 lim] w fun e w' => e = .returned (.pointer (some ⟨w.heap.size, 0, none⟩)) ∧ Fresh w w' w.heap.size m n c lim := by
  have hmk48 := run_make_row' (P := Try.prog) 48 49 (.slice none 0 0) 24 Try.underlying48 info49 rfl .i64 .i64 n (by omega) (by omega)
  have hmk49 := run_make_row' (P := Try.prog) 49 47 (.int .i32 0) 4 Try.underlying49 info47 rfl .i64 .i64 m (by omega) (by omega)
  have hmk23 := run_make_row' (P := Try.prog) 23 21 (.int .i32 0) 4 Try.underlying23 info21 rfl .i64 .i64 n (by omega) (by omega)
  have hmk24 := run_make_row' (P := Try.prog) 24 3 (.int .i64 0) 8 Try.underlying24 info3 rfl .i64 .i64 n (by omega) (by omega)
  go_enter Try.func15, Try.ntmps15
  go_wp2
  go_loopw [9] (fun v wr => ∃ k : Nat, k ≤ n ∧ v = .int .i64 k ∧ Cp (wb1 w n lim) wr (w.heap.size + 1) m n k c) (fun v _ => n - (intOf v).toNat)
  case atStart => exact ⟨0, Nat.zero_le _, rfl, wb1_start w m n lim c⟩
  case round =>
    obtain ⟨k, hk, rfl, hcp⟩ := hrel
    by_cases hlt : k < n
    · have hs1 : Src wr b0 cp m n R c := hs.later ((wb1_below w n lim).trans (hcp.below.mono (by omega)))
      have q0 := hs1.top k hlt
      have hsz := hcp.size
      go_wp2
      go_loopw [11] (fun v wi => ∃ i : Nat, i ≤ m ∧ v = .int .i64 i ∧ Ci (wb1 w n lim) wi (w.heap.size + 1) m n k i c) (fun v _ => m - (intOf v).toNat)
      case atStart => exact ⟨0, Nat.zero_le _, rfl, cp_in hcp⟩
      case round =>
        obtain ⟨i, hi, rfl, hci⟩ := hrel
        have hs2 : Src wr b0 cp m n R c := hs.later ((wb1_below w n lim).trans (hci.below.mono (by omega)))
        have q1 := hs2.top k hlt
        by_cases hil : i < m
        · have q2 := hs2.row k hlt i hil
          have q3 := hci.cur.cell hil
          have q4 := hci.cur.frozen i
          have q5 : wr.cell? ⟨w.heap.size + 1 + 1 + k, i, none⟩ = some (.int .i32 0) := by rw [q3, if_neg (Nat.lt_irrefl _)]
          clear q3
          go_wp2
          go_roundw
          case rel => exact ⟨i + 1, by omega, by go_num, ci_step hci⟩
          case measure => simp [intOf]; omega
        · have e : i = m := by omega
          subst e
          have q6 : wr.cell? ⟨w.heap.size, 0, none⟩ = some (.slice (some ⟨w.heap.size + 1, 0, none⟩) n n) := by
            have hb := hci.below.block w.heap.size (by omega)
            rw [wb1_box] at hb
            simp [World.cell?, hb, boxA]
          have q7 := hci.top.cell hlt
          have q8 := hci.top.frozen k
          have q9 : wr.cell? ⟨w.heap.size + 1, k, none⟩ = some (.slice none 0 0) := by rw [q7, if_neg (Nat.lt_irrefl _)]
          clear q7
          go_wp2
          go_roundw
          case rel => exact ⟨k + 1, by omega, by go_num, ci_out hci⟩
          case measure => simp [intOf]; omega
    · have e : k = n := by omega
      subst e
      have hbx : wr.heap[w.heap.size]? = some (.cells (boxA w.heap.size k lim) 52 (0, 0)) := (hcp.below.block w.heap.size (by omega)).trans (wb1_box w k lim)
      have q6 := fun o => (box_alloc (A := boxA w.heap.size k lim) hbx (i := 1) rfl o).1
      have q7 := fun o => (box_alloc (A := boxA w.heap.size k lim) hbx (i := 1) rfl o).2
      have HB : Hid (BoxAt wr w.heap.size (boxA w.heap.size k lim)) := hbx
      clear hbx
      have hsz := hcp.size
      have hbw : Below w.heap.size w wr := (wb1_below w k lim).trans (hcp.below.mono (by omega))
      go_wp2
      clear hsz q6 q7
      obtain ⟨wr_1, hwr⟩ : ∃ wr_1, wr_1 = wr := ⟨wr, rfl⟩
      subst hwr
      go_loopw [12] (fun v wx => ∃ j : Nat, j ≤ k ∧ v = .int .i64 j ∧ Cp (wb2 wr_1 w.heap.size k) wx (w.heap.size + 1 + 1 + k) m k j c) (fun v _ => k - (intOf v).toNat)
      case atStart => exact ⟨0, Nat.zero_le _, rfl, wb2_start hcp⟩
      case round =>
        obtain ⟨j, hj, rfl, hcp2⟩ := hrel
        have hbw2 : Below w.heap.size w wr := hbw.trans ((wb2_below hcp).trans (hcp2.below.mono (by omega)))
        by_cases hlt : j < k
        · have hs1 := hs.later hbw2
          have q0 := hs1.top j hlt
          have hsz := hcp2.size
          go_wp2
          clear hsz q0 hs1
          go_loopw [14] (fun v wi => ∃ i : Nat, i ≤ m ∧ v = .int .i64 i ∧ Ci (wb2 wr_1 w.heap.size k) wi (w.heap.size + 1 + 1 + k) m k j i c) (fun v _ => m - (intOf v).toNat)
          case atStart => exact ⟨0, Nat.zero_le _, rfl, cp_in hcp2⟩
          case round =>
            obtain ⟨i, hi, rfl, hci⟩ := hrel
            have hs2 : Src wr b0 cp m k R c := hs.later (hbw.trans ((wb2_below hcp).trans (hci.below.mono (by omega))))
            have q1 := hs2.top j hlt
            by_cases hil : i < m
            · have q2 := hs2.row j hlt i hil
              have q3 := hci.cur.cell hil
              have q4 := hci.cur.frozen i
              have q5 : wr.cell? ⟨w.heap.size + 1 + 1 + k + 1 + j, i, none⟩ = some (.int .i32 0) := by rw [q3, if_neg (Nat.lt_irrefl _)]
              clear q3
              go_wp2
              go_roundw
              case rel => exact ⟨i + 1, by omega, by go_num, ci_step hci⟩
              case measure => simp [intOf]; omega
            · have e : i = m := by omega
              subst e
              have q6 : wr.cell? ⟨w.heap.size, 1, none⟩ = some (.slice (some ⟨w.heap.size + 1 + 1 + k, 0, none⟩) k k) := by
                have hb := hci.below.cell (p := ⟨w.heap.size, 1, none⟩) (by show w.heap.size < _; omega)
                rw [hb]
                exact ((HB.out.alloc _).setCell 1 _).cell (by simp [boxA])
              have q7 := hci.top.cell hlt
              have q8 := hci.top.frozen j
              have q9 : wr.cell? ⟨w.heap.size + 1 + 1 + k, j, none⟩ = some (.slice none 0 0) := by rw [q7, if_neg (Nat.lt_irrefl _)]
              clear q7
              go_wp2
              go_roundw
              case rel => exact ⟨j + 1, by omega, by go_num, ci_out hci⟩
              case measure => simp [intOf]; omega
        · have e : j = k := by omega
          subst e
          have HC : Hid (BoxAt wr w.heap.size ((boxA w.heap.size j lim).setIfInBounds 1 (.slice (some ⟨w.heap.size + 1 + 1 + j, 0, none⟩) j j))) := by
            have h0 := (HB.out.alloc (.cells (madeCells #[.slice none 0 0] j) 49)).setCell 1 (.slice (some ⟨w.heap.size + 1 + 1 + j, 0, none⟩) j j)
            exact (hcp2.below.block w.heap.size (by omega)).trans h0
          have hsz := hcp2.size
          have T0 : Hid (Tl wr wr w.heap.size _ 0) := Tl.start HC.out
          have a5 := fun o => (T0.out.box.alloc o).cell (i := 5) (v := .slice none 0 0) rfl
          have f5 := fun o => (T0.out.box.alloc o).frozen 5
          go_upto_region 24 with fail
          clear a5 f5
          refine gen_world (fun W => Tl wr W w.heap.size _ 1) (T0.out.step _ 5 _) ?_
          intro W1 T1
          have s1 : W1.heap.size = w.heap.size + 1 + 1 + j + 1 + j + 1 := by rw [T1.size, hsz]
          have a8 := fun o => (T1.box.alloc o).cell (i := 8) (v := .slice none 0 0) rfl
          have f8 := fun o => (T1.box.alloc o).frozen 8
          go_upto_region 25 with fail
          clear a8 f8
          refine gen_world (fun W => Tl wr W w.heap.size _ 2) (T1.step _ 8 _) ?_
          intro W2 T2
          have s2 : W2.heap.size = w.heap.size + 1 + 1 + j + 1 + j + 2 := by rw [T2.size, hsz]
          have a9 := fun o => (T2.box.alloc o).cell (i := 9) (v := .slice none 0 0) rfl
          have f9 := fun o => (T2.box.alloc o).frozen 9
          go_upto_region 26 with fail
          clear a9 f9
          refine gen_world (fun W => Tl wr W w.heap.size _ 3) (T2.step _ 9 _) ?_
          intro W3 T3
          have s3 : W3.heap.size = w.heap.size + 1 + 1 + j + 1 + j + 3 := by rw [T3.size, hsz]
          have a11 := fun o => (T3.box.alloc o).cell (i := 11) (v := .slice none 0 0) rfl
          have f11 := fun o => (T3.box.alloc o).frozen 11
          go_upto_region 27 with fail
          clear a11 f11
          refine gen_world (fun W => Tl wr W w.heap.size _ 4 ∧ W.rowIs (wr.heap.size + 3) 3 j (fun _ => .int .i64 0)) ⟨T3.step _ 11 _, T3.made (.int .i64 0) 11 _⟩ ?_
          rintro W4 ⟨T4, B4⟩
          have s4 : W4.heap.size = w.heap.size + 1 + 1 + j + 1 + j + 4 := by rw [T4.size, hsz]
          have a12 := fun o => (T4.box.alloc o).cell (i := 12) (v := .slice none 0 0) rfl
          have f12 := fun o => (T4.box.alloc o).frozen 12
          go_upto_region 28 with fail
          clear a12 f12
          refine gen_world (fun W => Tl wr W w.heap.size _ 5 ∧ W.rowIs (wr.heap.size + 3) 3 j (fun _ => .int .i64 0) ∧ W.rowIs (wr.heap.size + 4) 3 j (fun _ => .int .i64 0)) ⟨T4.step _ 12 _, (B4.alloc _).setOther (by show wr.heap.size + 3 ≠ w.heap.size; omega) _, T4.made (.int .i64 0) 12 _⟩ ?_
          rintro W5 ⟨T5, B5, C5⟩
          have hF : Fresh w W5 w.heap.size m j c lim := fresh_of hcp hcp2 T5 B5 C5
          clear T5 B5 C5 T4 B4 T3 T2 T1
          go_wp2
          go_ret
          exact ⟨rfl, hF⟩
end Go.Proofs.Qxb6000686a
