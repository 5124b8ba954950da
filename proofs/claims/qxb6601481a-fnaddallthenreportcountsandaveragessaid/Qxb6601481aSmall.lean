/-
  SEAT b6601481a: WORDS ON MEMORY, AND THE WALKS OF THE SMALL FUNCTIONS: b2i (21), bigger (22), sameFloat (33), notAgreedAt (23), cloneBools (27), eqInts (34).
-/
import Derived.Test.Qxb6601481aMean
import Derived.Test.Qxb6601481aRows
import Derived.WalkKit
import Derived.WalkSpells
import Derived.WalkLawsBesides
import Derived.Deep.OwnRows
import Derived.Deep.MidRow
import Derived.Deep.QuietTactic
import Derived.Deep.CutRange
namespace Go.Proofs.Qxb6601481a
open Go.RowKit Go.Deep
set_option linter.unusedVariables false

theorem info4 : (Try.prog.info? 4).map (fun i => (i.zero, i.size, i.bytes)) = some (some (.bool false), 1, 1) := by kernel_rfl
theorem info3 : (Try.prog.info? 3).map (fun i => (i.zero, i.size, i.bytes)) = some (some (.int .i64 0), 1, 8) := by kernel_rfl

/-- Forget how a world was come by. -/
theorem gen_world {P : Program} {c : Code} {Q : Exit → Act → World → Prop} {a : Act} {w : World} (p : World → Prop) (hp : p w) (h : ∀ W, p W → Code.wp P c Q a W) : Code.wp P c Q a w := h w hp
theorem hid0 {p : Prop} (h : p) : Hid p := h

def b2 (b : Bool) : Int := if b then 1 else 0
def mx (a b : Int) : Int := if a < b then b else a

/-- THE BLOCK b HOLDS THE CELLS c. -/
def Has (w : World) (b t : Nat) (c : Array Value) : Prop := w.heap[b]? = some (.cells c t (0, 0))
theorem Has.lt {w : World} {b t : Nat} {c : Array Value} (h : Has w b t c) : b < w.heap.size := (Array.getElem?_eq_some_iff.1 h).1
theorem Has.cell {w : World} {b t : Nat} {c : Array Value} (h : Has w b t c) (i : Nat) (v : Value) (hv : c[i]? = some v) : w.cell? ⟨b, i, none⟩ = some v := by
  unfold Has at h
  simp [World.cell?, h, hv]
theorem Has.frozen {w : World} {b t : Nat} {c : Array Value} (h : Has w b t c) (i : Nat) : w.frozen? ⟨b, i, none⟩ = false := by
  unfold Has at h
  simp [World.frozen?, h]
theorem Has.of_block {w w' : World} {b t : Nat} {c : Array Value} (h : Has w b t c) (e : w'.heap[b]? = w.heap[b]?) : Has w' b t c := e.trans h
theorem Has.set {w : World} {b t : Nat} {c : Array Value} (h : Has w b t c) (i : Nat) (v : Value) (c' : Array Value) (hc : c.setIfInBounds i v = c') : Has (w.setCell ⟨b, i, none⟩ v) b t c' := by
  unfold Has at *
  simp [World.setCell, Array.getElem?_modify, h, hc]
theorem Has.setOther {w : World} {b t : Nat} {c : Array Value} (h : Has w b t c) {a : Addr} (ha : b ≠ a.block) (v : Value) : Has (w.setCell a v) b t c := h.of_block (blk_setCell_other _ _ _ _ ha)
theorem Has.alloc {w : World} {b t : Nat} {c : Array Value} (h : Has w b t c) (o : Obj) : Has (w.alloc o) b t c := h.of_block (blk_alloc_lt _ _ _ h.lt)
theorem Has.drew {w : World} {b t : Nat} {c : Array Value} (h : Has w b t c) : Has w.drew b t c := h
theorem has_new (w : World) (t : Nat) (c : Array Value) : Has (w.alloc (.cells c t)) w.heap.size t c := blk_alloc_new _ _
theorem Has.range {w : World} {b t : Nat} {c : Array Value} (h : Has w b t c) : w.rangeAt b 0 c.toList := by
  intro j v hj
  rw [Nat.zero_add]
  exact h.cell j v (by simpa using hj)
theorem Has.there {w : World} {b t : Nat} {c : Array Value} (h : Has w b t c) (o n : Nat) (hn : o + n ≤ c.size) : w.there b o n := fun j hj => by
  refine ⟨?_, h.frozen _⟩
  have : c[o + j]? = some (c[o + j]'(by omega)) := by simp
  rw [h.cell _ _ this]
  rfl

/-- ONLY THE BLOCKS OF K MAY HAVE TURNED. -/
structure Kept (K : Nat → Prop) (w w' : World) : Prop where
  os : w'.os = w.os
  tape : w'.tape = w.tape
  output : w'.output = w.output
  size : w.heap.size ≤ w'.heap.size
  block : ∀ b, b < w.heap.size → ¬ K b → w'.heap[b]? = w.heap[b]?
theorem Kept.refl (K : Nat → Prop) (w : World) : Kept K w w := ⟨rfl, rfl, rfl, Nat.le_refl _, fun _ _ _ => rfl⟩
theorem Kept.trans {K : Nat → Prop} {w w' w'' : World} (h : Kept K w w') (k : Kept K w' w'') : Kept K w w'' :=
  ⟨k.os.trans h.os, k.tape.trans h.tape, k.output.trans h.output, Nat.le_trans h.size k.size, fun b hb hK => (k.block b (Nat.lt_of_lt_of_le hb h.size) hK).trans (h.block b hb hK)⟩
theorem Kept.drew {K : Nat → Prop} {w w' : World} (h : Kept K w w') : Kept K w w'.drew := ⟨h.os, h.tape, h.output, h.size, h.block⟩
theorem Kept.alloc {K : Nat → Prop} {w w' : World} (h : Kept K w w') (o : Obj) : Kept K w (w'.alloc o) :=
  h.trans ⟨rfl, rfl, rfl, by rw [nblk_alloc]; omega, fun k hk _ => blk_alloc_lt _ _ _ hk⟩
theorem Kept.setCell {K : Nat → Prop} {w w' : World} (h : Kept K w w') {a : Addr} (ha : K a.block ∨ w.heap.size ≤ a.block) (v : Value) : Kept K w (w'.setCell a v) :=
  ⟨h.os, h.tape, h.output, by simpa using h.size, fun b hb hK => (blk_setCell_other _ _ _ _ (by rintro rfl; rcases ha with ha | ha; exact hK ha; omega)).trans (h.block b hb hK)⟩
theorem Kept.mono {K K' : Nat → Prop} {w w' : World} (h : Kept K w w') (hk : ∀ b, b < w.heap.size → K b → K' b) : Kept K' w w' :=
  ⟨h.os, h.tape, h.output, h.size, fun b hb hK => h.block b hb (fun hh => hK (hk b hb hh))⟩
theorem Kept.below {K : Nat → Prop} {B : Nat} {w w' : World} (h : Kept K w w') (hB : B ≤ w.heap.size) (hk : ∀ b, K b → B ≤ b) : Below B w w' :=
  ⟨h.os, h.tape, h.output, h.size, fun b hb => h.block b (by omega) (fun hh => by have := hk b hh; omega)⟩
theorem Kept.has {K : Nat → Prop} {w w' : World} {b t : Nat} {c : Array Value} (h : Kept K w w') (hh : Has w b t c) (hK : ¬ K b) : Has w' b t c := hh.of_block (h.block b hh.lt hK)
theorem Kept.of_below {K : Nat → Prop} {w w' : World} (h : Below w.heap.size w w') : Kept K w w' := ⟨h.os, h.tape, h.output, h.size, fun b hb _ => h.block b hb⟩

set_option maxHeartbeats 400000 in
theorem b2i_any (b : Bool) (w : World) : Calls Try.prog 21 #[.bool b] w fun e w' => e = .returned (.int .i64 (b2 b)) ∧ w' = w := by
  cases b
  · go_enter Try.func21, Try.ntmps21
    go_wp2
    go_ret
    exact ⟨rfl, rfl⟩
  · go_enter Try.func21, Try.ntmps21
    go_wp2
    go_ret
    exact ⟨rfl, rfl⟩

set_option maxHeartbeats 400000 in
theorem bigger_any (x y : Int) (w : World) : Calls Try.prog 22 #[.int .i64 x, .int .i64 y] w fun e w' => e = .returned (.int .i64 (mx x y)) ∧ w' = w := by
  by_cases h : y ≤ x
  · have e : mx x y = x := if_neg (by omega)
    rw [e]
    go_enter Try.func22, Try.ntmps22
    go_wp2
    go_ret
    exact ⟨rfl, rfl⟩
  · have e : mx x y = y := if_pos (by omega)
    rw [e]
    go_enter Try.func22, Try.ntmps22
    go_wp2
    go_ret
    exact ⟨rfl, rfl⟩

/-- A SLICE OF BOOLS, its cells in a block from A on and below B. -/
structure Bools (A B : Nat) (w : World) (v : Value) (n : Nat) (f : Nat → Bool) : Prop where
  it : (∃ a cap, v = .slice a 0 cap ∧ n = 0) ∨ ∃ b off cap, v = .slice (some ⟨b, off, none⟩) n cap ∧ ∀ i, i < n → (A ≤ b ∧ b < B) ∧ w.cell? ⟨b, off + i, none⟩ = some (.bool (f i))
theorem Bools.kept {A B : Nat} {w w' : World} {v : Value} {n : Nat} {f : Nat → Bool} (h : Bools A B w v n f) (hb : ∀ b, A ≤ b → b < B → w'.heap[b]? = w.heap[b]?) : Bools A B w' v n f := by
  rcases h.it with h | ⟨b, off, cap, hv, hc⟩
  · exact ⟨.inl h⟩
  · exact ⟨.inr ⟨b, off, cap, hv, fun i hi => ⟨(hc i hi).1, (World.cell?_of_block (w := w) (a := ⟨b, off + i, none⟩) (hb b (hc i hi).1.1 (hc i hi).1.2)).trans (hc i hi).2⟩⟩⟩
theorem Bools.below {A B : Nat} {w w' : World} {v : Value} {n : Nat} {f : Nat → Bool} (h : Bools A B w v n f) (hb : Below B w w') : Bools A B w' v n f := h.kept (fun b _ h2 => hb.block b h2)
theorem Bools.mono {A B A' B' : Nat} {w : World} {v : Value} {n : Nat} {f : Nat → Bool} (h : Bools A B w v n f) (ha : A' ≤ A) (hb : B ≤ B') : Bools A' B' w v n f := by
  rcases h.it with h | ⟨b, off, cap, hv, hc⟩
  · exact ⟨.inl h⟩
  · exact ⟨.inr ⟨b, off, cap, hv, fun i hi => ⟨⟨Nat.le_trans ha (hc i hi).1.1, Nat.lt_of_lt_of_le (hc i hi).1.2 hb⟩, (hc i hi).2⟩⟩⟩

set_option maxHeartbeats 400000 in
theorem notAgreedAt_any (A B : Nat) (v : Value) (n k : Nat) (f : Nat → Bool) (w : World) (h : Bools A B w v n f) (hn : 0 < n) (hn2 : n ≤ 1048576) :
    Calls Try.prog 23 #[v, .int .i64 k] w fun e w' => e = .returned (.bool (f (min k (n - 1)))) ∧ w' = w := by
  rcases h.it with ⟨_, _, _, h0⟩ | ⟨b, off, cap, rfl, hc⟩
  · omega
  · have hc' : ∀ i, i < n → w.cell? ⟨b, off + i, none⟩ = some (.bool (f i)) := fun i hi => (hc i hi).2
    clear hc
    by_cases hk : k < n
    · have e : min k (n - 1) = k := by omega
      rw [e]
      have g := hc' k hk
      clear hc'
      go_enter Try.func23, Try.ntmps23
      go_wp2
      go_ret
      exact ⟨rfl, rfl⟩
    · have e : min k (n - 1) = n - 1 := by omega
      rw [e]
      have g := hc' (n - 1) (by omega)
      have hn1 : (n : Int) - 1 < (n : Int) := by omega
      have hn0 : (0 : Int) ≤ (n : Int) - 1 := by omega
      have hn2 : ((n : Int) - 1).toNat = n - 1 := by omega
      clear hc'
      go_enter Try.func23, Try.ntmps23
      go_wp2
      go_ret
      exact ⟨rfl, rfl⟩

set_option maxHeartbeats 400000 in
theorem cloneBools_nil (cap : Nat) (w : World) : Calls Try.prog 27 #[.slice none 0 cap] w fun e w' => e = .returned (.slice none 0 0) ∧ w' = w := by
  have hnil : ∀ (W : World) (a : Option Addr) (n c n' c' : Nat), (binOp .eql 32 (.slice a n c) (.slice none n' c')).run Try.prog W = .ok (.bool a.isNone) W := fun W a n c n' c' => Lib.run_eql_slice_nil W _ _ a n c n' c' Try.underlying32
  go_enter Try.func27, Try.ntmps27
  go_wp2
  go_ret
  exact ⟨rfl, rfl⟩

set_option maxHeartbeats 400000 in
theorem cloneBools_empty (ad : Addr) (cap : Nat) (w : World) : Calls Try.prog 27 #[.slice (some ad) 0 cap] w fun e w' => e = .returned (.slice (some ⟨w.heap.size, 0, none⟩) 0 0) ∧ Below w.heap.size w w' := by
  have hmk : ∀ W : World, (Instr.makeSlice 32 (.int .i64 0) (.int .i64 0)).run Try.prog W = .ok (.slice (some ⟨W.heap.size, 0, none⟩) 0 0) (W.alloc (.cells (madeCells #[.bool false] 0) 4)) := run_make_row' (P := Try.prog) 32 4 (.bool false) 1 Try.underlying32 info4 rfl .i64 .i64 0 (by omega) (by omega)
  have hnil : ∀ (W : World) (a : Option Addr) (n c n' c' : Nat), (binOp .eql 32 (.slice a n c) (.slice none n' c')).run Try.prog W = .ok (.bool a.isNone) W := fun W a n c n' c' => Lib.run_eql_slice_nil W _ _ a n c n' c' Try.underlying32
  go_enter Try.func27, Try.ntmps27
  go_wp2
  go_loopw [4] (fun i wr => i = .int .i64 0 ∧ Below w.heap.size w wr) (fun _ _ => 0)
  case atStart => exact ⟨rfl, (Below.refl _ _).alloc (Nat.le_refl _) _⟩
  case round =>
    obtain ⟨rfl, hb⟩ := hrel
    go_wp2
    go_ret
    exact ⟨rfl, hb⟩

set_option maxHeartbeats 400000 in
theorem cloneBools_row (b off len cap : Nat) (z : Nat → Bool) (w : World) (hlen : len ≤ 1048576) (hc : ∀ i, i < len → w.cell? ⟨b, off + i, none⟩ = some (.bool (z i))) :
    Calls Try.prog 27 #[.slice (some ⟨b, off, none⟩) len cap] w fun e w' => e = .returned (.slice (some ⟨w.heap.size, 0, none⟩) len len) ∧ w'.rowIs w.heap.size 4 len (fun i => .bool (z i)) ∧ Below w.heap.size w w' ∧ w'.heap.size = w.heap.size + 1 := by
  have hmk := run_make_row' (P := Try.prog) 32 4 (.bool false) 1 Try.underlying32 info4 rfl .i64 .i64 len (by omega) (by omega)
  have hnil : ∀ (W : World) (a : Option Addr) (n c n' c' : Nat), (binOp .eql 32 (.slice a n c) (.slice none n' c')).run Try.prog W = .ok (.bool a.isNone) W := fun W a n c n' c' => Lib.run_eql_slice_nil W _ _ a n c n' c' Try.underlying32
  go_enter Try.func27, Try.ntmps27
  go_wp2
  go_loopw [4] (fun i wr => ∃ k : Nat, k ≤ len ∧ i = .int .i64 k ∧ wr.rowIs w.heap.size 4 len (fun j => .bool (if j < k then z j else false)) ∧ Below w.heap.size w wr ∧ wr.heap.size = w.heap.size + 1) (fun i _ => len - (intOf i).toNat)
  case atStart => exact ⟨0, Nat.zero_le _, rfl, (World.rowIs_made w (.bool false) len 4).congr (fun j _ => by rw [if_neg (Nat.not_lt_zero _)]), (Below.refl _ _).alloc (Nat.le_refl _) _, by simp⟩
  case round =>
    obtain ⟨k, hk, rfl, hr, hb, hsz⟩ := hrel
    by_cases hlt : k < len
    · have hbw : b < w.heap.size := World.block_lt_of_cell? _ _ (hc k hlt)
      have q1 : wr.cell? ⟨b, off + k, none⟩ = some (.bool (z k)) := (hb.cell (p := ⟨b, off + k, none⟩) hbw).trans (hc k hlt)
      have q2 := hr.cell hlt
      have q3 := hr.frozen k
      have HZ : Hid (wr.heap.size = w.heap.size + 1) := hsz
      clear hsz
      go_wp2
      go_roundw
      case rel =>
        refine ⟨k + 1, by omega, by go_num, (hr.set k _).congr (fun j _ => ?_), hb.setCell (Nat.le_refl _) _, by simpa using HZ.out⟩
        by_cases e : j = k
        · subst e; simp
        · rw [if_neg e]
          by_cases e2 : j < k
          · rw [if_pos e2, if_pos (by omega)]
          · rw [if_neg e2, if_neg (by omega)]
      case measure => simp [intOf]; omega
    · have e : k = len := by omega
      subst e
      go_wp2
      go_ret
      exact ⟨rfl, hr.congr (fun j hj => by rw [if_pos hj]), hb, hsz⟩

/-- cloneBools: a copy, in a new block. -/
theorem cloneBools_any (A B : Nat) (v : Value) (n : Nat) (f : Nat → Bool) (w : World) (h : Bools A B w v n f) (hn : n ≤ 1048576) :
    Calls Try.prog 27 #[v] w fun e w' => (∃ a m c, e = .returned (.slice a m c) ∧ Bools w.heap.size w'.heap.size w' (.slice a m c) n f) ∧ Below w.heap.size w w' := by
  rcases h.it with ⟨a, cap, rfl, rfl⟩ | ⟨b, off, cap, rfl, hc⟩
  · cases a with
    | none =>
      refine (cloneBools_nil cap w).mono ?_
      rintro e w' ⟨rfl, hw⟩
      obtain rfl := hw.symm
      exact ⟨⟨_, _, _, rfl, ⟨.inl ⟨_, _, rfl, rfl⟩⟩⟩, Below.refl _ _⟩
    | some ad =>
      refine (cloneBools_empty ad cap w).mono ?_
      rintro e w' ⟨rfl, hb⟩
      exact ⟨⟨_, _, _, rfl, ⟨.inl ⟨_, _, rfl, rfl⟩⟩⟩, hb⟩
  · refine (cloneBools_row b off n cap f w hn (fun i hi => (hc i hi).2)).mono ?_
    rintro e w' ⟨rfl, hr, hb, hs⟩
    exact ⟨⟨_, _, _, rfl, ⟨.inr ⟨_, _, _, rfl, fun i hi => ⟨⟨Nat.le_refl _, by omega⟩, by rw [Nat.zero_add]; exact hr.cell hi⟩⟩⟩⟩, hb⟩
end Go.Proofs.Qxb6601481a
