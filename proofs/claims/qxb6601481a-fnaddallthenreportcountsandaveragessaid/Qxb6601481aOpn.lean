/-
  SEAT b6601481a: an argument of type []OutcomeIn opened.
-/
import Derived.Test.Qxb6601481aByt
import Derived.ProofKit
import Derived.OpenShut
namespace Go.Proofs.Qxb6601481a
open Go.ChangeShapes Go.WideShapes Go.ChangeAt Go.RowKit

theorem cells4 : Try.prog.cellsOf 4 = 1 := by kernel_rfl
theorem cells3 : Try.prog.cellsOf 3 = 1 := by kernel_rfl
theorem cells2 : Try.prog.cellsOf 2 = 1 := by kernel_rfl
theorem cells32 : Try.prog.cellsOf 32 = 1 := by kernel_rfl
theorem cells34 : Try.prog.cellsOf 34 = 11 := by kernel_rfl

section
variable {H : Type} {enc : TypeId × Value → H} {W : World} {base : Nat} {sp : Nat → Bool} {held : Bool}

/-- a slice of bools -/
theorem open_bools1 {fuel : Nat} {x : Value} {y : DataW H × List MemPlace} (h : DataW.trod enc Try.prog W base sp held fuel 32 [x] = some y) :
    ∃ (p : Option Addr × Nat × Nat) (n : Nat) (f : Nat → Bool), x = sv p ∧ Bools 0 W.heap.size W (sv p) n f := by
  rcases DataW.trod_slice Try.underlying32 h with ⟨h, _⟩ | ⟨ad, len, cap, elems, rest, n, _, h, _, _, _, _, hlen, hel, _, _⟩
  · injection h with h _
    exact ⟨(none, 0, 0), 0, fun _ => false, h, ⟨.inl ⟨none, 0, rfl, rfl⟩⟩⟩
  · injection h with h _
    have each : ∀ i, i < len → ∃ m, W.cell? (ad.add i) = some (.bool m) := by
      intro i hi
      have h1 := hel i hi
      rw [List.getElem?_eq_getElem (by omega), cells4, Nat.mul_one, Option.bind_eq_some_iff] at h1
      obtain ⟨cs, hcs, hy⟩ := h1
      obtain ⟨m, rfl, _⟩ := DataW.trod_bool Try.underlying4 hy
      exact ⟨m, cell_of_cells?_one hcs⟩
    rcases Nat.eq_zero_or_pos len with h0 | h0
    · exact ⟨(some ad, len, cap), 0, fun _ => false, h, ⟨.inl ⟨some ad, cap, by rw [h0]; rfl, rfl⟩⟩⟩
    · obtain ⟨b, off, spot⟩ := ad
      have hspot : spot = none := by
        obtain ⟨m, hm⟩ := each 0 h0
        simpa [Addr.add] using World.cell?_spot hm
      subst hspot
      refine ⟨(some ⟨b, off, none⟩, len, cap), len, fun i => if hi : i < len then Classical.choose (each i hi) else false, h, ⟨.inr ⟨b, off, cap, rfl, fun i hi => ?_⟩⟩⟩
      have hc : W.cell? ⟨b, off + i, none⟩ = some (.bool (if hi : i < len then Classical.choose (each i hi) else false)) := by
        rw [dif_pos hi, ← add_plain]
        exact Classical.choose_spec (each i hi)
      exact ⟨⟨Nat.zero_le _, World.block_lt_of_cell? _ _ hc⟩, hc⟩

theorem list11 {α : Type} {cs : List α} (h : cs.length = 11) : ∃ x0 x1 x2 x3 x4 x5 x6 x7 x8 x9 x10, cs = [x0, x1, x2, x3, x4, x5, x6, x7, x8, x9, x10] := by
  match cs, h with
  | [x0, x1, x2, x3, x4, x5, x6, x7, x8, x9, x10], _ => exact ⟨x0, x1, x2, x3, x4, x5, x6, x7, x8, x9, x10, rfl⟩

/-- an outcome -/
theorem open_out {fuel : Nat} {cs : List Value} {y : DataW H × List MemPlace} (h : DataW.trod enc Try.prog W base sp held fuel 34 cs = some y) :
    ∃ (o : Out) (p : Option Addr × Nat × Nat), cs = (oc o (sv p)).toList ∧ Bools 0 W.heap.size W (sv p) o.nl o.na := by
  obtain ⟨xs, n, _, _, hl, hx, hf⟩ := DataW.trod_struct Try.underlying34 h
  rw [cells34] at hl
  obtain ⟨x0, x1, x2, x3, x4, x5, x6, x7, x8, x9, x10, rfl⟩ := list11 hl
  have hx' : xs.length = 11 := hx
  have g : ∀ i, i < 11 → ∃ z, xs[i]? = some z := fun i hi => ⟨_, List.getElem?_eq_getElem (by omega)⟩
  obtain ⟨z0, e0⟩ := g 0 (by omega)
  obtain ⟨z1, e1⟩ := g 1 (by omega)
  obtain ⟨z2, e2⟩ := g 2 (by omega)
  obtain ⟨z3, e3⟩ := g 3 (by omega)
  obtain ⟨z4, e4⟩ := g 4 (by omega)
  obtain ⟨z5, e5⟩ := g 5 (by omega)
  obtain ⟨z6, e6⟩ := g 6 (by omega)
  obtain ⟨z7, e7⟩ := g 7 (by omega)
  obtain ⟨z8, e8⟩ := g 8 (by omega)
  obtain ⟨z9, e9⟩ := g 9 (by omega)
  obtain ⟨z10, e10⟩ := g 10 (by omega)
  have f0 := hf 0 _ rfl
  change DataW.trod enc Try.prog W base sp held n 4 ((List.drop 0 [x0, x1, x2, x3, x4, x5, x6, x7, x8, x9, x10]).take (Try.prog.cellsOf 4)) = xs[0]? at f0
  rw [cells4, e0] at f0
  have f1 := hf 1 _ rfl
  change DataW.trod enc Try.prog W base sp held n 4 ((List.drop 1 [x0, x1, x2, x3, x4, x5, x6, x7, x8, x9, x10]).take (Try.prog.cellsOf 4)) = xs[1]? at f1
  rw [cells4, e1] at f1
  have f2 := hf 2 _ rfl
  change DataW.trod enc Try.prog W base sp held n 4 ((List.drop 2 [x0, x1, x2, x3, x4, x5, x6, x7, x8, x9, x10]).take (Try.prog.cellsOf 4)) = xs[2]? at f2
  rw [cells4, e2] at f2
  have f3 := hf 3 _ rfl
  change DataW.trod enc Try.prog W base sp held n 4 ((List.drop 3 [x0, x1, x2, x3, x4, x5, x6, x7, x8, x9, x10]).take (Try.prog.cellsOf 4)) = xs[3]? at f3
  rw [cells4, e3] at f3
  have f4 := hf 4 _ rfl
  change DataW.trod enc Try.prog W base sp held n 4 ((List.drop 4 [x0, x1, x2, x3, x4, x5, x6, x7, x8, x9, x10]).take (Try.prog.cellsOf 4)) = xs[4]? at f4
  rw [cells4, e4] at f4
  have f5 := hf 5 _ rfl
  change DataW.trod enc Try.prog W base sp held n 3 ((List.drop 5 [x0, x1, x2, x3, x4, x5, x6, x7, x8, x9, x10]).take (Try.prog.cellsOf 3)) = xs[5]? at f5
  rw [cells3, e5] at f5
  have f6 := hf 6 _ rfl
  change DataW.trod enc Try.prog W base sp held n 2 ((List.drop 6 [x0, x1, x2, x3, x4, x5, x6, x7, x8, x9, x10]).take (Try.prog.cellsOf 2)) = xs[6]? at f6
  rw [cells2, e6] at f6
  have f7 := hf 7 _ rfl
  change DataW.trod enc Try.prog W base sp held n 3 ((List.drop 7 [x0, x1, x2, x3, x4, x5, x6, x7, x8, x9, x10]).take (Try.prog.cellsOf 3)) = xs[7]? at f7
  rw [cells3, e7] at f7
  have f8 := hf 8 _ rfl
  change DataW.trod enc Try.prog W base sp held n 32 ((List.drop 8 [x0, x1, x2, x3, x4, x5, x6, x7, x8, x9, x10]).take (Try.prog.cellsOf 32)) = xs[8]? at f8
  rw [cells32, e8] at f8
  have f9 := hf 9 _ rfl
  change DataW.trod enc Try.prog W base sp held n 3 ((List.drop 9 [x0, x1, x2, x3, x4, x5, x6, x7, x8, x9, x10]).take (Try.prog.cellsOf 3)) = xs[9]? at f9
  rw [cells3, e9] at f9
  have f10 := hf 10 _ rfl
  change DataW.trod enc Try.prog W base sp held n 3 ((List.drop 10 [x0, x1, x2, x3, x4, x5, x6, x7, x8, x9, x10]).take (Try.prog.cellsOf 3)) = xs[10]? at f10
  rw [cells3, e10] at f10
  obtain ⟨b0, h0, _⟩ := DataW.trod_bool Try.underlying4 f0
  obtain ⟨b1, h1, _⟩ := DataW.trod_bool Try.underlying4 f1
  obtain ⟨b2, h2, _⟩ := DataW.trod_bool Try.underlying4 f2
  obtain ⟨b3, h3, _⟩ := DataW.trod_bool Try.underlying4 f3
  obtain ⟨b4, h4, _⟩ := DataW.trod_bool Try.underlying4 f4
  obtain ⟨i5, h5, _⟩ := DataW.trod_int Try.underlying3 f5
  obtain ⟨i6, h6, _⟩ := DataW.trod_int Try.underlying2 f6
  obtain ⟨i7, h7, _⟩ := DataW.trod_int Try.underlying3 f7
  obtain ⟨i9, h9, _⟩ := DataW.trod_int Try.underlying3 f9
  obtain ⟨i10, h10, _⟩ := DataW.trod_int Try.underlying3 f10
  have f8' : DataW.trod enc Try.prog W base sp held n 32 [x8] = some z8 := f8
  obtain ⟨p, m, f, h8, hb⟩ := open_bools1 f8'
  refine ⟨⟨b0, b1, b2, b3, b4, i5, i6, i7, m, f, i9, i10⟩, p, ?_, hb⟩
  simp at h0 h1 h2 h3 h4 h5 h6 h7 h9 h10
  rw [h0, h1, h2, h3, h4, h5, h6, h7, h8, h9, h10]
  rfl

/-- a row of outcomes -/
theorem open_outs {r : Reach} {b0 : Nat} {v : Value} {d : DataW H} {ps : List MemPlace} (hv : Value.okWide Try.prog W r b0 51 v) (hd : DataW.Trod enc Try.prog W base sp held 51 v d ps) :
    ∃ (a : Option Addr) (n c : Nat) (o : Nat → Out) (s : Nat → Option Addr × Nat × Nat), v = .slice a n c ∧ OutsV 0 W.heap.size W a n o s := by
  obtain ⟨a, len, cap, rfl⟩ := okWide_slice Try.underlying51 hv
  have o0 : Out := ⟨false, false, false, false, false, 0, 0, 0, 0, fun _ => false, 0, 0⟩
  obtain ⟨fuel, hf⟩ := hd
  rcases DataW.trod_slice Try.underlying51 hf with ⟨h, _⟩ | ⟨ad, l, c, elems, rest, n, _, h, _, _, _, _, hlen, hel, _, _⟩
  · injection h with h _
    injection h with _ h2 _
    exact ⟨a, len, cap, fun _ => o0, fun _ => (none, 0, 0), rfl, .inl h2⟩
  · injection h with h _
    injection h with ha h2 h3
    subst ha
    subst h2
    subst h3
    rcases Nat.eq_zero_or_pos len with h0 | h0
    · exact ⟨_, len, cap, fun _ => o0, fun _ => (none, 0, 0), rfl, .inl h0⟩
    have each : ∀ i, i < len → ∃ (q : Out × (Option Addr × Nat × Nat)), (∀ j v, (oc q.1 (sv q.2)).toList[j]? = some v → W.cell? ((ad.add (i * 11)).add j) = some v) ∧ Bools 0 W.heap.size W (sv q.2) q.1.nl q.1.na := by
      intro i hi
      have h1 := hel i hi
      rw [List.getElem?_eq_getElem (by omega), cells34, Option.bind_eq_some_iff] at h1
      obtain ⟨cs, hcs, hy⟩ := h1
      obtain ⟨o, p, rfl, hb⟩ := open_out hy
      refine ⟨(o, p), fun j v hj => ?_, hb⟩
      have hlt : j < 11 := by
        have := (List.getElem?_eq_some_iff.1 hj).1
        rwa [oc_len] at this
      rw [(World.cells?_some hcs).2.2 j hlt]
      exact hj
    obtain ⟨b, off, spot⟩ := ad
    have hspot : spot = none := by
      obtain ⟨q, hq, _⟩ := each 0 h0
      have hm := hq 0 (.bool q.1.und) rfl
      simpa [Addr.add] using World.cell?_spot hm
    subst hspot
    refine ⟨_, len, cap, fun i => if hi : i < len then (Classical.choose (each i hi)).1 else o0, fun i => if hi : i < len then (Classical.choose (each i hi)).2 else (none, 0, 0), rfl, .inr ⟨b, off, rfl, ⟨fun i hi => ?_, fun i hi => ?_⟩⟩⟩
    · simp only [dif_pos hi]
      intro j v hj
      have := (Classical.choose_spec (each i hi)).1 j v hj
      rwa [Addr.add_mid, Addr.add_mid] at this
    · simp only [dif_pos hi]
      exact (Classical.choose_spec (each i hi)).2
end
end Go.Proofs.Qxb6601481a
