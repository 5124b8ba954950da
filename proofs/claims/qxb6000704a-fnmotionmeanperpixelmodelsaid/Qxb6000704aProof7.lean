/-
  THE STATEMENT Rows.FnMotionMeanPerPixelModelSaid, PROVED: the frame is the guide's template at this function's number and types; the walk: Qxb6000704aLaw3, Qxb6000704aLaw3in.
-/
import Derived.Test.Qxb6000704aLaw3in
import Derived.Test.Qxb6000704aRows
import Derived.ProofKit
import Derived.OpenShut
namespace Go.Proofs.Qxb6000704a.fnMotionMeanPerPixelModel
open Go.ChangeShapes Go.WideShapes Go.ChangeAt Go.RowKit
set_option linter.unusedVariables false

theorem own : ownKnob Try.prog.godebug = none := by kernel_rfl
theorem laidOut : laidOutB Try.prog = true := by kernel_rfl
theorem cells24 : Try.prog.cellsOf 24 = 1 := by kernel_rfl

section
variable {H : Type} {enc : TypeId × Value → H} {W : World} {base : Nat} {sp : Nat → Bool} {held : Bool}

theorem trod_float {P : Program} {t : TypeId} {k : FloatKind} {fuel : Nat} {cs : List Value} {x : DataW H × List MemPlace} (ht : P.underlying t = some (.float k)) (h : DataW.trod enc P W base sp held fuel t cs = some x) : ∃ n, cs = [.float k n] := by
  cases fuel with
  | zero => simp [DataW.trod] at h
  | succ n =>
    unfold DataW.trod at h
    rw [ht] at h
    split at h <;> simp_all

theorem open_floats {r : Reach} {b0 : Nat} {v : Value} {d : DataW H} {ps : List MemPlace} (hv : Value.okWide Try.prog W r b0 22 v) (hd : DataW.Trod enc Try.prog W base sp held 22 v d ps) :
    ∃ (a : Option Addr) (len cap : Nat), v = .slice a len cap ∧ (len = 0 ∨ ∃ (b off : Nat) (u : Nat → Nat), a = some ⟨b, off, none⟩ ∧ ∀ i, i < len → W.cell? ⟨b, off + i, none⟩ = some (.float .f64 (u i))) := by
  obtain ⟨a, len, cap, rfl⟩ := okWide_slice Try.underlying22 hv
  refine ⟨a, len, cap, rfl, ?_⟩
  obtain ⟨fuel, hf⟩ := hd
  rcases DataW.trod_slice Try.underlying22 hf with ⟨h, _⟩ | ⟨ad, l, c, elems, rest, n, _, h, _, _, _, _, hlen, hel, _, _⟩
  · injection h with h _
    injection h with _ h2 _
    exact Or.inl h2
  · injection h with h _
    injection h with ha h2 h3
    subst ha
    subst h2
    subst h3
    have each : ∀ i, i < len → ∃ m, W.cell? (ad.add i) = some (.float .f64 m) := by
      intro i hi
      have h1 := hel i hi
      rw [List.getElem?_eq_getElem (by omega), cells24, Nat.mul_one, Option.bind_eq_some_iff] at h1
      obtain ⟨cs, hcs, hy⟩ := h1
      obtain ⟨m, rfl⟩ := trod_float Try.underlying24 hy
      exact ⟨m, cell_of_cells?_one hcs⟩
    rcases Nat.eq_zero_or_pos len with h0 | h0
    · exact Or.inl h0
    · right
      obtain ⟨b, off, spot⟩ := ad
      have hspot : spot = none := by
        obtain ⟨m, hm⟩ := each 0 h0
        simpa [Addr.add] using World.cell?_spot hm
      subst hspot
      refine ⟨b, off, fun i => if hi : i < len then Classical.choose (each i hi) else 0, rfl, fun i hi => ?_⟩
      dsimp only
      rw [dif_pos hi, ← add_plain]
      exact Classical.choose_spec (each i hi)
end

theorem law3 (W H : Int) (a : Option Addr) (len cap : Nat) (w : World) (h : len = 0 ∨ ∃ (b off : Nat) (u : Nat → Nat), a = some ⟨b, off, none⟩ ∧ ∀ i, i < len → w.cell? ⟨b, off + i, none⟩ = some (.float .f64 (u i))) :
    Calls Try.prog 3 #[.int .i64 W, .int .i64 H, .slice a len cap] w fun e w' => e = .returned (.bool true) ∧ Below w.heap.size w w' := by
  by_cases h1 : (1048576 : Int) < (len : Int)
  · exact law3_big W H a len cap w h1
  by_cases h2 : (131072 : Int) < (len : Int)
  · exact law3_long W H a len cap w (by omega) h2
  by_cases h3 : W < 1 ∨ (1 ≤ W ∧ 65536 < W) ∨ (1 ≤ W ∧ W ≤ 65536 ∧ H < 1) ∨ (1 ≤ W ∧ W ≤ 65536 ∧ 1 ≤ H ∧ 65536 < H)
  · exact law3_size W H a len cap w (by omega) h3
  obtain ⟨m, rfl⟩ : ∃ m : Nat, W = (m : Int) := ⟨W.toNat, by omega⟩
  obtain ⟨n, rfl⟩ : ∃ n : Nat, H = (n : Int) := ⟨H.toNat, by omega⟩
  by_cases h4 : len = (m + 3) / 4 * ((n + 3) / 4)
  · rcases h with h0 | ⟨b, off, u, rfl, hc⟩
    · have : 1 * 1 ≤ (m + 3) / 4 * ((n + 3) / 4) := Nat.mul_le_mul (by omega) (by omega)
      omega
    · exact law3_in m n ((m + 3) / 4) ((n + 3) / 4) len cap b off u w (by omega) (by omega) (by omega) (by omega) (by omega) rfl rfl (by rw [h4, Nat.mul_comm]) hc
  · exact law3_count m n a len cap w (by omega) (by omega) (by omega) (by omega) (by omega) h4

set_option maxRecDepth 100000 in
theorem lifted (os : Os) (started : os.Started) (H : Type) (enc : TypeId × Value → H) :
    ReturnsInHanded {} Try.checked os 3 .any (Rows.fnMotionMeanPerPixelModelSpec.pre6 enc Try.prog Try.f3 Rows.fnMotionMeanPerPixelModelRow.domain false) (Rows.fnMotionMeanPerPixelModelSpec.post enc Try.prog Try.f3 false true false false) := by
  refine returnsInHanded_of_change (C := Try.checked) own started (by kernel_rfl) Try.func3
    (ChangeSpec.witness6 (enc := enc) (C := Try.checked) false ⟨#[], #[.int .i64 0, .int .i64 0, .slice none 0 0], []⟩ 8 (by kernel_rfl) (by kernel_rfl) (by kernel_rfl) (by kernel_rfl)) ?_
  intro W base args ds gs before hval0 hW hcnd _
  have hval : ∀ (j : Nat) t v, Try.f3.params[j]? = some t → args[j]? = some v → Value.okWide Try.prog W .any base t v := hval0
  have hW' := hW
  obtain ⟨p, q, hA0, hV, rfl, hfz, hnd⟩ := hW
  have hA : DataW.TrodAll enc Try.prog W 0 (fun _ => true) true Try.f3.params.toList args.toList ds p := hA0
  rw [Try.params3] at hA hval
  obtain ⟨v0, vs0, d0, ds0, p0, q0, hargs, rfl, rfl, h0, r0⟩ := trodAll_cons hA
  obtain ⟨v1, vs1, d1, ds1, p1, q1, rfl, rfl, rfl, h1, r1⟩ := trodAll_cons r0
  obtain ⟨v2, vs2, d2, ds2, p2, q2, rfl, rfl, rfl, h2, r2⟩ := trodAll_cons r1
  obtain ⟨rfl, rfl, rfl⟩ := trodAll_nil r2
  obtain rfl : args = #[v0, v1, v2] := by cases args; simp_all
  obtain ⟨rfl, rfl⟩ := trodVars_none hV
  have h0k := h0
  have h1k := h1
  have h2k := h2
  have hl0 : ∀ x ∈ p0, x.block < W.heap.size := fun x hx => hW'.lt x (by simp [hx])
  have hl1 : ∀ x ∈ p1, x.block < W.heap.size := fun x hx => hW'.lt x (by simp [hx])
  have hl2 : ∀ x ∈ p2, x.block < W.heap.size := fun x hx => hW'.lt x (by simp [hx])
  obtain ⟨a0, rfl, _, _, _⟩ := open_int Try.underlying3 (hval 0 3 v0 rfl rfl) h0
  obtain ⟨a1, rfl, _, _, _⟩ := open_int Try.underlying3 (hval 1 3 v1 rfl rfl) h1
  obtain ⟨a, len, cap, rfl, hrow⟩ := open_floats (hval 2 22 v2 rfl rfl) h2
  clear hA0 hval0
  simp only [List.append_nil] at hW'
  refine (law3 a0 a1 a len cap W hrow).mono fun e W' ⟨he, hnx⟩ => ?_
  subst he
  refine ⟨_, rfl, _, _, _, [], p0 ++ (p1 ++ p2), [], hW', ?_, ?_, rfl, hnx.frame _, fun h => by cases h⟩
  · exact trodAll_mk1 (shut_bool Try.underlying4 _)
  · exact trodAll_mk3 (Below.trod laidOut (by kernel_rfl) (of_decide_eq_true (by kernel_rfl)) h0k hnx hl0) (Below.trod laidOut (by kernel_rfl) (of_decide_eq_true (by kernel_rfl)) h1k hnx hl1) (Below.trod laidOut (by kernel_rfl) (of_decide_eq_true (by kernel_rfl)) h2k hnx hl2)

theorem over : Rows.fnMotionMeanPerPixelModelRow.holds Try.pinned (OpenSpec.ofChange Rows.fnMotionMeanPerPixelModelSpec) :=
  OpenClaim.holds_of_wide 3 Try.f3 rfl rfl rfl rfl rfl rfl rfl ⟨rfl, rfl, rfl, rfl, rfl⟩ rfl rfl rfl rfl rfl (by kernel_rfl) Try.func3 (by kernel_rfl)
    (of_decide_eq_true (by kernel_rfl)) (by unfold Func.isWrapper; first | (rw [if_pos (by decide +kernel)]; kernel_rfl) | (rw [if_neg (by decide +kernel)]; exact ⟨rfl, rfl⟩))
    (fun os started H enc _ => lifted os started H enc)

/-- ████ THE STATEMENT ████ -/
theorem proved : Rows.FnMotionMeanPerPixelModelSaid :=
  over
end Go.Proofs.Qxb6000704a.fnMotionMeanPerPixelModel
