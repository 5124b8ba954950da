/-
  THE STATEMENT Rows.FnAddAllThenReportCountsAndAveragesSaid, PROVED: the frame is the guide's template at this function's number and types; the walk: Qxb6601481aLaw.
-/
import Derived.Test.Qxb6601481aLaw
import Derived.Test.Qxb6601481aOpn
import Derived.Test.Qxb6601481aRows
import Derived.ProofKit
import Derived.OpenShut
namespace Go.Proofs.Qxb6601481a.fnAddAllThenReportCountsAndAverages
open Go.ChangeShapes Go.WideShapes Go.ChangeAt Go.RowKit
set_option linter.unusedVariables false

theorem own : ownKnob Try.prog.godebug = none := by kernel_rfl
theorem laidOut : laidOutB Try.prog = true := by kernel_rfl

set_option maxRecDepth 100000 in
theorem lifted (os : Os) (started : os.Started) (H : Type) (enc : TypeId × Value → H) :
    ReturnsInHanded {} Try.checked os 6 .any (Rows.fnAddAllThenReportCountsAndAveragesSpec.pre6 enc Try.prog Try.f6 Rows.fnAddAllThenReportCountsAndAveragesRow.domain false) (Rows.fnAddAllThenReportCountsAndAveragesSpec.post enc Try.prog Try.f6 false true false false) := by
  refine returnsInHanded_of_change (C := Try.checked) own started (by kernel_rfl) Try.func6
    (ChangeSpec.witness6 (enc := enc) (C := Try.checked) false ⟨#[], #[.slice none 0 0, .bool false, .bool false, .int .i64 0], []⟩ 8 (by kernel_rfl) (by kernel_rfl) (by kernel_rfl) (by kernel_rfl)) ?_
  intro W base args ds gs before hval0 hW hcnd _
  have hval : ∀ (j : Nat) t v, Try.f6.params[j]? = some t → args[j]? = some v → Value.okWide Try.prog W .any base t v := hval0
  have hW' := hW
  obtain ⟨p, q, hA0, hV, rfl, hfz, hnd⟩ := hW
  have hA : DataW.TrodAll enc Try.prog W 0 (fun _ => true) true Try.f6.params.toList args.toList ds p := hA0
  rw [Try.params6] at hA hval
  obtain ⟨v0, vs0, d0, ds0, p0, q0, hargs, rfl, rfl, h0, r0⟩ := trodAll_cons hA
  obtain ⟨v1, vs1, d1, ds1, p1, q1, rfl, rfl, rfl, h1, r1⟩ := trodAll_cons r0
  obtain ⟨v2, vs2, d2, ds2, p2, q2, rfl, rfl, rfl, h2, r2⟩ := trodAll_cons r1
  obtain ⟨v3, vs3, d3, ds3, p3, q3, rfl, rfl, rfl, h3, r3⟩ := trodAll_cons r2
  obtain ⟨rfl, rfl, rfl⟩ := trodAll_nil r3
  obtain rfl : args = #[v0, v1, v2, v3] := by cases args; simp_all
  obtain ⟨rfl, rfl⟩ := trodVars_none hV
  have h0k := h0
  have h1k := h1
  have h2k := h2
  have h3k := h3
  have hl0 : ∀ x ∈ p0, x.block < W.heap.size := fun x hx => hW'.lt x (by simp [hx])
  have hl1 : ∀ x ∈ p1, x.block < W.heap.size := fun x hx => hW'.lt x (by simp [hx])
  have hl2 : ∀ x ∈ p2, x.block < W.heap.size := fun x hx => hW'.lt x (by simp [hx])
  have hl3 : ∀ x ∈ p3, x.block < W.heap.size := fun x hx => hW'.lt x (by simp [hx])
  obtain ⟨a, n, c, o, s, rfl, hrow⟩ := open_outs (hval 0 51 v0 rfl rfl) h0
  obtain ⟨b1, rfl⟩ := okWide_bool Try.underlying4 (hval 1 4 v1 rfl rfl)
  obtain ⟨b2, rfl⟩ := okWide_bool Try.underlying4 (hval 2 4 v2 rfl rfl)
  obtain ⟨a3, rfl, _, _, _⟩ := open_int Try.underlying3 (hval 3 3 v3 rfl rfl) h3
  clear hA0 hval0
  simp only [List.append_nil] at hW'
  refine (law_any n c a3 b1 b2 a o s W hrow).mono fun e W' ⟨he, hnx⟩ => ?_
  subst he
  refine ⟨_, rfl, _, _, _, [], p0 ++ (p1 ++ (p2 ++ p3)), [], hW', ?_, ?_, rfl, hnx.frame _, fun h => by cases h⟩
  · exact trodAll_mk1 (shut_bool Try.underlying4 _)
  · exact trodAll_mk4 (Below.trod laidOut (by kernel_rfl) (of_decide_eq_true (by kernel_rfl)) h0k hnx hl0) (Below.trod laidOut (by kernel_rfl) (of_decide_eq_true (by kernel_rfl)) h1k hnx hl1) (Below.trod laidOut (by kernel_rfl) (of_decide_eq_true (by kernel_rfl)) h2k hnx hl2) (Below.trod laidOut (by kernel_rfl) (of_decide_eq_true (by kernel_rfl)) h3k hnx hl3)

theorem over : Rows.fnAddAllThenReportCountsAndAveragesRow.holds Try.pinned (OpenSpec.ofChange Rows.fnAddAllThenReportCountsAndAveragesSpec) :=
  OpenClaim.holds_of_wide 6 Try.f6 rfl rfl rfl rfl rfl rfl rfl ⟨rfl, rfl, rfl, rfl, rfl⟩ rfl rfl rfl rfl rfl (by kernel_rfl) Try.func6 (by kernel_rfl)
    (of_decide_eq_true (by kernel_rfl)) (by unfold Func.isWrapper; first | (rw [if_pos (by decide +kernel)]; kernel_rfl) | (rw [if_neg (by decide +kernel)]; exact ⟨rfl, rfl⟩))
    (fun os started H enc _ => lifted os started H enc)

/-- ████ THE STATEMENT ████ -/
theorem proved : Rows.FnAddAllThenReportCountsAndAveragesSaid :=
  over
end Go.Proofs.Qxb6601481a.fnAddAllThenReportCountsAndAverages
