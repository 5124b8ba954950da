/-
  THE STATEMENT Rows.FnRowChunkReassemblesRowSaid, PROVED: the frame is the guide's template at this function's number and types; the walk: Qxb6000704aLaw5.
-/
import Derived.Test.Qxb6000704aOpen
import Derived.Test.Qxb6000704aRows
namespace Go.Proofs.Qxb6000704a.fnRowChunkReassemblesRow
open Go.ChangeShapes Go.WideShapes Go.ChangeAt Go.RowKit
set_option linter.unusedVariables false

theorem law5_all (a : Option Addr) (len cap : Nat) (rep : Bool) (cs : Array Value) (hcs : cs.size = 128) (h1c : cs.all (·.oneCell') = true) (W : World)
    (h : len = 0 ∨ ∃ (b off : Nat) (z : Nat → Int), a = some ⟨b, off, none⟩ ∧ ∀ i, i < len → W.cell? ⟨b, off + i, none⟩ = some (.int .u8 (z i))) :
    Calls Try.prog 5 #[.slice a len cap, .bool rep, .agg cs] W fun e w' => e = .returned (.bool true) ∧ Below W.heap.size W w' := by
  rcases h with rfl | ⟨b, off, z, rfl, hc⟩
  · exact law5_zero _ cap rep cs hcs W
  · exact law5 b off len cap z rep cs hcs h1c W hc

set_option maxRecDepth 100000 in
theorem lifted (os : Os) (started : os.Started) (H : Type) (enc : TypeId × Value → H) :
    ReturnsInHanded {} Try.checked os 5 .any (Rows.fnRowChunkReassemblesRowSpec.pre6 enc Try.prog Try.f5 Rows.fnRowChunkReassemblesRowRow.domain false) (Rows.fnRowChunkReassemblesRowSpec.post enc Try.prog Try.f5 false true false false) := by
  refine returnsInHanded_of_change (C := Try.checked) Try.own started (by kernel_rfl) Try.func5
    (ChangeSpec.witness6 (enc := enc) (C := Try.checked) false ⟨#[], #[.slice none 0 0, .bool false, .agg (Array.replicate 128 (.int .u8 0))], []⟩ 8 (by kernel_rfl) (by kernel_rfl) (by kernel_rfl) (by kernel_rfl)) ?_
  intro W base args ds gs before hval0 hW hcnd _
  have hval : ∀ (j : Nat) t v, Try.f5.params[j]? = some t → args[j]? = some v → Value.okWide Try.prog W .any base t v := hval0
  have hW' := hW
  obtain ⟨p, q, hA0, hV, rfl, hfz, hnd⟩ := hW
  have hA : DataW.TrodAll enc Try.prog W 0 (fun _ => true) true Try.f5.params.toList args.toList ds p := hA0
  rw [Try.params5] at hA hval
  obtain ⟨v0, vs0, d0, ds0, p0, q0, hargs, rfl, rfl, h0, r0⟩ := trodAll_cons hA
  obtain ⟨v1, vs1, d1, ds1, p1, q1, rfl, rfl, rfl, h1, r1⟩ := trodAll_cons r0
  obtain ⟨v2, vs2, d2, ds2, p2, q2, rfl, rfl, rfl, h2, r2⟩ := trodAll_cons r1
  obtain ⟨rfl, rfl, rfl⟩ := trodAll_nil r2
  obtain rfl : args = #[v0, v1, v2] := by cases args; simp_all
  obtain ⟨rfl, rfl⟩ := trodVars_none hV
  have h0k := h0
  have h1k := h1
  have h2k := h2
  have hl0 : ∀ x ∈ p0, x.block < W.heap.size := fun x hx => hW'.lt x (by simp [hx])
  have hl1 : ∀ x ∈ p1, x.block < W.heap.size := fun x hx => hW'.lt x (by simp [hx])
  have hl2 : ∀ x ∈ p2, x.block < W.heap.size := fun x hx => hW'.lt x (by simp [hx])
  obtain ⟨a, len, cap, rfl, hrow⟩ := open_row (hval 0 31 v0 rfl rfl) h0
  obtain ⟨rep, rfl⟩ := okWide_bool Try.underlying4 (hval 1 4 v1 rfl rfl)
  obtain ⟨xs, rfl, hxs⟩ := open_bytes128 (hval 2 32 v2 rfl rfl) h2
  clear hA0 hval0
  simp only [List.append_nil] at hW'
  refine (law5_all a len cap rep _ (by simpa using hxs) (all_one xs) W hrow).mono fun e W' ⟨he, hnx⟩ => ?_
  subst he
  refine ⟨_, rfl, _, _, _, [], p0 ++ (p1 ++ p2), [], hW', ?_, ?_, rfl, hnx.frame _, fun h => by cases h⟩
  · exact trodAll_mk1 (shut_bool Try.underlying4 _)
  · exact trodAll_mk3 (Below.trod Try.laidOut (by kernel_rfl) (of_decide_eq_true (by kernel_rfl)) h0k hnx hl0) (Below.trod Try.laidOut (by kernel_rfl) (of_decide_eq_true (by kernel_rfl)) h1k hnx hl1) (Below.trod Try.laidOut (by kernel_rfl) (of_decide_eq_true (by kernel_rfl)) h2k hnx hl2)

theorem over : Rows.fnRowChunkReassemblesRowRow.holds Try.pinned (OpenSpec.ofChange Rows.fnRowChunkReassemblesRowSpec) :=
  OpenClaim.holds_of_wide 5 Try.f5 rfl rfl rfl rfl rfl rfl rfl ⟨rfl, rfl, rfl, rfl, rfl⟩ rfl rfl rfl rfl rfl (by kernel_rfl) Try.func5 (by kernel_rfl)
    (of_decide_eq_true (by kernel_rfl)) (by unfold Func.isWrapper; first | (rw [if_pos (by decide +kernel)]; kernel_rfl) | (rw [if_neg (by decide +kernel)]; exact ⟨rfl, rfl⟩))
    (fun os started H enc _ => lifted os started H enc)

/-- ████ THE STATEMENT ████ -/
theorem proved : Rows.FnRowChunkReassemblesRowSaid :=
  over
end Go.Proofs.Qxb6000704a.fnRowChunkReassemblesRow
