/-
  THE STATEMENT Rows.FnRowChunkWholeIsRowsOwnPartIsScratchSaid, PROVED: the frame is the guide's template at this function's number and types; the walk: Qxb6000704aLaw6.
-/
import Derived.Test.Qxb6000704aLaw6
import Derived.Test.Qxb6000704aRows
namespace Go.Proofs.Qxb6000704a.fnRowChunkWholeIsRowsOwnPartIsScratch
open Go.ChangeShapes Go.WideShapes Go.ChangeAt Go.RowKit
open Extern.Stop (cell)
set_option linter.unusedVariables false

section
variable {H : Type} {enc : TypeId × Value → H} {W : World} {base : Nat} {sp : Nat → Bool} {held : Bool}
theorem open_row2 {r : Reach} {b0 : Nat} {v : Value} {d : DataW H} {ps : List MemPlace} (hv : Value.okWide Try.prog W r b0 31 v) (hd : DataW.Trod enc Try.prog W base sp held 31 v d ps) :
    ∃ (a : Option Addr) (len cap : Nat), v = .slice a len cap ∧ (len = 0 ∨ ∃ (b off : Nat) (z : Nat → Int), a = some ⟨b, off, none⟩ ∧ (∀ i, i < len → W.cell? ⟨b, off + i, none⟩ = some (.int .u8 (z i))) ∧ ∀ i, i < len → (Lit.int .u8 (z i)).wf = true) := by
  obtain ⟨a, len, cap, rfl⟩ := okWide_slice Try.underlying31 hv
  refine ⟨a, len, cap, rfl, ?_⟩
  obtain ⟨fuel, hf⟩ := hd
  rcases open_ints Try.underlying31 Try.underlying5 cells5 hf with ⟨h, _⟩ | ⟨ad, l, c, zs, h, _, hlc, _, hl, _, hc, hwf⟩
  · injection h with h _
    injection h with _ h2 _
    exact Or.inl h2
  · injection h with h _
    injection h with ha h2 h3
    subst ha
    subst h2
    subst h3
    have hl' : len ≤ zs.length := by
      rw [hl]
      split <;> omega
    rcases Nat.eq_zero_or_pos len with h0 | h0
    · exact Or.inl h0
    · obtain ⟨b, off, rfl, hh⟩ := ints_at hc (by omega)
      refine Or.inr ⟨b, off, fun i => zs.getD i 0, rfl, fun i hi => hh i (by omega), fun i hi => hwf _ ?_⟩
      have hi' : i < zs.length := by omega
      simp [List.getD, hi']
end

theorem chunk_bytes (z : Nat → Int) (len c : Nat) (rep : Bool) (h0 : 0 < len) (hz : ∀ i, i < len → (Lit.int .u8 (z i)).wf = true) : ∃ ys : List UInt8, (List.range 128).map (chunkF z len c (padOf rep z len)) = ys.map cell := by
  refine bytes_of _ ?_
  intro x hx
  obtain ⟨i, _, rfl⟩ := List.mem_map.1 hx
  unfold chunkF
  by_cases h : c * 128 + i < len
  · rw [if_pos h]
    exact byte_of (hz _ h)
  · rw [if_neg h]
    unfold padOf
    cases rep
    · exact byte_of (n := 0) (by decide)
    · exact byte_of (hz _ (by omega))

theorem law6 (a : Option Addr) (len cap : Nat) (c : Int) (rep : Bool) (xs ys : List UInt8) (hxs : xs.length = 128) (hys : ys.length = 128) (W : World)
    (h : len = 0 ∨ ∃ (b off : Nat) (z : Nat → Int), a = some ⟨b, off, none⟩ ∧ (∀ i, i < len → W.cell? ⟨b, off + i, none⟩ = some (.int .u8 (z i))) ∧ ∀ i, i < len → (Lit.int .u8 (z i)).wf = true) :
    Calls Try.prog 6 #[.slice a len cap, .int .i64 c, .bool rep, .agg (xs.map cell).toArray, .agg (ys.map cell).toArray] W fun e w' => e = .returned (.bool true) ∧ Below W.heap.size W w' := by
  have hx : ((xs.map cell).toArray).size = 128 := by simpa using hxs
  have hy : ((ys.map cell).toArray).size = 128 := by simpa using hys
  by_cases hb : (1048576 : Int) < (len : Int)
  · exact law6_big a len cap c rep _ _ hx hy W hb
  by_cases hc : c < 0 ∨ 65536 < c ∨ (0 ≤ c ∧ c ≤ 65536 ∧ (len : Int) ≤ c * 128)
  · exact law6_out a len cap c rep _ _ hx hy W (by omega) hc
  obtain ⟨k, rfl⟩ : ∃ k : Nat, c = (k : Int) := ⟨c.toNat, by omega⟩
  rcases h with rfl | ⟨b, off, z, rfl, hcell, hz⟩
  · exact absurd (Or.inr (Or.inr ⟨by omega, by omega, by omega⟩)) hc
  · obtain ⟨us, hus⟩ := chunk_bytes z len k rep (by omega) hz
    have hul : us.length = 128 := by
      have := congrArg List.length hus
      simpa using this.symm
    exact law6_in b off len cap z k rep _ _ (us.map cell).toArray hx hy (all_one xs) (all_one ys) W (eql_same xs hxs) (eql_same us hul) (by rw [hus]) (by omega) (by omega) hcell

set_option maxRecDepth 100000 in
theorem lifted (os : Os) (started : os.Started) (H : Type) (enc : TypeId × Value → H) :
    ReturnsInHanded {} Try.checked os 6 .any (Rows.fnRowChunkWholeIsRowsOwnPartIsScratchSpec.pre6 enc Try.prog Try.f6 Rows.fnRowChunkWholeIsRowsOwnPartIsScratchRow.domain false) (Rows.fnRowChunkWholeIsRowsOwnPartIsScratchSpec.post enc Try.prog Try.f6 false true false false) := by
  refine returnsInHanded_of_change (C := Try.checked) Try.own started (by kernel_rfl) Try.func6
    (ChangeSpec.witness6 (enc := enc) (C := Try.checked) false ⟨#[], #[.slice none 0 0, .int .i64 0, .bool false, .agg (Array.replicate 128 (.int .u8 0)), .agg (Array.replicate 128 (.int .u8 0))], []⟩ 8 (by kernel_rfl) (by kernel_rfl) (by kernel_rfl) (by kernel_rfl)) ?_
  intro W base args ds gs before hval0 hW hcnd _
  have hval : ∀ (j : Nat) t v, Try.f6.params[j]? = some t → args[j]? = some v → Value.okWide Try.prog W .any base t v := hval0
  have hW' := hW
  obtain ⟨p, q, hA0, hV, rfl, hfz, hnd⟩ := hW
  have hA : DataW.TrodAll enc Try.prog W 0 (fun _ => true) true Try.f6.params.toList args.toList ds p := hA0
  rw [Try.params6] at hA hval
  obtain ⟨v0, vs0, d0, ds0, p0, q0, hargs, rfl, rfl, h0, r0⟩ := trodAll_cons hA
  obtain ⟨v1, vs1, d1, ds1, p1, q1, rfl, rfl, rfl, h1, r1⟩ := trodAll_cons r0
  obtain ⟨v2, vs2, d2, ds2, p2, q2, rfl, rfl, rfl, h2, r2⟩ := trodAll_cons r1
  obtain ⟨v3, vs3, d3, ds3, p3, q3, rfl, rfl, rfl, h3, r3⟩ := trodAll_cons r2
  obtain ⟨v4, vs4, d4, ds4, p4, q4, rfl, rfl, rfl, h4, r4⟩ := trodAll_cons r3
  obtain ⟨rfl, rfl, rfl⟩ := trodAll_nil r4
  obtain rfl : args = #[v0, v1, v2, v3, v4] := by cases args; simp_all
  obtain ⟨rfl, rfl⟩ := trodVars_none hV
  have h0k := h0
  have h1k := h1
  have h2k := h2
  have h3k := h3
  have h4k := h4
  have hl0 : ∀ x ∈ p0, x.block < W.heap.size := fun x hx => hW'.lt x (by simp [hx])
  have hl1 : ∀ x ∈ p1, x.block < W.heap.size := fun x hx => hW'.lt x (by simp [hx])
  have hl2 : ∀ x ∈ p2, x.block < W.heap.size := fun x hx => hW'.lt x (by simp [hx])
  have hl3 : ∀ x ∈ p3, x.block < W.heap.size := fun x hx => hW'.lt x (by simp [hx])
  have hl4 : ∀ x ∈ p4, x.block < W.heap.size := fun x hx => hW'.lt x (by simp [hx])
  obtain ⟨a, len, cap, rfl, hrow⟩ := open_row2 (hval 0 31 v0 rfl rfl) h0
  obtain ⟨c, rfl, _, _, _⟩ := open_int Try.underlying3 (hval 1 3 v1 rfl rfl) h1
  obtain ⟨rep, rfl⟩ := okWide_bool Try.underlying4 (hval 2 4 v2 rfl rfl)
  obtain ⟨xs, rfl, hxs⟩ := open_bytes128 (hval 3 32 v3 rfl rfl) h3
  obtain ⟨ys, rfl, hys⟩ := open_bytes128 (hval 4 32 v4 rfl rfl) h4
  clear hA0 hval0
  simp only [List.append_nil] at hW'
  refine (law6 a len cap c rep xs ys hxs hys W hrow).mono fun e W' ⟨he, hnx⟩ => ?_
  subst he
  refine ⟨_, rfl, _, _, _, [], p0 ++ (p1 ++ (p2 ++ (p3 ++ p4))), [], hW', ?_, ?_, rfl, hnx.frame _, fun h => by cases h⟩
  · exact trodAll_mk1 (shut_bool Try.underlying4 _)
  · exact ⟨p0, _, Below.trod Try.laidOut (by kernel_rfl) (of_decide_eq_true (by kernel_rfl)) h0k hnx hl0, trodAll_mk4 (Below.trod Try.laidOut (by kernel_rfl) (of_decide_eq_true (by kernel_rfl)) h1k hnx hl1) (Below.trod Try.laidOut (by kernel_rfl) (of_decide_eq_true (by kernel_rfl)) h2k hnx hl2) (Below.trod Try.laidOut (by kernel_rfl) (of_decide_eq_true (by kernel_rfl)) h3k hnx hl3) (Below.trod Try.laidOut (by kernel_rfl) (of_decide_eq_true (by kernel_rfl)) h4k hnx hl4), rfl⟩

theorem over : Rows.fnRowChunkWholeIsRowsOwnPartIsScratchRow.holds Try.pinned (OpenSpec.ofChange Rows.fnRowChunkWholeIsRowsOwnPartIsScratchSpec) :=
  OpenClaim.holds_of_wide 6 Try.f6 rfl rfl rfl rfl rfl rfl rfl ⟨rfl, rfl, rfl, rfl, rfl⟩ rfl rfl rfl rfl rfl (by kernel_rfl) Try.func6 (by kernel_rfl)
    (of_decide_eq_true (by kernel_rfl)) (by unfold Func.isWrapper; first | (rw [if_pos (by decide +kernel)]; kernel_rfl) | (rw [if_neg (by decide +kernel)]; exact ⟨rfl, rfl⟩))
    (fun os started H enc _ => lifted os started H enc)

/-- ████ THE STATEMENT ████ -/
theorem proved : Rows.FnRowChunkWholeIsRowsOwnPartIsScratchSaid :=
  over
end Go.Proofs.Qxb6000704a.fnRowChunkWholeIsRowsOwnPartIsScratch
