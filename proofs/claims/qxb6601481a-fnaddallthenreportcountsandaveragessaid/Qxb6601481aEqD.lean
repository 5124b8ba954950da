/-
  SEAT b6601481a: THE WALK OF eqReport (24), on.
-/
import Derived.Test.Qxb6601481aEqA
import Derived.BigQuiet
namespace Go.Proofs.Qxb6601481a
open Go.RowKit Go.Deep
set_option linter.unusedVariables false
set_option linter.unusedSimpArgs false

set_option maxHeartbeats 4000000 in
set_option maxRecDepth 100000 in
theorem eqReport_D (SA SB PA PB NA NB ph : Nat) (sf cm pmax : Int) (pm : Nat) (f : Nat → Int) (inst : Int) (mean : Nat) (und dis val ones rmax ms mb : Int) (w : World) (hSA : w.cell? ⟨SA, 0, none⟩ = some (.int .i64 sf)) (hSB : w.cell? ⟨SB, 0, none⟩ = some (.int .i64 sf)) (hPA : Has w PA 56 (prc NA ph cm pmax pm)) (hPB : Has w PB 56 (prc NB ph cm pmax pm)) (hNA : w.rowIs NA 3 ph (fun i => .int .i64 (f i))) (hNB : w.rowIs NB 3 ph (fun i => .int .i64 (f i))) (hph : ph ≤ 1048576) :
    Calls Try.prog 24 #[.agg (rcells inst (some ⟨SA, 0, none⟩) (some ⟨PA, 0, none⟩) mean und dis val ones rmax ms mb), .agg (rcells inst (some ⟨SB, 0, none⟩) (some ⟨PB, 0, none⟩) mean und dis val ones rmax ms mb)] w fun e w' => e = .returned (.bool true) ∧ Below w.heap.size w w' := by
  have n27 := neq_ptr_nil3 27 3 Try.underlying27
  have e27 := eql_ptr_nil3 27 3 Try.underlying27
  have e40 := eql_ptr_nil3 40 56 Try.underlying40
  go_enter Try.func24, Try.ntmps24
  unfold rcells
  go_upto_region 1 with fail
  refine gen_world (fun V => Has V w.heap.size 42 (rcells inst (some ⟨SA, 0, none⟩) (some ⟨PA, 0, none⟩) mean und dis val ones rmax ms mb) ∧ Has V (w.heap.size + 1) 42 (rcells inst (some ⟨SB, 0, none⟩) (some ⟨PB, 0, none⟩) mean und dis val ones rmax ms mb) ∧ Below w.heap.size w V) ⟨(has_new w 42 (rcells inst (some ⟨SA, 0, none⟩) (some ⟨PA, 0, none⟩) mean und dis val ones rmax ms mb)).alloc _, has_at (c := (rcells inst (some ⟨SB, 0, none⟩) (some ⟨PB, 0, none⟩) mean und dis val ones rmax ms mb)) (by simp), ((Below.refl _ _).alloc (Nat.le_refl _) _).alloc (by simp) _⟩ ?_
  rintro V ⟨HA, HB, hK⟩
  have s1 : V.cell? ⟨SA, 0, none⟩ = some (.int .i64 sf) := (hK.cell (p := ⟨SA, 0, none⟩) (World.block_lt_of_cell? _ _ hSA)).trans hSA
  have s2 : V.cell? ⟨SB, 0, none⟩ = some (.int .i64 sf) := (hK.cell (p := ⟨SB, 0, none⟩) (World.block_lt_of_cell? _ _ hSB)).trans hSB
  clear hSA hSB
  have GA : Has V PA 56 (prc NA ph cm pmax pm) := hPA.of_block (hK.block _ hPA.lt)
  have GB : Has V PB 56 (prc NB ph cm pmax pm) := hPB.of_block (hK.block _ hPB.lt)
  have C34 : ∀ W : World, W.heap = V.heap → Calls Try.prog 34 #[.slice (some ⟨NA, 0, none⟩) ph ph, .slice (some ⟨NB, 0, none⟩) ph ph] W fun e w' => e = .returned (.bool true) ∧ ∃ k, w' = W.drewN k := fun W hW => eqInts_any NA NB ph f W hph (hNA.of_block (by rw [hW]; exact hK.block _ hNA.lt)) (hNB.of_block (by rw [hW]; exact hK.block _ hNB.lt))
  have HGA := hid0 GA
  have HGB := hid0 GB
  clear hPA hPB hNA hNB GA GB
  have HK := hid0 hK
  clear hK
  obtain ⟨X, hX⟩ : ∃ X : Value, X = .agg (rcells inst (some ⟨SA, 0, none⟩) (some ⟨PA, 0, none⟩) mean und dis val ones rmax ms mb) := ⟨_, rfl⟩
  obtain ⟨Y, hY⟩ : ∃ Y : Value, Y = .agg (rcells inst (some ⟨SB, 0, none⟩) (some ⟨PB, 0, none⟩) mean und dis val ones rmax ms mb) := ⟨_, rfl⟩
  unfold rcells at hX hY
  rw [← hX]
  try rw [← hY]
  clear hX hY
  have x0 := HA.cell 0 (.string ⟨#[]⟩) rfl
  have y0 := HB.cell 0 (.string ⟨#[]⟩) rfl
  have x1 := HA.cell 1 (.int .i64 0) rfl
  have y1 := HB.cell 1 (.int .i64 0) rfl
  have x2 := HA.cell 2 (.int .i64 0) rfl
  have y2 := HB.cell 2 (.int .i64 0) rfl
  have x3 := HA.cell 3 (.int .i64 inst) rfl
  have y3 := HB.cell 3 (.int .i64 inst) rfl
  have x4 := HA.cell 4 (.int .u64 0) rfl
  have y4 := HB.cell 4 (.int .u64 0) rfl
  go_upto_region 3 with fail
  clear x0 y0 x1 y1 x2 y2 x3 y3 x4 y4
  have x5 := HA.cell 5 (.string ⟨#[]⟩) rfl
  have y5 := HB.cell 5 (.string ⟨#[]⟩) rfl
  have x6 := HA.cell 6 (.string ⟨#[]⟩) rfl
  have y6 := HB.cell 6 (.string ⟨#[]⟩) rfl
  have x7 := HA.cell 7 (.string ⟨#[]⟩) rfl
  have y7 := HB.cell 7 (.string ⟨#[]⟩) rfl
  have x8 := HA.cell 8 (.int .i64 0) rfl
  have y8 := HB.cell 8 (.int .i64 0) rfl
  have x9 := HA.cell 9 (.int .i64 0) rfl
  have y9 := HB.cell 9 (.int .i64 0) rfl
  go_upto_region 5 with fail
  clear x5 y5 x6 y6 x7 y7 x8 y8 x9 y9
  have x10 := HA.cell 10 (.int .i64 und) rfl
  have y10 := HB.cell 10 (.int .i64 und) rfl
  have x11 := HA.cell 11 (.int .i64 dis) rfl
  have y11 := HB.cell 11 (.int .i64 dis) rfl
  have x12 := HA.cell 12 (.int .i64 val) rfl
  have y12 := HB.cell 12 (.int .i64 val) rfl
  have x13 := HA.cell 13 (.int .i64 ones) rfl
  have y13 := HB.cell 13 (.int .i64 ones) rfl
  go_upto_region 7 with fail
  clear x10 y10 x11 y11 x12 y12 x13 y13
  have x14 := HA.cell 14 (.pointer (some ⟨SA, 0, none⟩)) rfl
  have y14 := HB.cell 14 (.pointer (some ⟨SB, 0, none⟩)) rfl
  go_upto_region 9 with fail
  go_quiet (fail)
  clear x14 y14
  go_upto_region 11 with fail
  have x15 := HA.cell 15 (.int .i64 rmax) rfl
  have y15 := HB.cell 15 (.int .i64 rmax) rfl
  have x16 := HA.cell 16 (.float .f64 mean) rfl
  have y16 := HB.cell 16 (.float .f64 mean) rfl
  have x17 := HA.cell 17 (.int .i64 ms) rfl
  have y17 := HB.cell 17 (.int .i64 ms) rfl
  have x18 := HA.cell 18 (.int .i64 mb) rfl
  have y18 := HB.cell 18 (.int .i64 mb) rfl
  go_upto_region 13 with (first | (go_at_call 33; refine (sameFloat_any mean _).mono ?_; rintro e w' ⟨rfl, hw⟩; obtain rfl := hw.symm))
  clear x15 y15 x16 y16 x17 y17 x18 y18
  have x19 := HA.cell 19 (.pointer (some ⟨PA, 0, none⟩)) rfl
  have y19 := HB.cell 19 (.pointer (some ⟨PB, 0, none⟩)) rfl
  go_upto_region 19 with fail
  clear x19 y19
  refine gen_world (fun W => W.heap = V.heap ∧ W.os = V.os ∧ W.tape = V.tape ∧ W.output = V.output) ⟨rfl, rfl, rfl, rfl⟩ ?_
  rintro W ⟨h1, h2, h3, h4⟩
  have GA : Has W PA 56 (prc NA ph cm pmax pm) := by unfold Has; rw [h1]; exact HGA.out
  have GB : Has W PB 56 (prc NB ph cm pmax pm) := by unfold Has; rw [h1]; exact HGB.out
  have p0 := GA.cell 0 (.slice (some ⟨NA, 0, none⟩) ph ph) rfl
  have p1 := GA.cell 1 (.int .i64 cm) rfl
  have p2 := GA.cell 2 (.int .i64 pmax) rfl
  have p3 := GA.cell 3 (.float .f64 pm) rfl
  have r0 := GB.cell 0 (.slice (some ⟨NB, 0, none⟩) ph ph) rfl
  have r1 := GB.cell 1 (.int .i64 cm) rfl
  have r2 := GB.cell 2 (.int .i64 pmax) rfl
  have r3 := GB.cell 3 (.float .f64 pm) rfl
  have HB := hid0 (show Below w.heap.size w W from ⟨h2.trans HK.out.os, h3.trans HK.out.tape, h4.trans HK.out.output, by rw [h1]; exact HK.out.size, fun k hk => by rw [h1]; exact HK.out.block k hk⟩)
  have C35 : ∀ m : Nat, Calls Try.prog 34 #[.slice (some ⟨NA, 0, none⟩) ph ph, .slice (some ⟨NB, 0, none⟩) ph ph] (W.drewN m) fun e w' => e = .returned (.bool true) ∧ ∃ k, w' = (W.drewN m).drewN k := fun m => C34 _ h1
  clear C34 h2 h3 h4 GA GB HGA HGB HK
  go_quiet (first | (go_at_call 34; refine Calls.quiet_of (C35 _)) | (go_at_call 33; refine Calls.quiet_of_same (sameFloat_any pm _)))
  go_wp2
  go_ret
  exact ⟨rfl, HB.out.os, HB.out.tape, HB.out.output, HB.out.size, HB.out.block⟩
end Go.Proofs.Qxb6601481a
