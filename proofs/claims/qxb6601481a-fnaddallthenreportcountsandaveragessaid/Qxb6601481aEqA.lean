/-
  SEAT b6601481a: THE WALK OF eqReport (24).
-/
import Derived.Test.Qxb6601481aEq
namespace Go.Proofs.Qxb6601481a
open Go.RowKit Go.Deep
set_option linter.unusedVariables false
set_option linter.unusedSimpArgs false

theorem neq_ptr_nil3 (tp : TypeId) (te : TypeId) (hp : Try.prog.underlying tp = some (.pointer te)) (a : Addr) (w : World) : (binOp .neq tp (.pointer (some a)) (.pointer none)).run Try.prog w = .ok (.bool true) w := by
  go_simp
theorem eql_ptr_nil3 (tp : TypeId) (te : TypeId) (hp : Try.prog.underlying tp = some (.pointer te)) (a : Addr) (w : World) : (binOp .eql tp (.pointer (some a)) (.pointer none)).run Try.prog w = .ok (.bool false) w := by
  go_simp
theorem r_cells {w : World} {b t : Nat} {inst : Int} {sp pp : Option Addr} {mean : Nat} {und dis val ones rmax ms mb : Int} (h : Has w b t (rcells inst sp pp mean und dis val ones rmax ms mb)) : w.cell? ⟨b, 0, none⟩ = some (.string ⟨#[]⟩) ∧ w.cell? ⟨b, 1, none⟩ = some (.int .i64 0) ∧ w.cell? ⟨b, 2, none⟩ = some (.int .i64 0) ∧ w.cell? ⟨b, 3, none⟩ = some (.int .i64 inst) ∧ w.cell? ⟨b, 4, none⟩ = some (.int .u64 0) ∧ w.cell? ⟨b, 5, none⟩ = some (.string ⟨#[]⟩) ∧ w.cell? ⟨b, 6, none⟩ = some (.string ⟨#[]⟩) ∧ w.cell? ⟨b, 7, none⟩ = some (.string ⟨#[]⟩) ∧ w.cell? ⟨b, 8, none⟩ = some (.int .i64 0) ∧ w.cell? ⟨b, 9, none⟩ = some (.int .i64 0) ∧ w.cell? ⟨b, 10, none⟩ = some (.int .i64 und) ∧ w.cell? ⟨b, 11, none⟩ = some (.int .i64 dis) ∧ w.cell? ⟨b, 12, none⟩ = some (.int .i64 val) ∧ w.cell? ⟨b, 13, none⟩ = some (.int .i64 ones) ∧ w.cell? ⟨b, 14, none⟩ = some (.pointer sp) ∧ w.cell? ⟨b, 15, none⟩ = some (.int .i64 rmax) ∧ w.cell? ⟨b, 16, none⟩ = some (.float .f64 mean) ∧ w.cell? ⟨b, 17, none⟩ = some (.int .i64 ms) ∧ w.cell? ⟨b, 18, none⟩ = some (.int .i64 mb) ∧ w.cell? ⟨b, 19, none⟩ = some (.pointer pp) :=
  ⟨h.cell 0 _ rfl, h.cell 1 _ rfl, h.cell 2 _ rfl, h.cell 3 _ rfl, h.cell 4 _ rfl, h.cell 5 _ rfl, h.cell 6 _ rfl, h.cell 7 _ rfl, h.cell 8 _ rfl, h.cell 9 _ rfl, h.cell 10 _ rfl, h.cell 11 _ rfl, h.cell 12 _ rfl, h.cell 13 _ rfl, h.cell 14 _ rfl, h.cell 15 _ rfl, h.cell 16 _ rfl, h.cell 17 _ rfl, h.cell 18 _ rfl, h.cell 19 _ rfl⟩

set_option maxHeartbeats 4000000 in
set_option maxRecDepth 100000 in
theorem eqReport_A (SA SB PA PB NA NB ph : Nat) (sf cm pmax : Int) (pm : Nat) (f : Nat → Int) (inst : Int) (mean : Nat) (und dis val ones rmax ms mb : Int) (w : World) :
    Calls Try.prog 24 #[.agg (rcells inst none none mean und dis val ones rmax ms mb), .agg (rcells inst none none mean und dis val ones rmax ms mb)] w fun e w' => e = .returned (.bool true) ∧ Below w.heap.size w w' := by
  have n27 := neq_ptr_nil3 27 3 Try.underlying27
  have e27 := eql_ptr_nil3 27 3 Try.underlying27
  have e40 := eql_ptr_nil3 40 56 Try.underlying40
  go_enter Try.func24, Try.ntmps24
  unfold rcells
  go_upto_region 1 with fail
  refine gen_world (fun V => Has V w.heap.size 42 (rcells inst none none mean und dis val ones rmax ms mb) ∧ Has V (w.heap.size + 1) 42 (rcells inst none none mean und dis val ones rmax ms mb) ∧ Below w.heap.size w V) ⟨(has_new w 42 (rcells inst none none mean und dis val ones rmax ms mb)).alloc _, has_at (c := (rcells inst none none mean und dis val ones rmax ms mb)) (by simp), ((Below.refl _ _).alloc (Nat.le_refl _) _).alloc (by simp) _⟩ ?_
  rintro V ⟨HA, HB, hK⟩
  have HK := hid0 hK
  clear hK
  obtain ⟨X, hX⟩ : ∃ X : Value, X = .agg (rcells inst none none mean und dis val ones rmax ms mb) := ⟨_, rfl⟩
  obtain ⟨Y, hY⟩ : ∃ Y : Value, Y = .agg (rcells inst none none mean und dis val ones rmax ms mb) := ⟨_, rfl⟩
  unfold rcells at hX hY
  rw [← hX]
  try rw [← hY]
  clear hX hY
  have x0 := HA.cell 0 (.string ⟨#[]⟩) rfl
  have y0 := HB.cell 0 (.string ⟨#[]⟩) rfl
  have x1 := HA.cell 1 (.int .i64 0) rfl
  have y1 := HB.cell 1 (.int .i64 0) rfl
  have x2 := HA.cell 2 (.int .i64 0) rfl
  have y2 := HB.cell 2 (.int .i64 0) rfl
  have x3 := HA.cell 3 (.int .i64 inst) rfl
  have y3 := HB.cell 3 (.int .i64 inst) rfl
  have x4 := HA.cell 4 (.int .u64 0) rfl
  have y4 := HB.cell 4 (.int .u64 0) rfl
  go_upto_region 3 with fail
  clear x0 y0 x1 y1 x2 y2 x3 y3 x4 y4
  have x5 := HA.cell 5 (.string ⟨#[]⟩) rfl
  have y5 := HB.cell 5 (.string ⟨#[]⟩) rfl
  have x6 := HA.cell 6 (.string ⟨#[]⟩) rfl
  have y6 := HB.cell 6 (.string ⟨#[]⟩) rfl
  have x7 := HA.cell 7 (.string ⟨#[]⟩) rfl
  have y7 := HB.cell 7 (.string ⟨#[]⟩) rfl
  have x8 := HA.cell 8 (.int .i64 0) rfl
  have y8 := HB.cell 8 (.int .i64 0) rfl
  have x9 := HA.cell 9 (.int .i64 0) rfl
  have y9 := HB.cell 9 (.int .i64 0) rfl
  go_upto_region 5 with fail
  clear x5 y5 x6 y6 x7 y7 x8 y8 x9 y9
  have x10 := HA.cell 10 (.int .i64 und) rfl
  have y10 := HB.cell 10 (.int .i64 und) rfl
  have x11 := HA.cell 11 (.int .i64 dis) rfl
  have y11 := HB.cell 11 (.int .i64 dis) rfl
  have x12 := HA.cell 12 (.int .i64 val) rfl
  have y12 := HB.cell 12 (.int .i64 val) rfl
  have x13 := HA.cell 13 (.int .i64 ones) rfl
  have y13 := HB.cell 13 (.int .i64 ones) rfl
  go_upto_region 7 with fail
  clear x10 y10 x11 y11 x12 y12 x13 y13
  have x14 := HA.cell 14 (.pointer none) rfl
  have y14 := HB.cell 14 (.pointer none) rfl
  go_upto_region 9 with fail
  go_region
  clear x14 y14
  go_upto_region 11 with fail
  have x15 := HA.cell 15 (.int .i64 rmax) rfl
  have y15 := HB.cell 15 (.int .i64 rmax) rfl
  have x16 := HA.cell 16 (.float .f64 mean) rfl
  have y16 := HB.cell 16 (.float .f64 mean) rfl
  have x17 := HA.cell 17 (.int .i64 ms) rfl
  have y17 := HB.cell 17 (.int .i64 ms) rfl
  have x18 := HA.cell 18 (.int .i64 mb) rfl
  have y18 := HB.cell 18 (.int .i64 mb) rfl
  go_upto_region 13 with (first | (go_at_call 33; refine (sameFloat_any mean _).mono ?_; rintro e w' ⟨rfl, hw⟩; obtain rfl := hw.symm))
  clear x15 y15 x16 y16 x17 y17 x18 y18
  have x19 := HA.cell 19 (.pointer none) rfl
  have y19 := HB.cell 19 (.pointer none) rfl
  go_wp2
  go_ret
  exact ⟨rfl, HK.out.os, HK.out.tape, HK.out.output, HK.out.size, HK.out.block⟩
end Go.Proofs.Qxb6601481a
