/-
  SEAT b6601481a: THE TOTALS; THE WALKS OF zzIn (28), zzOut (31).
-/
import Derived.Test.Qxb6601481aOutc
namespace Go.Proofs.Qxb6601481a
open Go.RowKit Go.Deep
set_option linter.unusedVariables false
set_option linter.unusedSimpArgs false

structure Tot where
  und : Int
  dis : Int
  val : Int
  ones : Int
  sf : Int
  rmax : Int
  ms : Int
  mb : Int
  rs : Int
  dec : Int
  cm : Int
  pmax : Int
  ps : Int
  na : Nat → Int

/-- the report's twenty cells -/
def rcells (inst : Int) (sp pp : Option Addr) (mean : Nat) (und dis val ones rmax ms mb : Int) : Array Value :=
  #[.string ⟨#[]⟩, .int .i64 0, .int .i64 0, .int .i64 inst, .int .u64 0, .string ⟨#[]⟩, .string ⟨#[]⟩, .string ⟨#[]⟩, .int .i64 0, .int .i64 0, .int .i64 und, .int .i64 dis, .int .i64 val, .int .i64 ones, .pointer sp, .int .i64 rmax, .float .f64 mean, .int .i64 ms, .int .i64 mb, .pointer pp]
/-- the totals' twenty-three cells -/
def zcells (inst : Int) (sp pp : Option Addr) (mean : Nat) (und dis val ones rmax ms mb rs dec ps : Int) : Array Value :=
  #[.string ⟨#[]⟩, .int .i64 0, .int .i64 0, .int .i64 inst, .int .u64 0, .string ⟨#[]⟩, .string ⟨#[]⟩, .string ⟨#[]⟩, .int .i64 0, .int .i64 0, .int .i64 und, .int .i64 dis, .int .i64 val, .int .i64 ones, .pointer sp, .int .i64 rmax, .float .f64 mean, .int .i64 ms, .int .i64 mb, .pointer pp, .int .i64 rs, .int .i64 dec, .int .i64 ps]

theorem size42 : (Try.prog.info? 42).map (·.size) = some 20 := by kernel_rfl
theorem size44 : (Try.prog.info? 44).map (·.size) = some 23 := by kernel_rfl
theorem size70 : (Try.prog.info? 70).map (·.size) = some 23 := by kernel_rfl
theorem zero70 : (Try.prog.info? 70).map (·.zero) = some (some (.agg (zcells 0 none none 0 0 0 0 0 0 0 0 0 0 0))) := by kernel_rfl

theorem Has.rangeFrom {w : World} {b t : Nat} {c : Array Value} (h : Has w b t c) (o : Nat) (cs : List Value) (hc : ∀ j v, cs[j]? = some v → c[o + j]? = some v) : w.rangeAt b o cs := fun j v hj => h.cell _ _ (hc j v hj)

theorem store_float (W : World) (a : Addr) (x : Nat) (m : Mode) : (store a (.float .f64 x) m).run Try.prog W = stored Try.prog W a (.float .f64 x) m := run_store Try.prog W a _ m rfl
theorem z_cells {w : World} {b t : Nat} {inst : Int} {sp pp : Option Addr} {mean : Nat} {und dis val ones rmax ms mb rs dec ps : Int} (h : Has w b t (zcells inst sp pp mean und dis val ones rmax ms mb rs dec ps)) : w.cell? ⟨b, 0, none⟩ = some (.string ⟨#[]⟩) ∧ w.cell? ⟨b, 1, none⟩ = some (.int .i64 0) ∧ w.cell? ⟨b, 2, none⟩ = some (.int .i64 0) ∧ w.cell? ⟨b, 3, none⟩ = some (.int .i64 inst) ∧ w.cell? ⟨b, 4, none⟩ = some (.int .u64 0) ∧ w.cell? ⟨b, 5, none⟩ = some (.string ⟨#[]⟩) ∧ w.cell? ⟨b, 6, none⟩ = some (.string ⟨#[]⟩) ∧ w.cell? ⟨b, 7, none⟩ = some (.string ⟨#[]⟩) ∧ w.cell? ⟨b, 8, none⟩ = some (.int .i64 0) ∧ w.cell? ⟨b, 9, none⟩ = some (.int .i64 0) ∧ w.cell? ⟨b, 10, none⟩ = some (.int .i64 und) ∧ w.cell? ⟨b, 11, none⟩ = some (.int .i64 dis) ∧ w.cell? ⟨b, 12, none⟩ = some (.int .i64 val) ∧ w.cell? ⟨b, 13, none⟩ = some (.int .i64 ones) ∧ w.cell? ⟨b, 14, none⟩ = some (.pointer sp) ∧ w.cell? ⟨b, 15, none⟩ = some (.int .i64 rmax) ∧ w.cell? ⟨b, 16, none⟩ = some (.float .f64 mean) ∧ w.cell? ⟨b, 17, none⟩ = some (.int .i64 ms) ∧ w.cell? ⟨b, 18, none⟩ = some (.int .i64 mb) ∧ w.cell? ⟨b, 19, none⟩ = some (.pointer pp) ∧ w.cell? ⟨b, 20, none⟩ = some (.int .i64 rs) ∧ w.cell? ⟨b, 21, none⟩ = some (.int .i64 dec) ∧ w.cell? ⟨b, 22, none⟩ = some (.int .i64 ps) :=
  ⟨h.cell 0 _ rfl, h.cell 1 _ rfl, h.cell 2 _ rfl, h.cell 3 _ rfl, h.cell 4 _ rfl, h.cell 5 _ rfl, h.cell 6 _ rfl, h.cell 7 _ rfl, h.cell 8 _ rfl, h.cell 9 _ rfl, h.cell 10 _ rfl, h.cell 11 _ rfl, h.cell 12 _ rfl, h.cell 13 _ rfl, h.cell 14 _ rfl, h.cell 15 _ rfl, h.cell 16 _ rfl, h.cell 17 _ rfl, h.cell 18 _ rfl, h.cell 19 _ rfl, h.cell 20 _ rfl, h.cell 21 _ rfl, h.cell 22 _ rfl⟩
theorem z_one (inst : Int) (sp pp : Option Addr) (mean : Nat) (und dis val ones rmax ms mb rs dec ps : Int) : (zcells inst sp pp mean und dis val ones rmax ms mb rs dec ps).all (·.oneCell') = true := by simp [zcells, Value.oneCell']
theorem r_one (inst : Int) (sp pp : Option Addr) (mean : Nat) (und dis val ones rmax ms mb : Int) : (rcells inst sp pp mean und dis val ones rmax ms mb).all (·.oneCell') = true := by simp [rcells, Value.oneCell']
theorem z_report {w : World} {b t : Nat} {inst : Int} {sp pp : Option Addr} {mean : Nat} {und dis val ones rmax ms mb rs dec ps : Int} (h : Has w b t (zcells inst sp pp mean und dis val ones rmax ms mb rs dec ps)) : w.rangeAt b 0 (rcells inst sp pp mean und dis val ones rmax ms mb).toList := by
  refine h.rangeFrom 0 _ (fun j v hj => ?_)
  rw [Nat.zero_add]
  have hlt : j < 20 := (List.getElem?_eq_some_iff.1 hj).1
  have e : (zcells inst sp pp mean und dis val ones rmax ms mb rs dec ps).toList = (rcells inst sp pp mean und dis val ones rmax ms mb).toList ++ [.int .i64 rs, .int .i64 dec, .int .i64 ps] := rfl
  rw [← Array.getElem?_toList, e, List.getElem?_append_left (by exact hlt)]
  exact hj

theorem step_if {c : Bool} {A B : Prop} (hc : c = true) (h : A) : if c = true then A else B := by rw [if_pos hc]; exact h
theorem last_store {ops : Array Oper} {S : World → Prop} {Q : Exit → Act → World → Prop} {md : Region.Mode} {fuel : Nat} {listed : Array Bool} {a : Act} {w : World} (i : Nat) {o : Oper} (ho : ops[i]? = some o) (hr : Region.ready md ops listed = [i]) (hw : Region.wanted o (yielded ops a.tmps) = true)
    (ty : TypeId) (x y : Operand) (hop : o.op = .store ty x y) (b off : Nat) (cells : Array Value) (hx : a.eval x = .pointer (some ⟨b, off, none⟩)) (hy : a.eval y = .agg cells) (ht : w.there b off cells.size) (hi : (Try.prog.info? ty).map (·.size) = some cells.size) (h1 : cells.all (·.oneCell') = true)
    (hS : S (w.setCells b off cells.toList)) (hd : Region.ready md ops (listed.setIfInBounds i true) = []) (h : Q .normal (a.put o.dst undef) (w.setCells b off cells.toList)) : wpAnyH Try.prog md ops Q S (fuel + 1) listed a w := by
  refine wpAnyH_all (rs := [i]) hr (by simp) (fun j hj => ?_)
  obtain rfl : j = i := by simpa using hj
  refine wpOp_step ho (fun K hK => ?_)
  rw [if_pos hw]
  exact wp_store_mid ty x y hop b off cells hx hy ht hi h1 (hK _ _ ⟨hS, wpAnyH_done hd h _⟩)
theorem ret_wp {Q : Exit → Act → World → Prop} {a : Act} {w : World} (h : Q .ret a w) : Code.wp Try.prog .ret Q a w := wp_ret h
theorem yieldsIf_val {ops : Array Oper} {S : World → Prop} {o : Oper} {v : Value} {a : Act} (m : Sem Value) (hw : Region.wanted o (yielded ops a.tmps) = true) (hm : execOp a.eval o = (do let x ← m; pure (.value x))) (h : ∀ w, S w → m.run Try.prog w = .ok v w) : YieldsIf Try.prog ops S o v a :=
  .inl ⟨hw, fun w hS => by rw [hm, Sem.run_bind, h w hS]; rfl⟩
set_option maxRecDepth 100000 in
theorem build70 (inst : Int) (sp pp : Option Addr) (mean : Nat) (und dis val ones rmax ms mb rs dec ps : Int) (V' : World) :
    (Instr.build 70 #[(0, .agg (rcells inst sp pp mean und dis val ones rmax ms mb)), (1, .int .i64 rs), (2, .int .i64 dec), (3, .int .i64 ps)]).run Try.prog V' = .ok (.agg (zcells inst sp pp mean und dis val ones rmax ms mb rs dec ps)) V' := by
  kernel_rfl
theorem load3 (V' : World) (b o : Nat) (x : Int) (h : V'.cell? ⟨b, o, none⟩ = some (.int .i64 x)) : (Instr.loadAt 3 (.pointer (some ⟨b, o, none⟩))).run Try.prog V' = .ok (.int .i64 x) V' := by
  go_simp

set_option maxHeartbeats 2000000 in
set_option maxRecDepth 100000 in
theorem zzIn_any (Z : Nat) (inst : Int) (sp pp : Option Addr) (mean : Nat) (und dis val ones rmax ms mb rs dec ps : Int) (w : World) (H : Has w Z 44 (zcells inst sp pp mean und dis val ones rmax ms mb rs dec ps)) :
    Calls Try.prog 28 #[.pointer (some ⟨Z, 0, none⟩)] w fun e w' => e = .returned (.agg (zcells inst sp pp mean und dis val ones rmax ms mb rs dec ps)) ∧ Below w.heap.size w w' := by
  have hlt := H.lt
  go_enter Try.func28, Try.ntmps28
  go_upto_region 1 with fail
  refine gen_world (fun V => Has V Z 44 (zcells inst sp pp mean und dis val ones rmax ms mb rs dec ps) ∧ Has V w.heap.size 70 (zcells 0 none none 0 0 0 0 0 0 0 0 0 0 0) ∧ Below w.heap.size w V) ⟨H.alloc _, has_new w 70 (zcells 0 none none 0 0 0 0 0 0 0 0 0 0 0), (Below.refl _ _).alloc (Nat.le_refl _) _⟩ ?_
  clear H
  rintro V ⟨H, H2, hB⟩
  have hne : w.heap.size ≠ Z := by omega
  have hne' : Z ≠ w.heap.size := by omega
  obtain ⟨x0, x1, x2, x3, x4, x5, x6, x7, x8, x9, x10, x11, x12, x13, x14, x15, x16, x17, x18, x19, x20, x21, x22⟩ := z_cells H
  clear x0 x1 x2 x3 x4 x5 x6 x7 x8 x9 x10 x11 x12 x13 x14 x15 x16 x17 x18 x19
  have hl : ∀ V' : World, Has V' Z 44 (zcells inst sp pp mean und dis val ones rmax ms mb rs dec ps) → (Instr.loadAt 42 (.pointer (some ⟨Z, 0, none⟩))).run Try.prog V' = .ok (.agg (rcells inst sp pp mean und dis val ones rmax ms mb)) V' := fun V' h' => run_loadAt_mid V' Z 0 42 (rcells inst sp pp mean und dis val ones rmax ms mb).toList _ (z_report h') Try.underlying42 rfl size42
  have hs : (Instr.storeAt 70 (.pointer (some ⟨w.heap.size, 0, none⟩)) (.agg (zcells inst sp pp mean und dis val ones rmax ms mb rs dec ps))).run Try.prog V.drew = .ok () (V.drew.setCells w.heap.size 0 (zcells inst sp pp mean und dis val ones rmax ms mb rs dec ps).toList) := run_storeAt_mid V.drew w.heap.size 0 70 (zcells inst sp pp mean und dis val ones rmax ms mb rs dec ps) (H2.drew.there 0 _ (by simp [zcells])) size70 (z_one _ _ _ _ _ _ _ _ _ _ _ _ _ _)
  have hk : Has (V.drew.setCells w.heap.size 0 (zcells inst sp pp mean und dis val ones rmax ms mb rs dec ps).toList) Z 44 (zcells inst sp pp mean und dis val ones rmax ms mb rs dec ps) := H.drew.setCellsOther 0 _ hne'
  obtain ⟨R, hR⟩ : ∃ R, R = rcells inst sp pp mean und dis val ones rmax ms mb := ⟨_, rfl⟩
  obtain ⟨ZC, hZC⟩ : ∃ ZC, ZC = zcells inst sp pp mean und dis val ones rmax ms mb rs dec ps := ⟨_, rfl⟩
  have hbuild : ∀ V' : World, (Instr.build 70 #[(0, .agg R), (1, .int .i64 rs), (2, .int .i64 dec), (3, .int .i64 ps)]).run Try.prog V' = .ok (.agg ZC) V' := fun V' => by
    rw [hR, hZC]
    exact build70 inst sp pp mean und dis val ones rmax ms mb rs dec ps V'
  rw [← hR] at hl
  rw [← hZC] at H hl hs hk
  refine wp_region_held (S := fun V' => Has V' Z 44 ZC ∧ V'.cell? ⟨Z, 20, none⟩ = some (.int .i64 rs) ∧ V'.cell? ⟨Z, 21, none⟩ = some (.int .i64 dec) ∧ V'.cell? ⟨Z, 22, none⟩ = some (.int .i64 ps)) (by kernel_rfl) ?_
  have hS : (fun V' : World => Has V' Z 44 ZC ∧ V'.cell? ⟨Z, 20, none⟩ = some (.int .i64 rs) ∧ V'.cell? ⟨Z, 21, none⟩ = some (.int .i64 dec) ∧ V'.cell? ⟨Z, 22, none⟩ = some (.int .i64 ps)) { V with drawn := V.drawn + 1 } := ⟨H, x20, x21, x22⟩
  refine wpAnyH_take (i := 0) (v := (.pointer (some ⟨Z, 0, none⟩))) rfl (by kernel_rfl) (by kernel_rfl) (by kernel_rfl) (fun _ _ _ h => h) (.inl ⟨by kernel_rfl, fun V' _ => by kernel_rfl⟩) hS ?_
  refine wpAnyH_take (i := 1) (v := (.pointer (some ⟨Z, 0, none⟩))) rfl (by kernel_rfl) (by kernel_rfl) (by kernel_rfl) (fun _ _ _ h => h) (.inl ⟨by kernel_rfl, fun V' _ => by kernel_rfl⟩) hS ?_
  refine wpAnyH_take (i := 2) (v := (.pointer (some ⟨Z, 0, none⟩))) rfl (by kernel_rfl) (by kernel_rfl) (by kernel_rfl) (fun _ _ _ h => h) (.inl ⟨by kernel_rfl, fun V' _ => by kernel_rfl⟩) hS ?_
  refine wpAnyH_take (i := 3) (v := (.agg R)) rfl (by kernel_rfl) (by kernel_rfl) (by kernel_rfl) (fun _ _ _ h => h) (yieldsIf_val (Instr.loadAt 42 (.pointer (some ⟨Z, 0, none⟩))) (by kernel_rfl) (by kernel_rfl) (fun V' hV' => hl V' hV'.1)) hS ?_
  refine wpAnyH_take (i := 4) (v := (.pointer (some ⟨Z, 0, none⟩))) rfl (by kernel_rfl) (by kernel_rfl) (by kernel_rfl) (fun _ _ _ h => h) (.inl ⟨by kernel_rfl, fun V' _ => by kernel_rfl⟩) hS ?_
  refine wpAnyH_take (i := 5) (v := (.pointer (some ⟨Z, 0, none⟩))) rfl (by kernel_rfl) (by kernel_rfl) (by kernel_rfl) (fun _ _ _ h => h) (.inl ⟨by kernel_rfl, fun V' _ => by kernel_rfl⟩) hS ?_
  refine wpAnyH_take (i := 6) (v := (.pointer (some ⟨Z, 20, none⟩))) rfl (by kernel_rfl) (by kernel_rfl) (by kernel_rfl) (fun _ _ _ h => h) (.inl ⟨by kernel_rfl, fun V' _ => by kernel_rfl⟩) hS ?_
  refine wpAnyH_take (i := 7) (v := (.int .i64 rs)) rfl (by kernel_rfl) (by kernel_rfl) (by kernel_rfl) (fun _ _ _ h => h) (yieldsIf_val (Instr.loadAt 3 (.pointer (some ⟨Z, 20, none⟩))) (by kernel_rfl) (by kernel_rfl) (fun V' hV' => load3 V' _ _ _ hV'.2.1)) hS ?_
  refine wpAnyH_take (i := 8) (v := (.pointer (some ⟨Z, 0, none⟩))) rfl (by kernel_rfl) (by kernel_rfl) (by kernel_rfl) (fun _ _ _ h => h) (.inl ⟨by kernel_rfl, fun V' _ => by kernel_rfl⟩) hS ?_
  refine wpAnyH_take (i := 9) (v := (.pointer (some ⟨Z, 0, none⟩))) rfl (by kernel_rfl) (by kernel_rfl) (by kernel_rfl) (fun _ _ _ h => h) (.inl ⟨by kernel_rfl, fun V' _ => by kernel_rfl⟩) hS ?_
  refine wpAnyH_take (i := 10) (v := (.pointer (some ⟨Z, 21, none⟩))) rfl (by kernel_rfl) (by kernel_rfl) (by kernel_rfl) (fun _ _ _ h => h) (.inl ⟨by kernel_rfl, fun V' _ => by kernel_rfl⟩) hS ?_
  refine wpAnyH_take (i := 11) (v := (.int .i64 dec)) rfl (by kernel_rfl) (by kernel_rfl) (by kernel_rfl) (fun _ _ _ h => h) (yieldsIf_val (Instr.loadAt 3 (.pointer (some ⟨Z, 21, none⟩))) (by kernel_rfl) (by kernel_rfl) (fun V' hV' => load3 V' _ _ _ hV'.2.2.1)) hS ?_
  refine wpAnyH_take (i := 12) (v := (.pointer (some ⟨Z, 0, none⟩))) rfl (by kernel_rfl) (by kernel_rfl) (by kernel_rfl) (fun _ _ _ h => h) (.inl ⟨by kernel_rfl, fun V' _ => by kernel_rfl⟩) hS ?_
  refine wpAnyH_take (i := 13) (v := (.pointer (some ⟨Z, 0, none⟩))) rfl (by kernel_rfl) (by kernel_rfl) (by kernel_rfl) (fun _ _ _ h => h) (.inl ⟨by kernel_rfl, fun V' _ => by kernel_rfl⟩) hS ?_
  refine wpAnyH_take (i := 14) (v := (.pointer (some ⟨Z, 22, none⟩))) rfl (by kernel_rfl) (by kernel_rfl) (by kernel_rfl) (fun _ _ _ h => h) (.inl ⟨by kernel_rfl, fun V' _ => by kernel_rfl⟩) hS ?_
  refine wpAnyH_take (i := 15) (v := (.int .i64 ps)) rfl (by kernel_rfl) (by kernel_rfl) (by kernel_rfl) (fun _ _ _ h => h) (yieldsIf_val (Instr.loadAt 3 (.pointer (some ⟨Z, 22, none⟩))) (by kernel_rfl) (by kernel_rfl) (fun V' hV' => load3 V' _ _ _ hV'.2.2.2)) hS ?_
  refine wpAnyH_take (i := 16) (v := (.agg ZC)) rfl (by kernel_rfl) (by kernel_rfl) (by kernel_rfl) (fun _ _ _ h => h) (yieldsIf_val (Instr.build 70 #[(0, .agg R), (1, .int .i64 rs), (2, .int .i64 dec), (3, .int .i64 ps)]) (by kernel_rfl) (by kernel_rfl) (fun V' _ => hbuild V')) hS ?_
  have hZ1 : ZC.all (·.oneCell') = true := by rw [hZC]; exact z_one _ _ _ _ _ _ _ _ _ _ _ _ _ _
  have hZs : ZC.size = 23 := by rw [hZC]; rfl
  have hBV : Below w.heap.size w V.drew := ⟨hB.os, hB.tape, hB.output, hB.size, hB.block⟩
  have hBd : Below w.heap.size w (V.drew.setCells w.heap.size 0 ZC.toList) := Below_setCells hBV (Nat.le_refl _) _ _
  have G := Has.setAll H2.drew ZC (by rw [hZs]; rfl)
  have hk2 : (fun V' : World => Has V' Z 44 ZC ∧ V'.cell? ⟨Z, 20, none⟩ = some (.int .i64 rs) ∧ V'.cell? ⟨Z, 21, none⟩ = some (.int .i64 dec) ∧ V'.cell? ⟨Z, 22, none⟩ = some (.int .i64 ps)) (V.drew.setCells w.heap.size 0 ZC.toList) := ⟨hk, hk.cell 20 _ (by rw [hZC]; rfl), hk.cell 21 _ (by rw [hZC]; rfl), hk.cell 22 _ (by rw [hZC]; rfl)⟩
  have hth : V.drew.there w.heap.size 0 ZC.size := H2.drew.there 0 _ (by rw [hZs]; exact Nat.le_refl _)
  have hs70 : (Try.prog.info? 70).map (·.size) = some ZC.size := by rw [hZs]; exact size70
  refine last_store 17 rfl (by kernel_rfl) (by kernel_rfl) 70 (.tmp 2) (.tmp 19) (by kernel_rfl) w.heap.size 0 ZC (by kernel_rfl) (by kernel_rfl) hth hs70 hZ1 hk2 (by kernel_rfl) ?_
  clear hs hl hbuild hS hk hk2
  rename_i Q' K hK
  refine hK _ _ (ret_wp (bodyPost_ret (v := .agg ZC) (results_has rfl _ _ w.heap.size 70 ZC _ (by kernel_rfl) G Try.underlying70 rfl hs70) (by kernel_rfl) ⟨by rw [hZC], hBd⟩))
end Go.Proofs.Qxb6601481a
