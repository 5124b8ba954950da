/-
  SEAT b6601481a: THE WALK OF (*totals).report (32).
-/
import Derived.Test.Qxb6601481aAdd
import Derived.Laws.FloatArith
namespace Go.Proofs.Qxb6601481a
open Go.RowKit Go.Deep
set_option linter.unusedVariables false
set_option linter.unusedSimpArgs false

theorem neq_ptr_nil2 (tp : TypeId) (te : TypeId) (hp : Try.prog.underlying tp = some (.pointer te)) (a : Addr) (w : World) : (binOp .neq tp (.pointer (some a)) (.pointer none)).run Try.prog w = .ok (.bool true) w := by
  go_simp
def nanOf (V : World) (x y : Nat) : Nat := (Question.nanBits .f64 x y).cut (V.tape V.drawn (.nanBits .f64 x y))
theorem quo_nan (V : World) (x y : Nat) (h : floatBits .quo .f64 x y = none) : (binOp .quo 28 (.float .f64 x) (.float .f64 y)).run Try.prog V = .ok (.float .f64 (nanOf V x y)) V.drew := by
  unfold floatBits at h
  simp only at h
  simp [binOp, Op.floatArith, h, nanOf, Question.forced]

/-- what the mean of the rounds is -/
def MeanIs (mean : Nat) (rs dec : Int) (mean' : Nat) : Prop := (¬ (0 : Int) < dec ∧ mean' = mean) ∨ ((0 : Int) < dec ∧ floatBits .quo .f64 (floatOfInt .f64 rs) (floatOfInt .f64 dec) = some mean')

set_option maxHeartbeats 2000000 in
set_option maxRecDepth 100000 in
theorem report_no (T PR NR ph : Nat) (inst : Int) (sp : Option Addr) (mean mean' pm : Nat) (und dis val ones rmax ms mb rs dec ps cm pmax : Int) (w : World) (H : Has w T 70 (zcells inst sp none mean und dis val ones rmax ms mb rs dec ps)) (hm : MeanIs mean rs dec mean') :
    Calls Try.prog 32 #[.pointer (some ⟨T, 0, none⟩)] w fun e w' => e = .returned (.agg (rcells inst sp none mean' und dis val ones rmax ms mb)) ∧ Has w' T 70 (zcells inst sp none mean' und dis val ones rmax ms mb rs dec ps) ∧ Kept (fun b => b = T ∨ b = PR) w w' := by
  have hTw := H.lt
  have hne : ¬ T = w.heap.size := by omega
  have hstf := store_float
  go_enter Try.func32, Try.ntmps32
  have q1 := H.cell 21 (.int .i64 dec) rfl
  go_upto_if 7 with fail
  refine gen_world (fun V => Has V T 70 (zcells inst sp none mean und dis val ones rmax ms mb rs dec ps) ∧ Has V w.heap.size 42 (rcells 0 none none 0 0 0 0 0 0 0 0) ∧ Kept (fun b => b = T ∨ b = PR) w V) ⟨H.alloc _, has_new w 42 (rcells 0 none none 0 0 0 0 0 0 0 0), (Kept.refl _ _).alloc _⟩ ?_
  clear H q1
  rintro V ⟨H, HR, hK⟩
  go_cut [] from 3 (fun wx => Has wx T 70 (zcells inst sp none mean' und dis val ones rmax ms mb rs dec ps) ∧ Has wx w.heap.size 42 (rcells 0 none none 0 0 0 0 0 0 0 0) ∧ Kept (fun b => b = T ∨ b = PR) w wx)
  case first =>
    rcases hm with ⟨hd, rfl⟩ | ⟨hd, hdiv⟩
    · have G := hid0 (And.intro H (And.intro HR hK))
      clear H HR hK
      go_wp2
      go_meet
      case rel => exact G.out
    · have q0 : ∀ V : World, (binOp .quo 28 (.float .f64 (floatOfInt .f64 rs)) (.float .f64 (floatOfInt .f64 dec))).run Try.prog V = .ok (.float .f64 mean') V := fun V => run_float_arith V .quo 28 .f64 _ _ _ hdiv
      have q1 := H.cell 21 (.int .i64 dec) rfl
      have q2 := H.cell 20 (.int .i64 rs) rfl
      have q3 := H.cell 16 (.float .f64 mean) rfl
      have q4 := H.frozen 16
      have G := hid0 (And.intro (H.set 16 (.float .f64 mean') (zcells inst sp none mean' und dis val ones rmax ms mb rs dec ps) rfl).drew (And.intro (HR.setOther (a := ⟨T, 16, none⟩) (by simp; omega) (.float .f64 mean')).drew (hK.setCell (a := ⟨T, 16, none⟩) (.inl (.inl rfl)) (.float .f64 mean')).drew))
      clear H HR hK hdiv
      go_upto_region 2 with fail
      go_region
      go_wp2
      go_meet
      case rel => exact G.out
  obtain ⟨H, HR, hK⟩ := hcut
  have q1 := H.cell 19 (.pointer none) rfl
  have hr := z_report H
  have hth : wc.there w.heap.size 0 (rcells inst sp none mean' und dis val ones rmax ms mb).size := HR.there 0 _ (by simp [rcells])
  have h1 := r_one inst sp none mean' und dis val ones rmax ms mb
  go_wp2_with (first | (refine wpList_load_mid rfl 42 (.tmp 50) rfl T 0 rfl (rcells inst sp none mean' und dis val ones rmax ms mb).toList _ hr Try.underlying42 rfl size42 ?_; rw [Array.toArray_toList]) | (refine wpList_store_mid rfl 42 (.tmp 2) (.tmp 51) rfl w.heap.size 0 (rcells inst sp none mean' und dis val ones rmax ms mb) rfl rfl hth size42 h1 ?_))
  refine bodyPost_ret (v := .agg (rcells inst sp none mean' und dis val ones rmax ms mb)) (results_has rfl _ _ w.heap.size 42 _ _ rfl (HR.setAll (rcells inst sp none mean' und dis val ones rmax ms mb) rfl) Try.underlying42 rfl size42) rfl ⟨rfl, H.setCellsOther _ _ (by omega), hK.setCells (.inr (Nat.le_refl _)) _ _⟩

set_option maxHeartbeats 2000000 in
set_option maxRecDepth 100000 in
theorem report_yes (T PR NR ph : Nat) (inst : Int) (sp : Option Addr) (mean mean' pm pm' : Nat) (und dis val ones rmax ms mb rs dec ps cm pmax : Int) (w : World) (H : Has w T 70 (zcells inst sp (some ⟨PR, 0, none⟩) mean und dis val ones rmax ms mb rs dec ps)) (hm : MeanIs mean rs dec mean') (HP : Has w PR 56 (prc NR ph cm pmax pm)) (hTP : T ≠ PR) (hq : floatBits .quo .f64 (floatOfInt .f64 ps) (floatOfInt .f64 inst) = some pm') :
    Calls Try.prog 32 #[.pointer (some ⟨T, 0, none⟩)] w fun e w' => e = .returned (.agg (rcells inst sp (some ⟨PR, 0, none⟩) mean' und dis val ones rmax ms mb)) ∧ Has w' T 70 (zcells inst sp (some ⟨PR, 0, none⟩) mean' und dis val ones rmax ms mb rs dec ps) ∧ Kept (fun b => b = T ∨ b = PR) w w' ∧ Has w' PR 56 (prc NR ph cm pmax pm') := by
  have hTw := H.lt
  have hne : ¬ T = w.heap.size := by omega
  have hstf := store_float
  have hPw := HP.lt
  have hnp : ¬ PR = w.heap.size := by omega
  have hTP' : ¬ PR = T := fun e => hTP e.symm
  go_enter Try.func32, Try.ntmps32
  have q1 := H.cell 21 (.int .i64 dec) rfl
  go_upto_if 7 with fail
  refine gen_world (fun V => Has V T 70 (zcells inst sp (some ⟨PR, 0, none⟩) mean und dis val ones rmax ms mb rs dec ps) ∧ Has V PR 56 (prc NR ph cm pmax pm) ∧ Has V w.heap.size 42 (rcells 0 none none 0 0 0 0 0 0 0 0) ∧ Kept (fun b => b = T ∨ b = PR) w V) ⟨H.alloc _, HP.alloc _, has_new w 42 (rcells 0 none none 0 0 0 0 0 0 0 0), (Kept.refl _ _).alloc _⟩ ?_
  clear H q1 HP
  rintro V ⟨H, HP, HR, hK⟩
  go_cut [] from 3 (fun wx => Has wx T 70 (zcells inst sp (some ⟨PR, 0, none⟩) mean' und dis val ones rmax ms mb rs dec ps) ∧ Has wx PR 56 (prc NR ph cm pmax pm) ∧ Has wx w.heap.size 42 (rcells 0 none none 0 0 0 0 0 0 0 0) ∧ Kept (fun b => b = T ∨ b = PR) w wx)
  case first =>
    rcases hm with ⟨hd, rfl⟩ | ⟨hd, hdiv⟩
    · have G := hid0 (And.intro H (And.intro HP (And.intro HR hK)))
      clear H HR hK HP
      go_wp2
      go_meet
      case rel => exact G.out
    · have q0 : ∀ V : World, (binOp .quo 28 (.float .f64 (floatOfInt .f64 rs)) (.float .f64 (floatOfInt .f64 dec))).run Try.prog V = .ok (.float .f64 mean') V := fun V => run_float_arith V .quo 28 .f64 _ _ _ hdiv
      have q1 := H.cell 21 (.int .i64 dec) rfl
      have q2 := H.cell 20 (.int .i64 rs) rfl
      have q3 := H.cell 16 (.float .f64 mean) rfl
      have q4 := H.frozen 16
      have G := hid0 (And.intro (H.set 16 (.float .f64 mean') (zcells inst sp (some ⟨PR, 0, none⟩) mean' und dis val ones rmax ms mb rs dec ps) rfl).drew (And.intro (HP.setOther (a := ⟨T, 16, none⟩) (by simp; omega) (.float .f64 mean')).drew (And.intro (HR.setOther (a := ⟨T, 16, none⟩) (by simp; omega) (.float .f64 mean')).drew (hK.setCell (a := ⟨T, 16, none⟩) (.inl (.inl rfl)) (.float .f64 mean')).drew)))
      clear H HR hK hdiv HP
      go_upto_region 2 with fail
      go_region
      go_wp2
      go_meet
      case rel => exact G.out
  obtain ⟨H, HP, HR, hK⟩ := hcut
  have q1 := H.cell 19 (.pointer (some ⟨PR, 0, none⟩)) rfl
  have q2 := H.cell 22 (.int .i64 ps) rfl
  have q3 := H.cell 3 (.int .i64 inst) rfl
  have q4 := HP.cell 3 (.float .f64 pm) rfl
  have q5 := HP.frozen 3
  have hnn := neq_ptr_nil2 40 56 Try.underlying40
  have q0 : ∀ V : World, (binOp .quo 28 (.float .f64 (floatOfInt .f64 ps)) (.float .f64 (floatOfInt .f64 inst))).run Try.prog V = .ok (.float .f64 pm') V := fun V => run_float_arith V .quo 28 .f64 _ _ _ hq
  have G := hid0 (show Has (wc.setCell ⟨PR, 3, none⟩ (.float .f64 pm')).drew T 70 (zcells inst sp (some ⟨PR, 0, none⟩) mean' und dis val ones rmax ms mb rs dec ps) ∧ Has (wc.setCell ⟨PR, 3, none⟩ (.float .f64 pm')).drew PR 56 (prc NR ph cm pmax pm') ∧ Has (wc.setCell ⟨PR, 3, none⟩ (.float .f64 pm')).drew w.heap.size 42 (rcells 0 none none 0 0 0 0 0 0 0 0) ∧ Kept (fun b => b = T ∨ b = PR) w (wc.setCell ⟨PR, 3, none⟩ (.float .f64 pm')).drew from ⟨(H.setOther (by simp; omega) _).drew, (HP.set 3 _ _ rfl).drew, (HR.setOther (by simp; omega) _).drew, (hK.setCell (.inl (.inr rfl)) _).drew⟩)
  clear H HP HR hK hq
  go_upto_region 4 with fail
  go_region
  clear q1 q2 q3 q4 q5 q0
  go_upto_region 5 with fail
  refine gen_world (fun W => Has W T 70 (zcells inst sp (some ⟨PR, 0, none⟩) mean' und dis val ones rmax ms mb rs dec ps) ∧ Has W PR 56 (prc NR ph cm pmax pm') ∧ Has W w.heap.size 42 (rcells 0 none none 0 0 0 0 0 0 0 0) ∧ Kept (fun b => b = T ∨ b = PR) w W) G.out ?_
  clear G
  rintro W ⟨H, HP, HR, hK⟩
  have hr := z_report H
  have hth : W.there w.heap.size 0 (rcells inst sp (some ⟨PR, 0, none⟩) mean' und dis val ones rmax ms mb).size := HR.there 0 _ (by simp [rcells])
  have h1 := r_one inst sp (some ⟨PR, 0, none⟩) mean' und dis val ones rmax ms mb
  go_wp2_with (first | (refine wpList_load_mid rfl 42 (.tmp 50) rfl T 0 rfl (rcells inst sp (some ⟨PR, 0, none⟩) mean' und dis val ones rmax ms mb).toList _ hr Try.underlying42 rfl size42 ?_; rw [Array.toArray_toList]) | (refine wpList_store_mid rfl 42 (.tmp 2) (.tmp 51) rfl w.heap.size 0 (rcells inst sp (some ⟨PR, 0, none⟩) mean' und dis val ones rmax ms mb) rfl rfl hth size42 h1 ?_))
  refine bodyPost_ret (v := .agg (rcells inst sp (some ⟨PR, 0, none⟩) mean' und dis val ones rmax ms mb)) (results_has rfl _ _ w.heap.size 42 _ _ rfl (HR.setAll (rcells inst sp (some ⟨PR, 0, none⟩) mean' und dis val ones rmax ms mb) rfl) Try.underlying42 rfl size42) rfl ⟨rfl, H.setCellsOther _ _ (by omega), hK.setCells (.inr (Nat.le_refl _)) _ _, HP.setCellsOther _ _ (by omega)⟩
end Go.Proofs.Qxb6601481a
