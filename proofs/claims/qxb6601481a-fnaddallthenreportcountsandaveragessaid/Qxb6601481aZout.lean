/-
  SEAT b6601481a: THE WALK OF zzOut (31).
-/
import Derived.Test.Qxb6601481aTot
namespace Go.Proofs.Qxb6601481a
open Go.RowKit Go.Deep
set_option linter.unusedVariables false
set_option linter.unusedSimpArgs false

set_option maxHeartbeats 2000000 in
set_option maxRecDepth 100000 in
theorem zzOut_any (T Z : Nat) (inst : Int) (sp pp : Option Addr) (mean : Nat) (und dis val ones rmax ms mb rs dec ps : Int) (inst' : Int) (sp' pp' : Option Addr) (mean' : Nat) (und' dis' val' ones' rmax' ms' mb' rs' dec' ps' : Int) (w : World)
    (HT : Has w T 70 (zcells inst sp pp mean und dis val ones rmax ms mb rs dec ps)) (HZ : Has w Z 44 (zcells inst' sp' pp' mean' und' dis' val' ones' rmax' ms' mb' rs' dec' ps')) (hTZ : T ≠ Z) :
    Calls Try.prog 31 #[.pointer (some ⟨T, 0, none⟩), .pointer (some ⟨Z, 0, none⟩)] w fun e w' => e = .returned (.tuple #[]) ∧ Has w' Z 44 (zcells inst sp pp mean und dis val ones rmax ms mb rs dec ps) ∧ Kept (fun b => b = Z) w w' := by
  have hr := z_report HT
  have hth : w.there Z 0 (rcells inst sp pp mean und dis val ones rmax ms mb).size := HZ.there 0 _ (by simp [rcells, zcells])
  have h1 := r_one inst sp pp mean und dis val ones rmax ms mb
  go_enter Try.func31, Try.ntmps31
  go_upto_region 1 with (first | (refine wpList_load_mid rfl 42 (.tmp 7) rfl T 0 rfl (rcells inst sp pp mean und dis val ones rmax ms mb).toList _ hr Try.underlying42 rfl size42 ?_; rw [Array.toArray_toList]) | (refine wpList_store_mid rfl 42 (.tmp 10) (.tmp 8) rfl Z 0 (rcells inst sp pp mean und dis val ones rmax ms mb) rfl rfl hth size42 h1 ?_))
  have hs := setCells_whole (rcells inst sp pp mean und dis val ones rmax ms mb).toList 0 w _ HZ (by simp [rcells, zcells])
  have e : ((zcells inst' sp' pp' mean' und' dis' val' ones' rmax' ms' mb' rs' dec' ps').toList.take 0 ++ (rcells inst sp pp mean und dis val ones rmax ms mb).toList ++ (zcells inst' sp' pp' mean' und' dis' val' ones' rmax' ms' mb' rs' dec' ps').toList.drop (0 + (rcells inst sp pp mean und dis val ones rmax ms mb).toList.length)).toArray = zcells inst sp pp mean und dis val ones rmax ms mb rs' dec' ps' := rfl
  rw [e] at hs
  refine gen_world (fun V => Has V T 70 (zcells inst sp pp mean und dis val ones rmax ms mb rs dec ps) ∧ Has V Z 44 (zcells inst sp pp mean und dis val ones rmax ms mb rs' dec' ps') ∧ Kept (fun b => b = Z) w V) ⟨HT.setCellsOther _ _ hTZ, hs, (Kept.refl (fun b => b = Z) w).setCells (b := Z) (.inl rfl) _ _⟩ ?_
  clear hs e hr hth h1 HT HZ
  rintro V ⟨HT, HZ, hK⟩
  have t20 := HT.cell 20 (.int .i64 rs) rfl
  have t21 := HT.cell 21 (.int .i64 dec) rfl
  have t22 := HT.cell 22 (.int .i64 ps) rfl
  have z20 := HZ.cell 20 (.int .i64 rs') rfl
  have z21 := HZ.cell 21 (.int .i64 dec') rfl
  have z22 := HZ.cell 22 (.int .i64 ps') rfl
  have f20 := HZ.frozen 20
  have f21 := HZ.frozen 21
  have f22 := HZ.frozen 22
  have G := ((HZ.set 20 (.int .i64 rs) _ rfl).set 21 (.int .i64 dec) _ rfl).set 22 (.int .i64 ps) _ rfl
  have hK3 := ((hK.setCell (a := ⟨Z, 20, none⟩) (.inl rfl) (.int .i64 rs)).setCell (a := ⟨Z, 21, none⟩) (.inl rfl) (.int .i64 dec)).setCell (a := ⟨Z, 22, none⟩) (.inl rfl) (.int .i64 ps)
  have HG := hid0 G
  have HK := hid0 hK3
  clear G hK3
  go_frame
  go_wp2
  go_end0
  exact ⟨rfl, HG.out, HK.out⟩
end Go.Proofs.Qxb6601481a
