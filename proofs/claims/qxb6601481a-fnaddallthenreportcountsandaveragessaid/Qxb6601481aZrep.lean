/-
  SEAT b6601481a: THE WALK OF ZZReport (20).
-/
import Derived.Test.Qxb6601481aZadd
import Derived.Test.Qxb6601481aRepn
namespace Go.Proofs.Qxb6601481a
open Go.RowKit Go.Deep
set_option linter.unusedVariables false
set_option linter.unusedSimpArgs false

def Zx.rc (x : Zx) (mean : Nat) (t : Tot) : Array Value := rcells x.inst x.sp x.pp mean t.und t.dis t.val t.ones t.rmax t.ms t.mb

/-- what may stand as the mean of the phases -/
def PhIs (ps inst : Int) (p : Nat → Prop) : Prop := (∃ r, floatBits .quo .f64 (floatOfInt .f64 ps) (floatOfInt .f64 inst) = some r ∧ p r) ∨ (floatBits .quo .f64 (floatOfInt .f64 ps) (floatOfInt .f64 inst) = none ∧ ∀ V, p (nanOf V (floatOfInt .f64 ps) (floatOfInt .f64 inst)))

theorem report_all (x : Zx) (mean mean' pm T : Nat) (t : Tot) (p : Nat → Prop) (w : World) (H : Has w T 70 (x.zc mean t)) (HP : x.hasP = true → Has w x.PR 56 (prc x.NR x.ph t.cm t.pmax pm)) (hTP : x.hasP = true → T ≠ x.PR) (hm : MeanIs mean t.rs t.dec mean') (hq : x.hasP = true → PhIs t.ps x.inst p) :
    Calls Try.prog 32 #[.pointer (some ⟨T, 0, none⟩)] w fun e w' => e = .returned (.agg (x.rc mean' t)) ∧ Has w' T 70 (x.zc mean' t) ∧ Kept (fun b => b = T ∨ (x.hasP = true ∧ b = x.PR)) w w' ∧ ∃ pm', (x.hasP = true → Has w' x.PR 56 (prc x.NR x.ph t.cm t.pmax pm')) ∧ (x.hasP = true → p pm') := by
  cases hP : x.hasP with
  | false =>
    have hz : ∀ m, x.zc m t = zcells x.inst x.sp none m t.und t.dis t.val t.ones t.rmax t.ms t.mb t.rs t.dec 0 := fun m => by simp [Zx.zc, Zx.pp, hP]
    have hr : ∀ m, x.rc m t = rcells x.inst x.sp none m t.und t.dis t.val t.ones t.rmax t.ms t.mb := fun m => by simp [Zx.rc, Zx.pp, hP]
    rw [hz] at H
    simp only [hz, hr]
    refine (report_no T (w.heap.size) 0 0 x.inst x.sp mean mean' pm t.und t.dis t.val t.ones t.rmax t.ms t.mb t.rs t.dec 0 0 0 w H hm).mono ?_
    rintro e w' ⟨rfl, h1, h2⟩
    refine ⟨rfl, h1, h2.mono (fun b hb hK => ?_), pm, fun h => by simp at h, fun h => by simp at h⟩
    rcases hK with h | h
    · exact .inl h
    · omega
  | true =>
    have hz : ∀ m, x.zc m t = zcells x.inst x.sp (some ⟨x.PR, 0, none⟩) m t.und t.dis t.val t.ones t.rmax t.ms t.mb t.rs t.dec t.ps := fun m => by simp [Zx.zc, Zx.pp, hP]
    have hr : ∀ m, x.rc m t = rcells x.inst x.sp (some ⟨x.PR, 0, none⟩) m t.und t.dis t.val t.ones t.rmax t.ms t.mb := fun m => by simp [Zx.rc, Zx.pp, hP]
    rw [hz] at H
    simp only [hz, hr]
    rcases hq hP with ⟨r, hr, hp⟩ | ⟨hr, hp⟩
    · refine (report_yes T x.PR x.NR x.ph x.inst x.sp mean mean' pm r t.und t.dis t.val t.ones t.rmax t.ms t.mb t.rs t.dec t.ps t.cm t.pmax w H hm (HP hP) (hTP hP) hr).mono ?_
      rintro e w' ⟨rfl, h1, h2, h3⟩
      exact ⟨rfl, h1, h2.mono (fun b _ hK => hK.elim .inl (fun h => .inr ⟨trivial, h⟩)), r, fun _ => h3, fun _ => hp⟩
    · refine (report_nan T x.PR x.NR x.ph x.inst x.sp mean mean' pm t.und t.dis t.val t.ones t.rmax t.ms t.mb t.rs t.dec t.ps t.cm t.pmax w H hm (HP hP) (hTP hP) hr).mono ?_
      rintro e w' ⟨rfl, h1, h2, V, h3⟩
      exact ⟨rfl, h1, h2.mono (fun b _ hK => hK.elim .inl (fun h => .inr ⟨trivial, h⟩)), _, fun _ => h3, fun _ => hp V⟩

set_option maxHeartbeats 4000000 in
set_option maxRecDepth 100000 in
theorem zzReport_any (x : Zx) (ok : x.Ok) (mean mean' pm : Nat) (t : Tot) (p : Nat → Prop) (w : World) (st : x.St mean pm t w) (hB : x.B ≤ w.heap.size) (hm : MeanIs mean t.rs t.dec mean') (hq : x.hasP = true → PhIs t.ps x.inst p) :
    Calls Try.prog 20 #[.pointer (some ⟨x.Z, 0, none⟩)] w fun e w' => e = .returned (.agg (x.rc mean' t)) ∧ (∃ pm', x.St mean' pm' t w' ∧ (x.hasP = true → p pm')) ∧ Below x.B w w' := by
  have hZw := st.z.lt
  go_enter Try.func20, Try.ntmps20
  have C28 : ∀ W, Below w.heap.size w W → Calls Try.prog 28 #[.pointer (some ⟨x.Z, 0, none⟩)] W fun e w' => e = .returned (.agg (x.zc mean t)) ∧ Below W.heap.size W w' := fun W hW => zzIn_any x.Z _ _ _ _ _ _ _ _ _ _ _ _ _ _ W (st.z.of_block (hW.block _ hZw))
  have hb0 : Below w.heap.size w (w.alloc (.cells (rcells 0 none none 0 0 0 0 0 0 0 0) 42)) := (Below.refl _ _).alloc (Nat.le_refl _) _
  have hb0' := hb0
  unfold rcells at hb0'
  go_wp2_with (first | (go_at_call 28; refine (C28 _ hb0').mono ?_; rintro e W ⟨rfl, hw⟩; refine Hid.out ?_))
  have hW : Below w.heap.size w W := hb0.trans (hw.mono (by simp))
  have stW : x.St mean pm t W := st.below hW
  have OW : Has W w.heap.size 42 (rcells 0 none none 0 0 0 0 0 0 0 0) := Has.of_block (has_new w 42 (rcells 0 none none 0 0 0 0 0 0 0 0)) (hw.block _ (by simp))
  have hsz : w.heap.size < W.heap.size := OW.lt
  have hS0 : x.hasS = true → x.S < w.heap.size := fun hs => (st.s hs).lt
  have hP0 : x.hasP = true → x.PR < w.heap.size := fun hp => (st.p hp).lt
  have hN0 : x.hasP = true → x.NR < w.heap.size := fun hp => (st.r hp).lt
  clear hw C28 hb0 hb0' st
  refine hid0 ?_
  have hth : (W.alloc (.cells (zcells 0 none none 0 0 0 0 0 0 0 0 0 0 0) 70)).there W.heap.size 0 (x.zc mean t).size := (has_new W 70 _).there 0 _ (by simp [zcells, Zx.zc])
  have h1 : (x.zc mean t).all (·.oneCell') = true := z_one _ _ _ _ _ _ _ _ _ _ _ _ _ _
  have hs70 : (Try.prog.info? 70).map (·.size) = some (x.zc mean t).size := size70
  unfold zcells at hth
  go_upto_region 2 with (first | (refine wpList_store_mid rfl 70 (.tmp 3) (.tmp 6) rfl W.heap.size 0 (x.zc mean t) rfl rfl hth hs70 h1 ?_))
  have T1 : Below W.heap.size W ((W.alloc (.cells (zcells 0 none none 0 0 0 0 0 0 0 0 0 0 0) 70)).setCells W.heap.size 0 (x.zc mean t).toList) := Below_setCells ((Below.refl _ _).alloc (Nat.le_refl _) _) (Nat.le_refl _) _ _
  refine gen_world (fun V => Has V W.heap.size 70 (x.zc mean t) ∧ Below W.heap.size W V) ⟨(has_new W 70 (zcells 0 none none 0 0 0 0 0 0 0 0 0 0 0)).setAll (x.zc mean t) rfl, T1⟩ ?_
  clear T1 hth
  rintro V ⟨HV, kV⟩
  have stV := stW.below kV
  have OV : Has V w.heap.size 42 (rcells 0 none none 0 0 0 0 0 0 0 0) := OW.of_block (kV.block _ hsz)
  have hV : Below w.heap.size w V := hW.trans (kV.mono (by omega))
  have hTZ : W.heap.size ≠ x.Z := by omega
  clear stW kV
  have C32 : ∀ V2 : World, V2 = V → Calls Try.prog 32 #[.pointer (some ⟨W.heap.size, 0, none⟩)] V2 _ := fun V2 h2 => report_all x mean mean' pm W.heap.size t p V2 (h2 ▸ HV) (fun hp => h2 ▸ stV.p hp) (fun hp => by have := hP0 hp; omega) hm hq
  have R1 : (x.rc mean' t).all (·.oneCell') = true := r_one _ _ _ _ _ _ _ _ _ _ _
  have hs42 : (Try.prog.info? 42).map (·.size) = some (x.rc mean' t).size := size42
  have hthR : ∀ V2 : World, (V2.alloc (.cells (rcells 0 none none 0 0 0 0 0 0 0 0) 42)).there V2.heap.size 0 (x.rc mean' t).size := fun V2 => (has_new V2 42 _).there 0 _ (by simp [rcells, Zx.rc])
  unfold rcells at hthR
  go_frame
  go_upto_region 3 with (first | (go_at_call 32; refine (C32 _ rfl).mono ?_; rintro e V2 ⟨rfl, G1, G2, pm', G3, G4⟩) | (refine wpList_store_mid rfl 42 (.tmp 4) (.tmp 7) rfl V2.heap.size 0 (x.rc mean' t) rfl rfl (hthR V2) hs42 R1 ?_))
  have T1 : Below V2.heap.size V2 ((V2.alloc (.cells (rcells 0 none none 0 0 0 0 0 0 0 0) 42)).setCells V2.heap.size 0 (x.rc mean' t).toList) := Below_setCells ((Below.refl _ _).alloc (Nat.le_refl _) _) (Nat.le_refl _) _ _
  refine gen_world (fun V3 => Has V3 V2.heap.size 42 (x.rc mean' t) ∧ Below V2.heap.size V2 V3) ⟨(has_new V2 42 (rcells 0 none none 0 0 0 0 0 0 0 0)).setAll (x.rc mean' t) rfl, T1⟩ ?_
  clear T1
  rintro V3 ⟨HR3, k3⟩
  have k23 : Kept (fun b => b = W.heap.size ∨ (x.hasP = true ∧ b = x.PR)) V V3 := G2.trans (Kept.of_below k3)
  have z3 : Has V3 x.Z 44 (x.zc mean t) := k23.has stV.z (by rintro (h | ⟨hp, h⟩); exact hTZ h.symm; exact ok.ZP hp h)
  have t3 : Has V3 W.heap.size 70 (x.zc mean' t) := G1.of_block (k3.block _ G1.lt)
  have s3 : x.hasS = true → Has V3 x.S 3 #[.int .i64 t.sf] := fun hs => k23.has (stV.s hs) (by rintro (h | ⟨hp, h⟩); (have := hS0 hs; omega); exact ok.SP hs hp h)
  have p3 : x.hasP = true → Has V3 x.PR 56 (prc x.NR x.ph t.cm t.pmax pm') := fun hp => (G3 hp).of_block (k3.block _ (G3 hp).lt)
  have r3 : x.hasP = true → V3.rowIs x.NR 3 x.ph (fun k => .int .i64 (t.na k)) := fun hp => (stV.r hp).of_block (k23.block _ (stV.r hp).lt (by rintro (h | ⟨_, h⟩); (have := hN0 hp; omega); exact ok.PN hp h.symm))
  have O3 : Has V3 w.heap.size 42 (rcells 0 none none 0 0 0 0 0 0 0 0) := k23.has OV (by rintro (h | ⟨hp, h⟩); omega; (have := hP0 hp; omega))
  have B3 : Below x.B w V3 := (hV.mono hB).trans (k23.below (by have := hV.size; omega) (by rintro b (rfl | ⟨hp, rfl⟩); omega; exact ok.BP hp))
  have hlt2 : w.heap.size < V2.heap.size := by have := G1.lt; omega
  have hZ2 : x.Z < V2.heap.size := by omega
  have C31 : ∀ V4 : World, V4 = V3 → Calls Try.prog 31 #[.pointer (some ⟨W.heap.size, 0, none⟩), .pointer (some ⟨x.Z, 0, none⟩)] V4 fun e w' => e = .returned (.tuple #[]) ∧ Has w' x.Z 44 (x.zc mean' t) ∧ Kept (fun b => b = x.Z) V4 w' := fun V4 h4 => zzOut_any W.heap.size x.Z _ _ _ _ _ _ _ _ _ _ _ _ _ _ _ _ _ _ _ _ _ _ _ _ _ _ _ _ V4 (h4 ▸ t3) (h4 ▸ z3) hTZ
  clear C32 hthR k23 G1 G2 G3
  go_frame
  go_upto_region 4 with (first | (go_at_call 31; refine (C31 _ rfl).mono ?_; rintro e V4 ⟨rfl, G7, G8⟩))
  have R4 : Has V4 V2.heap.size 42 (x.rc mean' t) := G8.has HR3 (by show ¬ V2.heap.size = x.Z; omega)
  have O4 : Has V4 w.heap.size 42 (rcells 0 none none 0 0 0 0 0 0 0 0) := G8.has O3 (by show ¬ w.heap.size = x.Z; omega)
  have st4 : x.St mean' pm' t V4 := ⟨G7, fun hs => G8.has (s3 hs) (fun e => ok.ZS hs e.symm), fun hp => G8.has (p3 hp) (fun e => ok.ZP hp e.symm), fun hp => (r3 hp).of_block (G8.block _ (r3 hp).lt (fun e => ok.ZN hp e.symm))⟩
  have B4 : Below x.B w V4 := B3.trans (G8.below (by have := B3.size; omega) (by rintro b rfl; exact ok.BZ))
  have hs42' : (Try.prog.info? 42).map (·.size) = some (x.rc mean' t).toList.length := size42
  go_wp2_with (first | (refine wpList_load_mid rfl 42 (.tmp 4) rfl V2.heap.size 0 rfl (x.rc mean' t).toList _ R4.range Try.underlying42 rfl hs42' ?_; rw [Array.toArray_toList]) | (refine wpList_store_mid rfl 42 (.tmp 2) (.tmp 10) rfl w.heap.size 0 (x.rc mean' t) rfl rfl (O4.there 0 _ (by simp [rcells, Zx.rc])) hs42 R1 ?_))
  refine bodyPost_ret (v := .agg (x.rc mean' t)) (results_has rfl _ _ w.heap.size 42 _ _ rfl (O4.setAll (x.rc mean' t) rfl) Try.underlying42 rfl hs42) rfl ⟨rfl, ⟨pm', ?_, G4⟩, Below_setCells B4 hB _ _⟩
  exact st4.kept (K := fun b => b = w.heap.size) ((Kept.refl (fun b => b = w.heap.size) V4).setCells (b := w.heap.size) (.inl rfl) _ _) (by omega) (fun hs => by have := hS0 hs; omega) (fun hp => by have := hP0 hp; omega) (fun hp => by have := hN0 hp; omega)
end Go.Proofs.Qxb6601481a
