/-
  SEAT b6601481a: THE WALK OF ZZAdd (15).
-/
import Derived.Test.Qxb6601481aAdd2
namespace Go.Proofs.Qxb6601481a
open Go.RowKit Go.Deep
set_option linter.unusedVariables false
set_option linter.unusedSimpArgs false

/-- WHERE THE TOTALS LIE. -/
structure Zx where
  Z : Nat
  S : Nat
  PR : Nat
  NR : Nat
  B : Nat
  ph : Nat
  hasS : Bool
  hasP : Bool
  inst : Int
def Zx.sp (x : Zx) : Option Addr := if x.hasS then some ⟨x.S, 0, none⟩ else none
def Zx.pp (x : Zx) : Option Addr := if x.hasP then some ⟨x.PR, 0, none⟩ else none
def Zx.zc (x : Zx) (mean : Nat) (t : Tot) : Array Value := zcells x.inst x.sp x.pp mean t.und t.dis t.val t.ones t.rmax t.ms t.mb t.rs t.dec (if x.hasP then t.ps else 0)
structure Zx.Ok (x : Zx) : Prop where
  ZS : x.hasS = true → x.Z ≠ x.S
  ZP : x.hasP = true → x.Z ≠ x.PR
  ZN : x.hasP = true → x.Z ≠ x.NR
  SP : x.hasS = true → x.hasP = true → x.S ≠ x.PR
  SN : x.hasS = true → x.hasP = true → x.S ≠ x.NR
  PN : x.hasP = true → x.PR ≠ x.NR
  BZ : x.B ≤ x.Z
  BS : x.hasS = true → x.B ≤ x.S
  BP : x.hasP = true → x.B ≤ x.PR
  BN : x.hasP = true → x.B ≤ x.NR
  ph2 : x.ph ≤ 4096
/-- HOW THEY STAND. -/
structure Zx.St (x : Zx) (mean pm : Nat) (t : Tot) (w : World) : Prop where
  z : Has w x.Z 44 (x.zc mean t)
  s : x.hasS = true → Has w x.S 3 #[.int .i64 t.sf]
  p : x.hasP = true → Has w x.PR 56 (prc x.NR x.ph t.cm t.pmax pm)
  r : x.hasP = true → w.rowIs x.NR 3 x.ph (fun k => .int .i64 (t.na k))
theorem Zx.St.kept {x : Zx} {mean pm : Nat} {t : Tot} {w w' : World} (h : x.St mean pm t w) {K : Nat → Prop} (k : Kept K w w') (hz : ¬ K x.Z) (hs : x.hasS = true → ¬ K x.S) (hp : x.hasP = true → ¬ K x.PR) (hr : x.hasP = true → ¬ K x.NR) : x.St mean pm t w' :=
  ⟨k.has h.z hz, fun e => k.has (h.s e) (hs e), fun e => k.has (h.p e) (hp e), fun e => (h.r e).of_block (k.block _ (h.r e).lt (hr e))⟩
theorem Zx.St.below {x : Zx} {mean pm : Nat} {t : Tot} {w w' : World} (h : x.St mean pm t w) (k : Below w.heap.size w w') : x.St mean pm t w' :=
  h.kept (Kept.of_below (K := fun _ => False) k) (fun h => h) (fun _ h => h) (fun _ h => h) (fun _ h => h)

/-- what an outcome must meet -/
structure OutOk (x : Zx) (o : Out) : Prop where
  sf : o.sf = true → x.hasS = true
  nl : x.hasP = true → 0 < x.ph → 0 < o.nl
  nl2 : o.nl ≤ 1048576
  lr : o.lr ≤ 1099511627776
  pp1 : -1099511627776 ≤ o.pp
  pp2 : o.pp ≤ 1099511627776

set_option maxHeartbeats 4000000 in
set_option maxRecDepth 100000 in
theorem zzAdd_any (x : Zx) (ok : x.Ok) (mean pm : Nat) (t : Tot) (cal : Calm t) (o : Out) (oo : OutOk x o) (a : Option Addr) (n c : Nat) (w : World) (st : x.St mean pm t w) (hB : x.B ≤ w.heap.size) (LA LB : Nat) (hb : Bools LA LB w (.slice a n c) o.nl o.na) (hLB : LB ≤ w.heap.size) (hLS : x.hasS = true → x.S < LA) (hLP : x.hasP = true → x.PR < LA) (hLN : x.hasP = true → x.NR < LA) :
    Calls Try.prog 15 #[.pointer (some ⟨x.Z, 0, none⟩), .agg (oc o (.slice a n c))] w fun e w' => e = .returned (.tuple #[]) ∧ x.St mean pm (step t o) w' ∧ Below x.B w w' := by
  have hZw := st.z.lt
  go_enter Try.func15, Try.ntmps15
  have C28 : ∀ W, Below w.heap.size w W → Calls Try.prog 28 #[.pointer (some ⟨x.Z, 0, none⟩)] W fun e w' => e = .returned (.agg (x.zc mean t)) ∧ Below W.heap.size W w' := fun W hW => zzIn_any x.Z _ _ _ _ _ _ _ _ _ _ _ _ _ _ W (st.z.of_block (hW.block _ hZw))
  have hb0 : Below w.heap.size w (w.alloc (.cells (oc o (.slice a n c)) 48)) := (Below.refl _ _).alloc (Nat.le_refl _) _
  unfold oc at *
  go_wp2_with (first | (go_at_call 28; refine (C28 _ hb0).mono ?_; rintro e W ⟨rfl, hw⟩; refine Hid.out ?_))
  have hW : Below w.heap.size w W := hb0.trans (hw.mono (by simp))
  have stW : x.St mean pm t W := st.below hW
  have OW : Has W w.heap.size 48 (oc o (.slice a n c)) := Has.of_block (has_new w 48 (oc o (.slice a n c))) (hw.block _ (by simp))
  have hsz : w.heap.size < W.heap.size := OW.lt
  have bW := hb.below (hW.mono hLB)
  have hS0 : x.hasS = true → x.S < W.heap.size := fun hs => by have := (st.s hs).lt; omega
  have hP0 : x.hasP = true → x.PR < W.heap.size := fun hp => by have := (st.p hp).lt; omega
  have hN0 : x.hasP = true → x.NR < W.heap.size := fun hp => by have := (st.r hp).lt; omega
  clear hw C28 hb0 st hb
  refine hid0 ?_
  have hth : (W.alloc (.cells (zcells 0 none none 0 0 0 0 0 0 0 0 0 0 0) 70)).there W.heap.size 0 (x.zc mean t).size := (has_new W 70 _).there 0 _ (by simp [zcells, Zx.zc])
  have h1 : (x.zc mean t).all (·.oneCell') = true := z_one _ _ _ _ _ _ _ _ _ _ _ _ _ _
  have hs70 : (Try.prog.info? 70).map (·.size) = some (x.zc mean t).size := size70
  unfold zcells at hth
  go_upto_region 2 with (first | (refine wpList_store_mid rfl 70 (.tmp 4) (.tmp 6) rfl W.heap.size 0 (x.zc mean t) rfl rfl hth hs70 h1 ?_))
  have T1 : Below W.heap.size W ((W.alloc (.cells (zcells 0 none none 0 0 0 0 0 0 0 0 0 0 0) 70)).setCells W.heap.size 0 (x.zc mean t).toList) := Below_setCells ((Below.refl _ _).alloc (Nat.le_refl _) _) (Nat.le_refl _) _ _
  refine gen_world (fun V => Has V W.heap.size 70 (x.zc mean t) ∧ Below W.heap.size W V) ⟨(has_new W 70 (zcells 0 none none 0 0 0 0 0 0 0 0 0 0 0)).setAll (x.zc mean t) rfl, T1⟩ ?_
  clear T1 hth
  rintro V ⟨HV, kV⟩
  have stV := stW.below kV
  have OV : Has V w.heap.size 48 (oc o (.slice a n c)) := OW.of_block (kV.block _ hsz)
  have bV := bW.below (kV.mono (by omega))
  have hV : Below w.heap.size w V := hW.trans (kV.mono (by omega))
  have hTZ : W.heap.size ≠ x.Z := by omega
  have hZV := stV.z.lt
  clear bW stW kV
  have C29 : ∀ V2 : World, Below V.heap.size V V2 → Calls Try.prog 29 #[.pointer (some ⟨W.heap.size, 0, none⟩), .agg (oc o (.slice a n c))] V2 fun e w' => e = .returned (.tuple #[]) ∧
      (Has w' W.heap.size 70 (x.zc mean (step t o)) ∧ Has w' x.Z 44 (x.zc mean t) ∧ (x.hasS = true → Has w' x.S 3 #[.int .i64 (step t o).sf]) ∧ (x.hasP = true → Has w' x.PR 56 (prc x.NR x.ph (step t o).cm (step t o).pmax pm)) ∧ (x.hasP = true → w'.rowIs x.NR 3 x.ph (fun k => .int .i64 ((step t o).na k)))) ∧ Below x.B V2 w' := fun V2 h2 => by
    have st2 := stV.below h2
    have H2 : Has V2 W.heap.size 70 (x.zc mean t) := HV.of_block (h2.block _ HV.lt)
    have b2 := bV.below (h2.mono (by have := hV.size; omega))
    have hsV := hV.size
    have hs2 := h2.size
    have hTV := HV.lt
    have okx : Cx.Ok ⟨V2, W.heap.size, x.S, x.PR, x.NR, LA, LB, x.ph, x.hasS, x.hasP, o, a, n, c, x.inst, mean, pm⟩ := 
      { TS := fun hs => by have := (st2.s hs).lt; have := (stV.s hs).lt; have := (hS0 hs); show W.heap.size ≠ x.S; omega
        TP := fun hp => by have := (hP0 hp); show W.heap.size ≠ x.PR; omega
        TN := fun hp => by have := (hN0 hp); show W.heap.size ≠ x.NR; omega
        SP := ok.SP
        SN := ok.SN
        PN := ok.PN
        BT := by show LB ≤ W.heap.size; omega
        BS := fun h => Or.inl (hLS h)
        BP := fun h => Or.inl (hLP h)
        BN := fun h => Or.inl (hLN h)
        Tw := H2.lt
        Sw := fun hs => (st2.s hs).lt
        Pw := fun hp => (st2.p hp).lt
        Nw := fun hp => (st2.r hp).lt
        sf := oo.sf
        nl := oo.nl
        nl2 := oo.nl2
        ph2 := ok.ph2
        lr := oo.lr
        pp1 := oo.pp1
        pp2 := oo.pp2 }
    refine (add_any _ okx t (step t o) rfl cal (fun W' hO hk => ⟨hk.has H2 (by simp), hO, fun hs => hk.has (st2.s hs) (by simp), fun hp => hk.has (st2.p hp) (by simp), fun hp => (st2.r hp).of_block (hk.block _ (st2.r hp).lt (by simp)), b2.kept (fun b _ hb => hk.block b (by show b < V2.heap.size; omega) (by simp)), hk.mono (fun _ _ h => h.elim)⟩)).mono ?_
    rintro e w' ⟨rfl, s'⟩
    have hk := s'.k
    refine ⟨rfl, ⟨s'.z, hk.has st2.z ?_, s'.s, fun hp => ?_, fun hp => ?_⟩, hk.below (show x.B ≤ V2.heap.size by omega) ?_⟩
    · rintro (h | ⟨hs, h⟩ | ⟨hp, h⟩ | ⟨hp, h⟩)
      · exact hTZ h.symm
      · exact ok.ZS hs h
      · exact ok.ZP hp h
      · exact ok.ZN hp h
    · have := s'.p hp
      simpa [hp] using this
    · have := s'.r hp
      simpa [hp] using this
    · rintro b (rfl | ⟨hs, rfl⟩ | ⟨hp, rfl⟩ | ⟨hp, rfl⟩)
      · show x.B ≤ W.heap.size; omega
      · exact ok.BS hs
      · exact ok.BP hp
      · exact ok.BN hp
  have C31 : ∀ V3 : World, Has V3 W.heap.size 70 (x.zc mean (step t o)) → Has V3 x.Z 44 (x.zc mean t) → Calls Try.prog 31 #[.pointer (some ⟨W.heap.size, 0, none⟩), .pointer (some ⟨x.Z, 0, none⟩)] V3 fun e w' => e = .returned (.tuple #[]) ∧ Has w' x.Z 44 (x.zc mean (step t o)) ∧ Kept (fun b => b = x.Z) V3 w' := fun V3 h1 h2 => zzOut_any W.heap.size x.Z _ _ _ _ _ _ _ _ _ _ _ _ _ _ _ _ _ _ _ _ _ _ _ _ _ _ _ _ V3 h1 h2 hTZ
  have hb2 : Below V.heap.size V ((V.alloc (.cells (oc o (.slice a n c)) 48)).alloc (.cells (oc o (.slice a n c)) 74)) := ((Below.refl _ _).alloc (Nat.le_refl _) _).alloc (by simp) _
  have hfin : ∀ V3 V4 : World, Below x.B ((V.alloc (.cells (oc o (.slice a n c)) 48)).alloc (.cells (oc o (.slice a n c)) 74)) V3 → Kept (fun b => b = x.Z) V3 V4 → Below x.B w V4 := fun V3 V4 h3 h4 => (((hV.mono hB).trans (hb2.mono (by have := hV.size; omega))).trans h3).trans (h4.below (by have := h3.size; have := hb2.size; have := hV.size; omega) (by rintro b rfl; exact ok.BZ))
  have HF := hid0 hfin
  clear hfin
  go_frame
  go_wp2_with (first | (refine wpList_load_mid rfl 48 (.tmp 3) rfl w.heap.size 0 rfl (oc o (.slice a n c)).toList _ OV.range Try.underlying48 rfl size48 ?_; rw [Array.toArray_toList]) | (go_at_call 30; refine (zzOutcome_any o a n c _).mono ?_; rintro e V2 ⟨rfl, hw⟩; obtain rfl := hw.symm) | (go_at_call 29; refine (C29 _ hb2).mono ?_; rintro e V3 ⟨rfl, ⟨G1, G2, G3, G4, G5⟩, G6⟩) | (go_at_call 31; refine (C31 _ G1 G2).mono ?_; rintro e V4 ⟨rfl, G7, G8⟩))
  go_end0
  refine ⟨rfl, ⟨G7, fun hs => G8.has (G3 hs) (fun e => ok.ZS hs e.symm), fun hp => G8.has (G4 hp) (fun e => ok.ZP hp e.symm), fun hp => (G5 hp).of_block (G8.block _ (G5 hp).lt (fun e => ok.ZN hp e.symm))⟩, HF.out _ _ G6 G8⟩
end Go.Proofs.Qxb6601481a
