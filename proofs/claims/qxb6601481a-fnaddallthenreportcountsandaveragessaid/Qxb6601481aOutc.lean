/-
  SEAT b6601481a: AN OUTCOME; THE WALKS OF zzOutcome (30), cloneOutcomeIn (13), toOutcome (16).
-/
import Derived.Test.Qxb6601481aSmall
import Derived.Deep.RegionHeld3
namespace Go.Proofs.Qxb6601481a
open Go.RowKit Go.Deep
set_option linter.unusedVariables false
set_option linter.unusedSimpArgs false

structure Out where
  und : Bool
  dis : Bool
  val : Bool
  ones : Bool
  sf : Bool
  lr : Int
  ms : Int
  mb : Int
  nl : Nat
  na : Nat → Bool
  cm : Int
  pp : Int

/-- its eleven cells; v: the slice -/
def oc (o : Out) (v : Value) : Array Value := #[.bool o.und, .bool o.dis, .bool o.val, .bool o.ones, .bool o.sf, .int .i64 o.lr, .int .i64 o.ms, .int .i64 o.mb, v, .int .i64 o.cm, .int .i64 o.pp]

def ocz : Array Value := oc ⟨false, false, false, false, false, 0, 0, 0, 0, fun _ => false, 0, 0⟩ (.slice none 0 0)
theorem size34 : (Try.prog.info? 34).map (·.size) = some 11 := by kernel_rfl
theorem size48 : (Try.prog.info? 48).map (·.size) = some 11 := by kernel_rfl
theorem size74 : (Try.prog.info? 74).map (·.size) = some 11 := by kernel_rfl

set_option maxHeartbeats 1000000 in
set_option maxRecDepth 100000 in
theorem zzOutcome_any (o : Out) (a : Option Addr) (n c : Nat) (w : World) : Calls Try.prog 30 #[.agg (oc o (.slice a n c))] w fun e w' => e = .returned (.agg (oc o (.slice a n c))) ∧ w' = (w.alloc (.cells (oc o (.slice a n c)) 48)).alloc (.cells (oc o (.slice a n c)) 74) := by
  unfold oc
  go_enter Try.func30, Try.ntmps30
  go_wp2
  refine bodyPost_ret (v := .agg (oc o (.slice a n c))) (by simp [results, Try.results30, go_sem, oc]) rfl ⟨rfl, rfl⟩

theorem has_at {w : World} {N t : Nat} {c : Array Value} (h : w.heap.size = N) : Has (w.alloc (.cells c t)) N t c := by subst h; exact has_new _ _ _

/-- a struct result that lies in block b -/
theorem results_has {fn : Func} {p : Tmp} {ty : TypeId} (h : fn.results = #[.cell p ty]) (tmps : Array Value) (w : World) (b t : Nat) (c : Array Value) (d : TypeDesc) (hp : tmps.getD p undef = .pointer (some ⟨b, 0, none⟩)) (hh : Has w b t c)
    (hu : Try.prog.underlying ty = some d) (hd : d.isRow = true) (hi : (Try.prog.info? ty).map (·.size) = some c.size) :
    (results fn tmps).run Try.prog w = .ok (.agg c) w := by
  have hl := run_loadVar_mid (P := Try.prog) w b 0 ty c.toList d hh.range hu hd (by simpa using hi)
  simp only [results, h]
  simp only [Array.getD_eq_getD_getElem?] at hp
  simp [Sem.run_bind, Result.andThen, hp, asAddr, hl]

theorem setCells_whole {b t : Nat} : ∀ (vs : List Value) (o : Nat) (w : World) (c : Array Value) (hh : Has w b t c), o + vs.length ≤ c.size →
    Has (w.setCells b o vs) b t (c.toList.take o ++ vs ++ c.toList.drop (o + vs.length)).toArray := by
  intro vs
  induction vs with
  | nil => intro o w c hh _; simpa [World.setCells] using hh
  | cons v r ih =>
    intro o w c hh hl
    simp only [List.length_cons] at hl
    rw [World.setCells]
    have h1 := hh.set o v _ rfl
    have h2 := ih (o + 1) _ _ h1 (by simp; omega)
    unfold Has at h2 ⊢
    rw [h2]
    congr 2
    apply Array.toList_inj.1
    simp only [Array.toList_setIfInBounds]
    have e : o < c.toList.length := by simp; omega
    rw [List.take_set, List.drop_set]
    rw [if_pos (by omega), List.take_add_one, List.getElem?_eq_getElem e]
    simp [List.set_append, show min o c.size = o by omega]
    omega

/-- the store of a whole struct -/
theorem Has.setAll {w : World} {b t : Nat} {c : Array Value} (hh : Has w b t c) (vs : Array Value) (h : vs.size = c.size) : Has (w.setCells b 0 vs.toList) b t vs := by
  have := setCells_whole vs.toList 0 w c hh (by simp [h])
  have e : (c.toList.take 0 ++ vs.toList ++ c.toList.drop (0 + vs.toList.length)).toArray = vs := by
    rw [List.drop_of_length_le (by simp [h])]
    simp
  rwa [e] at this

theorem setCells_other (b b' : Nat) : ∀ (vs : List Value) (o : Nat) (w : World), b' ≠ b → (w.setCells b o vs).heap[b']? = w.heap[b']? := by
  intro vs
  induction vs with
  | nil => intro o w _; rfl
  | cons v r ih =>
    intro o w h
    rw [World.setCells, ih _ _ h]
    exact blk_setCell_other _ _ _ _ h
theorem setCells_same (b : Nat) : ∀ (vs : List Value) (o : Nat) (w : World), (w.setCells b o vs).os = w.os ∧ (w.setCells b o vs).tape = w.tape ∧ (w.setCells b o vs).output = w.output ∧ (w.setCells b o vs).heap.size = w.heap.size := by
  intro vs
  induction vs with
  | nil => intro o w; exact ⟨rfl, rfl, rfl, rfl⟩
  | cons v r ih =>
    intro o w
    rw [World.setCells]
    obtain ⟨h1, h2, h3, h4⟩ := ih (o + 1) (w.setCell ⟨b, o, none⟩ v)
    exact ⟨h1, h2, h3, by rw [h4]; simp⟩
theorem Has.setCellsOther {w : World} {b t : Nat} {c : Array Value} (h : Has w b t c) {b' : Nat} (o : Nat) (vs : List Value) (hb : b ≠ b') : Has (w.setCells b' o vs) b t c := h.of_block (setCells_other b' b vs o w hb)
theorem Kept.setCells {K : Nat → Prop} {w w' : World} (h : Kept K w w') {b : Nat} (ha : K b ∨ w.heap.size ≤ b) (o : Nat) (vs : List Value) : Kept K w (w'.setCells b o vs) := by
  obtain ⟨h1, h2, h3, h4⟩ := setCells_same b vs o w'
  exact ⟨h1.trans h.os, h2.trans h.tape, h3.trans h.output, by rw [h4]; exact h.size, fun k hk hK => (setCells_other b k vs o w' (by rintro rfl; rcases ha with ha | ha; exact hK ha; omega)).trans (h.block k hk hK)⟩

theorem Below_setCells {B : Nat} {w w' : World} (h : Below B w w') {b : Nat} (hb : B ≤ b) (o : Nat) (vs : List Value) : Below B w (w'.setCells b o vs) := by
  obtain ⟨h1, h2, h3, h4⟩ := setCells_same b vs o w'
  exact ⟨h1.trans h.os, h2.trans h.tape, h3.trans h.output, by rw [h4]; exact h.size, fun k hk => (setCells_other b k vs o w' (by omega)).trans (h.block k hk)⟩
theorem oc_cells {w : World} {b t : Nat} {o : Out} {v : Value} (h : Has w b t (oc o v)) : w.cell? ⟨b, 0, none⟩ = some (.bool o.und) ∧ w.cell? ⟨b, 1, none⟩ = some (.bool o.dis) ∧ w.cell? ⟨b, 2, none⟩ = some (.bool o.val) ∧ w.cell? ⟨b, 3, none⟩ = some (.bool o.ones) ∧ w.cell? ⟨b, 4, none⟩ = some (.bool o.sf) ∧ w.cell? ⟨b, 5, none⟩ = some (.int .i64 o.lr) ∧ w.cell? ⟨b, 6, none⟩ = some (.int .i64 o.ms) ∧ w.cell? ⟨b, 7, none⟩ = some (.int .i64 o.mb) ∧ w.cell? ⟨b, 8, none⟩ = some v ∧ w.cell? ⟨b, 9, none⟩ = some (.int .i64 o.cm) ∧ w.cell? ⟨b, 10, none⟩ = some (.int .i64 o.pp) :=
  ⟨h.cell 0 _ rfl, h.cell 1 _ rfl, h.cell 2 _ rfl, h.cell 3 _ rfl, h.cell 4 _ rfl, h.cell 5 _ rfl, h.cell 6 _ rfl, h.cell 7 _ rfl, h.cell 8 _ rfl, h.cell 9 _ rfl, h.cell 10 _ rfl⟩
theorem ocz_cells {w : World} {b t : Nat} (h : Has w b t ocz) : w.cell? ⟨b, 0, none⟩ = some (.bool false) ∧ w.cell? ⟨b, 1, none⟩ = some (.bool false) ∧ w.cell? ⟨b, 2, none⟩ = some (.bool false) ∧ w.cell? ⟨b, 3, none⟩ = some (.bool false) ∧ w.cell? ⟨b, 4, none⟩ = some (.bool false) ∧ w.cell? ⟨b, 5, none⟩ = some (.int .i64 0) ∧ w.cell? ⟨b, 6, none⟩ = some (.int .i64 0) ∧ w.cell? ⟨b, 7, none⟩ = some (.int .i64 0) ∧ w.cell? ⟨b, 8, none⟩ = some (.slice none 0 0) ∧ w.cell? ⟨b, 9, none⟩ = some (.int .i64 0) ∧ w.cell? ⟨b, 10, none⟩ = some (.int .i64 0) :=
  ⟨h.cell 0 _ rfl, h.cell 1 _ rfl, h.cell 2 _ rfl, h.cell 3 _ rfl, h.cell 4 _ rfl, h.cell 5 _ rfl, h.cell 6 _ rfl, h.cell 7 _ rfl, h.cell 8 _ rfl, h.cell 9 _ rfl, h.cell 10 _ rfl⟩
theorem frozen11 {w : World} {b t : Nat} {c : Array Value} (h : Has w b t c) : w.frozen? ⟨b, 0, none⟩ = false ∧ w.frozen? ⟨b, 1, none⟩ = false ∧ w.frozen? ⟨b, 2, none⟩ = false ∧ w.frozen? ⟨b, 3, none⟩ = false ∧ w.frozen? ⟨b, 4, none⟩ = false ∧ w.frozen? ⟨b, 5, none⟩ = false ∧ w.frozen? ⟨b, 6, none⟩ = false ∧ w.frozen? ⟨b, 7, none⟩ = false ∧ w.frozen? ⟨b, 8, none⟩ = false ∧ w.frozen? ⟨b, 9, none⟩ = false ∧ w.frozen? ⟨b, 10, none⟩ = false :=
  ⟨h.frozen 0, h.frozen 1, h.frozen 2, h.frozen 3, h.frozen 4, h.frozen 5, h.frozen 6, h.frozen 7, h.frozen 8, h.frozen 9, h.frozen 10⟩
theorem oc_one (o : Out) (a : Option Addr) (n c : Nat) : (oc o (.slice a n c)).all (·.oneCell') = true := by simp [oc, Value.oneCell']

set_option maxHeartbeats 1000000 in
set_option maxRecDepth 100000 in
theorem cloneOutcome_any (o : Out) (a : Option Addr) (n c : Nat) (w : World) (h : Bools 0 w.heap.size w (.slice a n c) o.nl o.na) (hn : o.nl ≤ 1048576) : Calls Try.prog 13 #[.agg (oc o (.slice a n c))] w fun e w' =>
    (∃ a' n' c', e = .returned (.agg (oc o (.slice a' n' c'))) ∧ Bools w.heap.size w'.heap.size w' (.slice a' n' c') o.nl o.na) ∧ Below w.heap.size w w' := by
  have C : ∀ W, Below w.heap.size w W → Calls Try.prog 27 #[.slice a n c] W _ := fun W hW => cloneBools_any _ _ _ _ _ W (h.below hW) hn
  have hB3 : ∀ (z x : Array Value), Below w.heap.size w (((w.alloc (.cells (oc o (.slice a n c)) 34)).alloc (.cells z 34)).alloc (.cells x 34)) := fun z x => (((Below.refl _ _).alloc (Nat.le_refl _) _).alloc (by simp) _).alloc (by simp; omega) _
  go_enter Try.func13, Try.ntmps13
  unfold oc at *
  go_wp2_with (first | (go_at_call 27; refine (C _ (hB3 _ _)).mono ?_; rintro e W ⟨⟨a', n', c', rfl, hb⟩, hw⟩; refine Hid.out ?_))
  have hsz : ((((w.alloc (.cells (oc o (.slice a n c)) 34)).alloc (.cells ocz 34)).alloc (.cells (oc o (.slice a n c)) 34))).heap.size = w.heap.size + 3 := by simp
  have H1 : Has W (w.heap.size + 1) 34 ocz := Has.of_block ((has_at (c := ocz) (by simp)).alloc _) (hw.block _ (by simp))
  have H2 : Has W (w.heap.size + 1 + 1) 34 (oc o (.slice a n c)) := Has.of_block (has_at (c := oc o (.slice a n c)) (by simp)) (hw.block _ (by simp))
  have hB : Below w.heap.size w W := (hB3 _ _).trans (hw.mono (by simp; omega))
  clear hw C hB3 hsz
  refine hid0 ?_
  have q2 := H2.cell 8 _ rfl
  have q3 := H2.frozen 8
  go_upto_region 3 with fail
  refine gen_world (fun V => Has V (w.heap.size + 1 + 1) 34 (oc o (.slice a' n' c')) ∧ Has V (w.heap.size + 1) 34 ocz ∧ Bools (w.heap.size + 1 + 1 + 1) V.heap.size V (.slice a' n' c') o.nl o.na ∧ Below w.heap.size w V) ⟨H2.set 8 _ _ rfl, H1.setOther (by simp) _, ?_, hB.setCell (by simp; omega) _⟩ ?_
  · simp only [World.size_setCell]
    refine (hb.mono (by simp) (Nat.le_refl _)).kept (fun b h1 _ => blk_setCell_other _ _ _ _ (by simp; omega))
  clear hb H1 H2 hB q2 q3 W
  rintro V ⟨H2, H1, hb, hB⟩
  go_wp2_with (first | (refine wpList_load_mid rfl 34 (.tmp 3) rfl (w.heap.size + 1 + 1) 0 rfl (oc o (.slice a' n' c')).toList _ H2.range Try.underlying34 rfl size34 ?_; rw [Array.toArray_toList]) | (refine wpList_store_mid rfl 34 (.tmp 2) (.tmp 9) rfl (w.heap.size + 1) 0 (oc o (.slice a' n' c')) rfl rfl (H1.there 0 _ (Nat.le_refl _)) size34 (oc_one _ _ _ _) ?_))
  refine bodyPost_ret (v := .agg (oc o (.slice a' n' c'))) (results_has rfl _ _ (w.heap.size + 1) 34 _ _ rfl (H1.setAll _ rfl) Try.underlying34 rfl size34) rfl ⟨⟨a', n', c', rfl, ?_⟩, Below_setCells hB (by omega) _ _⟩
  rw [(setCells_same _ _ _ _).2.2.2]
  exact (hb.kept (fun b h1 _ => setCells_other _ _ _ _ _ (by omega))).mono (by omega) (Nat.le_refl _)

set_option maxHeartbeats 2000000 in
set_option maxRecDepth 100000 in
theorem toOutcome_any (o : Out) (a : Option Addr) (n c : Nat) (w : World) (h : Bools 0 w.heap.size w (.slice a n c) o.nl o.na) (hn : o.nl ≤ 1048576) : Calls Try.prog 16 #[.agg (oc o (.slice a n c))] w fun e w' =>
    (∃ a' n' c', e = .returned (.agg (oc o (.slice a' n' c'))) ∧ Bools w.heap.size w'.heap.size w' (.slice a' n' c') o.nl o.na) ∧ Below w.heap.size w w' := by
  have C : ∀ W, Below w.heap.size w W → Calls Try.prog 27 #[.slice a n c] W _ := fun W hW => cloneBools_any _ _ _ _ _ W (h.below hW) hn
  go_enter Try.func16, Try.ntmps16
  unfold oc at *
  go_upto_region 1 with fail
  refine gen_world (fun V => Has V w.heap.size 34 (oc o (.slice a n c)) ∧ Has V (w.heap.size + 1) 48 ocz ∧ Below w.heap.size w V) ⟨(has_new w 34 (oc o (.slice a n c))).alloc _, has_at (c := ocz) (by simp), ((Below.refl _ _).alloc (Nat.le_refl _) _).alloc (by simp) _⟩ ?_
  rintro V ⟨H1, H2, hB⟩
  have HC := hid0 (C V.drew ⟨hB.os, hB.tape, hB.output, hB.size, hB.block⟩)
  clear C
  obtain ⟨x0, x1, x2, x3, x4, x5, x6, x7, x8, x9, x10⟩ := oc_cells H1
  go_region_held3 (fun V => V.cell? ⟨w.heap.size, 0, none⟩ = some (.bool o.und) ∧ V.cell? ⟨w.heap.size, 1, none⟩ = some (.bool o.dis) ∧ V.cell? ⟨w.heap.size, 2, none⟩ = some (.bool o.val) ∧ V.cell? ⟨w.heap.size, 3, none⟩ = some (.bool o.ones) ∧ V.cell? ⟨w.heap.size, 4, none⟩ = some (.bool o.sf)
    ∧ V.cell? ⟨w.heap.size, 5, none⟩ = some (.int .i64 o.lr) ∧ V.cell? ⟨w.heap.size, 6, none⟩ = some (.int .i64 o.ms) ∧ V.cell? ⟨w.heap.size, 7, none⟩ = some (.int .i64 o.mb) ∧ V.cell? ⟨w.heap.size, 8, none⟩ = some (.slice a n c) ∧ V.cell? ⟨w.heap.size, 9, none⟩ = some (.int .i64 o.cm) ∧ V.cell? ⟨w.heap.size, 10, none⟩ = some (.int .i64 o.pp)) (go_keep)
    (first | (go_at_call 27; refine HC.out.mono ?_; rintro e W ⟨⟨a', n', c', rfl, hb⟩, hw⟩; have G1 : Has W w.heap.size 34 (oc o (.slice a n c)) := H1.of_block (hw.block _ H1.lt); have G2 : Has W (w.heap.size + 1) 48 ocz := H2.of_block (hw.block _ H2.lt); obtain ⟨y0, y1, y2, y3, y4, y5, y6, y7, y8, y9, y10⟩ := oc_cells G1; obtain ⟨z0, z1, z2, z3, z4, z5, z6, z7, z8, z9, z10⟩ := ocz_cells G2; obtain ⟨f0, f1, f2, f3, f4, f5, f6, f7, f8, f9, f10⟩ := frozen11 G2))
  clear x0 x1 x2 x3 x4 x5 x6 x7 x8 x9 x10 y0 y1 y2 y3 y4 y5 y6 y7 y8 y9 y10 z0 z1 z2 z3 z4 z5 z6 z7 z8 z9 z10 f0 f1 f2 f3 f4 f5 f6 f7 f8 f9 f10 HC
  have hBd : Below w.heap.size w V.drew := ⟨hB.os, hB.tape, hB.output, hB.size, hB.block⟩
  have hV : Below w.heap.size w W := hBd.trans (hw.mono (Nat.le_of_lt H1.lt))
  have G3 := G2.setAll (oc o (.slice a' n' c')) rfl
  have hbb : Bools w.heap.size (W.setCells (w.heap.size + 1) 0 (oc o (.slice a' n' c')).toList).heap.size (W.setCells (w.heap.size + 1) 0 (oc o (.slice a' n' c')).toList) (.slice a' n' c') o.nl o.na := by
    rw [(setCells_same _ _ _ _).2.2.2]
    have h2 : w.heap.size + 1 < V.drew.heap.size := H2.lt
    exact (hb.kept (fun b h1 _ => setCells_other _ _ _ _ _ (by omega))).mono (by omega) (Nat.le_refl _)
  have hBB : Below w.heap.size w (W.setCells (w.heap.size + 1) 0 (oc o (.slice a' n' c')).toList) := Below_setCells hV (by omega) _ _
  go_wp2
  exact bodyPost_ret (v := .agg (oc o (.slice a' n' c'))) (results_has rfl _ _ (w.heap.size + 1) 48 _ _ rfl G3 Try.underlying48 rfl size48) rfl ⟨⟨a', n', c', rfl, hbb⟩, hBB⟩
end Go.Proofs.Qxb6601481a
