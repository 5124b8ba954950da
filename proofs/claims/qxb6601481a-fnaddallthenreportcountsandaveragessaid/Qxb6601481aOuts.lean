/-
  SEAT b6601481a: THE WALK OF cloneOuts (19).
-/
import Derived.Test.Qxb6601481aOutc
namespace Go.Proofs.Qxb6601481a
open Go.RowKit Go.Deep
set_option linter.unusedVariables false
set_option linter.unusedSimpArgs false

def sv (p : Option Addr × Nat × Nat) : Value := .slice p.1 p.2.1 p.2.2

/-- A ROW OF OUTCOMES, from offset off of block b on. -/
structure Outs (A B : Nat) (w : World) (b off n : Nat) (o : Nat → Out) (s : Nat → Option Addr × Nat × Nat) : Prop where
  row : ∀ i, i < n → w.rangeAt b (off + i * 11) (oc (o i) (sv (s i))).toList
  bl : ∀ i, i < n → Bools A B w (sv (s i)) (o i).nl (o i).na

theorem range_block {w w' : World} {b off : Nat} {cs : List Value} (h : w.rangeAt b off cs) (e : w'.heap[b]? = w.heap[b]?) : w'.rangeAt b off cs := fun j v hj => (World.cell?_of_block (w := w) (a := ⟨b, off + j, none⟩) e).trans (h j v hj)
theorem range_lt {w : World} {b off : Nat} {v : Value} {cs : List Value} (h : w.rangeAt b off (v :: cs)) : b < w.heap.size := World.block_lt_of_cell? _ _ (h 0 v rfl)
theorem oc_cons (o : Out) (v : Value) : ∃ r, (oc o v).toList = .bool o.und :: r := ⟨_, rfl⟩
theorem Outs.lt {A B : Nat} {w : World} {b off n : Nat} {o : Nat → Out} {s : Nat → Option Addr × Nat × Nat} (h : Outs A B w b off n o s) (hn : 0 < n) : b < w.heap.size := by
  obtain ⟨r, hr⟩ := oc_cons (o 0) (sv (s 0))
  have := h.row 0 hn
  rw [hr] at this
  exact range_lt this
theorem Outs.kept {A B : Nat} {w w' : World} {b off n : Nat} {o : Nat → Out} {s : Nat → Option Addr × Nat × Nat} (h : Outs A B w b off n o s) (e : 0 < n → w'.heap[b]? = w.heap[b]?) (hb : ∀ k, A ≤ k → k < B → w'.heap[k]? = w.heap[k]?) : Outs A B w' b off n o s :=
  ⟨fun i hi => range_block (h.row i hi) (e (by omega)), fun i hi => (h.bl i hi).kept hb⟩

theorem sizeOf34 (w : World) : (sizeOf 34).run Try.prog w = .ok 11 w := by
  have c34 : Try.prog.cellsOf 34 = 11 := by kernel_rfl
  cases hi : Try.prog.info? 34 with
  | none => have := size34; rw [hi] at this; cases this
  | some i => rw [run_sizeOf w hi, c34]
theorem index51 (b off n cap k : Nat) (h : k < n) (W : World) : (Instr.indexAt 51 (.slice (some ⟨b, off, none⟩) n cap) (.int .i64 (k : Int))).run Try.prog W = .ok (.pointer (some ⟨b, off + k * 11, none⟩)) W := by
  have h1 : (0 : Int) ≤ (k : Int) := by omega
  have h2 : (k : Int) < (n : Int) := by omega
  have hc : Try.prog.elem 51 = 34 := by kernel_rfl
  rw [run_indexAt_slice _ 51 ⟨b, off, none⟩ n cap .i64 _ (by kernel_rfl), hc, sizeOf34]
  simp only [h1, h2, and_self, if_true, Result.andThen_ok, Addr.add_mid, Int.toNat_natCast]
theorem info34 : (Try.prog.info? 34).map (fun i => (i.zero, i.size, i.bytes)) = some (some (.agg ocz), 11, 72) := by kernel_rfl
theorem make51 (n : Nat) (hn : n ≤ 1048576) (w : World) : (Instr.makeSlice 51 (.int .i64 (n : Int)) (.int .i64 (n : Int))).run Try.prog w = .ok (.slice (some ⟨w.heap.size, 0, none⟩) n n) (w.alloc (.cells (madeCells ocz (n * 11)) 34)) := by
  obtain ⟨i, hi, hzz⟩ := Option.map_eq_some_iff.1 info34
  simp only [Prod.mk.injEq] at hzz
  obtain ⟨hz, hs, hb⟩ := hzz
  have hr := run_make (P := Try.prog) w 51 34 i (.agg ocz) Try.underlying51 hi hz .i64 .i64 n n (by omega) (Int.le_refl _) (by rw [hb]; omega) (by omega)
  simp only [Int.toNat_natCast, hs] at hr
  exact hr

theorem spliced_size (cc : Array Value) (vs : List Value) (i : Nat) (h : i + vs.length ≤ cc.size) : ((cc.toList.take i ++ vs ++ cc.toList.drop (i + vs.length)).toArray).size = cc.size := by
  simp only [List.size_toArray, List.length_append, List.length_take, List.length_drop, Array.length_toList]
  omega
theorem oc_len (o : Out) (v : Value) : (oc o v).toList.length = 11 := rfl

theorem outs_step {w wr W : World} {n k : Nat} {cc : Array Value} {s' : Nat → Option Addr × Nat × Nat} {a' : Option Addr} {n' c' : Nat} (o : Nat → Out) (ok : Out) (eo : ok = o k) (hlt : k < n) (HC : Has wr w.heap.size 34 cc) (hcc : cc.size = n * 11) (HS : Outs (w.heap.size + 1) wr.heap.size wr w.heap.size 0 k o s') (hB : Below w.heap.size w wr)
    (hb' : Bools wr.heap.size W.heap.size W (.slice a' n' c') ok.nl ok.na) (hw' : Below wr.heap.size wr W) :
    (∃ cc', Has (W.setCells w.heap.size (k * 11) (oc ok (.slice a' n' c')).toList) w.heap.size 34 cc' ∧ cc'.size = n * 11) ∧ (∃ s'', Outs (w.heap.size + 1) (W.setCells w.heap.size (k * 11) (oc ok (.slice a' n' c')).toList).heap.size (W.setCells w.heap.size (k * 11) (oc ok (.slice a' n' c')).toList) w.heap.size 0 (k + 1) o s'') ∧ Below w.heap.size w (W.setCells w.heap.size (k * 11) (oc ok (.slice a' n' c')).toList) := by
  have HCL := HC.lt
  have HW : Has W w.heap.size 34 cc := HC.of_block (hw'.block _ HCL)
  have hlen := oc_len ok (.slice a' n' c')
  obtain ⟨vs, hvs⟩ : ∃ vs, (oc ok (.slice a' n' c')).toList = vs := ⟨_, rfl⟩
  rw [hvs] at hlen ⊢
  have hfit : k * 11 + vs.length ≤ cc.size := by rw [hlen, hcc]; omega
  have T2 := setCells_whole vs (k * 11) W cc HW hfit
  have hsz := (setCells_same w.heap.size vs (k * 11) W).2.2.2
  have hsW : wr.heap.size ≤ W.heap.size := hw'.size
  refine ⟨⟨_, T2, by rw [spliced_size _ _ _ hfit, hcc]⟩, ⟨fun i => if i = k then (a', n', c') else s' i, ?_, ?_⟩, Below_setCells (hB.trans (hw'.mono (by omega))) (Nat.le_refl _) _ _⟩
  · intro i hi
    by_cases e : i = k
    · subst e
      rw [if_pos rfl, Nat.zero_add, ← eo]
      show World.rangeAt _ _ _ (oc ok (.slice a' n' c')).toList
      rw [hvs]
      exact World.rangeAt_setCells_same _ _ _ _ (HW.there _ _ hfit)
    · rw [if_neg e]
      refine World.rangeAt_setCells_apart (range_block (HS.row i (by omega)) (hw'.block _ HCL)) _ _ _ (.inr (.inl ?_))
      rw [oc_len]
      omega
  · intro i hi
    rw [hsz]
    by_cases e : i = k
    · subst e
      rw [if_pos rfl, ← eo]
      exact (hb'.kept (fun b h1 _ => setCells_other _ _ _ _ _ (by omega))).mono (by omega) (Nat.le_refl _)
    · rw [if_neg e]
      exact ((HS.bl i (by omega)).kept (fun b h1 h2 => (setCells_other _ _ _ _ _ (by omega)).trans (hw'.block b h2))).mono (Nat.le_refl _) hsW

set_option maxHeartbeats 400000 in
theorem cloneOuts_nil (cap : Nat) (w : World) : Calls Try.prog 19 #[.slice none 0 cap] w fun e w' => e = .returned (.slice none 0 0) ∧ w' = w := by
  have hnil : ∀ (W : World) (a : Option Addr) (n c n' c' : Nat), (binOp .eql 51 (.slice a n c) (.slice none n' c')).run Try.prog W = .ok (.bool a.isNone) W := fun W a n c n' c' => Lib.run_eql_slice_nil W _ _ a n c n' c' Try.underlying51
  go_enter Try.func19, Try.ntmps19
  go_wp2
  go_ret
  exact ⟨rfl, rfl⟩

set_option maxHeartbeats 400000 in
theorem cloneOuts_empty (ad : Addr) (cap : Nat) (w : World) : Calls Try.prog 19 #[.slice (some ad) 0 cap] w fun e w' => e = .returned (.slice (some ⟨w.heap.size, 0, none⟩) 0 0) ∧ Below w.heap.size w w' ∧ w.heap.size < w'.heap.size := by
  have hmk : ∀ W : World, (Instr.makeSlice 51 (.int .i64 0) (.int .i64 0)).run Try.prog W = .ok (.slice (some ⟨W.heap.size, 0, none⟩) 0 0) (W.alloc (.cells (madeCells ocz 0) 34)) := make51 0 (by omega)
  have hnil : ∀ (W : World) (a : Option Addr) (n c n' c' : Nat), (binOp .eql 51 (.slice a n c) (.slice none n' c')).run Try.prog W = .ok (.bool a.isNone) W := fun W a n c n' c' => Lib.run_eql_slice_nil W _ _ a n c n' c' Try.underlying51
  go_enter Try.func19, Try.ntmps19
  go_wp2
  go_loopw [4] (fun i wr => i = .int .i64 0 ∧ Below w.heap.size w wr ∧ w.heap.size < wr.heap.size) (fun _ _ => 0)
  case atStart => exact ⟨rfl, (Below.refl _ _).alloc (Nat.le_refl _) _, by simp⟩
  case round =>
    obtain ⟨rfl, hb, hz⟩ := hrel
    go_wp2
    go_ret
    exact ⟨rfl, hb, hz⟩

set_option maxHeartbeats 2000000 in
set_option maxRecDepth 100000 in
theorem cloneOuts_row (b off n cap : Nat) (o : Nat → Out) (s : Nat → Option Addr × Nat × Nat) (w : World) (hn : n ≤ 1048576) (H : Outs 0 w.heap.size w b off n o s) (hl : ∀ i, i < n → (o i).nl ≤ 1048576) :
    Calls Try.prog 19 #[.slice (some ⟨b, off, none⟩) n cap] w fun e w' => e = .returned (.slice (some ⟨w.heap.size, 0, none⟩) n n) ∧ (∃ s', Outs 0 w'.heap.size w' w.heap.size 0 n o s') ∧ Below w.heap.size w w' ∧ w.heap.size < w'.heap.size := by
  have hmk := make51 n hn
  have hnil : ∀ (W : World) (a : Option Addr) (n c n' c' : Nat), (binOp .eql 51 (.slice a n c) (.slice none n' c')).run Try.prog W = .ok (.bool a.isNone) W := fun W a n c n' c' => Lib.run_eql_slice_nil W _ _ a n c n' c' Try.underlying51
  go_enter Try.func19, Try.ntmps19
  go_wp2
  go_loopw [4] (fun i wr => ∃ k : Nat, k ≤ n ∧ i = .int .i64 k ∧ (∃ cc, Has wr w.heap.size 34 cc ∧ cc.size = n * 11) ∧ (∃ s', Outs (w.heap.size + 1) wr.heap.size wr w.heap.size 0 k o s') ∧ Below w.heap.size w wr) (fun i _ => n - (intOf i).toNat)
  case atStart => exact ⟨0, Nat.zero_le _, rfl, ⟨_, has_new w 34 _, size_madeCells _ _⟩, ⟨fun _ => (none, 0, 0), fun i hi => absurd hi (Nat.not_lt_zero _), fun i hi => absurd hi (Nat.not_lt_zero _)⟩, (Below.refl _ _).alloc (Nat.le_refl _) _⟩
  case round =>
    obtain ⟨k, hk, rfl, ⟨cc, HC, hcc⟩, ⟨s', HS⟩, hB⟩ := hrel
    by_cases hlt : k < n
    · have hbw : b < w.heap.size := H.lt (by omega)
      have hr : wr.rangeAt b (off + k * 11) (oc (o k) (sv (s k))).toList := range_block (H.row k hlt) (hB.block _ hbw)
      have hbl : Bools 0 wr.heap.size wr (sv (s k)) (o k).nl (o k).na := ((H.bl k hlt).below hB).mono (Nat.le_refl _) hB.size
      have hix := index51 b off n cap k hlt
      have hix2 : ∀ W : World, (Instr.indexAt 51 (.slice (some ⟨w.heap.size, 0, none⟩) n n) (.int .i64 (k : Int))).run Try.prog W = .ok (.pointer (some ⟨w.heap.size, k * 11, none⟩)) W := fun W => by rw [index51 w.heap.size 0 n n k hlt, Nat.zero_add]
      have C13 := cloneOutcome_any (o k) (s k).1 (s k).2.1 (s k).2.2 wr hbl (hl k hlt)
      have h34 : (Try.prog.info? 34).map (·.size) = some (oc (o k) (sv (s k))).toList.length := size34
      have HCL := HC.lt
      have HSS := hid0 HS
      have hthe : ∀ (W : World) (a' : Option Addr) (n' c' : Nat) (OC : Array Value), Hid (OC = oc (o k) (.slice a' n' c')) → Below wr.heap.size wr W → W.there w.heap.size (k * 11) OC.size := fun W a' n' c' OC hOC hw' => (HC.of_block (hw'.block _ HCL)).there _ _ (by rw [hcc, hOC.out]; show k * 11 + 11 ≤ n * 11; omega)
      have hone : ∀ (a' : Option Addr) (n' c' : Nat) (OC : Array Value), Hid (OC = oc (o k) (.slice a' n' c')) → OC.all (·.oneCell') = true := fun a' n' c' OC hOC => by rw [hOC.out]; exact oc_one (o k) a' n' c'
      have h34s : ∀ (a' : Option Addr) (n' c' : Nat) (OC : Array Value), Hid (OC = oc (o k) (.slice a' n' c')) → (Try.prog.info? 34).map (·.size) = some OC.size := fun a' n' c' OC hOC => by rw [hOC.out]; exact size34
      clear HS
      have C13' : Calls Try.prog 13 #[.agg (oc (o k) (sv (s k)))] wr fun e w' => (∃ a' n' c' OC, Hid (OC = oc (o k) (.slice a' n' c')) ∧ e = .returned (.agg OC) ∧ Bools wr.heap.size w'.heap.size w' (.slice a' n' c') (o k).nl (o k).na) ∧ Below wr.heap.size wr w' := C13.mono (by rintro e w' ⟨⟨a', n', c', rfl, h⟩, h2⟩; exact ⟨⟨a', n', c', _, rfl, rfl, h⟩, h2⟩)
      clear C13
      go_wp2_with (first | (refine wpList_load_mid rfl 34 (.tmp 20) rfl b (off + k * 11) rfl (oc (o k) (sv (s k))).toList _ hr Try.underlying34 rfl h34 ?_; rw [Array.toArray_toList]) | (go_at_call 13; refine C13'.mono ?_; rintro e W ⟨⟨a', n', c', OC, hOC, rfl, hb'⟩, hw'⟩) | (refine wpList_store_mid rfl 34 (.tmp 23) (.tmp 22) rfl w.heap.size (k * 11) OC rfl rfl (hthe W a' n' c' OC hOC hw') (h34s a' n' c' OC hOC) (hone a' n' c' OC hOC) ?_))
      have GG := hid0 (outs_step o (o k) rfl hlt HC hcc HSS.out hB hb' hw')
      rw [← hOC.out] at GG
      clear hb' hw' hbl hr HSS hOC hthe h34s hone
      go_roundw
      case rel => exact ⟨k + 1, by omega, by go_num, GG.out.1, GG.out.2.1, GG.out.2.2⟩
      case measure => simp [intOf]; omega
    · have e : k = n := by omega
      subst e
      go_wp2
      go_ret
      exact ⟨rfl, ⟨s', HS.row, fun i hi => (HS.bl i hi).mono (Nat.zero_le _) (Nat.le_refl _)⟩, hB, HC.lt⟩
end Go.Proofs.Qxb6601481a
