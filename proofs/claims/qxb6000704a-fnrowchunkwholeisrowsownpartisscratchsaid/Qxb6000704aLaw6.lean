/-
  SEAT b6000704a: THE WALK of FnRowChunkWholeIsRowsOwnPartIsScratch (func 6).
-/
import Derived.Test.Qxb6000704aOpen
import Derived.LaidEqlPtr
namespace Go.Proofs.Qxb6000704a
open Go.RowKit
open Extern.Stop (cell)

theorem sizeOf5 (w : World) : (sizeOf 5).run Try.prog w = .ok 1 w := by
  cases hi : Try.prog.info? 5 with
  | none => have := size5; rw [hi] at this; cases this
  | some i => rw [run_sizeOf w hi, cells5]

theorem eql_same (xs : List UInt8) (h : xs.length = 128) (W : World) : (binOp .eql 32 (.agg (xs.map cell).toArray) (.agg (xs.map cell).toArray)).run Try.prog W = .ok (.bool true) W := by
  have := run_eql_bytes (P := Try.prog) W 32 5 128 Try.underlying32 Try.underlying5 sizeOf5 xs xs h h
  rw [this]
  simp

theorem row_range {w : World} {S t n : Nat} {F : Nat → Value} (h : w.rowIs S t n F) : w.rangeAt S 0 ((List.range n).map F) := by
  intro j v hj
  have hlt : j < n := by simpa using (List.getElem?_eq_some_iff.1 hj).1
  rw [Nat.zero_add, h.cell hlt]
  simp [hlt] at hj ⊢
  exact hj

theorem range_map_getD (xa : Array Value) : (List.range xa.size).map (fun i => xa.getD i undef) = xa.toList := by
  apply List.ext_getElem
  · simp
  · intro i h1 h2
    simp at h1
    simp [h1]

set_option maxHeartbeats 400000 in
theorem bytes14_yes (a : Option Addr) (len cap : Nat) (c : Int) (rep : Bool) (xa xb : Array Value) (w : World) (h : (len : Int) ≤ 1048576) :
    Calls Try.prog 14 #[.slice a len cap, .int .i64 c, .bool rep, .agg xa, .agg xb] w fun e w' => e = .returned (.bool true) ∧ w' = (w.alloc (.cells xa 32)).alloc (.cells xb 32) := by
  have h' : ¬ (1048576 : Int) < (len : Int) := by omega
  go_enter Try.func14, Try.ntmps14
  go_wp2
  go_ret
  exact ⟨rfl, rfl⟩
set_option maxHeartbeats 400000 in
theorem bytes14_no (a : Option Addr) (len cap : Nat) (c : Int) (rep : Bool) (xa xb : Array Value) (w : World) (h : (1048576 : Int) < (len : Int)) :
    Calls Try.prog 14 #[.slice a len cap, .int .i64 c, .bool rep, .agg xa, .agg xb] w fun e w' => e = .returned (.bool false) ∧ w' = (w.alloc (.cells xa 32)).alloc (.cells xb 32) := by
  go_enter Try.func14, Try.ntmps14
  go_wp2
  go_ret
  exact ⟨rfl, rfl⟩

theorem box_range2 (w : World) (xa xb : Array Value) : ((w.alloc (.cells xa 32)).alloc (.cells xb 32)).rangeAt w.heap.size 0 xa.toList := World.rangeAt_alloc (box_range w xa) _
theorem box_range3 (w : World) (xa xb : Array Value) : ((w.alloc (.cells xa 32)).alloc (.cells xb 32)).rangeAt (w.heap.size + 1) 0 xb.toList := by
  have := box_range (w.alloc (.cells xa 32)) xb
  simpa using this

theorem below2 (w : World) (xa xb : Array Value) : Below w.heap.size w ((w.alloc (.cells xa 32)).alloc (.cells xb 32)) := ((Below.refl _ _).alloc (Nat.le_refl _) _).alloc (by simp) _
theorem below4 (w : World) (xa xb : Array Value) : Below w.heap.size w ((((w.alloc (.cells xa 32)).alloc (.cells xb 32)).alloc (.cells xa 32)).alloc (.cells xb 32)) := ((below2 w xa xb).alloc (by simp; omega) _).alloc (by simp; omega) _

set_option maxHeartbeats 400000 in
theorem law6_big (a : Option Addr) (len cap : Nat) (c : Int) (rep : Bool) (xa xb : Array Value) (hxa : xa.size = 128) (hxb : xb.size = 128) (w : World) (h : (1048576 : Int) < (len : Int)) :
    Calls Try.prog 6 #[.slice a len cap, .int .i64 c, .bool rep, .agg xa, .agg xb] w fun e w' => e = .returned (.bool true) ∧ Below w.heap.size w w' := by
  have hia : (Try.prog.info? 32).map (·.size) = some xa.toList.length := by rw [size32]; simp [hxa]
  have hib : (Try.prog.info? 32).map (·.size) = some xb.toList.length := by rw [size32]; simp [hxb]
  have hr2 := box_range2 w xa xb
  have hr3 := box_range3 w xa xb
  go_enter Try.func6, Try.ntmps6
  go_wp2_with (first | (refine wpList_load_mid rfl 32 (.tmp 8) rfl w.heap.size 0 rfl xa.toList _ hr2 Try.underlying32 rfl hia ?_; rw [Array.toArray_toList]) | (refine wpList_load_mid rfl 32 (.tmp 9) rfl (w.heap.size + 1) 0 rfl xb.toList _ hr3 Try.underlying32 rfl hib ?_; rw [Array.toArray_toList]) | (go_at_call 14; refine (bytes14_no a len cap c rep xa xb _ h).mono ?_; rintro e w' ⟨rfl, hw⟩; obtain rfl := hw.symm))
  go_ret
  exact ⟨rfl, below4 w xa xb⟩

set_option maxHeartbeats 400000 in
theorem law6_out (a : Option Addr) (len cap : Nat) (c : Int) (rep : Bool) (xa xb : Array Value) (hxa : xa.size = 128) (hxb : xb.size = 128) (w : World) (h : (len : Int) ≤ 1048576) (hc : c < 0 ∨ 65536 < c ∨ (0 ≤ c ∧ c ≤ 65536 ∧ (len : Int) ≤ c * 128)) :
    Calls Try.prog 6 #[.slice a len cap, .int .i64 c, .bool rep, .agg xa, .agg xb] w fun e w' => e = .returned (.bool true) ∧ Below w.heap.size w w' := by
  have hia : (Try.prog.info? 32).map (·.size) = some xa.toList.length := by rw [size32]; simp [hxa]
  have hib : (Try.prog.info? 32).map (·.size) = some xb.toList.length := by rw [size32]; simp [hxb]
  have hr2 := box_range2 w xa xb
  have hr3 := box_range3 w xa xb
  have h' : ¬ (1048576 : Int) < (len : Int) := by omega
  rcases hc with hc | hc | ⟨hc1, hc2, hc3⟩
  · go_enter Try.func6, Try.ntmps6
    go_wp2_with (first | (refine wpList_load_mid rfl 32 (.tmp 8) rfl w.heap.size 0 rfl xa.toList _ hr2 Try.underlying32 rfl hia ?_; rw [Array.toArray_toList]) | (refine wpList_load_mid rfl 32 (.tmp 9) rfl (w.heap.size + 1) 0 rfl xb.toList _ hr3 Try.underlying32 rfl hib ?_; rw [Array.toArray_toList]) | (go_at_call 14; refine (bytes14_yes a len cap c rep xa xb _ h).mono ?_; rintro e w' ⟨rfl, hw⟩; obtain rfl := hw.symm))
    go_ret
    exact ⟨rfl, below4 w xa xb⟩
  · have hc' : ¬ c < 0 := by omega
    go_enter Try.func6, Try.ntmps6
    go_wp2_with (first | (refine wpList_load_mid rfl 32 (.tmp 8) rfl w.heap.size 0 rfl xa.toList _ hr2 Try.underlying32 rfl hia ?_; rw [Array.toArray_toList]) | (refine wpList_load_mid rfl 32 (.tmp 9) rfl (w.heap.size + 1) 0 rfl xb.toList _ hr3 Try.underlying32 rfl hib ?_; rw [Array.toArray_toList]) | (go_at_call 14; refine (bytes14_yes a len cap c rep xa xb _ h).mono ?_; rintro e w' ⟨rfl, hw⟩; obtain rfl := hw.symm))
    go_ret
    exact ⟨rfl, below4 w xa xb⟩
  · have hc' : ¬ c < 0 := by omega
    have hc'' : ¬ 65536 < c := by omega
    go_enter Try.func6, Try.ntmps6
    go_wp2_with (first | (refine wpList_load_mid rfl 32 (.tmp 8) rfl w.heap.size 0 rfl xa.toList _ hr2 Try.underlying32 rfl hia ?_; rw [Array.toArray_toList]) | (refine wpList_load_mid rfl 32 (.tmp 9) rfl (w.heap.size + 1) 0 rfl xb.toList _ hr3 Try.underlying32 rfl hib ?_; rw [Array.toArray_toList]) | (go_at_call 14; refine (bytes14_yes a len cap c rep xa xb _ h).mono ?_; rintro e w' ⟨rfl, hw⟩; obtain rfl := hw.symm))
    go_ret
    exact ⟨rfl, below4 w xa xb⟩

theorem neq_ptr_same {tp te : TypeId} (a : Addr) (hp : Try.prog.underlying tp = some (.pointer te)) (hte : ∃ j, Try.prog.info? te = some j) (w : World) :
    (binOp .neq tp (.pointer (some a)) (.pointer (some a))).run Try.prog w = .ok (.bool false) w := by
  obtain ⟨j, hte⟩ := hte
  have h : ∀ d : Nat, (Op.equalIn (d + 1) tp (.pointer (some a)) (.pointer (some a))).run Try.prog w = .ok true w := fun d => by
    simp [Op.equalIn, run_underlying hp, sizeOf, typeInfo, hte, run_sameAddr_same]
  simp only [binOp]
  simp [Op.equal, Op.maxDepth, h 9999]
theorem there5 : ∃ j, Try.prog.info? 5 = some j := by
  cases hi : Try.prog.info? 5 with
  | none => have := size5; rw [hi] at this; cases this
  | some i => exact ⟨i, rfl⟩
theorem there32 : ∃ j, Try.prog.info? 32 = some j := by
  cases hi : Try.prog.info? 32 with
  | none => have := size32; rw [hi] at this; cases this
  | some i => exact ⟨i, rfl⟩

/-- a load of a row in a region that draws its order, where the walk goes in the order of the text -/
theorem wpQuiet_load_mid {ops : Array Oper} {C : World → Prop} {Q : Act → Prop} {a : Act} {o : Oper} {rest : List Oper} (hw : Region.wanted o (yielded ops a.tmps) = true) (ty : TypeId) (x : Operand) (ho : o.op = .load ty x)
    (b off : Nat) (hx : a.eval x = .pointer (some ⟨b, off, none⟩)) (cs : Array Value) (d : TypeDesc) (hS : ∀ w, C w → w.rangeAt b off cs.toList)
    (hu : Try.prog.underlying ty = some d) (hd : d.isRow = true) (hi : (Try.prog.info? ty).map (·.size) = some cs.toList.length) (h : wpQuiet Try.prog ops C Q rest (a.put o.dst (.agg cs))) : wpQuiet Try.prog ops C Q (o :: rest) a := by
  unfold wpQuiet
  rw [if_pos hw]
  refine ⟨.agg cs, fun w hC => ?_, h⟩
  unfold Oper.quietAt execOp
  simp only [ho, hx, Instr.loadAt, Instr.sureAddr, Sem.run_bind, Sem.run_pure, Result.andThen_ok, run_loadVar_mid w b off ty cs.toList d (hS w hC) hu hd hi]
  exact ⟨rfl, rfl⟩

theorem index_at (R len c : Nat) (h : c * 128 < len) (W : World) : (Instr.indexAt 31 (.slice (some ⟨R, 0, none⟩) len len) (.int .i64 ((c : Int) * 128))).run Try.prog W = .ok (.pointer (some ⟨R, c * 128, none⟩)) W := by
  have h1 : (0 : Int) ≤ (c : Int) * 128 := by omega
  have h2 : (c : Int) * 128 < (len : Int) := by omega
  have h3 : ((c : Int) * 128).toNat = c * 128 := by omega
  have hc : Try.prog.elem 31 = 5 := by kernel_rfl
  rw [run_indexAt_slice _ 31 ⟨R, 0, none⟩ len len .i64 _ (by kernel_rfl), hc, sizeOf5]
  simp only [h1, h2, h3, and_self, if_true, Result.andThen_ok, Nat.mul_one, Addr.add_mid, Nat.zero_add]

theorem st6_start {w W3 : World} {xa xb : Array Value} (hB : Below (w.heap.size + 1 + 1 + 1 + 1) ((((w.alloc (.cells xa 32)).alloc (.cells xb 32)).alloc (.cells xa 32)).alloc (.cells xb 32)) W3) :
    Below w.heap.size w W3 ∧ W3.rangeAt w.heap.size 0 xa.toList ∧ W3.rangeAt (w.heap.size + 1) 0 xb.toList := by
  refine ⟨(below4 w xa xb).trans (hB.mono (by omega)), ?_, ?_⟩
  · exact rangeAt_below (World.rangeAt_alloc (World.rangeAt_alloc (box_range2 w xa xb) _) _) hB (by omega)
  · exact rangeAt_below (World.rangeAt_alloc (World.rangeAt_alloc (box_range3 w xa xb) _) _) hB (by omega)

set_option maxHeartbeats 1000000 in
set_option maxRecDepth 100000 in
theorem law6_in (b off len cap : Nat) (z : Nat → Int) (c : Nat) (rep : Bool) (xa xb C : Array Value) (hxa : xa.size = 128) (hxb : xb.size = 128) (h1a : xa.all (·.oneCell') = true) (h1b : xb.all (·.oneCell') = true) (w : World)
    (hea : ∀ W : World, (binOp .eql 32 (.agg xa) (.agg xa)).run Try.prog W = .ok (.bool true) W) (heC : ∀ W : World, (binOp .eql 32 (.agg C) (.agg C)).run Try.prog W = .ok (.bool true) W) (hC : C.toList = (List.range 128).map (chunkF z len c (padOf rep z len)))
    (hlen : len ≤ 1048576) (h1 : c * 128 < len) (hc : ∀ i, i < len → w.cell? ⟨b, off + i, none⟩ = some (.int .u8 (z i))) :
    Calls Try.prog 6 #[.slice (some ⟨b, off, none⟩) len cap, .int .i64 c, .bool rep, .agg xa, .agg xb] w fun e w' => e = .returned (.bool true) ∧ Below w.heap.size w w' := by
  have hia : (Try.prog.info? 32).map (·.size) = some xa.toList.length := by rw [size32]; simp [hxa]
  have hib : (Try.prog.info? 32).map (·.size) = some xb.toList.length := by rw [size32]; simp [hxb]
  have hia2 : (Try.prog.info? 32).map (·.size) = some xa.size := by rw [size32, hxa]
  have hib2 : (Try.prog.info? 32).map (·.size) = some xb.size := by rw [size32, hxb]
  have hr2 := box_range2 w xa xb
  have hr3 := box_range3 w xa xb
  have hl0 : (len : Int) ≤ 1048576 := by omega
  have hl1 : ¬ (1048576 : Int) < (len : Int) := by omega
  have hc0 : ¬ (c : Int) < 0 := by omega
  have hc1 : ¬ (65536 : Int) < (c : Int) := by omega
  have hc2 : ¬ (len : Int) ≤ (c : Int) * 128 := by omega
  have C12 : ∀ W : World, Below w.heap.size w W → Calls Try.prog 12 #[.slice (some ⟨b, off, none⟩) len cap] W fun e w' => e = .returned (.slice (some ⟨W.heap.size, 0, none⟩) len len) ∧ w'.rowIs W.heap.size 5 len (fun i => .int .u8 (z i)) ∧ Below W.heap.size W w' ∧ w'.heap.size = W.heap.size + 1 :=
    fun W hW => clone_any b off len cap z W hlen (fun i hi => (hW.cell (p := ⟨b, off + i, none⟩) (World.block_lt_of_cell? _ _ (hc i hi))).trans (hc i hi))
  have HB0 := below4 w xa xb
  have hZ0 := zero32
  go_enter Try.func6, Try.ntmps6
  go_wp2_with (first | (refine wpList_load_mid rfl 32 (.tmp 8) rfl w.heap.size 0 rfl xa.toList _ hr2 Try.underlying32 rfl hia ?_; rw [Array.toArray_toList]) | (refine wpList_load_mid rfl 32 (.tmp 9) rfl (w.heap.size + 1) 0 rfl xb.toList _ hr3 Try.underlying32 rfl hib ?_; rw [Array.toArray_toList]) | (go_at_call 14; refine (bytes14_yes _ len cap c rep xa xb _ hl0).mono ?_; rintro e w' ⟨rfl, hw⟩; obtain rfl := hw.symm) | (go_at_call 12; refine (C12 _ HB0).mono ?_; rintro e W3 ⟨rfl, hR, hB3, hS3⟩; refine Hid.out ?_))
  refine hid0 ?_
  obtain ⟨hbel, hra, hrb⟩ := st6_start (w := w) (W3 := W3) (xa := xa) (xb := xb) (by simpa using hB3)
  have hR' : W3.rowIs (w.heap.size + 1 + 1 + 1 + 1) 5 len (fun i => .int .u8 (z i)) := by simpa using hR
  clear hR hB3 hS3 HB0 C12 hr2 hr3 hc
  have hlt3 : w.heap.size + 1 + 1 + 1 + 1 < W3.heap.size := hR'.lt
  obtain ⟨Z, hZ, hz32⟩ := hZ0
  go_upto_region 11 with (first | (refine wpList_load_mid rfl 32 (.tmp 8) rfl w.heap.size 0 rfl xa.toList _ hra Try.underlying32 rfl hia ?_; rw [Array.toArray_toList]) | (refine wpList_store_mid rfl 32 (.tmp 11) (.tmp 38) rfl W3.heap.size 0 xa rfl rfl (there_new xa.size (hZ.trans hxa.symm)) hia2 h1a ?_))
  refine gen_world (fun W => Filled W3 W (fun i => xa.getD i undef)) (filled hZ hxa) ?_
  intro W4 hF4
  have hra4 : W4.rangeAt w.heap.size 0 xa.toList := rangeAt_below hra hF4.below (by omega)
  have hrb4 : W4.rangeAt (w.heap.size + 1) 0 xb.toList := rangeAt_below hrb hF4.below (by omega)
  have hR4 : W4.rowIs (w.heap.size + 1 + 1 + 1 + 1) 5 len (fun i => .int .u8 (z i)) := hR'.of_block (hF4.below.block _ hlt3)
  have hbel4 : Below w.heap.size w W4 := hbel.trans (hF4.below.mono (by omega))
  clear hra hrb hR' hbel
  go_frame
  go_upto_region 12 with (first | (refine wpList_load_mid rfl 32 (.tmp 9) rfl (w.heap.size + 1) 0 rfl xb.toList _ hrb4 Try.underlying32 rfl hib ?_; rw [Array.toArray_toList]) | (refine wpList_store_mid rfl 32 (.tmp 12) (.tmp 39) rfl W4.heap.size 0 xb rfl rfl (there_new xb.size (hZ.trans hxb.symm)) hib2 h1b ?_))
  refine gen_world (fun W => Filled W4 W (fun i => xb.getD i undef)) (filled hZ hxb) ?_
  intro W5 hF5
  have hlt4 : W3.heap.size < W4.heap.size := by rw [hF4.size]; omega
  have hra5 : W5.rangeAt w.heap.size 0 xa.toList := rangeAt_below hra4 hF5.below (by omega)
  have hR5 : W5.rowIs (w.heap.size + 1 + 1 + 1 + 1) 5 len (fun i => .int .u8 (z i)) := hR4.of_block (hF5.below.block _ (by omega))
  have hs1 : W5.rowIs W3.heap.size 32 128 (fun i => xa.getD i undef) := hF4.row.of_block (hF5.below.block _ (by omega))
  have hbel5 : Below w.heap.size w W5 := hbel4.trans (hF5.below.mono (by omega))
  have hs2 := hF5.row
  have hq1 : W3.heap.size ≠ w.heap.size + 1 + 1 + 1 + 1 := by omega
  have hq2 : W4.heap.size ≠ w.heap.size + 1 + 1 + 1 + 1 := by omega
  have hq3 : W4.heap.size ≠ W3.heap.size := by omega
  have hq4 : w.heap.size ≤ W3.heap.size := by omega
  have hq5 : w.heap.size ≤ W4.heap.size := by omega
  clear hra4 hrb4 hR4 hbel4 hF4 hF5 hz32 hlt3 hlt4
  go_frame
  by_cases hw1 : c * 128 + 128 ≤ len
  · have hcl : (c : Int) * 128 + 128 ≤ (len : Int) := by omega
    have hj0 : (0 : Int) ≤ (c : Int) * 128 := by omega
    have hjn : ((c : Int) * 128).toNat = c * 128 := by omega
    have hs1r : W5.rangeAt W3.heap.size 0 xa.toList := by
      have := row_range hs1
      rw [← hxa, range_map_getD] at this
      exact this
    have hwr : IntKind.i64.wrap ((c : Int) * 128) = (c : Int) * 128 := by rw [IntKind.wrap_i64]; omega
    have hne := fun W => neq_ptr_same ⟨w.heap.size + 1 + 1 + 1 + 1, c * 128, none⟩ Try.underlying38 there5 W
    have hix := index_at (w.heap.size + 1 + 1 + 1 + 1) len c h1
    clear hs1 hs2 hq1 hq2 hq3 hq4 hq5
    go_wp2_with (first | (go_at_call 13; refine (zz_whole (w.heap.size + 1 + 1 + 1 + 1) len c W3.heap.size rep _ hw1 hlen).mono ?_; rintro e w' ⟨rfl, hw'⟩; obtain rfl := hw'.symm))
    go_quiet (fail)
    go_wp2_with (first | (refine wpList_load_mid rfl 32 (.tmp 11) rfl W3.heap.size 0 rfl xa.toList _ ((World.rangeAt_drew _ _ _ _).2 hs1r) Try.underlying32 rfl hia ?_; rw [Array.toArray_toList]) | (refine wpList_load_mid rfl 32 (.tmp 8) rfl w.heap.size 0 rfl xa.toList _ ((World.rangeAt_drew _ _ _ _).2 hra5) Try.underlying32 rfl hia ?_; rw [Array.toArray_toList]))
    go_ret
    exact ⟨rfl, ⟨hbel5.os, hbel5.tape, hbel5.output, hbel5.size, hbel5.block⟩⟩
  · have hcl : ¬ (c : Int) * 128 + 128 ≤ (len : Int) := by omega
    have hn1 := fun W => neq_ptr_same ⟨W3.heap.size, 0, none⟩ Try.underlying35 there32 W
    have hn2 := fun W => neq_ptr_same ⟨W4.heap.size, 0, none⟩ Try.underlying35 there32 W
    have c1 := zz_part (w.heap.size + 1 + 1 + 1 + 1) len c W3.heap.size z rep _ W5 hR5 hs1 hq1.symm h1 (by omega) hlen
    have c2 : ∀ W6 : World, Only W3.heap.size W5 W6 → Calls Try.prog 13 #[.slice (some ⟨w.heap.size + 1 + 1 + 1 + 1, 0, none⟩) len len, .int .i64 c, .pointer (some ⟨W4.heap.size, 0, none⟩), .bool rep] W6 _ := fun W6 ho => zz_part (w.heap.size + 1 + 1 + 1 + 1) len c W4.heap.size z rep _ W6 (ho.row hR5 hq1.symm) (ho.row hs2 hq3) hq2.symm h1 (by omega) hlen
    clear hs1 hs2 hR5 hra5
    go_upto_region 13 with (go_at_call 13; refine c1.mono ?_; rintro e W6 ⟨rfl, hr6, ho6⟩)
    have c3 := c2 _ ho6
    clear c1 c2
    go_upto_region 22 with (go_at_call 13; refine c3.mono ?_; rintro e W7 ⟨rfl, hr7, ho7⟩)
    have hb7 : Below w.heap.size w W7 := ho7.below (ho6.below hbel5 hq4) hq5
    have hl7 : W7.rangeAt W3.heap.size 0 C.toList := by rw [hC]; exact row_range (ho7.row hr6 hq3.symm)
    have hl8 : W7.rangeAt W4.heap.size 0 C.toList := by rw [hC]; exact row_range hr7
    have hiC : (Try.prog.info? 32).map (·.size) = some C.toList.length := by rw [size32, hC]; simp
    have hS7 : ∀ v : World, (∃ n, v = W7.drewN n) → v.rangeAt W3.heap.size 0 C.toList := fun v ⟨n, hv⟩ => by rw [hv]; exact hl7
    have hS8 : ∀ v : World, (∃ n, v = W7.drewN n) → v.rangeAt W4.heap.size 0 C.toList := fun v ⟨n, hv⟩ => by rw [hv]; exact hl8
    clear hl7 hl8 hr6 hr7 ho6 ho7 c3 hC
    refine wp_region_quiet_lit (by kernel_rfl) (by kernel_rfl) ?_
    quiet_step (fail)
    quiet_step (fail)
    refine wpQuiet_load_mid rfl 32 _ rfl W3.heap.size 0 rfl C _ hS7 Try.underlying32 rfl hiC ?_
    quiet_step (fail)
    quiet_step (fail)
    refine wpQuiet_load_mid rfl 32 _ rfl W4.heap.size 0 rfl C _ hS8 Try.underlying32 rfl hiC ?_
    quiet_step (fail)
    quiet_step (fail)
    refine wpQuiet_nil ?_
    rintro _ ⟨nq, rfl⟩
    go_wp2
    go_ret
    exact ⟨rfl, ⟨hb7.os, hb7.tape, hb7.output, hb7.size, hb7.block⟩⟩
end Go.Proofs.Qxb6000704a
