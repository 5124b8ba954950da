/-
  THE WALK OF FnRowChunkReassemblesRow (5).
-/
import Derived.Test.Qxb6000704aChunk
import Derived.Deep.QuietTactic
import Derived.BigQuiet
namespace Go.Proofs.Qxb6000704a
open Go.RowKit Go.Deep
set_option linter.unusedVariables false

theorem hid0 {p : Prop} (h : p) : Hid p := h

set_option maxHeartbeats 400000 in
theorem zz_whole (R n c S : Nat) (rep : Bool) (w : World) (h1 : c * 128 + 128 ≤ n) (hn : n ≤ 1048576) :
    Calls Try.prog 13 #[.slice (some ⟨R, 0, none⟩) n n, .int .i64 c, .pointer (some ⟨S, 0, none⟩), .bool rep] w fun e w' => e = .returned (.pointer (some ⟨R, c * 128, none⟩)) ∧ w' = w := by
  have H := chunk_whole R n c S rep w h1 hn
  go_enter Try.func13, Try.ntmps13
  go_wp2_with (go_at_call 17; refine H.mono ?_; rintro e w' ⟨rfl, hw⟩; obtain rfl := hw.symm)
  go_ret
  exact ⟨rfl, rfl⟩

set_option maxHeartbeats 400000 in
theorem zz_part (R n c S : Nat) (z : Nat → Int) (rep : Bool) (F : Nat → Value) (w : World) (hrow : w.rowIs R 5 n (fun i => .int .u8 (z i))) (hscr : w.rowIs S 32 128 F) (hRS : R ≠ S) (h1 : c * 128 < n) (h2 : n < c * 128 + 128) (hn : n ≤ 1048576) :
    Calls Try.prog 13 #[.slice (some ⟨R, 0, none⟩) n n, .int .i64 c, .pointer (some ⟨S, 0, none⟩), .bool rep] w fun e w' => e = .returned (.pointer (some ⟨S, 0, none⟩)) ∧ w'.rowIs S 32 128 (chunkF z n c (padOf rep z n)) ∧ Only S w w' := by
  have H := chunk_part R n c S z rep F w hrow hscr hRS h1 h2 hn
  go_enter Try.func13, Try.ntmps13
  go_wp2_with (go_at_call 17; refine H.mono ?_; rintro e w1 ⟨rfl, hr, ho⟩)
  go_ret
  exact ⟨rfl, hr, ho⟩

set_option maxHeartbeats 400000 in
theorem bytes11_yes (a : Option Addr) (len cap : Nat) (rep : Bool) (cs : Array Value) (hcs : cs.size = 128) (w : World) (h : (len : Int) ≤ 1048576) :
    Calls Try.prog 11 #[.slice a len cap, .bool rep, .agg cs] w fun e w' => e = .returned (.bool true) ∧ w' = w.alloc (.cells cs 32) := by
  have h' : ¬ (1048576 : Int) < (len : Int) := by omega
  go_enter Try.func11, Try.ntmps11
  go_wp2
  go_ret
  exact ⟨rfl, rfl⟩
set_option maxHeartbeats 400000 in
theorem bytes11_no (a : Option Addr) (len cap : Nat) (rep : Bool) (cs : Array Value) (hcs : cs.size = 128) (w : World) (h : (1048576 : Int) < (len : Int)) :
    Calls Try.prog 11 #[.slice a len cap, .bool rep, .agg cs] w fun e w' => e = .returned (.bool false) ∧ w' = w.alloc (.cells cs 32) := by
  go_enter Try.func11, Try.ntmps11
  go_wp2
  go_ret
  exact ⟨rfl, rfl⟩

/-- the array behind a box, as one range -/
theorem box_range (w : World) (cs : Array Value) : (w.alloc (.cells cs 32)).rangeAt w.heap.size 0 cs.toList := by
  intro j v hj
  have := World.rowIs_alloc w cs 32 (fun i => cs.getD i undef) (fun i hi => by simp [hi])
  have hlt : j < cs.size := by have := (List.getElem?_eq_some_iff.1 hj).1; simpa using this
  rw [Nat.zero_add, this.cell hlt]
  simp [hlt] at hj ⊢
  exact hj

set_option maxHeartbeats 400000 in
theorem law5_big (a : Option Addr) (len cap : Nat) (rep : Bool) (cs : Array Value) (hcs : cs.size = 128) (w : World) (h : (1048576 : Int) < (len : Int)) :
    Calls Try.prog 5 #[.slice a len cap, .bool rep, .agg cs] w fun e w' => e = .returned (.bool true) ∧ Below w.heap.size w w' := by
  have hi : (Try.prog.info? 32).map (·.size) = some cs.toList.length := by rw [size32]; simp [hcs]
  have e0 : cs.toList.toArray = cs := by simp
  have hb := box_range w cs
  go_enter Try.func5, Try.ntmps5
  go_wp2_with (first | (refine wpList_load_mid rfl 32 (.tmp 5) rfl w.heap.size 0 rfl cs.toList _ hb Try.underlying32 rfl hi ?_; rw [e0]) | (go_at_call 11; refine (bytes11_no a len cap rep cs hcs _ h).mono ?_; rintro e w' ⟨rfl, hw⟩; obtain rfl := hw.symm))
  go_ret
  exact ⟨rfl, ((Below.refl _ _).alloc (Nat.le_refl _) _).alloc (by simp) _⟩

set_option maxHeartbeats 400000 in
theorem law5_zero (a : Option Addr) (cap : Nat) (rep : Bool) (cs : Array Value) (hcs : cs.size = 128) (w : World) :
    Calls Try.prog 5 #[.slice a 0 cap, .bool rep, .agg cs] w fun e w' => e = .returned (.bool true) ∧ Below w.heap.size w w' := by
  have hi : (Try.prog.info? 32).map (·.size) = some cs.toList.length := by rw [size32]; simp [hcs]
  have e0 : cs.toList.toArray = cs := by simp
  have hb := box_range w cs
  go_enter Try.func5, Try.ntmps5
  go_wp2_with (first | (refine wpList_load_mid rfl 32 (.tmp 5) rfl w.heap.size 0 rfl cs.toList _ hb Try.underlying32 rfl hi ?_; rw [e0]) | (go_at_call 11; refine (bytes11_yes a 0 cap rep cs hcs _ (by omega)).mono ?_; rintro e w' ⟨rfl, hw⟩; obtain rfl := hw.symm))
  go_ret
  exact ⟨rfl, ((Below.refl _ _).alloc (Nat.le_refl _) _).alloc (by simp) _⟩

theorem rowIs_setCells {b t n : Nat} : ∀ (vs : List Value) (o : Nat) (w : World) (f : Nat → Value), w.rowIs b t n f → (w.setCells b o vs).rowIs b t n (fun j => if o ≤ j ∧ j < o + vs.length then vs.getD (j - o) undef else f j)
  | [], o, w, f, h => h.congr (fun j _ => by rw [if_neg (by simp only [List.length_nil]; omega)])
  | v :: r, o, w, f, h => by
    have ih := rowIs_setCells r (o + 1) (w.setCell ⟨b, o, none⟩ v) _ (h.set o v)
    refine ih.congr (fun j _ => ?_)
    simp only [List.length_cons]
    by_cases e : j = o
    · subst e
      rw [if_neg (by omega), if_pos rfl, if_pos (by omega)]; simp
    · by_cases e2 : o + 1 ≤ j ∧ j < o + 1 + r.length
      · rw [if_pos e2, if_pos (by omega), show j - o = (j - (o + 1)) + 1 by omega]; simp
      · rw [if_neg e2, if_neg e, if_neg (by omega)]
theorem setCells_other {b : Nat} : ∀ (vs : List Value) (o : Nat) (w : World) (k : Nat), k ≠ b → (w.setCells b o vs).heap[k]? = w.heap[k]?
  | [], _, _, _, _ => rfl
  | v :: r, o, w, k, h => (setCells_other r (o + 1) _ k h).trans (blk_setCell_other _ _ _ _ h)
theorem setCells_size {b : Nat} : ∀ (vs : List Value) (o : Nat) (w : World), (w.setCells b o vs).heap.size = w.heap.size
  | [], _, _ => rfl
  | v :: r, o, w => (setCells_size r (o + 1) _).trans (by simp)
theorem setCells_rest {b : Nat} : ∀ (vs : List Value) (o : Nat) (w : World), (w.setCells b o vs).os = w.os ∧ (w.setCells b o vs).tape = w.tape ∧ (w.setCells b o vs).output = w.output
  | [], _, _ => ⟨rfl, rfl, rfl⟩
  | v :: r, o, w => setCells_rest r (o + 1) _

/-- a scratch array of 128 cells, filled whole -/
structure Filled (wr W : World) (F : Nat → Value) : Prop where
  row : W.rowIs wr.heap.size 32 128 F
  below : Below wr.heap.size wr W
  size : W.heap.size = wr.heap.size + 1
theorem filled {wr : World} {Z cs : Array Value} (hZ : Z.size = 128) (hcs : cs.size = 128) : Filled wr ((wr.alloc (.cells Z 32)).setCells wr.heap.size 0 cs.toList) (fun i => cs.getD i undef) := by
  have h0 : (wr.alloc (.cells Z 32)).rowIs wr.heap.size 32 128 (fun i => Z.getD i undef) := by
    have := World.rowIs_alloc wr Z 32 (fun i => Z.getD i undef) (fun i hi => by simp [hi])
    rw [hZ] at this; exact this
  obtain ⟨r1, r2, r3⟩ := setCells_rest (b := wr.heap.size) cs.toList 0 (wr.alloc (.cells Z 32))
  refine ⟨(rowIs_setCells cs.toList 0 _ _ h0).congr (fun j hj => ?_), ⟨r1, r2, r3, ?_, fun k hk => ?_⟩, ?_⟩
  · rw [if_pos (by simp; omega)]; simp [Array.getD_eq_getD_getElem?]
  · rw [setCells_size]; simp
  · rw [setCells_other _ _ _ _ (by omega), blk_alloc_lt _ _ _ hk]
  · rw [setCells_size]; simp
theorem there_new {wr : World} {Z : Array Value} (n : Nat) (hZ : Z.size = n) : (wr.alloc (.cells Z 32)).there wr.heap.size 0 n := by
  subst hZ
  have h0 := World.rowIs_alloc wr Z 32 (fun i => Z.getD i undef) (fun i hi => by simp [hi])
  exact fun j hj => ⟨by rw [Nat.zero_add, h0.cell hj]; rfl, by rw [Nat.zero_add]; exact h0.frozen j⟩

theorem zero32 : ∃ Z : Array Value, Z.size = 128 ∧ ∀ W : World, (zeroValue 32).run Try.prog W = .ok (.agg Z) W :=
  ⟨Array.replicate 128 (.int .u8 0), by simp, fun W => by kernel_rfl⟩

theorem rangeAt_below {B : Nat} {w W : World} {b o : Nat} {cs : List Value} (h : w.rangeAt b o cs) (hb : Below B w W) (hB : b < B) : W.rangeAt b o cs :=
  fun j v hj => (hb.cell (p := ⟨b, o + j, none⟩) hB).trans (h j v hj)

/-- WHAT STANDS WHILE THE LAW GOES OVER THE CHUNKS -/
structure St5 (w W : World) (N R len : Nat) (z : Nat → Int) (cs : Array Value) : Prop where
  row : W.rowIs R 5 len (fun i => .int .u8 (z i))
  rng : W.rangeAt N 0 cs.toList
  below : Below N w W
  nlt : N < R
theorem St5.same {w W W' : World} {N R len : Nat} {z : Nat → Int} {cs : Array Value} (h : St5 w W N R len z cs) (hb : Below (R + 1) W W') : St5 w W' N R len z cs :=
  ⟨h.row.of_block (hb.block R (Nat.lt_succ_self _)), rangeAt_below h.rng hb (by have := h.nlt; omega), h.below.trans (hb.mono (by have := h.nlt; omega)), h.nlt⟩
/-- the cells of a chunk, wherever it lies -/
def Got (W : World) (blk o : Nat) (z : Nat → Int) (len k : Nat) (pad : Int) : Prop := ∀ i, i < 128 → W.cell? ⟨blk, o + i, none⟩ = some (chunkF z len k pad i)

theorem st5_start {w W3 : World} {len : Nat} {z : Nat → Int} {cs : Array Value} (hR : W3.rowIs (w.heap.size + 1 + 1) 5 len (fun i => .int .u8 (z i))) (hB : Below (w.heap.size + 1 + 1) ((w.alloc (.cells cs 32)).alloc (.cells cs 32)) W3) :
    St5 w W3 w.heap.size (w.heap.size + 1 + 1) len z cs :=
  ⟨hR, rangeAt_below (World.rangeAt_alloc (box_range w cs) _) hB (by omega), (((Below.refl _ _).alloc (Nat.le_refl _) _).alloc (by simp) _).trans (hB.mono (by omega)), by omega⟩

set_option maxHeartbeats 1000000 in
set_option maxRecDepth 100000 in
theorem law5_in (b off len cap : Nat) (z : Nat → Int) (rep : Bool) (cs : Array Value) (hcs : cs.size = 128) (h1c : cs.all (·.oneCell') = true) (w : World) (h0 : 1 ≤ len) (hlen : len ≤ 1048576) (hc : ∀ i, i < len → w.cell? ⟨b, off + i, none⟩ = some (.int .u8 (z i))) :
    Calls Try.prog 5 #[.slice (some ⟨b, off, none⟩) len cap, .bool rep, .agg cs] w fun e w' => e = .returned (.bool true) ∧ Below w.heap.size w w' := by
  have hi : (Try.prog.info? 32).map (·.size) = some cs.toList.length := by rw [size32]; simp [hcs]
  have hi2 : (Try.prog.info? 32).map (·.size) = some cs.size := by rw [size32]; simp [hcs]
  have e0 : Hid (cs.toList.toArray = cs) := by
    have : cs.toList.toArray = cs := by simp
    exact this
  have hb := box_range w cs
  have hl1 : ¬ (1048576 : Int) < (len : Int) := by omega
  have hl2 : ((len : Int) == 0) = false := beq_eq_false_iff_ne.2 (by omega)
  have C12 : ∀ W : World, Below w.heap.size w W → Calls Try.prog 12 #[.slice (some ⟨b, off, none⟩) len cap] W fun e w' => e = .returned (.slice (some ⟨W.heap.size, 0, none⟩) len len) ∧ w'.rowIs W.heap.size 5 len (fun i => .int .u8 (z i)) ∧ Below W.heap.size W w' ∧ w'.heap.size = W.heap.size + 1 :=
    fun W hW => clone_any b off len cap z W hlen (fun i hi => (hW.cell (p := ⟨b, off + i, none⟩) (World.block_lt_of_cell? _ _ (hc i hi))).trans (hc i hi))
  have HB0 : Hid (Below w.heap.size w ((w.alloc (.cells cs 32)).alloc (.cells cs 32))) := ((Below.refl _ _).alloc (Nat.le_refl _) _).alloc (by simp) _
  go_enter Try.func5, Try.ntmps5
  go_wp2_with (first | (refine wpList_load_mid rfl 32 (.tmp 5) rfl w.heap.size 0 rfl cs.toList _ hb Try.underlying32 rfl hi ?_; rw [e0.out]) | (go_at_call 11; refine (bytes11_yes (some ⟨b, off, none⟩) len cap rep cs hcs _ (by omega)).mono ?_; rintro e w' ⟨rfl, hw⟩; obtain rfl := hw.symm) | (go_at_call 12; refine (C12 _ HB0.out).mono ?_; rintro e W3 ⟨rfl, hR, hB3, hS3⟩; refine Hid.out ?_))
  refine hid0 ?_
  have hst := st5_start (w := w) (W3 := W3) (cs := cs) (by simpa using hR) (by simpa using hB3)
  clear hR hB3 hS3 HB0 C12 hb
  have hlt3 : w.heap.size + 1 + 1 < W3.heap.size := hst.row.lt
  have hln1 : (len : Int) - 1 < (len : Int) := by omega
  have hln0 : (0 : Int) ≤ (len : Int) - 1 := by omega
  have hln2 : ((len : Int) - 1).toNat = len - 1 := by omega
  have qlast := hst.row.cell (i := len - 1) (by omega)
  go_upto_if 31 with fail
  go_cut [8] from 31 to 37 (fun pd wx => pd = .int .u8 (padOf rep z len) ∧ wx = W3)
  case first =>
    cases rep
    · go_wp2
      go_meet
      case rel => exact ⟨rfl, rfl⟩
    · go_wp2
      go_meet
      case rel => exact ⟨rfl, rfl⟩
  case rest =>
    obtain ⟨rfl, rfl⟩ := hcut
    clear qlast hln0 hln1 hln2
    obtain ⟨pad, hpad⟩ : ∃ pad, pad = padOf rep z len := ⟨_, rfl⟩
    rw [← hpad]
    have HP : Hid (pad = padOf rep z len) := hpad
    clear hpad
    go_wp2
    go_loopw [9] (fun ci wr => ∃ k : Nat, k ≤ (len + 127) / 128 ∧ ci = .int .i64 k ∧ St5 w wr w.heap.size (w.heap.size + 1 + 1) len z cs) (fun ci _ => (len + 127) / 128 - (intOf ci).toNat)
    case atStart => exact ⟨0, Nat.zero_le _, rfl, hst⟩
    case round =>
      clear hst hlt3
      obtain ⟨k, hk, rfl, hst⟩ := hrel
      by_cases hlt : k < (len + 127) / 128
      · have hki : (k : Int) < ((len : Int) + 127) / 128 := by omega
        have hkl : k * 128 < len := by omega
        have hlt3 : w.heap.size + 1 + 1 < wr.heap.size := hst.row.lt
        have hrng := hst.rng
        obtain ⟨Z, hZ, hz32⟩ := zero32
        go_upto_region 16 with (first | (refine wpList_load_mid rfl 32 (.tmp 5) rfl w.heap.size 0 rfl cs.toList _ hrng Try.underlying32 rfl hi ?_; rw [Array.toArray_toList]) | (refine wpList_store_mid rfl 32 (.tmp 10) (.tmp 43) rfl wr.heap.size 0 cs rfl rfl (there_new cs.size (hZ.trans hcs.symm)) hi2 h1c ?_))
        refine gen_world (fun W => Filled wr W (fun i => cs.getD i undef)) (filled hZ hcs) ?_
        intro W1 hF
        have hst1 : St5 w W1 w.heap.size (w.heap.size + 1 + 1) len z cs := hst.same (hF.below.mono (by omega))
        have hne : w.heap.size + 1 + 1 ≠ wr.heap.size := by omega
        have hlast : wr.heap.size < W1.heap.size := by rw [hF.size]; omega
        clear hrng hz32
        go_frame
        go_cut [11] from 38 to 76 (fun g wx => ∃ blk o, g = .pointer (some ⟨blk, o, none⟩) ∧ Got wx blk o z len k pad ∧ St5 w wx w.heap.size (w.heap.size + 1 + 1) len z cs)
        case first =>
          by_cases hw : k * 128 + 128 ≤ len
          · go_wp2_with (go_at_call 13; refine (zz_whole (w.heap.size + 1 + 1) len k wr.heap.size rep _ hw hlen).mono ?_; rintro e w' ⟨rfl, hw'⟩; obtain rfl := hw'.symm)
            go_meet
            case rel => exact ⟨_, _, rfl, fun i hi => by rw [hst1.row.cell (by omega)]; unfold chunkF; rw [if_pos (by omega)], hst1⟩
          · go_wp2_with (go_at_call 13; refine (zz_part (w.heap.size + 1 + 1) len k wr.heap.size z rep _ _ hst1.row hF.row hne hkl (by omega) hlen).mono ?_; rintro e W2 ⟨rfl, hr2, ho2⟩)
            go_meet
            case rel =>
              refine ⟨_, _, rfl, fun i hi => ?_, hst1.same ⟨ho2.os, ho2.tape, ho2.output, Nat.le_of_eq ho2.size.symm, fun b hb => ho2.block b (by omega)⟩⟩
              rw [Nat.zero_add, hr2.cell hi, HP.out]
        case rest =>
          obtain ⟨blk, o, rfl, hgot, hst2⟩ := hcut
          clear hst hst1 hF hne hlast hlt3
          go_wp2
          go_loopw [12] (fun ii wi => ∃ q : Nat, q ≤ 128 ∧ ii = .int .i64 q ∧ Got wi blk o z len k pad ∧ St5 w wi w.heap.size (w.heap.size + 1 + 1) len z cs) (fun ii _ => 128 - (intOf ii).toNat)
          case atStart => exact ⟨0, Nat.zero_le _, rfl, hgot, hst2⟩
          case round =>
            clear hgot hst2
            obtain ⟨q, hq, rfl, hgot, hst2⟩ := hrel
            by_cases hq1 : q < 128
            · have g1 := hgot q hq1
              unfold chunkF at g1
              by_cases hj : k * 128 + q < len
              · rw [if_pos hj] at g1
                have r1 := hst2.row.cell hj
                have hji : (k : Int) * 128 + (q : Int) < (len : Int) := by omega
                have hj0 : (0 : Int) ≤ (k : Int) * 128 + (q : Int) := by omega
                have hjn : ((k : Int) * 128 + (q : Int)).toNat = k * 128 + q := by omega
                obtain ⟨v, hv⟩ : ∃ v, v = z (k * 128 + q) := ⟨_, rfl⟩
                rw [← hv] at g1 r1
                clear hv
                go_wp2
                go_quiet (fail)
                go_wp2
                go_roundw
                case rel => exact ⟨q + 1, by omega, by go_num, hgot, hst2.same ⟨rfl, rfl, rfl, Nat.le_refl _, fun _ _ => rfl⟩⟩
                case measure => simp [intOf]; omega
              · rw [if_neg hj] at g1
                have hji : ¬ (k : Int) * 128 + (q : Int) < (len : Int) := by omega
                go_wp2
                go_roundw
                case rel => exact ⟨q + 1, by omega, by go_num, hgot, hst2⟩
                case measure => simp [intOf]; omega
            · have hq2 : ¬ (q : Int) < 128 := by omega
              go_wp2
              go_roundw
              case rel => exact ⟨k + 1, by omega, by go_num, hst2⟩
              case measure => simp [intOf]; omega
      · have hki : ¬ (k : Int) < ((len : Int) + 127) / 128 := by omega
        have hbl := hst.below
        go_wp2
        go_ret
        exact ⟨rfl, hbl⟩

/-- ████ the walk of the law, at every slice that is not nil -/
theorem law5 (b off len cap : Nat) (z : Nat → Int) (rep : Bool) (cs : Array Value) (hcs : cs.size = 128) (h1c : cs.all (·.oneCell') = true) (w : World) (hc : ∀ i, i < len → w.cell? ⟨b, off + i, none⟩ = some (.int .u8 (z i))) :
    Calls Try.prog 5 #[.slice (some ⟨b, off, none⟩) len cap, .bool rep, .agg cs] w fun e w' => e = .returned (.bool true) ∧ Below w.heap.size w w' := by
  by_cases h : (1048576 : Int) < (len : Int)
  · exact law5_big _ len cap rep cs hcs w h
  · by_cases h0 : len = 0
    · subst h0
      exact law5_zero _ cap rep cs hcs w
    · exact law5_in b off len cap z rep cs hcs h1c w (by omega) (by omega) hc
end Go.Proofs.Qxb6000704a
