/-
  SEAT b6000704a: THE WALKS on the road of FnMotionMeanPerPixelModel: zzBytes (7), cloneF (8), blocksAcross (15), blockPixels (16), motionBlocks (18), Mean (9).
-/
import Derived.Test.Qxb6000704aChunk
import Derived.Deep.QuietTactic
import Derived.Deep.RegionLaw
import Derived.Deep.RegionWith
import Derived.Test.Qxb6000704aFloat
import Derived.Test.Qxb6000704aSums
namespace Go.Proofs.Qxb6000704a
open Go.RowKit

theorem info24 : (Try.prog.info? 24).map (fun i => (i.zero, i.size, i.bytes)) = some (some (.float .f64 0), 1, 8) := by kernel_rfl

set_option maxHeartbeats 400000 in
theorem bytes7_yes (W H : Int) (a : Option Addr) (len cap : Nat) (w : World) (h : (len : Int) ≤ 1048576) :
    Calls Try.prog 7 #[.int .i64 W, .int .i64 H, .slice a len cap] w fun e w' => e = .returned (.bool true) ∧ w' = w := by
  have h' : ¬ (1048576 : Int) < (len : Int) := by omega
  go_enter Try.func7, Try.ntmps7
  go_wp2
  go_ret
  exact ⟨rfl, rfl⟩
set_option maxHeartbeats 400000 in
theorem bytes7_no (W H : Int) (a : Option Addr) (len cap : Nat) (w : World) (h : (1048576 : Int) < (len : Int)) :
    Calls Try.prog 7 #[.int .i64 W, .int .i64 H, .slice a len cap] w fun e w' => e = .returned (.bool false) ∧ w' = w := by
  go_enter Try.func7, Try.ntmps7
  go_wp2
  go_ret
  exact ⟨rfl, rfl⟩

set_option maxHeartbeats 400000 in
theorem motionBlocks_any (W H : Nat) (w : World) (hW : W ≤ 65536) (hH : H ≤ 65536) :
    Calls Try.prog 18 #[.int .i64 W, .int .i64 H] w fun e w' => e = .returned (.tuple #[.int .i64 (((W + 3) / 4 : Nat) : Int), .int .i64 (((H + 3) / 4 : Nat) : Int)]) ∧ w' = w := by
  have e1 : (W : Int) + 4 - 1 = ((W + 3 : Nat) : Int) := by omega
  have e2 : (H : Int) + 4 - 1 = ((H + 3 : Nat) : Int) := by omega
  go_enter Try.func18, Try.ntmps18
  go_wp2
  go_ret2
  exact ⟨rfl, rfl⟩

theorem pixels_fit (sx sy : Nat) (hx : sx ≤ 4) (hy : sy ≤ 4) (a b : Int) (ha : a = sx) (hb : b = sy) : wrap64 (a * b) = (sx : Int) * sy := by
  subst ha
  subst hb
  have h := Nat.mul_le_mul hx hy
  unfold wrap64
  have : (sx : Int) * sy = ((sx * sy : Nat) : Int) := by simp
  omega

set_option maxHeartbeats 400000 in
theorem blockPixels_any (W H bx by_ : Nat) (w : World) (hW : W ≤ 65536) (hH : H ≤ 65536) (hx : 4 * bx < W) (hy : 4 * by_ < H) :
    Calls Try.prog 16 #[.int .i64 W, .int .i64 H, .int .i64 bx, .int .i64 by_] w fun e w' => e = .returned (.int .i64 ((span W bx * span H by_ : Nat) : Int)) ∧ w' = w := by
  have fit := pixels_fit (span W bx) (span H by_) (span_le _ _) (span_le _ _)
  have HF : Hid (∀ a b : Int, a = (span W bx : Int) → b = (span H by_ : Int) → wrap64 (a * b) = (span W bx : Int) * span H by_) := fit
  clear fit
  go_enter Try.func16, Try.ntmps16
  go_wp2
  case inl.inl => go_ret; exact ⟨by rw [← HF.out 4 4 (by unfold span; omega) (by unfold span; omega)]; rfl, rfl⟩
  case inl.inr => go_ret; exact ⟨by rw [← HF.out 4 ((H : Int) - by_ * 4) (by unfold span; omega) (by unfold span; omega)]; rfl, rfl⟩
  case inr.inl => go_ret; exact ⟨by rw [← HF.out ((W : Int) - bx * 4) 4 (by unfold span; omega) (by unfold span; omega)]; rfl, rfl⟩
  case inr.inr => go_ret; exact ⟨by rw [← HF.out ((W : Int) - bx * 4) ((H : Int) - by_ * 4) (by unfold span; omega) (by unfold span; omega)]; rfl, rfl⟩

set_option maxHeartbeats 400000 in
theorem cloneF_any (b off len cap : Nat) (z : Nat → Nat) (w : World) (hlen : len ≤ 1048576) (hc : ∀ i, i < len → w.cell? ⟨b, off + i, none⟩ = some (.float .f64 (z i))) :
    Calls Try.prog 8 #[.slice (some ⟨b, off, none⟩) len cap] w fun e w' => e = .returned (.slice (some ⟨w.heap.size, 0, none⟩) len len) ∧ w'.rowIs w.heap.size 24 len (fun i => .float .f64 (z i)) ∧ Below w.heap.size w w' ∧ w'.heap.size = w.heap.size + 1 := by
  have hmk := run_make_row' (P := Try.prog) 22 24 (.float .f64 0) 8 Try.underlying22 info24 rfl .i64 .i64 len (by omega) (by omega)
  have hnil : ∀ (W : World) (a : Option Addr) (n c n' c' : Nat), (binOp .eql 22 (.slice a n c) (.slice none n' c')).run Try.prog W = .ok (.bool a.isNone) W := fun W a n c n' c' => Lib.run_eql_slice_nil W _ _ a n c n' c' Try.underlying22
  have hstf : ∀ (W : World) (a : Addr) (x : Nat) (m : Mode), (store a (.float .f64 x) m).run Try.prog W = stored Try.prog W a (.float .f64 x) m := fun W a x m => run_store Try.prog W a _ m rfl
  go_enter Try.func8, Try.ntmps8
  go_wp2
  go_loopw [4] (fun i wr => ∃ k : Nat, k ≤ len ∧ i = .int .i64 k ∧ wr.rowIs w.heap.size 24 len (fun j => .float .f64 (if j < k then z j else 0)) ∧ Below w.heap.size w wr ∧ wr.heap.size = w.heap.size + 1) (fun i _ => len - (intOf i).toNat)
  case atStart => exact ⟨0, Nat.zero_le _, rfl, (World.rowIs_made w (.float .f64 0) len 24).congr (fun j _ => by rw [if_neg (Nat.not_lt_zero _)]), (Below.refl _ _).alloc (Nat.le_refl _) _, by simp⟩
  case round =>
    obtain ⟨k, hk, rfl, hr, hb, hsz⟩ := hrel
    by_cases hlt : k < len
    · have hbw : b < w.heap.size := World.block_lt_of_cell? _ _ (hc k hlt)
      have q1 : wr.cell? ⟨b, off + k, none⟩ = some (.float .f64 (z k)) := (hb.cell (p := ⟨b, off + k, none⟩) hbw).trans (hc k hlt)
      have q2 := hr.cell hlt
      have q3 := hr.frozen k
      have HZ : Hid (wr.heap.size = w.heap.size + 1) := hsz
      clear hsz
      go_wp2
      go_roundw
      case rel =>
        refine ⟨k + 1, by omega, by go_num, (hr.set k _).congr (fun j _ => ?_), hb.setCell (Nat.le_refl _) _, by simpa using HZ.out⟩
        by_cases e : j = k
        · subst e; simp
        · rw [if_neg e]
          by_cases e2 : j < k
          · rw [if_pos e2, if_pos (by omega)]
          · rw [if_neg e2, if_neg (by omega)]
      case measure => simp [intOf]; omega
    · have e : k = len := by omega
      subst e
      go_wp2
      go_ret
      exact ⟨rfl, hr.congr (fun j hj => by rw [if_pos hj]), hb, hsz⟩

set_option maxHeartbeats 400000 in
theorem across_any (B W H : Nat) (w : World) (hW : W ≤ 65536) (hH : H ≤ 65536) (c0 : w.cell? ⟨B, 0, none⟩ = some (.int .i64 W)) (c1 : w.cell? ⟨B, 1, none⟩ = some (.int .i64 H)) :
    Calls Try.prog 15 #[.pointer (some ⟨B, 0, none⟩)] w fun e w' => e = .returned (.int .i64 (((W + 3) / 4 : Nat) : Int)) ∧ ∃ n, w' = w.drewN n := by
  go_enter Try.func15, Try.ntmps15
  go_wp2
  go_quiet (first | (go_at_call 18; exact Calls.quiet_of_same (motionBlocks_any W H _ hW hH)))
  go_wp2
  go_ret
  exact ⟨rfl, _, rfl⟩
end Go.Proofs.Qxb6000704a
