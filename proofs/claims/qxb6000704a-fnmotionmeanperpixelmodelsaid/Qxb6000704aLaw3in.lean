/-
  SEAT b6000704a: THE WALK of FnMotionMeanPerPixelModel (func 3), where its tests let the input in.
-/
import Derived.Test.Qxb6000704aLaw3
namespace Go.Proofs.Qxb6000704a
open Go.RowKit

theorem three (W3 : World) (x y z : Value) : (W3.alloc (.cells #[x, y, z] 28)).cell? ⟨W3.heap.size, 0, none⟩ = some x ∧ (W3.alloc (.cells #[x, y, z] 28)).cell? ⟨W3.heap.size, 1, none⟩ = some y ∧ (W3.alloc (.cells #[x, y, z] 28)).cell? ⟨W3.heap.size, 2, none⟩ = some z := by
  have hrow := World.rowIs_alloc W3 #[x, y, z] 28 (fun i => if i = 0 then x else if i = 1 then y else z) (fun i hi => by
    match i, hi with
    | 0, _ => rfl
    | 1, _ => rfl
    | 2, _ => rfl)
  exact ⟨hrow.cell (i := 0) (show 0 < 3 by omega), hrow.cell (i := 1) (show 1 < 3 by omega), hrow.cell (i := 2) (show 2 < 3 by omega)⟩

theorem mot_box {w W3 : World} {W H A D len : Nat} {u : Nat → Nat} {val : Nat → Int} (hR : W3.rowIs w.heap.size 24 len (fun i => .float .f64 (u i))) (hB3 : Below w.heap.size w W3)
    (hrep : ∀ i, i < len → Rep (u i) (val i)) (habs : ∀ i, i < len → (val i).natAbs ≤ 1048576) (hA : A = (W + 3) / 4) (hD : D = (H + 3) / 4) (hn : len = D * A) (hlen : len ≤ 131072) (hW0 : 1 ≤ W) (hW1 : W ≤ 65536) (hH0 : 1 ≤ H) (hH1 : H ≤ 65536) :
    Mot (W3.alloc (.cells #[.int .i64 W, .int .i64 H, .slice (some ⟨w.heap.size, 0, none⟩) len len] 28)) W3.heap.size w.heap.size W H A D len u val ∧ Below w.heap.size w (W3.alloc (.cells #[.int .i64 W, .int .i64 H, .slice (some ⟨w.heap.size, 0, none⟩) len len] 28)) := by
  have hlt : w.heap.size < W3.heap.size := hR.lt
  have hb : Below W3.heap.size W3 (W3.alloc (.cells #[.int .i64 W, .int .i64 H, .slice (some ⟨w.heap.size, 0, none⟩) len len] 28)) := (Below.refl _ _).alloc (Nat.le_refl _) _
  obtain ⟨c0, c1, c2⟩ := three W3 (.int .i64 W) (.int .i64 H) (.slice (some ⟨w.heap.size, 0, none⟩) len len)
  refine ⟨⟨c0, c1, c2, fun i hi => ?_, hrep, habs, hA, hD, hn, hlen, hW0, hW1, hH0, hH1⟩, hB3.trans (hb.mono (by omega))⟩
  exact (hb.cell (p := ⟨w.heap.size, i, none⟩) hlt).trans (hR.cell hi)

/-- one step of the law's sum -/
theorem law_step {w : World} {B R W H A D n : Nat} {u : Nat → Nat} {val : Nat → Int} (M : Mot w B R W H A D n u val) (y x : Nat) (hy : y < H) (hx : x < W) :
    y / 4 * A + x / 4 < n ∧ ∀ V : World, (binOp .add 24 (.float .f64 (word (part val A W y x))) (.float .f64 (u (y / 4 * A + x / 4)))).run Try.prog V = .ok (.float .f64 (word (part val A W y (x + 1)))) V := by
  have hlt : y / 4 * A + x / 4 < n := by rw [M.hn]; exact at_lt A D W H y x M.hA M.hD hy hx
  refine ⟨hlt, fun V => ?_⟩
  have hle := M.le
  have habs := M.abs
  rw [M.hn] at hle habs
  have h1 := part_abs val A D W H y x M.hA M.hD hle habs hy (by omega)
  have h2 := part_abs val A D W H y (x + 1) M.hA M.hD hle habs hy (by omega)
  have e : part val A W y (x + 1) = part val A W y x + val (y / 4 * A + x / 4) := by
    unfold part
    rw [sumTo_succ, ← Int.add_assoc]
    rfl
  rw [e] at h2 ⊢
  exact run_float_arith V .add 24 .f64 _ _ _ (add_whole (word_repP _ h1) (M.rep _ hlt) h2)

theorem part_end {w : World} {B R W H A D n : Nat} {u : Nat → Nat} {val : Nat → Int} (M : Mot w B R W H A D n u val) : part val A W H 0 = sumTo (blk val A W H) n := by
  rw [M.hn, ← pixels_blocks val A D W H M.hA M.hD M.w0]
  unfold part
  simp [sumTo]

set_option maxHeartbeats 1000000 in
set_option maxRecDepth 100000 in
theorem law3_in (W H A D len cap b off : Nat) (u : Nat → Nat) (w : World) (hlen : len ≤ 131072) (hW0 : 1 ≤ W) (hW1 : W ≤ 65536) (hH0 : 1 ≤ H) (hH1 : H ≤ 65536) (hA : A = (W + 3) / 4) (hD : D = (H + 3) / 4) (hn : len = D * A)
    (hc : ∀ i, i < len → w.cell? ⟨b, off + i, none⟩ = some (.float .f64 (u i))) :
    Calls Try.prog 3 #[.int .i64 W, .int .i64 H, .slice (some ⟨b, off, none⟩) len cap] w fun e w' => e = .returned (.bool true) ∧ Below w.heap.size w w' := by
  have h1 : (len : Int) ≤ 1048576 := by omega
  have h2 : ¬ (131072 : Int) < (len : Int) := by omega
  have h7 : ¬ (W : Int) < 1 := by omega
  have h8 : ¬ (65536 : Int) < (W : Int) := by omega
  have h9 : ¬ (H : Int) < 1 := by omega
  have h10 : ¬ (65536 : Int) < (H : Int) := by omega
  have hAi : ((W : Int) + 3) / 4 = (A : Int) := by omega
  have hDi : ((H : Int) + 3) / 4 = (D : Int) := by omega
  have hmi : (A : Int) * (D : Int) = (len : Int) := by rw [hn, Int.natCast_mul, Int.mul_comm]
  have hA2 : A ≤ 16384 := by omega
  have hD2 : D ≤ 16384 := by omega
  have HA : Hid (A = (W + 3) / 4) := hA
  have HD : Hid (D = (H + 3) / 4) := hD
  have HN : Hid (len = D * A) := hn
  have HC : Hid (∀ i, i < len → w.cell? ⟨b, off + i, none⟩ = some (.float .f64 (u i))) := hc
  clear hA hD hn hc
  go_enter Try.func3, Try.ntmps3
  go_wp2_with (go_at_call 7; refine (bytes7_yes W H (some ⟨b, off, none⟩) len cap _ h1).mono ?_; rintro e w' ⟨rfl, hw⟩; obtain rfl := hw.symm)
  simp only [hAi, hDi]
  clear hAi hDi hmi hw h2 h7 h8 h9 h10
  have hcv : ∀ (V : World) (v : Nat) (N : Int), floatToIntVal .f64 v .i64 = some N → (convert 24 2 (.float .f64 v)).run Try.prog V = .ok (.int .i64 N) V := fun V v N h => run_convert_float_int V 24 2 .f64 .i64 v N (by kernel_rfl) Try.underlying2 h
  go_loopw [9] (fun i wr => ∃ k : Nat, k ≤ len ∧ i = .int .i64 k ∧ Fine u k ∧ wr = w) (fun i _ => len - (intOf i).toNat)
  case atStart => exact ⟨0, Nat.zero_le _, rfl, fun i hi => absurd hi (Nat.not_lt_zero _), rfl⟩
  case round =>
    obtain ⟨k, hk, rfl, hf, hwr⟩ := hrel
    obtain rfl := hwr.symm
    clear hwr
    by_cases hlt : k < len
    · have g1 := HC.out k hlt
      obtain ⟨v, hv⟩ : ∃ v, u k = v := ⟨_, rfl⟩
      rw [hv] at g1
      have HV : Hid (u k = v) := hv
      clear hv
      by_cases p1 : FloatKind.f64.format.order v 13920626448202203136 = some .gt ∨ FloatKind.f64.format.order v 13920626448202203136 = some .eq
      · by_cases p2 : FloatKind.f64.format.order v 4697254411347427328 = some .lt ∨ FloatKind.f64.format.order v 4697254411347427328 = some .eq
        · obtain ⟨N, hN⟩ := tested_int p1 p2
          have hcvN := fun V => hcv V v N hN
          by_cases p3 : FloatKind.f64.format.order (floatOfInt .f64 N) v = some .eq
          · have hfine : Hid (Fine u (k + 1)) := fun i hi => by
              by_cases e : i = k
              · subst e
                rw [HV.out]
                exact ⟨N, tested p1 p2 hN p3⟩
              · exact hf i (by omega)
            clear hf
            rcases p1 with p1 | p1
            · rcases p2 with p2 | p2
              · go_wp2
                go_roundw
                case rel => exact ⟨k + 1, by omega, by go_num, hfine, trivial⟩
                case measure => simp [intOf]; omega
              · go_wp2
                go_roundw
                case rel => exact ⟨k + 1, by omega, by go_num, hfine, trivial⟩
                case measure => simp [intOf]; omega
            · rcases p2 with p2 | p2
              · go_wp2
                go_roundw
                case rel => exact ⟨k + 1, by omega, by go_num, hfine, trivial⟩
                case measure => simp [intOf]; omega
              · go_wp2
                go_roundw
                case rel => exact ⟨k + 1, by omega, by go_num, hfine, trivial⟩
                case measure => simp [intOf]; omega
          · have n3 : (FloatKind.f64.format.order (floatOfInt .f64 N) v != some .eq) = true := bne_iff_ne.2 p3
            clear p3
            rcases p1 with p1 | p1 <;> rcases p2 with p2 | p2 <;> (go_wp2; go_ret; exact ⟨rfl, Below.refl _ _⟩)
        · have n1 : (FloatKind.f64.format.order v 4697254411347427328 == some .lt) = false := beq_eq_false_iff_ne.2 (fun e => p2 (Or.inl e))
          have n2 : (FloatKind.f64.format.order v 4697254411347427328 == some .eq) = false := beq_eq_false_iff_ne.2 (fun e => p2 (Or.inr e))
          clear p2
          rcases p1 with p1 | p1 <;> (go_wp2; go_ret; exact ⟨rfl, Below.refl _ _⟩)
      · have n1 : (FloatKind.f64.format.order v 13920626448202203136 == some .gt) = false := beq_eq_false_iff_ne.2 (fun e => p1 (Or.inl e))
        have n2 : (FloatKind.f64.format.order v 13920626448202203136 == some .eq) = false := beq_eq_false_iff_ne.2 (fun e => p1 (Or.inr e))
        clear p1
        go_wp2
        go_ret
        exact ⟨rfl, Below.refl _ _⟩
    · have ek : k = len := by omega
      rw [ek] at hf ⊢
      obtain ⟨val, hrep, habs⟩ := hf.choose
      have C8 := cloneF_any b off len cap u w (by omega) HC.out
      clear hf hcv ek hlt hk
      go_upto_region 21 with (first | (go_at_call 8; refine C8.mono ?_; rintro e W3 ⟨rfl, hR, hB3, hS3⟩; clear hS3))
      obtain ⟨hM0, hbel0⟩ := mot_box hR hB3 hrep habs HA.out HD.out HN.out hlen hW0 hW1 hH0 hH1
      refine gen_world (fun V => Mot V W3.heap.size w.heap.size W H A D len u val ∧ Below w.heap.size w V) ⟨hM0, hbel0⟩ ?_
      rintro V ⟨hM, hbel⟩
      have hsum := blocks_abs val A W H len len habs hlen (Nat.le_refl _)
      have hwh : (W * H : Nat) ≤ 65536 * 65536 := Nat.mul_le_mul hW1 hH1
      have hwh1 : 1 * 1 ≤ W * H := Nat.mul_le_mul hW0 hH0
      have hcast : (W : Int) * (H : Int) = ((W * H : Nat) : Int) := by simp
      obtain ⟨q, hq, hqq⟩ := div_whole (word_repP _ hsum).rep (word_repP ((W : Int) * (H : Int)) (by rw [hcast, Int.natAbs_natCast]; omega)).rep (by rw [hcast]; omega)
      have C9 := mean_any hM q hq
      have hmul : IntKind.i64.wrap ((W : Int) * (H : Int)) = (W : Int) * (H : Int) := by
        rw [hcast, IntKind.wrap_i64]
        omega
      have hm0 : (0 : Int) ≤ (W : Int) * (H : Int) := by rw [hcast]; omega
      have hm1 : (W : Int) * (H : Int) ≤ 4294967296 := by rw [hcast]; omega
      have hquo : ∀ V' : World, (binOp .quo 24 (.float .f64 (word (sumTo (blk val A W H) len))) (.float .f64 (floatOfInt .f64 ((W : Int) * (H : Int))))).run Try.prog V' = .ok (.float .f64 q) V' := fun V' => run_float_arith V' .quo 24 .f64 _ _ q hq
      have heq : FloatKind.f64.format.order q q = some .eq := hqq
      clear hq hsum hwh hwh1 hcast hM0 hbel0 hR hB3 C8 hqq hrep habs
      go_wp2_with (first | (go_at_call 9; refine C9.mono ?_; rintro e w' ⟨rfl, k0, hw'⟩; obtain rfl := hw'.symm; clear hw'))
      clear C9
      have HM : Hid (Mot V W3.heap.size w.heap.size W H A D len u val) := hM
      clear hM
      go_loopw [13, 14] (fun s yy wr => ∃ y : Nat, y ≤ H ∧ s = .float .f64 (word (part val A W y 0)) ∧ yy = .int .i64 y ∧ wr = V.drewN k0) (fun _ yy _ => H - (intOf yy).toNat)
      case atStart => exact ⟨0, Nat.zero_le _, by simp [part, sumTo, word_zero], rfl, rfl⟩
      case round =>
        obtain ⟨y, hy, rfl, rfl, hwr⟩ := hrel
        obtain rfl := hwr.symm
        clear hwr
        by_cases hyl : y < H
        · have hyi : (y : Int) < (H : Int) := by omega
          go_wp2
          go_loopw [13, 15] (fun s xx wr => ∃ x : Nat, x ≤ W ∧ s = .float .f64 (word (part val A W y x)) ∧ xx = .int .i64 x ∧ wr = V.drewN k0) (fun _ xx _ => W - (intOf xx).toNat)
          case atStart => exact ⟨0, Nat.zero_le _, rfl, rfl, rfl⟩
          case round =>
            obtain ⟨x, hx, rfl, rfl, hwr⟩ := hrel
            obtain rfl := hwr.symm
            clear hwr
            by_cases hxl : x < W
            · have hxi : (x : Int) < (W : Int) := by omega
              obtain ⟨hat, sadd⟩ := law_step HM.out y x hyl hxl
              have g1 := HM.out.row _ hat
              have hcast : (y : Int) / 4 * (A : Int) = ((y / 4 * A : Nat) : Int) := by simp
              have hp0 : (0 : Int) ≤ (y : Int) / 4 * (A : Int) := by rw [hcast]; omega
              have hp1 : (y : Int) / 4 * (A : Int) ≤ 131072 := by rw [hcast]; omega
              have hp2 : (y : Int) / 4 * (A : Int) + (x : Int) / 4 < (len : Int) := by rw [hcast]; omega
              have hp3 : ((y : Int) / 4 * (A : Int) + (x : Int) / 4).toNat = y / 4 * A + x / 4 := by rw [hcast]; omega
              clear hcast
              go_wp2
              go_roundw
              case rel => exact ⟨x + 1, by omega, rfl, by go_num, trivial⟩
              case measure => simp [intOf]; omega
            · have ex : x = W := by omega
              rw [ex, part_next]
              go_wp2
              go_roundw
              case rel => exact ⟨y + 1, by omega, rfl, by go_num, trivial⟩
              case measure => simp [intOf]; omega
        · have ey : y = H := by omega
          rw [ey, part_end HM.out]
          go_wp2
          go_ret
          exact ⟨rfl, ⟨hbel.os, hbel.tape, hbel.output, hbel.size, hbel.block⟩⟩
end Go.Proofs.Qxb6000704a
