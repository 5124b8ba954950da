/-
  SEAT b6000704a: THE WALK of (*Motion).Mean (9).
-/
import Derived.Test.Qxb6000704aMean
namespace Go.Proofs.Qxb6000704a
open Go.RowKit

/-- A MOTION, as Mean meets it: the struct in block B, its values in block R. -/
structure Mot (w : World) (B R W H A D n : Nat) (u : Nat → Nat) (val : Nat → Int) : Prop where
  c0 : w.cell? ⟨B, 0, none⟩ = some (.int .i64 W)
  c1 : w.cell? ⟨B, 1, none⟩ = some (.int .i64 H)
  c2 : w.cell? ⟨B, 2, none⟩ = some (.slice (some ⟨R, 0, none⟩) n n)
  row : ∀ i, i < n → w.cell? ⟨R, i, none⟩ = some (.float .f64 (u i))
  rep : ∀ i, i < n → Rep (u i) (val i)
  abs : ∀ i, i < n → (val i).natAbs ≤ 1048576
  hA : A = (W + 3) / 4
  hD : D = (H + 3) / 4
  hn : n = D * A
  le : n ≤ 131072
  w0 : 1 ≤ W
  w1 : W ≤ 65536
  h0 : 1 ≤ H
  h1 : H ≤ 65536

theorem sizeOf24 (w : World) : (sizeOf 24).run Try.prog w = .ok 1 w := by
  have h24 : (Try.prog.info? 24).map (·.size) = some 1 := by kernel_rfl
  have c24 : Try.prog.cellsOf 24 = 1 := by kernel_rfl
  cases hi : Try.prog.info? 24 with
  | none => rw [hi] at h24; cases h24
  | some i => rw [run_sizeOf w hi, c24]

theorem slice_at (R o A n : Nat) (h : o + A ≤ n) (h1 : 1 ≤ A) (V : World) : (Instr.slice 22 (.slice (some ⟨R, 0, none⟩) n n) (some (.int .i64 (o : Int))) (some (.int .i64 ((o : Int) + (A : Int)))) none).run Try.prog V = .ok (.slice (some ⟨R, o, none⟩) A (n - o)) V := by
  have he : Try.prog.elem 22 = 24 := by kernel_rfl
  rw [run_slice_lh V 22 _ n n (by kernel_rfl) .i64 .i64 (o : Int) ((o : Int) + (A : Int)) (by omega) (by omega) (by omega), he, sizeOf24]
  simp only [Result.andThen_ok, sliced]
  rw [if_neg (by omega), show ((o : Int) + (A : Int)).toNat - (o : Int).toNat = A by omega, show (o : Int).toNat = o by omega]
  simp only [Option.map_some, Nat.mul_one, Addr.add_mid, Nat.zero_add]

theorem hid0' {p : Prop} (h : p) : Hid p := h

/-- one step of Mean's sum -/
theorem mean_step {w : World} {B R W H A D n : Nat} {u : Nat → Nat} {val : Nat → Int} (M : Mot w B R W H A D n u val) (r c : Nat) (hr : r < D) (hc : c < A) :
    ∃ (px m : Nat), (∀ V : World, Calls Try.prog 16 #[.int .i64 W, .int .i64 H, .int .i64 c, .int .i64 r] V fun e w' => e = .returned (.int .i64 (px : Int)) ∧ w' = V) ∧
      (∀ V : World, (binOp .mul 24 (.float .f64 (u (r * A + c))) (.float .f64 (floatOfInt .f64 (px : Int)))).run Try.prog V = .ok (.float .f64 m) V) ∧
      (∀ V : World, (binOp .add 24 (.float .f64 (word (sumTo (blk val A W H) (r * A + c)))) (.float .f64 m)).run Try.prog V = .ok (.float .f64 (word (sumTo (blk val A W H) (r * A + (c + 1))))) V) := by
  have hA := M.hA
  have hD := M.hD
  have hlt : r * A + c < n := by
    have h1 : (r + 1) * A ≤ D * A := Nat.mul_le_mul_right _ hr
    rw [Nat.add_mul] at h1
    have := M.hn
    omega
  have hA0 : 0 < A := by omega
  have e1 : (r * A + c) % A = c := by rw [Nat.add_comm, Nat.add_mul_mod_self_right, Nat.mod_eq_of_lt hc]
  have e2 : (r * A + c) / A = r := by rw [Nat.add_comm, Nat.add_mul_div_right _ _ hA0, Nat.div_eq_of_lt hc, Nat.zero_add]
  have hb := blk_abs val A W H n (r * A + c) M.abs hlt
  have hblk : blk val A W H (r * A + c) = val (r * A + c) * ((span W c * span H r : Nat) : Int) := by unfold blk; rw [e1, e2]
  have hx : 4 * c < W := by omega
  have hy : 4 * r < H := by omega
  have hp1 : 1 ≤ span W c := by unfold span; omega
  have hp2 : 1 ≤ span H r := by unfold span; omega
  have hpx : 1 * 1 ≤ span W c * span H r := Nat.mul_le_mul hp1 hp2
  have hpx2 : span W c * span H r ≤ 4 * 4 := Nat.mul_le_mul (span_le _ _) (span_le _ _)
  have hC : ∀ V : World, Calls Try.prog 16 #[.int .i64 W, .int .i64 H, .int .i64 c, .int .i64 r] V fun e w' => e = .returned (.int .i64 ((span W c * span H r : Nat) : Int)) ∧ w' = V := fun V => blockPixels_any W H c r V M.w1 M.h1 hx hy
  generalize span W c * span H r = px at *
  rw [hblk] at hb
  obtain ⟨m, hm, hrep⟩ := mul_whole (M.rep _ hlt) (word_repP (px : Int) (by rw [Int.natAbs_natCast]; omega)).rep (by omega) (by omega)
  have hs1 := blocks_abs val A W H n (r * A + c) M.abs M.le (by omega)
  have hs2 := blocks_abs val A W H n (r * A + (c + 1)) M.abs M.le (by omega)
  rw [← Nat.add_assoc, sumTo_succ, hblk] at hs2
  refine ⟨px, m, hC, fun V => run_float_arith V .mul 24 .f64 _ _ m hm, fun V => ?_⟩
  have ha := add_whole (word_repP _ hs1) hrep hs2
  rw [← Nat.add_assoc, sumTo_succ, hblk]
  exact run_float_arith V .add 24 .f64 _ _ _ ha

set_option maxHeartbeats 1000000 in
set_option maxRecDepth 100000 in
theorem mean_any {w : World} {B R W H A D n : Nat} {u : Nat → Nat} {val : Nat → Int} (M : Mot w B R W H A D n u val) (q : Nat) (hq : Ieee.double.div (word (sumTo (blk val A W H) n)) (word ((W : Int) * (H : Int))) = some q) :
    Calls Try.prog 9 #[.pointer (some ⟨B, 0, none⟩)] w fun e w' => e = .returned (.float .f64 q) ∧ ∃ k, w' = w.drewN k := by
  have c0 := M.c0
  have c1 := M.c1
  have c2 := M.c2
  have hw0 : ¬ (W : Int) ≤ 0 := by have := M.w0; omega
  have hh0 : ¬ (H : Int) ≤ 0 := by have := M.h0; omega
  have hA := M.hA
  have hacr : ∀ V : World, (∃ k, V = w.drewN k) → Calls Try.prog 15 #[.pointer (some ⟨B, 0, none⟩)] V fun e w' => e = .returned (.int .i64 (A : Int)) ∧ ∃ k, w' = V.drewN k := fun V ⟨k, hV⟩ => by
    rw [hA]
    exact across_any B W H V M.w1 M.h1 (by rw [hV]; exact c0) (by rw [hV]; exact c1)
  clear hA
  go_enter Try.func9, Try.ntmps9
  go_wp2_with (go_at_call 15; refine (hacr _ ⟨0, rfl⟩).mono ?_; rintro e w' ⟨rfl, k0, hw⟩; obtain rfl := hw.symm)
  clear hacr hw
  have hmul : IntKind.i64.wrap ((W : Int) * (H : Int)) = (W : Int) * (H : Int) := by
    have h1 := Nat.mul_le_mul M.w1 M.h1
    have h2 : (W : Int) * (H : Int) = ((W * H : Nat) : Int) := by simp
    rw [h2, IntKind.wrap_i64]
    omega
  have hquo : ∀ V : World, (binOp .quo 24 (.float .f64 (word (sumTo (blk val A W H) n))) (.float .f64 (floatOfInt .f64 ((W : Int) * (H : Int))))).run Try.prog V = .ok (.float .f64 q) V := fun V =>
    run_float_arith V .quo 24 .f64 _ _ q hq
  clear hq
  have hn := M.hn
  have HN : Hid (n = D * A) := hn
  have hA2 : A ≤ 65536 := by have := M.hA; have := M.w1; omega
  have hD2 : D ≤ 65536 := by have := M.hD; have := M.h1; omega
  have hnle := M.le
  clear hn
  go_loopw [3, 5, 6] (fun s b st wr => ∃ (r o k : Nat), r ≤ D ∧ Hid (o = r * A) ∧ s = .float .f64 (word (sumTo (blk val A W H) o)) ∧ b = .int .i64 r ∧ st = .int .i64 o ∧ wr = w.drewN k) (fun _ b _ _ => D - (intOf b).toNat)
  case atStart => exact ⟨0, 0, k0, Nat.zero_le _, hid0' (Nat.zero_mul _).symm, by simp [sumTo, word_zero], rfl, rfl, rfl⟩
  case round =>
    obtain ⟨r, o, k, hr, ho, rfl, rfl, rfl, rfl⟩ := hrel
    by_cases hlt : r < D
    · have hoA : o + A ≤ n := by
        have h1 : (r + 1) * A ≤ D * A := Nat.mul_le_mul_right _ hlt
        rw [Nat.add_mul, Nat.one_mul, ← ho.out, ← HN.out] at h1
        exact h1
      have hA1 : 1 ≤ A := by have := M.hA; have := M.w0; omega
      have hi1 : (o : Int) < (n : Int) := by omega
      have hi3 : (o : Int) + (A : Int) ≤ (n : Int) := by omega
      have hi4 : (0 : Int) ≤ (o : Int) + (A : Int) := by omega
      have hi5 : (o : Int) ≤ (o : Int) + (A : Int) := by omega
      have hwr : IntKind.i64.wrap ((o : Int) + (A : Int)) = (o : Int) + (A : Int) := by rw [IntKind.wrap_i64]; have := M.le; omega
      have hsl := slice_at R o A n hoA hA1
      go_wp2
      have hif : (if (n : Int) < (o : Int) + (A : Int) then (n : Int) else (o : Int) + (A : Int)) = (o : Int) + (A : Int) := if_neg (by omega)
      have hi2 : ¬ (n : Int) < (o : Int) + (A : Int) := by omega
      go_quiet (fail)
      go_wp2
      clear hif hi2 hi1 hi3 hi4 hi5 hwr hsl
      go_loopw [3, 51] (fun s i wi => ∃ (c j : Nat), c ≤ A ∧ s = .float .f64 (word (sumTo (blk val A W H) (o + c))) ∧ i = .int .i64 c ∧ wi = w.drewN j) (fun _ i _ => A - (intOf i).toNat)
      case atStart => exact ⟨0, _, Nat.zero_le _, rfl, rfl, rfl⟩
      case round =>
        obtain ⟨c, j, hc, rfl, rfl, rfl⟩ := hrel
        by_cases hcl : c < A
        · obtain ⟨px, m, s16, smul, sadd⟩ := mean_step M r c hlt hcl
          rw [← ho.out] at smul sadd
          have hci : (c : Int) < (A : Int) := by omega
          have g1 := M.row (o + c) (by omega)
          go_wp2
          go_quiet (first | (go_at_call 16; refine (s16 _).mono ?_; rintro e w' ⟨rfl, rfl⟩; exact ⟨rfl, _, rfl⟩))
          go_wp2
          go_roundw
          case rel => exact ⟨c + 1, _, by omega, rfl, by go_num, rfl⟩
          case measure => simp [intOf]; omega
        · have e : c = A := by omega
          subst e
          have ho1 : Hid (o + c = (r + 1) * c) := by
            show o + c = (r + 1) * c
            rw [Nat.add_mul, Nat.one_mul, ← ho.out]
          go_wp2
          go_roundw
          case rel => exact ⟨r + 1, o + c, _, by omega, ho1, rfl, by go_num, by go_num, rfl⟩
          case measure => simp [intOf]; omega
    · have e : r = D := by omega
      have e2 : o = n := by rw [ho.out, HN.out, e]
      subst e2
      go_wp2
      go_quiet (fail)
      go_wp2
      go_ret
      exact ⟨rfl, _, World.drewN_drewN _ _ _⟩
end Go.Proofs.Qxb6000704a
