/-
  THE WALK OF THE LAW FnCliqueStepsOnCompleteGraph (3).
-/
import Derived.Test.Qxb6000686aRowsBuilt
namespace Go.Proofs.Qxb6000686a
open Go.RowKit Go.Deep
set_option linter.unusedVariables false

set_option maxHeartbeats 400000 in
theorem law_out (a0 a1 a2 : Int) (w : World) (h : a0 < 1 ∨ 512 < a0 ∨ a1 < 0 ∨ a0 ≤ a1 ∨ a2 < 0 ∨ 9223372036854775807 ≤ a2) :
    Calls Try.prog 3 #[.int .i64 a0, .int .i64 a1, .int .i64 a2] w fun e w' => e = .returned (.bool true) ∧ Below w.heap.size w w' := by
  by_cases h1 : a0 < 1
  · go_enter Try.func3, Try.ntmps3
    go_wp2
    go_ret
    exact ⟨rfl, Below.refl _ _⟩
  by_cases h2 : 512 < a0
  · go_enter Try.func3, Try.ntmps3
    go_wp2
    go_ret
    exact ⟨rfl, Below.refl _ _⟩
  by_cases h3 : a1 < 0
  · go_enter Try.func3, Try.ntmps3
    go_wp2
    go_ret
    exact ⟨rfl, Below.refl _ _⟩
  by_cases h4 : a0 ≤ a1
  · go_enter Try.func3, Try.ntmps3
    go_wp2
    go_ret
    exact ⟨rfl, Below.refl _ _⟩
  by_cases h5 : a2 < 0
  · go_enter Try.func3, Try.ntmps3
    go_wp2
    go_ret
    exact ⟨rfl, Below.refl _ _⟩
  have h6 : 9223372036854775807 ≤ a2 := by omega
  go_enter Try.func3, Try.ntmps3
  go_wp2
  go_ret
  exact ⟨rfl, Below.refl _ _⟩

theorem make_empty (n : Nat) (hn : n ≤ 512) (w : World) : (Instr.makeSlice 23 (.int .i64 0) (.int .i64 (n : Int))).run Try.prog w = .ok (.slice (some ⟨w.heap.size, 0, none⟩) 0 n) (w.alloc (.cells (madeCells #[.int .i32 0] n) 21)) := by
  obtain ⟨i, hi, hz0, hz1, hz2⟩ := info_parts info21
  have hr := run_make (P := Try.prog) w 23 21 i (.int .i32 0) Try.underlying23 hi hz0 .i64 .i64 0 n (Int.le_refl _) (by omega) (by rw [hz2]; omega) (by omega)
  simp only [hz1, Nat.mul_one, Int.toNat_natCast, Int.toNat_zero] at hr
  exact hr

set_option maxHeartbeats 2000000 in
set_option maxRecDepth 100000 in
theorem law_in (m n r : Nat) (lim : Int) (w : World) (hn : n = m + 1) (hm : m ≤ 511) (hr : r < n) (hl0 : 0 ≤ lim) (hl1 : lim ≤ 9223372036854775806) :
    Calls Try.prog 3 #[.int .i64 n, .int .i64 r, .int .i64 lim] w fun e w' => e = .returned (.bool true) ∧ Below w.heap.size w w' := by
  have HN : Hid (n = m + 1) := hn
  have hn512 : n ≤ 512 := by omega
  have hn1 : 1 ≤ n := by omega
  clear hn
  have hri : (r : Int) < (n : Int) := by omega
  have g1 : ¬ (n : Int) < 1 := by omega
  have g2 : ¬ (512 : Int) < (n : Int) := by omega
  have g3 : ¬ (r : Int) < 0 := by omega
  have g4 : ¬ (n : Int) ≤ (r : Int) := by omega
  have g5 : ¬ lim < 0 := by omega
  have g6 : ¬ 9223372036854775807 ≤ lim := by omega
  have hmk22 := run_make_row' (P := Try.prog) 22 23 (.slice none 0 0) 24 Try.underlying22 info23 rfl .i64 .i64 n (by omega) (by omega)
  have hmk23 := make_empty n hn512
  have hmk24 := run_make_row' (P := Try.prog) 24 3 (.int .i64 0) 8 Try.underlying24 info3 rfl .i64 .i64 (n + 1) (by omega) (by omega)
  rw [show ((n + 1 : Nat) : Int) = (n : Int) + 1 by omega] at hmk24
  obtain ⟨i0, hi, hz0, hz1, hz2⟩ := info_parts info21
  go_enter Try.func3, Try.ntmps3
  go_wp2
  go_loopw [9] (fun v wr => ∃ (k : Nat) (R : Nat → Nat), k ≤ n ∧ v = .int .i64 k ∧ Bld w wr w.heap.size m n k R) (fun v _ => n - (intOf v).toNat)
  case atStart => exact ⟨0, fun _ => 0, Nat.zero_le _, rfl, bld_start w m n _⟩
  case round =>
    obtain ⟨k, R, hk, rfl, hB⟩ := hrel
    by_cases hlt : k < n
    · go_wp2
      have hI := hB.inn
      obtain ⟨b, hb⟩ : ∃ b, b = wr.heap.size := ⟨_, rfl⟩
      rw [← hb] at hI ⊢
      clear hb hB
      go_loopw [10, 11] (fun row q wi => ∃ j : Nat, j ≤ n ∧ q = .int .i64 j ∧ row = .slice (some ⟨b, 0, none⟩) (cnt k j) n ∧ Bin w wi w.heap.size m n k j b R) (fun _ q _ => n - (intOf q).toNat)
      case atStart => exact ⟨0, Nat.zero_le _, rfl, by rw [cnt_zero], hI⟩
      case round =>
        clear hI
        obtain ⟨j, hj, rfl, rfl, hI⟩ := hrel
        by_cases hjl : j < n
        · by_cases hjk : j = k
          · subst hjk
            go_wp2
            go_roundw
            case rel => exact ⟨j + 1, by omega, by go_num, by rw [cnt_skip], hI.skip⟩
            case measure => simp [intOf]; omega
          · have hne : ((j : Int) == (k : Int)) = false := beq_eq_false_iff_ne.2 (by omega)
            have hcl : cnt k j < m := cnt_lt (by have := HN.out; omega) (by have := HN.out; omega) hjk
            have hcn : cnt k j < n := by have := HN.out; omega
            have u1 := fun o => (hI.cur.alloc o).cell hcn
            have u2 := fun o => (hI.cur.alloc o).frozen (cnt k j)
            go_wp2_with (at_builtin; refine wpList_append_one _ rfl (.tmp 58) (.tmp 61) 23 rfl 21 i0 Try.underlying23 hi hz1 b (cnt k j) n rfl ⟨wr.heap.size, 0, none⟩ 1 (.int .i32 (j : Int)) rfl (by simp) rfl (by omega) (by rw [u1]; rfl) (u2 _) ?_)
            go_roundw
            case rel => exact ⟨j + 1, by omega, by go_num, by rw [cnt_step hjk], hI.take hjk _⟩
            case measure => simp [intOf]; omega
        · have e : j = n := by omega
          subst e
          have u3 := hI.bld.top.cell hlt
          have u4 := hI.bld.top.frozen k
          have HC : Hid (cnt k j = m) := by
            have := HN.out
            have h : cnt k j = m := by rw [this]; exact cnt_end (by omega)
            exact h
          rw [HC.out]
          go_wp2
          go_roundw
          case rel => exact ⟨k + 1, _, by omega, by go_num, hI.out HN.out hlt⟩
          case measure => simp [intOf]; omega
    · have e : k = n := by omega
      subst e
      have u0 := (World.rowIs_made wr (.int .i64 0) (k + 1) 3).cell (i := 0) (by omega)
      go_wp2
      clear u0
      have hP : (wr.alloc (.cells ((madeCells #[.int .i64 0] (k + 1)).setIfInBounds 0 (.int .i64 1)) 3)).rowIs wr.heap.size 3 (k + 1) (fun x => .int .i64 (cap (lim + 1) (binom 0 x))) := by
        have h0 := (World.rowIs_made wr (.int .i64 0) (k + 1) 3).set 0 (.int .i64 1)
        rw [World.setCell_alloc_at _ _ _ _ _ rfl] at h0
        refine h0.congr (fun x _ => ?_)
        by_cases e : x = 0
        · subst e; rw [if_pos rfl, binom_zero, cap_small (by omega)]; rfl
        · rw [if_neg e, binom_over 0 x (by omega), cap_small (by omega)]; rfl
      have hbl : Below w.heap.size w (wr.alloc (.cells ((madeCells #[.int .i64 0] (k + 1)).setIfInBounds 0 (.int .i64 1)) 3)) := hB.below.alloc (Nat.le_of_lt hB.top.lt) _
      have hbr : Below wr.heap.size wr (wr.alloc (.cells ((madeCells #[.int .i64 0] (k + 1)).setIfInBounds 0 (.int .i64 1)) 3)) := (Below.refl _ _).alloc (Nat.le_refl _) _
      obtain ⟨w1, hw1⟩ : ∃ w1, w1 = wr := ⟨wr, rfl⟩
      rw [← hw1] at hP hbr hB ⊢
      clear hw1 hmk22 hmk23 hmk24
      go_loopw [13] (fun v wr => ∃ i : Nat, 1 ≤ i ∧ i ≤ k + 1 ∧ v = .int .i64 i ∧ wr.rowIs w1.heap.size 3 (k + 1) (fun x => .int .i64 (cap (lim + 1) (binom (i - 1) x))) ∧ Below w1.heap.size w1 wr) (fun v _ => k + 1 - (intOf v).toNat)
      case atStart => exact ⟨1, Nat.le_refl _, by omega, rfl, hP, hbr⟩
      case round =>
        clear hP hbr
        obtain ⟨i, hi1, hi2, rfl, hP, hbr⟩ := hrel
        by_cases hik : i ≤ k
        · go_wp2
          go_loopw [14] (fun v wj => ∃ j : Nat, j ≤ i ∧ v = .int .i64 j ∧ wj.rowIs w1.heap.size 3 (k + 1) (fun x => .int .i64 (pas (lim + 1) i j x)) ∧ Below w1.heap.size w1 wj) (fun v _ => (intOf v).toNat)
          case atStart => exact ⟨i, Nat.le_refl _, rfl, hP.congr (fun x _ => by rw [pas_start _ _ _ hi1]), hbr⟩
          case round =>
            clear hP hbr
            obtain ⟨j, hj, rfl, hP, hbr⟩ := hrel
            by_cases hj1 : 1 ≤ j
            · obtain ⟨p, rfl⟩ : ∃ p, j = p + 1 := ⟨j - 1, by omega⟩
              have v1 := hP.cell (i := p + 1) (by omega)
              have v2 := hP.cell (i := p) (by omega)
              have v3 := hP.frozen (p + 1)
              have b1 := pas_bd (lim + 1) (by omega) i (p + 1) (p + 1)
              have b2 := pas_bd (lim + 1) (by omega) i (p + 1) p
              have hst := pas_step (lim + 1) (by omega) i (p + 1) hj1 hi1
              obtain ⟨x1, hx1⟩ : ∃ x1, x1 = pas (lim + 1) i (p + 1) (p + 1) := ⟨_, rfl⟩
              obtain ⟨x2, hx2⟩ : ∃ x2, x2 = pas (lim + 1) i (p + 1) p := ⟨_, rfl⟩
              rw [← hx1] at v1 b1 hst
              rw [show p + 1 - 1 = p by omega, ← hx2] at hst
              rw [← hx2] at v2 b2
              clear hx1 hx2
              have HS : Hid (sA x1 x2 (lim + 1) = cap (lim + 1) (binom i (p + 1))) := hst
              clear hst
              have C12 := fun W : World => satAdd_eq x1 x2 (lim + 1) (cap (lim + 1) (binom i (p + 1))) W HS.out b1.1 b2.1 b1.2 b2.2 (by omega)
              have hpk : p + 1 < k + 1 := by omega
              have hpk2 : p < k + 1 := by omega
              have i1 : (0 : Int) ≤ (p : Int) := by omega
              have i2 : (p : Int) < (k : Int) + 1 := by omega
              have i6 : (0 : Int) ≤ (p : Int) + 1 := by omega
              have i7 : IntKind.i64.wrap (p : Int) = (p : Int) := by rw [IntKind.wrap_i64]; omega
              have i3 : (p : Int) + 1 < (k : Int) + 1 := by omega
              have i4 : (p : Int) < ((k + 1 : Nat) : Int) := by omega
              have i5 : (p : Int) + 1 < ((k + 1 : Nat) : Int) := by omega
              go_wp2
              go_region_with (go_at_call 12; refine (C12 _).mono ?_; rintro e w' ⟨rfl, hw⟩; obtain rfl := hw.symm)
              all_goals
                go_wp2
                go_roundw
                case rel =>
                  refine ⟨p, by omega, by go_num, ?_, ?_⟩
                  · exact ((hP.set (p + 1) _).congr (fun x _ => by
                      have h := pas_set (lim + 1) i (p + 1) x (by omega)
                      rw [show p + 1 - 1 = p by omega] at h
                      rw [← h]
                      split <;> rfl))
                  · exact ⟨hbr.os, hbr.tape, hbr.output, by simpa using hbr.size, fun b hb => (blk_setCell_other _ _ _ _ (by show b ≠ w1.heap.size; omega)).trans (hbr.block b hb)⟩
                case measure => simp [intOf]
            · obtain rfl : j = 0 := by omega
              go_wp2
              go_roundw
              case rel => exact ⟨i + 1, by omega, by omega, by go_num, hP.congr (fun x _ => by rw [pas_end, show i + 1 - 1 = i by omega]), hbr⟩
              case measure => simp [intOf]; omega
        · obtain rfl : i = k + 1 := by omega
          rw [show k + 1 - 1 = k by omega] at hP
          go_wp2
          obtain ⟨w2, hw2⟩ : ∃ w2, w2 = wr := ⟨wr, rfl⟩
          rw [← hw2] at hP hbr ⊢
          clear hw2
          go_loopw [15, 16, 17] (fun fc wt jj wx => ∃ q : Nat, q ≤ m ∧ jj = .int .i64 ((q : Int) + 2) ∧ fc = .int .i64 (cap (lim + 1) (fact q)) ∧ wt = .int .i64 (cap (lim + 1) (steps k q)) ∧ wx = w2) (fun _ _ jj _ => k + 1 - (intOf jj).toNat)
          case atStart => exact ⟨0, Nat.zero_le _, rfl, by rw [cap_small (by show ((1 : Nat) : Int) ≤ lim + 1; omega)]; rfl, by rw [cap_small (by show ((0 : Nat) : Int) ≤ lim + 1; omega)]; rfl, rfl⟩
          case round =>
            obtain ⟨q, hq, rfl, rfl, rfl, rfl⟩ := hrel
            by_cases hqm : q < m
            · have v1 := hP.cell (i := q + 2) (by have := HN.out; omega)
              have hqk : (q : Int) + 2 < (k : Int) + 1 := by have := HN.out; omega
              have hqk2 : (q : Int) + 2 ≤ (k : Int) := by have := HN.out; omega
              have hqn : ((q : Int) + 2).toNat = q + 2 := by omega
              have o1 := cap_nonneg (lim + 1) (by omega) (fact q)
              have o2 := cap_nonneg (lim + 1) (by omega) (fact (q + 1))
              have o3 := cap_nonneg (lim + 1) (by omega) (binom k (q + 2))
              have o4 := cap_nonneg (lim + 1) (by omega) (binom k (q + 2) * fact (q + 1))
              have o5 := cap_nonneg (lim + 1) (by omega) (binom k (q + 2) * fact (q + 1) * (q + 3))
              have o6 := cap_nonneg (lim + 1) (by omega) (steps k q)
              have p2 := cap_le (lim + 1) (fact (q + 1))
              have p5 := cap_le (lim + 1) (binom k (q + 2) * fact (q + 1) * (q + 3))
              have p6 := cap_le (lim + 1) (steps k q)
              have pp : 0 < cap (lim + 1) (fact (q + 1)) := by
                have h1 : 1 ≤ fact (q + 1) := fact_pos (q + 1)
                have h2 := cap_mono (m := lim + 1) h1
                rw [cap_small (a := 1) (by omega)] at h2
                omega
              go_wp2_with fail
              refine (satMul_eq _ _ _ (cap (lim + 1) (fact (q + 1))) _ ?_ o1 ?_ ?_ ?_ ?_).mono ?_
              · exact sM_fact q lim hl0 _ (by omega)
              · omega
              · omega
              · omega
              · omega
              rintro e w' ⟨rfl, hw⟩
              obtain rfl := hw.symm
              go_wp2_with fail
              refine (satMul_eq _ _ _ (cap (lim + 1) (binom k (q + 2) * fact (q + 1))) _ ?_ o3 ?_ ?_ ?_ ?_).mono ?_
              · exact sM_cap (lim + 1) (by omega) _ _
              · omega
              · omega
              · omega
              · omega
              rintro e w' ⟨rfl, hw⟩
              obtain rfl := hw.symm
              go_wp2_with fail
              refine (satMul_eq _ _ _ (cap (lim + 1) (binom k (q + 2) * fact (q + 1) * (q + 3))) _ ?_ o4 ?_ ?_ ?_ ?_).mono ?_
              · exact sM_len k q lim hl0 _ (by omega)
              · omega
              · omega
              · omega
              · omega
              rintro e w' ⟨rfl, hw⟩
              obtain rfl := hw.symm
              go_wp2_with fail
              refine (satAdd_eq _ _ _ (cap (lim + 1) (steps k (q + 1))) _ ?_ o6 o5 p6 p5 ?_).mono ?_
              · exact sA_steps k q lim hl0
              · omega
              rintro e w' ⟨rfl, hw⟩
              obtain rfl := hw.symm
              go_wp2
              go_roundw
              case rel => first | exact ⟨q + 1, by omega, by go_num, rfl, rfl, trivial⟩ | ((repeat apply Exists.intro); exact ⟨⟨q + 1, by omega, by go_num, rfl, rfl, trivial⟩, rfl⟩)
              case measure => have := HN.out; simp [intOf]; omega
            · obtain rfl : q = m := by omega
              have hSrc := hB.src HN.out hbr
              have hbw : Below w.heap.size w wr := hB.below.trans (hbr.mono (Nat.le_of_lt hB.top.lt))
              have hqk2 : ¬ (q : Int) + 2 ≤ (k : Int) := by have := HN.out; omega
              go_wp2_with fail
              refine (new_any w.heap.size k q k R nbC lim _ hn512 (by omega) hSrc).mono ?_
              rintro e W3 ⟨rfl, hF⟩
              go_wp2_with fail
              refine (zzclique wr.heap.size q k r lim _ HN.out (by omega) hr hl0 hl1 hF.sb).mono ?_
              rintro e W4 ⟨rfl, hb4⟩
              have hb3 := hF.below
              clear hF hSrc hB hP hbr
              go_wp2
              go_ret
              exact ⟨by simp, hbw.trans ((hb3.mono hbw.size).trans (hb4.mono hbw.size))⟩

/-- ████ THE WALK OF THE LAW: at every three ints it returns true; nothing that was there has turned. -/
theorem law_walk (a0 a1 a2 : Int) (w : World) :
    Calls Try.prog 3 #[.int .i64 a0, .int .i64 a1, .int .i64 a2] w fun e w' => e = .returned (.bool true) ∧ Below w.heap.size w w' := by
  by_cases h : a0 < 1 ∨ 512 < a0 ∨ a1 < 0 ∨ a0 ≤ a1 ∨ a2 < 0 ∨ 9223372036854775807 ≤ a2
  · exact law_out a0 a1 a2 w h
  · obtain ⟨m, rfl⟩ : ∃ m : Nat, a0 = ((m + 1 : Nat) : Int) := ⟨(a0 - 1).toNat, by omega⟩
    obtain ⟨r, rfl⟩ : ∃ r : Nat, a1 = (r : Int) := ⟨a1.toNat, by omega⟩
    exact law_in m (m + 1) r a2 w rfl (by omega) (by omega) (by omega) (by omega)
end Go.Proofs.Qxb6000686a
