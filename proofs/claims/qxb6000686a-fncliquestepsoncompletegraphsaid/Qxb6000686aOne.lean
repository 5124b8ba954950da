/-
  THE WALK OF cliqueSteps (39) AT ONE TRANSACTION ALONE, and of ZZCliqueSteps (14).
-/
import Derived.Test.Qxb6000686aClique
namespace Go.Proofs.Qxb6000686a
open Go.RowKit Go.Deep
set_option linter.unusedVariables false

set_option maxHeartbeats 1000000 in
set_option maxRecDepth 100000 in
theorem clique_one (N : Nat) (lim : Int) (w : World) (hl0 : 0 ≤ lim) (hl1 : lim ≤ 9223372036854775806) (hsb : SB w w N 0 1 nbC lim (.slice none 0 0) 0 (fun _ => 0) (fun _ => 0)) :
    Calls Try.prog 39 #[.pointer (some ⟨N, 0, none⟩), .int .i32 0] w fun e w' => e = .returned (.int .i64 0) ∧ Below N w w' := by
  have c0 := hsb.c0
  have c10 := hsb.c10
  have f10 := hsb.free 10
  have et := hsb.etop.cell (i := 0) (by omega)
  go_enter Try.func39, Try.ntmps39
  go_upto_region 1 with fail
  go_cut [] from 17 to 32 (fun wx => SB w wx N 0 1 nbC lim (.slice none 0 0) 0 (fun _ => 0) (fun _ => 0))
  case first =>
    go_region
    all_goals
      go_wp2
      go_meet
      case rel => exact (hsb.setCand _).drew
  case rest =>
    clear c0 c10 f10 et
    have q13 := hcut.c13
    have p13 := hcut.free 13
    go_wp2
    refine wp_loop_rounds 1 ?_
    rw [rounds_succ]
    go_upto_region 6 with fail
    refine gen_world (fun W => SB w W N 0 1 nbC lim (.slice none 0 0) 1 (fun _ => 0) (fun _ => 0)) (hcut.setMark 1) ?_
    intro W1 h1
    clear q13 p13 hcut
    have q0 := h1.c0
    have q1 := h1.c1
    have e0 := h1.etop.cell (i := 0) (by omega)
    have e1 := h1.wtop.cell (i := 0) (by omega)
    obtain ⟨wk, q4⟩ := h1.c4
    have p4 := h1.free 4
    have q10 := h1.c10
    go_wp2
    refine wp_loop_rounds 1 ?_
    rw [rounds_succ]
    go_wp2
    refine wp_loop_rounds 1 ?_
    rw [rounds_succ]
    go_upto_region 16 with fail
    go_cut [] from 36 to 174 (fun wx => SB w wx N 0 1 nbC lim (.slice none 0 0) 1 (fun _ => 0) (fun _ => 0))
    case first =>
      go_region
      all_goals
        go_wp2
        go_meet
        case rel => exact (h1.setWork _).drew
    case rest =>
      clear q0 q1 e0 e1 q4 p4 q10 h1
      have q10 := hcut.c10
      have p10 := hcut.free 10
      go_wp2
      refine wp_loop_rounds 1 ?_
      rw [rounds_succ]
      go_wp2
      refine wp_loop_rounds 1 ?_
      rw [rounds_succ]
      go_wp2
      go_ret
      exact ⟨rfl, (hcut.setCand _).below⟩

theorem steps_one : steps 1 0 = 0 := rfl

/-- cliqueSteps FROM ANY r OF THE COMPLETE GRAPH of n = m + 1 transactions. -/
theorem clique_all (N m n r : Nat) (lim : Int) (w : World) (hn : n = m + 1) (hm : m ≤ 511) (hr : r < n) (hl0 : 0 ≤ lim) (hl1 : lim ≤ 9223372036854775806) (hsb : SB w w N m n nbC lim (.slice none 0 0) 0 (fun _ => 0) (fun _ => 0)) :
    Calls Try.prog 39 #[.pointer (some ⟨N, 0, none⟩), .int .i32 r] w fun e w' => e = .returned (.int .i64 (cap (lim + 1) (steps n m))) ∧ Below N w w' := by
  by_cases hm1 : 1 ≤ m
  · exact clique_any N m n r lim w hn hm1 hm hr hl0 hl1 hsb
  · obtain rfl : m = 0 := by omega
    subst hn
    obtain rfl : r = 0 := by omega
    have := clique_one N lim w hl0 hl1 hsb
    rw [cap_small (by rw [steps_one]; omega), steps_one]
    exact this

set_option maxHeartbeats 1000000 in
theorem zzclique (N m n r : Nat) (lim : Int) (w : World) (hn : n = m + 1) (hm : m ≤ 511) (hr : r < n) (hl0 : 0 ≤ lim) (hl1 : lim ≤ 9223372036854775806) (hsb : SB w w N m n nbC lim (.slice none 0 0) 0 (fun _ => 0) (fun _ => 0)) :
    Calls Try.prog 14 #[.pointer (some ⟨N, 0, none⟩), .int .i32 r] w fun e w' => e = .returned (.int .i64 (cap (lim + 1) (steps n m))) ∧ Below N w w' := by
  have H := clique_all N m n r lim w hn hm hr hl0 hl1 hsb
  clear hn
  go_enter Try.func14, Try.ntmps14
  go_wp2_with (go_at_call 39; refine H.mono ?_; rintro e w1 ⟨rfl, hb⟩)
  go_ret
  exact ⟨rfl, hb⟩
end Go.Proofs.Qxb6000686a
