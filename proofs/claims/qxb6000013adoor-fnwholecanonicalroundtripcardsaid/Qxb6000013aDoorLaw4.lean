/-
  THE WALK OF THE LAW FnWholeCanonicalRoundTrip (4), over the contracts.
-/
import Derived.Test.Qxb6000013aDoorLaws
namespace Go.Proofs.Qxb6000013aDoor
open Go.RowKit Go.Lib
set_option linter.unusedVariables false

theorem set_cell_new {w1 : World} {b : Nat} {old : Value} (n : Int) (h : w1.cell? ⟨b, 0, none⟩ = some old) : (w1.setCell ⟨b, 0, none⟩ (.int .i64 n)).cell? ⟨b, 0, none⟩ = some (.int .i64 n) :=
  World.cell?_setCell_same' _ _ _ (by rw [h]; rfl)

/-- set8_yes, with the cell behind it told. -/
theorem set8_yes' (s : ByteArray) (b : Nat) (mx n old : Int) (w : World) (hs : s.size ≤ 281474976710656) (h : setW s.data.toList mx = some n)
    (hbw : b < w.heap.size) (hc : w.cell? ⟨b, 0, none⟩ = some (.int .i64 old)) (hf : w.frozen? ⟨b, 0, none⟩ = false) :
    Calls Tryd.prog 8 #[.pointer (some ⟨b, 0, none⟩), .int .i64 mx, .string s] w fun e w' => e = .returned (.bool true) ∧ Below b w w' ∧ w'.cell? ⟨b, 0, none⟩ = some (.int .i64 n) := by
  refine (set8_yes s b mx n old w hs h hbw hc hf).mono ?_
  rintro e w' ⟨rfl, w1, hb, rfl⟩
  refine ⟨rfl, (hb.mono (Nat.le_of_lt hbw)).setCell (Nat.le_refl _) _, ?_⟩
  exact set_cell_new n ((hb.cell (p := ⟨b, 0, none⟩) hbw).trans hc)

set_option maxHeartbeats 400000 in
theorem law4_big (s : ByteArray) (mx n : Int) (w : World) (hs : (1048576 : Int) < (s.size : Int)) :
    Calls Tryd.prog 4 #[.string s, .int .i64 mx, .int .i64 n] w fun e w' => e = .returned (.bool true) ∧ Below w.heap.size w w' := by
  go_enter Tryd.func4, Tryd.ntmps4
  go_wp2_with (go_at_call 10; refine (bytes10_no s _ _ _ hs).mono ?_; rintro e w' ⟨rfl, hw⟩; obtain rfl := hw.symm)
  go_ret
  exact ⟨rfl, Below.refl _ _⟩

set_option maxHeartbeats 400000 in
theorem law4_no_out (s : ByteArray) (mx n : Int) (w : World) (hs : (s.size : Int) ≤ 1048576) (h : Hid (setW s.data.toList mx = none)) (hr : Ready w) (hc : (decide (1 ≤ n) && decide (n ≤ mx)) = false) :
    Calls Tryd.prog 4 #[.string s, .int .i64 mx, .int .i64 n] w fun e w' => e = .returned (.bool true) ∧ Below w.heap.size w w' := by
  have hs' : ¬ (1048576 : Int) < (s.size : Int) := by omega
  by_cases h1 : 1 ≤ n
  · have h2 : ¬ n ≤ mx := by simpa [h1] using hc
    clear hc
    go_enter Tryd.func4, Tryd.ntmps4
    go_wp2_with (first | (go_at_call 10; refine (bytes10_yes s _ _ _ hs).mono ?_; rintro e w' ⟨rfl, hw⟩; obtain rfl := hw.symm) | (go_at_call 8; refine (set8_no s _ mx 0 _ (by omega) h (by simp) (by simp) (by simp) (new_ready hr _)).mono ?_; rintro e w1 ⟨rfl, hb1⟩; refine Hid.out ?_))
    refine Lib.hid ?_
    go_wp2
    go_ret
    exact ⟨rfl, ((Below.refl _ _).alloc (Nat.le_refl _) _).trans (hb1.mono (by simp))⟩
  · clear hc
    go_enter Tryd.func4, Tryd.ntmps4
    go_wp2_with (first | (go_at_call 10; refine (bytes10_yes s _ _ _ hs).mono ?_; rintro e w' ⟨rfl, hw⟩; obtain rfl := hw.symm) | (go_at_call 8; refine (set8_no s _ mx 0 _ (by omega) h (by simp) (by simp) (by simp) (new_ready hr _)).mono ?_; rintro e w1 ⟨rfl, hb1⟩; refine Hid.out ?_))
    refine Lib.hid ?_
    go_wp2
    go_ret
    exact ⟨rfl, ((Below.refl _ _).alloc (Nat.le_refl _) _).trans (hb1.mono (by simp))⟩

set_option maxHeartbeats 400000 in
theorem law4_no_in (s : ByteArray) (mx n : Int) (w : World) (hs : (s.size : Int) ≤ 1048576) (h : Hid (setW s.data.toList mx = none)) (hr : Ready w) (h1 : 1 ≤ n) (h2 : n ≤ mx) (h3 : n ≤ 9223372036854775807) :
    Calls Tryd.prog 4 #[.string s, .int .i64 mx, .int .i64 n] w fun e w' => e = .returned (.bool true) ∧ Below w.heap.size w w' := by
  have hs' : ¬ (1048576 : Int) < (s.size : Int) := by omega
  have hsz : Hid ((txt n).size ≤ 281474976710656) := txt_size n (by omega) (by omega)
  have hset : Hid (setW (txt n).data.toList mx = some n) := by
    have : setW (txt n).data.toList mx = some n := by rw [txt_list]; exact setW_itoa n _ (by omega) (by omega) (by omega)
    exact this
  go_enter Tryd.func4, Tryd.ntmps4
  go_wp2_with (first | (go_at_call 10; refine (bytes10_yes s _ _ _ hs).mono ?_; rintro e w' ⟨rfl, hw⟩; obtain rfl := hw.symm) | (go_at_call 8; refine (set8_no s _ mx 0 _ (by omega) h (by simp) (by simp) (by simp) (new_ready hr _)).mono ?_; rintro e w1 ⟨rfl, hb1⟩; refine Hid.out ?_))
  refine Lib.hid ?_
  have a1 : Below w.heap.size w w1 := ((Below.refl _ _).alloc (Nat.le_refl _) _).trans (hb1.mono (by simp))
  have hr1 : Ready w1 := hr.later a1
  go_wp2_with (go_at_call 11; refine (string11' n _ (by omega) h3 _ (new_ready hr1 _) (by simp) (by simp)).mono ?_; rintro e w2 ⟨rfl, hb2⟩; refine Hid.out ?_)
  refine Lib.hid ?_
  have a2 : Below w1.heap.size w1 w2 := ((Below.refl _ _).alloc (Nat.le_refl _) _).trans (hb2.mono (by simp))
  go_wp2_with (go_at_call 8; refine (set8_yes' (txt n) _ mx n 0 _ hsz.out hset.out (by simp) (by simp) (by simp)).mono ?_; rintro e w3 ⟨rfl, hb3, hc3⟩; refine Hid.out ?_)
  refine Lib.hid ?_
  have a3 : Below w2.heap.size w2 w3 := ((Below.refl _ _).alloc (Nat.le_refl _) _).trans hb3
  go_wp2
  go_ret
  exact ⟨rfl, a1.trans ((a2.mono a1.size).trans (a3.mono (Nat.le_trans a1.size a2.size)))⟩

set_option maxHeartbeats 400000 in
theorem law4_yes_out (k mx n : Int) (w : World) (hs : ((txt k).size : Int) ≤ 1048576) (h : Hid (setW (txt k).data.toList mx = some k)) (hk0 : -9223372036854775808 ≤ k) (hk1 : k ≤ 9223372036854775807) (hr : Ready w) (hc : (decide (1 ≤ n) && decide (n ≤ mx)) = false) :
    Calls Tryd.prog 4 #[.string (txt k), .int .i64 mx, .int .i64 n] w fun e w' => e = .returned (.bool true) ∧ Below w.heap.size w w' := by
  have hs' : ¬ (1048576 : Int) < ((txt k).size : Int) := by omega
  by_cases h1 : 1 ≤ n
  · have h2 : ¬ n ≤ mx := by simpa [h1] using hc
    clear hc
    go_enter Tryd.func4, Tryd.ntmps4
    go_wp2_with (first | (go_at_call 10; refine (bytes10_yes (txt k) _ _ _ hs).mono ?_; rintro e w' ⟨rfl, hw⟩; obtain rfl := hw.symm) | (go_at_call 8; refine (set8_yes' (txt k) _ mx k 0 _ (by omega) h.out (by simp) (by simp) (by simp)).mono ?_; rintro e w1 ⟨rfl, hb1, hc1⟩; refine Hid.out ?_))
    refine Lib.hid ?_
    have a1 : Below w.heap.size w w1 := ((Below.refl _ _).alloc (Nat.le_refl _) _).trans hb1
    have hr1 : Ready w1 := hr.later a1
    have hs1 : w.heap.size < w1.heap.size := by have := hb1.size; simp at this; omega
    go_wp2_with (go_at_call 11; refine (string11' k _ hk0 hk1 _ hr1 hs1 hc1).mono ?_; rintro e w2 ⟨rfl, hb2⟩; refine Hid.out ?_)
    refine Lib.hid ?_
    go_wp2
    go_ret
    exact ⟨rfl, a1.trans (hb2.mono a1.size)⟩
  · clear hc
    go_enter Tryd.func4, Tryd.ntmps4
    go_wp2_with (first | (go_at_call 10; refine (bytes10_yes (txt k) _ _ _ hs).mono ?_; rintro e w' ⟨rfl, hw⟩; obtain rfl := hw.symm) | (go_at_call 8; refine (set8_yes' (txt k) _ mx k 0 _ (by omega) h.out (by simp) (by simp) (by simp)).mono ?_; rintro e w1 ⟨rfl, hb1, hc1⟩; refine Hid.out ?_))
    refine Lib.hid ?_
    have a1 : Below w.heap.size w w1 := ((Below.refl _ _).alloc (Nat.le_refl _) _).trans hb1
    have hr1 : Ready w1 := hr.later a1
    have hs1 : w.heap.size < w1.heap.size := by have := hb1.size; simp at this; omega
    go_wp2_with (go_at_call 11; refine (string11' k _ hk0 hk1 _ hr1 hs1 hc1).mono ?_; rintro e w2 ⟨rfl, hb2⟩; refine Hid.out ?_)
    refine Lib.hid ?_
    go_wp2
    go_ret
    exact ⟨rfl, a1.trans (hb2.mono a1.size)⟩

set_option maxHeartbeats 400000 in
theorem law4_yes_in (k mx n : Int) (w : World) (hs : ((txt k).size : Int) ≤ 1048576) (h : Hid (setW (txt k).data.toList mx = some k)) (hk0 : -9223372036854775808 ≤ k) (hk1 : k ≤ 9223372036854775807) (hr : Ready w) (h1 : 1 ≤ n) (h2 : n ≤ mx) (h3 : n ≤ 9223372036854775807) :
    Calls Tryd.prog 4 #[.string (txt k), .int .i64 mx, .int .i64 n] w fun e w' => e = .returned (.bool true) ∧ Below w.heap.size w w' := by
  have hs' : ¬ (1048576 : Int) < ((txt k).size : Int) := by omega
  have hsz : Hid ((txt n).size ≤ 281474976710656) := txt_size n (by omega) (by omega)
  have hset : Hid (setW (txt n).data.toList mx = some n) := by
    have : setW (txt n).data.toList mx = some n := by rw [txt_list]; exact setW_itoa n _ (by omega) (by omega) (by omega)
    exact this
  go_enter Tryd.func4, Tryd.ntmps4
  go_wp2_with (first | (go_at_call 10; refine (bytes10_yes (txt k) _ _ _ hs).mono ?_; rintro e w' ⟨rfl, hw⟩; obtain rfl := hw.symm) | (go_at_call 8; refine (set8_yes' (txt k) _ mx k 0 _ (by omega) h.out (by simp) (by simp) (by simp)).mono ?_; rintro e w1 ⟨rfl, hb1, hc1⟩; refine Hid.out ?_))
  refine Lib.hid ?_
  have a1 : Below w.heap.size w w1 := ((Below.refl _ _).alloc (Nat.le_refl _) _).trans hb1
  have hr1 : Ready w1 := hr.later a1
  have hs1 : w.heap.size < w1.heap.size := by have := hb1.size; simp at this; omega
  go_wp2_with (go_at_call 11; refine (string11' k _ hk0 hk1 _ hr1 hs1 hc1).mono ?_; rintro e w2 ⟨rfl, hb2⟩; refine Hid.out ?_)
  refine Lib.hid ?_
  have b1 : Below w.heap.size w w2 := a1.trans (hb2.mono a1.size)
  have hr2 : Ready w2 := hr.later b1
  go_wp2_with (go_at_call 11; refine (string11' n _ (by omega) h3 _ (new_ready hr2 _) (by simp) (by simp)).mono ?_; rintro e w3 ⟨rfl, hb3⟩; refine Hid.out ?_)
  refine Lib.hid ?_
  have a2 : Below w2.heap.size w2 w3 := ((Below.refl _ _).alloc (Nat.le_refl _) _).trans (hb3.mono (by simp))
  go_wp2_with (go_at_call 8; refine (set8_yes' (txt n) _ mx n 0 _ hsz.out hset.out (by simp) (by simp) (by simp)).mono ?_; rintro e w4 ⟨rfl, hb4, hc4⟩; refine Hid.out ?_)
  refine Lib.hid ?_
  have a3 : Below w3.heap.size w3 w4 := ((Below.refl _ _).alloc (Nat.le_refl _) _).trans hb4
  go_wp2
  go_ret
  exact ⟨rfl, b1.trans ((a2.mono b1.size).trans (a3.mono (Nat.le_trans b1.size a2.size)))⟩

theorem law4 (s : ByteArray) (mx n : Int) (w : World) (h3 : n ≤ 9223372036854775807) (hr : Ready w) :
    Calls Tryd.prog 4 #[.string s, .int .i64 mx, .int .i64 n] w fun e w' => e = .returned (.bool true) ∧ Below w.heap.size w w' := by
  by_cases hs : (1048576 : Int) < (s.size : Int)
  · exact law4_big s mx n w hs
  · have hs' : (s.size : Int) ≤ 1048576 := by omega
    cases h : setW s.data.toList mx with
    | none =>
      cases hc : (decide (1 ≤ n) && decide (n ≤ mx)) with
      | false => exact law4_no_out s mx n w hs' h hr hc
      | true =>
        have hc' := hc
        rw [Bool.and_eq_true, decide_eq_true_eq, decide_eq_true_eq] at hc'
        exact law4_no_in s mx n w hs' h hr hc'.1 hc'.2 h3
    | some k =>
      obtain ⟨q1, q2, q3, q4⟩ := setW_some _ _ _ h
      obtain rfl : s = txt k := by
        unfold txt
        rw [q4]
      cases hc : (decide (1 ≤ n) && decide (n ≤ mx)) with
      | false => exact law4_yes_out k mx n w hs' h (by omega) (by omega) hr hc
      | true =>
        have hc' := hc
        rw [Bool.and_eq_true, decide_eq_true_eq, decide_eq_true_eq] at hc'
        exact law4_yes_in k mx n w hs' h (by omega) (by omega) hr hc'.1 hc'.2 h3
end Go.Proofs.Qxb6000013aDoor
