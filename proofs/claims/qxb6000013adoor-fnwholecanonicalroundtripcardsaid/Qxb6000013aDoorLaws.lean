/-
  THE WALKS OF THE THREE LAWS (3, 4, 6), over the contracts.
-/
import Derived.Test.Qxb6000013aDoorWalks
import Derived.Lib.ItoaLen
namespace Go.Proofs.Qxb6000013aDoor
open Go.RowKit Go.Lib
set_option linter.unusedVariables false

theorem model_none (s : ByteArray) (mx : Int) (w : World) (hs : (s.size : Int) ≤ 1048576) (h : setW s.data.toList mx = none) :
    Calls Tryd.prog 9 #[.string s, .int .i64 mx] w fun e w' => e = .returned (.tuple #[.int .i64 0, .bool false]) ∧ w' = w := by
  have := model_any s mx w hs
  rw [modelW_eq, h] at this
  exact this
theorem model_some (s : ByteArray) (mx n : Int) (w : World) (hs : (s.size : Int) ≤ 1048576) (h : setW s.data.toList mx = some n) :
    Calls Tryd.prog 9 #[.string s, .int .i64 mx] w fun e w' => e = .returned (.tuple #[.int .i64 n, .bool true]) ∧ w' = w := by
  have := model_any s mx w hs
  rw [modelW_eq, h] at this
  exact this

set_option maxHeartbeats 400000 in
theorem law3_big (s : ByteArray) (mx old : Int) (w : World) (hs : (1048576 : Int) < (s.size : Int)) :
    Calls Tryd.prog 3 #[.string s, .int .i64 mx, .int .i64 old] w fun e w' => e = .returned (.bool true) ∧ Below w.heap.size w w' := by
  go_enter Tryd.func3, Tryd.ntmps3
  go_wp2_with (go_at_call 7; refine (bytes7_no s _ _ _ hs).mono ?_; rintro e w' ⟨rfl, hw⟩; obtain rfl := hw.symm)
  go_ret
  exact ⟨rfl, Below.refl _ _⟩

theorem new_ready {w : World} (hr : Ready w) (o : Obj) : Ready (w.alloc o) := hr.later ((Below.refl _ _).alloc (Nat.le_refl _) _)

set_option maxHeartbeats 400000 in
theorem law3_no (s : ByteArray) (mx old : Int) (w : World) (hs : (s.size : Int) ≤ 1048576) (h : Hid (setW s.data.toList mx = none)) (hr : Ready w) :
    Calls Tryd.prog 3 #[.string s, .int .i64 mx, .int .i64 old] w fun e w' => e = .returned (.bool true) ∧ Below w.heap.size w w' := by
  have hs' : ¬ (1048576 : Int) < (s.size : Int) := by omega
  go_enter Tryd.func3, Tryd.ntmps3
  go_wp2_with (first | (go_at_call 7; refine (bytes7_yes s _ _ _ hs).mono ?_; rintro e w' ⟨rfl, hw⟩; obtain rfl := hw.symm) | (go_at_call 8; refine (set8_no s _ mx old _ (by omega) h (by simp) (by simp) (by simp) (new_ready hr _)).mono ?_; rintro e w1 ⟨rfl, hb1⟩; refine Hid.out ?_))
  refine Lib.hid ?_
  have hc1 : w1.cell? ⟨w.heap.size, 0, none⟩ = some (.int .i64 old) := by
    rw [hb1.cell (p := ⟨w.heap.size, 0, none⟩) (by simp)]; simp
  go_wp2_with (go_at_call 9; refine (model_none s mx _ hs h.out).mono ?_; rintro e w' ⟨rfl, hw⟩; obtain rfl := hw.symm)
  go_ret
  exact ⟨by simp, ((Below.refl _ _).alloc (Nat.le_refl _) _).trans (hb1.mono (by simp))⟩

set_option maxHeartbeats 400000 in
theorem law3_yes (s : ByteArray) (mx old n : Int) (w : World) (hs : (s.size : Int) ≤ 1048576) (h : Hid (setW s.data.toList mx = some n)) :
    Calls Tryd.prog 3 #[.string s, .int .i64 mx, .int .i64 old] w fun e w' => e = .returned (.bool true) ∧ Below w.heap.size w w' := by
  have hs' : ¬ (1048576 : Int) < (s.size : Int) := by omega
  go_enter Tryd.func3, Tryd.ntmps3
  go_wp2_with (first | (go_at_call 7; refine (bytes7_yes s _ _ _ hs).mono ?_; rintro e w' ⟨rfl, hw⟩; obtain rfl := hw.symm) | (go_at_call 8; refine (set8_yes s _ mx n old _ (by omega) h (by simp) (by simp) (by simp)).mono ?_; rintro e w2 ⟨rfl, w1, hb1, rfl⟩; refine Hid.out ?_))
  refine Lib.hid ?_
  have hc1 : w1.cell? ⟨w.heap.size, 0, none⟩ = some (.int .i64 old) := by
    rw [hb1.cell (p := ⟨w.heap.size, 0, none⟩) (by simp)]; simp
  go_wp2_with (go_at_call 9; refine (model_some s mx n _ hs h.out).mono ?_; rintro e w' ⟨rfl, hw⟩; obtain rfl := hw.symm)
  go_ret
  exact ⟨by simp, (((Below.refl _ _).alloc (Nat.le_refl _) _).trans (hb1.mono (by simp))).setCell (by simp) _⟩

theorem law3 (s : ByteArray) (mx old : Int) (w : World) (hr : Ready w) :
    Calls Tryd.prog 3 #[.string s, .int .i64 mx, .int .i64 old] w fun e w' => e = .returned (.bool true) ∧ Below w.heap.size w w' := by
  by_cases hs : (1048576 : Int) < (s.size : Int)
  · exact law3_big s mx old w hs
  · cases h : setW s.data.toList mx with
    | none => exact law3_no s mx old w (by omega) h hr
    | some n => exact law3_yes s mx old n w (by omega) h

/-- the text that String writes -/
def txt (n : Int) : ByteArray := ⟨(Lib.itoa n).toArray⟩
theorem txt_list (n : Int) : (txt n).data.toList = Lib.itoa n := by simp [txt]
theorem txt_size (n : Int) (h0 : -9223372036854775808 ≤ n) (h1 : n ≤ 9223372036854775807) : (txt n).size ≤ 281474976710656 := by
  have h := Lib.itoa_length_le n h0 h1
  have e : (txt n).size = (Lib.itoa n).length := by
    show (Lib.itoa n).toArray.size = _
    simp
  omega

/-- the greatest int64, under a name -/
def topI : Int := 9223372036854775807

theorem string13' (n m : Int) (b : Nat) (h0 : -9223372036854775808 ≤ n) (h1 : n ≤ 9223372036854775807) (w : World) (hr : Ready w) (hbw : b < w.heap.size) (hc : w.cell? ⟨b, 0, none⟩ = some (.int .i64 n)) :
    Calls Tryd.prog 13 #[.pointer (some ⟨b, 0, none⟩), .int .i64 m] w fun e w' => e = .returned (.string (txt (shown n))) ∧ Below w.heap.size w w' := string13 n m b h0 h1 w hr hbw hc
theorem string11' (n : Int) (b : Nat) (h0 : -9223372036854775808 ≤ n) (h1 : n ≤ 9223372036854775807) (w : World) (hr : Ready w) (hbw : b < w.heap.size) (hc : w.cell? ⟨b, 0, none⟩ = some (.int .i64 n)) :
    Calls Tryd.prog 11 #[.pointer (some ⟨b, 0, none⟩)] w fun e w' => e = .returned (.string (txt n)) ∧ Below w.heap.size w w' := string11 n b h0 h1 w hr hbw hc

theorem string13n (n m : Int) (b : Nat) (h0 : -9223372036854775808 ≤ n) (h1 : n ≤ 9223372036854775807) (v : Int) (hv : shown n = v) (w : World) (hr : Ready w) (hbw : b < w.heap.size) (hc : w.cell? ⟨b, 0, none⟩ = some (.int .i64 n)) :
    Calls Tryd.prog 13 #[.pointer (some ⟨b, 0, none⟩), .int .i64 m] w fun e w' => e = .returned (.string (txt v)) ∧ Below w.heap.size w w' := by
  have := string13' n m b h0 h1 w hr hbw hc
  rw [hv] at this
  exact this

set_option maxHeartbeats 400000 in
theorem law6_neg (n : Int) (w : World) (h0 : -9223372036854775808 ≤ n) (hn : n < 0) (hr : Ready w) :
    Calls Tryd.prog 6 #[.int .i64 n] w fun e w' => e = .returned (.bool true) ∧ Below w.heap.size w w' := by
  have e1 : Hid (shown n = n) := (if_neg (by omega) : shown n = n)
  have hsz : Hid ((txt n).size ≤ 281474976710656) := txt_size n h0 (by omega)
  have hset : Hid (setW (txt n).data.toList 9223372036854775807 = none) := by
    have : setW (txt n).data.toList 9223372036854775807 = none := by rw [txt_list]; exact setW_neg n _ hn
    exact this
  go_enter Tryd.func6, Tryd.ntmps6
  go_wp2_with (go_at_call 13; refine (string13n n _ _ h0 (by omega) n e1.out _ (new_ready hr _) (by simp) (by simp)).mono ?_; rintro e w1 ⟨rfl, hb1⟩; refine Hid.out ?_)
  refine Lib.hid ?_
  have hr1 : Ready w1 := hr.later (((Below.refl _ _).alloc (Nat.le_refl _) _).trans (hb1.mono (by simp)))
  have hs1 : w.heap.size < w1.heap.size := by have := hb1.size; simp at this; omega
  go_wp2_with (go_at_call 8; refine (set8_no (txt n) _ _ 0 _ hsz.out hset (by simp) (by simp) (by simp) (new_ready hr1 _)).mono ?_; rintro e w2 ⟨rfl, hb2⟩; refine Hid.out ?_)
  refine Lib.hid ?_
  have hc2 : w2.cell? ⟨w1.heap.size, 0, none⟩ = some (.int .i64 0) := by
    rw [hb2.cell (p := ⟨w1.heap.size, 0, none⟩) (by simp)]; simp
  go_wp2
  go_ret
  refine ⟨rfl, ?_⟩
  have a1 : Below w.heap.size w w1 := ((Below.refl _ _).alloc (Nat.le_refl _) _).trans (hb1.mono (by simp))
  exact a1.trans ((((Below.refl _ _).alloc (Nat.le_refl _) _).trans (hb2.mono (by simp))).mono (Nat.le_of_lt hs1))

set_option maxHeartbeats 400000 in
theorem law6_zero (n : Int) (w : World) (hn : ¬ n < 0) (hz : (n == 0) = true) (hr : Ready w) :
    Calls Tryd.prog 6 #[.int .i64 n] w fun e w' => e = .returned (.bool true) ∧ Below w.heap.size w w' := by
  have h0 : -9223372036854775808 ≤ n := by have := beq_iff_eq.1 hz; omega
  have h1 : n ≤ 9223372036854775807 := by have := beq_iff_eq.1 hz; omega
  have e1 : Hid (shown n = 200000) := (if_pos (beq_iff_eq.1 hz) : shown n = 200000)
  have hsz : Hid ((txt 200000).size ≤ 281474976710656) := txt_size 200000 (by omega) (by omega)
  have hset : Hid (setW (txt 200000).data.toList 9223372036854775807 = some 200000) := by
    have : setW (txt 200000).data.toList 9223372036854775807 = some 200000 := by rw [txt_list]; exact setW_itoa 200000 _ (by omega) (by omega) (by omega)
    exact this
  go_enter Tryd.func6, Tryd.ntmps6
  go_wp2_with (go_at_call 13; refine (string13n n _ _ h0 h1 200000 e1.out _ (new_ready hr _) (by simp) (by simp)).mono ?_; rintro e w1 ⟨rfl, hb1⟩; refine Hid.out ?_)
  refine Lib.hid ?_
  have hs1 : w.heap.size < w1.heap.size := by have := hb1.size; simp at this; omega
  go_wp2_with (go_at_call 8; refine (set8_yes (txt 200000) _ _ 200000 0 _ hsz.out hset (by simp) (by simp) (by simp)).mono ?_; rintro e w2 ⟨rfl, w3, hb2, rfl⟩; refine Hid.out ?_)
  refine Lib.hid ?_
  have hc2 : w3.cell? ⟨w1.heap.size, 0, none⟩ = some (.int .i64 0) := by
    rw [hb2.cell (p := ⟨w1.heap.size, 0, none⟩) (by simp)]; simp
  go_wp2
  go_ret
  refine ⟨rfl, ?_⟩
  have a1 : Below w.heap.size w w1 := ((Below.refl _ _).alloc (Nat.le_refl _) _).trans (hb1.mono (by simp))
  exact a1.trans (((((Below.refl _ _).alloc (Nat.le_refl _) _).trans (hb2.mono (by simp))).setCell (Nat.le_refl _) _).mono (Nat.le_of_lt hs1))

set_option maxHeartbeats 400000 in
theorem law6_pos (n : Int) (w : World) (hn : ¬ n < 0) (hz : (n == 0) = false) (h1 : n ≤ 9223372036854775807) (hr : Ready w) :
    Calls Tryd.prog 6 #[.int .i64 n] w fun e w' => e = .returned (.bool true) ∧ Below w.heap.size w w' := by
  have hnz : n ≠ 0 := beq_eq_false_iff_ne.1 hz
  have e1 : Hid (shown n = n) := (if_neg hnz : shown n = n)
  have hsz : Hid ((txt n).size ≤ 281474976710656) := txt_size n (by omega) (by omega)
  have hset : Hid (setW (txt n).data.toList 9223372036854775807 = some n) := by
    have : setW (txt n).data.toList 9223372036854775807 = some n := by rw [txt_list]; exact setW_itoa n _ (by omega) (by omega) (by omega)
    exact this
  go_enter Tryd.func6, Tryd.ntmps6
  go_wp2_with (go_at_call 13; refine (string13n n _ _ (by omega) h1 n e1.out _ (new_ready hr _) (by simp) (by simp)).mono ?_; rintro e w1 ⟨rfl, hb1⟩; refine Hid.out ?_)
  refine Lib.hid ?_
  have hs1 : w.heap.size < w1.heap.size := by have := hb1.size; simp at this; omega
  go_wp2_with (go_at_call 8; refine (set8_yes (txt n) _ _ n 0 _ hsz.out hset (by simp) (by simp) (by simp)).mono ?_; rintro e w2 ⟨rfl, w3, hb2, rfl⟩; refine Hid.out ?_)
  refine Lib.hid ?_
  have hc2 : w3.cell? ⟨w1.heap.size, 0, none⟩ = some (.int .i64 0) := by
    rw [hb2.cell (p := ⟨w1.heap.size, 0, none⟩) (by simp)]; simp
  go_wp2
  go_ret
  refine ⟨by simp, ?_⟩
  have a1 : Below w.heap.size w w1 := ((Below.refl _ _).alloc (Nat.le_refl _) _).trans (hb1.mono (by simp))
  exact a1.trans (((((Below.refl _ _).alloc (Nat.le_refl _) _).trans (hb2.mono (by simp))).setCell (Nat.le_refl _) _).mono (Nat.le_of_lt hs1))

theorem law6 (n : Int) (w : World) (h0 : -9223372036854775808 ≤ n) (h1 : n ≤ 9223372036854775807) (hr : Ready w) :
    Calls Tryd.prog 6 #[.int .i64 n] w fun e w' => e = .returned (.bool true) ∧ Below w.heap.size w w' := by
  by_cases hn : n < 0
  · exact law6_neg n w h0 hn hr
  · cases hz : (n == 0)
    · exact law6_pos n w hn hz h1 hr
    · exact law6_zero n w hn hz hr
end Go.Proofs.Qxb6000013aDoor
