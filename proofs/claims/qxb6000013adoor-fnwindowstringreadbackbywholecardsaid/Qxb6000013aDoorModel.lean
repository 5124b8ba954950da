/-
  THE WALKS OF THE LAWS' OWN SMALL FUNCTIONS: the bound on lengths (7, 10) and the digit model (9).
-/
import Derived.Test.Qxb6000013aDoorRows
import Derived.Test.Qxb6000013aDoorPlain
import Derived.WalkKit
import Derived.WalkSpells
import Derived.WalkLawsBesides
namespace Go.Proofs.Qxb6000013aDoor
open Go.RowKit
set_option linter.unusedVariables false

def smallB (n : Nat) : Bool := decide (n ≤ 1048576)

set_option maxHeartbeats 400000 in
theorem bytes7_yes (s : ByteArray) (a b : Int) (w : World) (h : (s.size : Int) ≤ 1048576) :
    Calls Tryd.prog 7 #[.string s, .int .i64 a, .int .i64 b] w fun e w' => e = .returned (.bool true) ∧ w' = w := by
  have h' : ¬ (1048576 : Int) < (s.size : Int) := by omega
  go_enter Tryd.func7, Tryd.ntmps7
  go_wp2
  go_ret
  exact ⟨rfl, rfl⟩

set_option maxHeartbeats 400000 in
theorem bytes7_no (s : ByteArray) (a b : Int) (w : World) (h : (1048576 : Int) < (s.size : Int)) :
    Calls Tryd.prog 7 #[.string s, .int .i64 a, .int .i64 b] w fun e w' => e = .returned (.bool false) ∧ w' = w := by
  go_enter Tryd.func7, Tryd.ntmps7
  go_wp2
  go_ret
  exact ⟨rfl, rfl⟩

set_option maxHeartbeats 400000 in
theorem bytes10_yes (s : ByteArray) (a b : Int) (w : World) (h : (s.size : Int) ≤ 1048576) :
    Calls Tryd.prog 10 #[.string s, .int .i64 a, .int .i64 b] w fun e w' => e = .returned (.bool true) ∧ w' = w := by
  have h' : ¬ (1048576 : Int) < (s.size : Int) := by omega
  go_enter Tryd.func10, Tryd.ntmps10
  go_wp2
  go_ret
  exact ⟨rfl, rfl⟩

set_option maxHeartbeats 400000 in
theorem bytes10_no (s : ByteArray) (a b : Int) (w : World) (h : (1048576 : Int) < (s.size : Int)) :
    Calls Tryd.prog 10 #[.string s, .int .i64 a, .int .i64 b] w fun e w' => e = .returned (.bool false) ∧ w' = w := by
  go_enter Tryd.func10, Tryd.ntmps10
  go_wp2
  go_ret
  exact ⟨rfl, rfl⟩

def pairOf : Option Int → Value
  | none => .tuple #[.int .i64 0, .bool false]
  | some n => .tuple #[.int .i64 n, .bool true]

theorem drop_at (s : ByteArray) (k : Nat) (h : k < s.size) : s.data.toList.drop k = s[k] :: s.data.toList.drop (k + 1) := by
  have h' : k < s.data.toList.length := by simpa using h
  rw [List.drop_eq_getElem_cons h']
  rfl

theorem mw_at_bad (s : ByteArray) (k u : Nat) (h : k < s.size) (hb : (s[k].toNat : Int) < 48 ∨ 57 < (s[k].toNat : Int)) : mw u (s.data.toList.drop k) = none := by
  rw [drop_at s k h, mw, if_neg]
  rw [digB_iff]; omega
theorem mw_at_over (s : ByteArray) (k u : Nat) (h : k < s.size) (hd : 48 ≤ (s[k].toNat : Int) ∧ (s[k].toNat : Int) ≤ 57) (ho : (9223372036854775807 - ((s[k].toNat : Int) - 48)) / 10 < (u : Int)) : mw u (s.data.toList.drop k) = none := by
  rw [drop_at s k h, mw, if_pos ((digB_iff _).2 (by omega)), if_pos (by omega)]
theorem mw_at_next (s : ByteArray) (k u : Nat) (h : k < s.size) (hd : 48 ≤ (s[k].toNat : Int) ∧ (s[k].toNat : Int) ≤ 57) (ho : (u : Int) ≤ (9223372036854775807 - ((s[k].toNat : Int) - 48)) / 10) : mw u (s.data.toList.drop k) = mw (u * 10 + (s[k].toNat - 48)) (s.data.toList.drop (k + 1)) := by
  rw [drop_at s k h, mw, if_pos ((digB_iff _).2 (by omega)), if_neg (by omega)]
theorem mw_at_end (s : ByteArray) (k u : Nat) (h : ¬ k < s.size) : mw u (s.data.toList.drop k) = some u := by
  rw [List.drop_of_length_le (by have : s.data.toList.length = s.size := by simp
                                 omega), mw]
theorem next_bd (c u : Nat) (hd : 48 ≤ (c : Int) ∧ (c : Int) ≤ 57) (ho : (u : Int) ≤ (9223372036854775807 - ((c : Int) - 48)) / 10) : u * 10 + (c - 48) < 9223372036854775808 := by omega
theorem next_eq (c u : Nat) (hd : 48 ≤ (c : Int) ∧ (c : Int) ≤ 57) : Value.int .i64 ((u : Int) * 10 + ((c : Int) - 48)) = Value.int .i64 ((u * 10 + (c - 48) : Nat) : Int) := by
  congr 1; omega

def cutAt (mx : Int) : Option Nat → Option Int
  | none => none
  | some v => if mx < (v : Int) then none else some (v : Int)
theorem modelW_go (s : ByteArray) (mx : Int) (h0 : 0 < s.size) (h48 : ((s[0].toNat : Int) == 48) = false) (r : Option Nat) (hm : mw 0 s.data.toList = r) :
    modelW s.data.toList mx = cutAt mx r := by
  have hd := drop_at s 0 h0
  rw [List.drop_zero] at hd
  have h : ¬ s[0].toNat = 48 := by
    intro h; rw [h] at h48; simp at h48
  subst hm
  generalize hl : s.data.toList = l at hd ⊢
  generalize List.drop (0 + 1) l = t at hd
  subst hd
  unfold modelW
  dsimp only
  rw [if_neg h]
  cases mw 0 (s[0] :: t) <;> rfl

theorem ret_none (s : ByteArray) (mx : Int) (h0 : 0 < s.size) (h48 : ((s[0].toNat : Int) == 48) = false) (hm : mw 0 s.data.toList = none) : Ending.returned (.tuple #[.int .i64 0, .bool false]) = .returned (pairOf (modelW s.data.toList mx)) := by
  rw [modelW_go s mx h0 h48 none hm]; rfl
theorem ret_over (s : ByteArray) (mx : Int) (h0 : 0 < s.size) (h48 : ((s[0].toNat : Int) == 48) = false) (u : Nat) (hm : mw 0 s.data.toList = some u) (hx : mx < (u : Int)) : Ending.returned (.tuple #[.int .i64 0, .bool false]) = .returned (pairOf (modelW s.data.toList mx)) := by
  rw [modelW_go s mx h0 h48 (some u) hm, cutAt, if_pos hx]; rfl
theorem ret_some (s : ByteArray) (mx : Int) (h0 : 0 < s.size) (h48 : ((s[0].toNat : Int) == 48) = false) (u : Nat) (hm : mw 0 s.data.toList = some u) (hx : (u : Int) ≤ mx) : Ending.returned (.tuple #[.int .i64 u, .bool true]) = .returned (pairOf (modelW s.data.toList mx)) := by
  rw [modelW_go s mx h0 h48 (some u) hm, cutAt, if_neg (by omega)]; rfl

set_option maxHeartbeats 400000 in
theorem model_loop (s : ByteArray) (mx : Int) (w : World) (hs : (s.size : Int) ≤ 1048576) (h0 : 0 < s.size) (h48 : ((s[0].toNat : Int) == 48) = false) (hz : ((s.size : Int) == 0) = false) :
    Calls Tryd.prog 9 #[.string s, .int .i64 mx] w fun e w' => e = .returned (pairOf (modelW s.data.toList mx)) ∧ w' = w := by
  go_enter Tryd.func9, Tryd.ntmps9
  go_wp2
  go_loop [6, 7] (fun v i => ∃ k u : Nat, k ≤ s.size ∧ i = .int .i64 k ∧ v = .int .i64 u ∧ u < 9223372036854775808 ∧ mw 0 s.data.toList = mw u (s.data.toList.drop k)) (fun _ i => s.size - (intOf i).toNat)
  case atStart => exact ⟨0, 0, Nat.zero_le _, rfl, rfl, by omega, rfl⟩
  case round =>
    obtain ⟨k, u, hk, rfl, rfl, hu, hm⟩ := hrel
    have HM : Hid (mw 0 s.data.toList = mw u (s.data.toList.drop k)) := hm
    clear hm
    by_cases hlt : k < s.size
    · go_wp2
      · go_ret2
        exact ⟨ret_none s mx h0 h48 (HM.out.trans (mw_at_bad s k u hlt ‹_›)), rfl⟩
      · go_ret2
        exact ⟨ret_none s mx h0 h48 (HM.out.trans (mw_at_over s k u hlt ‹_› ‹_›)), rfl⟩
      · go_round
        case rel => exact ⟨k + 1, u * 10 + (s[k].toNat - 48), by omega, by go_num, next_eq _ _ ‹_›, next_bd _ _ ‹_› ‹_›, HM.out.trans (mw_at_next s k u hlt ‹_› ‹_›)⟩
        case measure => simp [intOf]; omega
      · go_ret2
        exact ⟨ret_none s mx h0 h48 (HM.out.trans (mw_at_bad s k u hlt (Or.inl ‹_›))), rfl⟩
    · go_wp2
      · go_ret2
        exact ⟨ret_over s mx h0 h48 u (HM.out.trans (mw_at_end s k u hlt)) ‹_›, rfl⟩
      · go_ret2
        exact ⟨ret_some s mx h0 h48 u (HM.out.trans (mw_at_end s k u hlt)) ‹_›, rfl⟩

theorem size_zero {s : ByteArray} (h : s.size = 0) : s.data.toList = [] := by
  apply List.eq_nil_of_length_eq_zero; simpa using h

set_option maxHeartbeats 400000 in
theorem model_empty (s : ByteArray) (mx : Int) (w : World) (hz : ((s.size : Int) == 0) = true) :
    Calls Tryd.prog 9 #[.string s, .int .i64 mx] w fun e w' => e = .returned (pairOf (modelW s.data.toList mx)) ∧ w' = w := by
  have hm : Hid (modelW s.data.toList mx = none) := by
    have : s.size = 0 := by simpa using hz
    have h : modelW s.data.toList mx = none := by rw [size_zero this]; rfl
    exact h
  go_enter Tryd.func9, Tryd.ntmps9
  go_wp2
  go_ret2
  exact ⟨by rw [hm.out]; rfl, rfl⟩

set_option maxHeartbeats 400000 in
theorem model_zero (s : ByteArray) (mx : Int) (w : World) (h0 : 0 < s.size) (hz : ((s.size : Int) == 0) = false) (h48 : ((s[0].toNat : Int) == 48) = true) :
    Calls Tryd.prog 9 #[.string s, .int .i64 mx] w fun e w' => e = .returned (pairOf (modelW s.data.toList mx)) ∧ w' = w := by
  have hm : Hid (modelW s.data.toList mx = none) := by
    have hd := drop_at s 0 h0
    rw [List.drop_zero] at hd
    have h : s[0].toNat = 48 := by have := beq_iff_eq.1 h48; omega
    have h : modelW s.data.toList mx = none := by
      rw [hd]; unfold modelW; dsimp only; rw [if_pos h]
    exact h
  go_enter Tryd.func9, Tryd.ntmps9
  go_wp2
  go_ret2
  exact ⟨by rw [hm.out]; rfl, rfl⟩

theorem model_any (s : ByteArray) (mx : Int) (w : World) (hs : (s.size : Int) ≤ 1048576) :
    Calls Tryd.prog 9 #[.string s, .int .i64 mx] w fun e w' => e = .returned (pairOf (modelW s.data.toList mx)) ∧ w' = w := by
  by_cases h0 : 0 < s.size
  · have hz : ((s.size : Int) == 0) = false := beq_eq_false_iff_ne.2 (by omega)
    cases h48 : ((s[0].toNat : Int) == 48)
    · exact model_loop s mx w hs h0 h48 hz
    · exact model_zero s mx w h0 hz h48
  · exact model_empty s mx w (beq_iff_eq.2 (by omega))
end Go.Proofs.Qxb6000013aDoor
