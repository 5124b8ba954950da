/-
  THE WALKS OVER wholeValue: notDigit (19), setText (14, 8), String (15, 11), windowValue.String (16, 13). The library by its contracts.
-/
import Derived.Test.Qxb6000013aDoorModel
import Derived.Test.Qxb6000013aDoorShelf
namespace Go.Proofs.Qxb6000013aDoor
open Go.RowKit Go.Lib
set_option linter.unusedVariables false

/-- notDigit, at whatever rune. -/
theorem nd_at (w : World) : PredAt Tryd.prog 19 #[] encR ndB w := fun W r _ => by
  unfold FnGives
  by_cases h1 : (r : Int) < 48
  · have e : ndB r = true := by unfold ndB; rw [decide_eq_true (show r < 48 by omega)]; rfl
    go_enter Tryd.func19, Tryd.ntmps19
    go_wp2
    go_ret
    first | exact ⟨rfl, 0, rfl⟩ | exact ⟨by rw [e]; rfl, 0, rfl⟩
  · by_cases h2 : (57 : Int) < (r : Int)
    · have e : ndB r = true := by unfold ndB; rw [decide_eq_true (show 57 < r by omega)]; simp
      go_enter Tryd.func19, Tryd.ntmps19
      go_wp2
      go_ret
      first | exact ⟨rfl, 0, rfl⟩ | exact ⟨by rw [e]; rfl, 0, rfl⟩
    · have e : ndB r = false := by unfold ndB; rw [decide_eq_false (show ¬ r < 48 by omega), decide_eq_false (show ¬ 57 < r by omega)]; rfl
      go_enter Tryd.func19, Tryd.ntmps19
      go_wp2
      go_ret
      first | exact ⟨rfl, 0, rfl⟩ | exact ⟨by rw [e]; rfl, 0, rfl⟩

theorem idx_from (s : ByteArray) : ∀ (f pos : Nat), s.size ≤ pos + f → (decide (0 ≤ Lib.idxFuncFrom ndB true s f pos) = !((s.data.toList.drop pos).all digB))
  | 0, pos, h => by
    rw [List.drop_of_length_le (by have : s.data.toList.length = s.size := by simp
                                   omega)]
    rfl
  | f + 1, pos, h => by
    unfold Lib.idxFuncFrom
    by_cases hp : pos < s.size
    · rw [if_pos hp, decode_nd, drop_get s pos hp, List.all_cons]
      cases hd : digB (s.get! pos)
      · rw [if_pos (by rfl)]; simp
      · rw [if_neg (by simp), Bool.true_and]
        have hlow : (s.get! pos).toNat < 128 := by have := (digB_iff _).1 hd; omega
        rw [decode_low s pos hlow]
        exact idx_from s f (pos + 1) (by omega)
    · rw [if_neg hp, List.drop_of_length_le (by have : s.data.toList.length = s.size := by simp
                                                omega)]
      rfl

theorem contains_nd (s : ByteArray) : decide (0 ≤ Lib.idxFunc ndB true s) = !(s.data.toList.all digB) := by
  have := idx_from s s.size 0 (by omega)
  rw [List.drop_zero] at this
  exact this

/-- strings.HasPrefix at this dump -/
theorem hasPrefix_any (s p : ByteArray) (w : World) :
    Calls Tryd.prog 17 #[.string s, .string p] w fun e w' => e = .returned (.bool (Lib.hasPrefix s.data.toList p.data.toList)) ∧ w' = w := Any.strings_HasPrefix Tryd.lays99 s p w

/-- strings.ContainsFunc(s, notDigit) -/
theorem contains_any (s : ByteArray) (b : Bool) (hb : s.data.toList.all digB = b) (w : World) :
    Calls Tryd.prog 18 #[.string s, .func (.func 19) #[] #[]] w fun e w' => e = .returned (.bool (!b)) ∧ Below w.heap.size w w' := by
  have h := Any.strings_ContainsFunc Tryd.lays17 19 #[] (enters_of Tryd.func19 (by kernel_rfl) rfl) ndB s w (nd_at w)
  rw [contains_nd, hb] at h
  exact h

theorem parse_ok (s : ByteArray) (hmax : s.size ≤ 9223372036854775806) (v : Int) (h : Lib.parseIntB 64 s.data.toList = .ok v) (w : World) :
    Calls Tryd.prog 20 #[.string s, .int .i64 10, .int .i64 64] w fun e w' => e = .returned (.tuple #[.int .i64 v, .nilIface]) ∧ Below w.heap.size w w' := by
  refine (Any.strconv_ParseInt_10_at64_ok Tryd.lays174 s hmax v h w).mono ?_
  rintro e w' ⟨rfl, hw⟩
  refine ⟨rfl, ?_⟩
  rcases hw with rfl | ⟨t, rfl⟩
  · exact Below.refl _ _
  · exact Lib.bytesWorld_below _ _ _

/-- the name of the table of powers of ten, as the rows spell it -/
def pow10Name : String := Rows.fnWholeSetTextMatchesDigitModelRow.named.getD 2 "none"

/-- What the library reads of package-level variables on these roads. -/
structure Ready (w : World) : Prop where
  syn : ∃ tp p, w.var? Tryd.prog "strconv.ErrSyntax" = some #[.iface tp p]
  rng : ∃ tp p, w.var? Tryd.prog "strconv.ErrRange" = some #[.iface tp p]
  tab : Lib.TabIs Tryd.prog w pow10Name .u64 Lib.pow10Tab

theorem var_later {w w' : World} {n : String} {cs : Array Value} (hb : Below w.heap.size w w') (h : w.var? Tryd.prog n = some cs) : w'.var? Tryd.prog n = some cs := by
  have hg : ∃ g, Tryd.prog.globalNamed n = some g ∧ g < w.heap.size := by
    unfold World.var? at h
    cases hg : Tryd.prog.globalNamed n with
    | none => simp [hg] at h
    | some g =>
      refine ⟨g, rfl, ?_⟩
      simp only [hg, Option.bind_some] at h
      rcases Nat.lt_or_ge g w.heap.size with h' | h'
      · exact h'
      · simp [Array.getElem?_eq_none h'] at h
  obtain ⟨g, hg, hlt⟩ := hg
  exact var?_below hb hg hlt h

theorem Ready.later {w w' : World} (h : Ready w) (hb : Below w.heap.size w w') : Ready w' := by
  obtain ⟨⟨t1, p1, h1⟩, ⟨t2, p2, h2⟩, h3⟩ := h
  exact ⟨⟨t1, p1, var_later hb h1⟩, ⟨t2, p2, var_later hb h2⟩, var_later hb h3⟩

/-- strconv.ParseInt(s, 10, 64) at a text that it does not take: some number and an error that is not nil. -/
theorem parse_err (s : ByteArray) (hlim : s.size ≤ 281474976710656) (h : okOf (Lib.parseIntB 64 s.data.toList) = none) (w : World) (hr : Ready w) :
    Calls Tryd.prog 20 #[.string s, .int .i64 10, .int .i64 64] w fun e w' => ∃ x tp p, e = .returned (.tuple #[.int .i64 x, .iface tp p]) ∧ Below w.heap.size w w' := by
  obtain ⟨⟨t1, p1, h1⟩, ⟨t2, p2, h2⟩, _⟩ := hr
  cases hq : Lib.parseIntB 64 s.data.toList
  · rw [hq] at h; cases h
  · refine (Any.strconv_ParseInt_10_at64_syntax_var Tryd.lays174 s hlim hq t1 p1 w h1).mono ?_
    rintro e w' ⟨N, rfl, _, _, hb⟩
    exact ⟨_, _, _, rfl, hb⟩
  · refine (Any.strconv_ParseInt_10_at64_range_var Tryd.lays174 s hlim hq t2 p2 w h2).mono ?_
    rintro e w' ⟨N, rfl, _, _, hb⟩
    exact ⟨_, _, _, rfl, hb⟩

theorem bcell {W w1 : World} (hb : Below W.heap.size W w1) : (∀ b o, b < W.heap.size → w1.cell? ⟨b, o, none⟩ = W.cell? ⟨b, o, none⟩) ∧ (∀ b o, b < W.heap.size → w1.frozen? ⟨b, o, none⟩ = W.frozen? ⟨b, o, none⟩) :=
  ⟨fun b o h => hb.cell (p := ⟨b, o, none⟩) h, fun b o h => hb.frozen (p := ⟨b, o, none⟩) h⟩

/-- the text begins with a zero -/
def zeroB (l : List UInt8) : Bool := Lib.hasPrefix l [48]
theorem zeroB_iff (l : List UInt8) : zeroB l = true ↔ l.head?.map (·.toNat) = some 48 := by
  match l with
  | [] => simp [zeroB, Lib.hasPrefix]
  | c :: r =>
    simp only [zeroB, Lib.hasPrefix, List.isPrefixOf, List.head?_cons, Option.map_some, Option.some.injEq, Bool.and_true, beq_iff_eq]
    constructor
    · intro h; rw [← h]; rfl
    · intro h
      apply UInt8.toNat_inj.1
      rw [h]; rfl

theorem hasZero_any (s : ByteArray) (b : Bool) (hb : zeroB s.data.toList = b) (w : World) :
    Calls Tryd.prog 17 #[.string s, .string { data := #[48] }] w fun e w' => e = .returned (.bool b) ∧ w' = w := by
  have h := Any.strings_HasPrefix Tryd.lays99 s { data := #[48] } w
  unfold zeroB at hb
  rw [show ({ data := #[48] } : ByteArray).data.toList = [48] from rfl, hb] at h
  exact h

set_option maxHeartbeats 400000 in
theorem set_zero (s : ByteArray) (b : Nat) (mx : Int) (w : World) (hz : Hid (zeroB s.data.toList = true)) :
    Calls Tryd.prog 14 #[.agg #[.pointer (some ⟨b, 0, none⟩), .int .i64 mx], .string s] w fun e w' => e = .returned (.bool false) ∧ Below w.heap.size w w' := by
  go_enter Tryd.func14, Tryd.ntmps14
  go_wp2_with (go_at_call 17; refine (hasZero_any s _ hz.out _).mono ?_; rintro e w' ⟨rfl, rfl⟩)
  go_ret
  exact ⟨rfl, (Below.refl _ _).alloc (Nat.le_refl _) _⟩

set_option maxHeartbeats 400000 in
theorem set_nondigit (s : ByteArray) (b : Nat) (mx : Int) (w : World) (hz : Hid (zeroB s.data.toList = false)) (hd : Hid (s.data.toList.all digB = false)) :
    Calls Tryd.prog 14 #[.agg #[.pointer (some ⟨b, 0, none⟩), .int .i64 mx], .string s] w fun e w' => e = .returned (.bool false) ∧ Below w.heap.size w w' := by
  go_enter Tryd.func14, Tryd.ntmps14
  go_wp2_with (first | (go_at_call 17; refine (hasZero_any s _ hz.out _).mono ?_; rintro e w' ⟨rfl, rfl⟩) | (go_at_call 18; refine (contains_any s _ hd.out _).mono ?_; rintro e w1 ⟨rfl, hb1⟩))
  go_ret
  refine ⟨rfl, ?_⟩
  exact ((Below.refl _ _).alloc (Nat.le_refl _) _).trans (hb1.mono (by simp))

/-- The walk's facts behind the two calls of the library: what was there is there. -/
theorem set_facts {w w1 w2 : World} {b : Nat} {mx old : Int} {o : Obj} (ho : o = .cells #[.pointer (some ⟨b, 0, none⟩), .int .i64 mx] 31)
    (hbw : b < w.heap.size) (hc : w.cell? ⟨b, 0, none⟩ = some (.int .i64 old)) (hf : w.frozen? ⟨b, 0, none⟩ = false)
    (hb1 : Below (w.heap.size + 1) (w.alloc o) w1) (hb2 : Below w1.heap.size w1 w2) :
    w2.cell? ⟨w.heap.size, 0, none⟩ = some (.pointer (some ⟨b, 0, none⟩)) ∧ w2.cell? ⟨w.heap.size, 1, none⟩ = some (.int .i64 mx) ∧ w2.cell? ⟨b, 0, none⟩ = some (.int .i64 old) ∧ w2.frozen? ⟨b, 0, none⟩ = false ∧ Below w.heap.size w w2 := by
  subst ho
  have hs1 : w.heap.size + 1 ≤ w1.heap.size := by have := hb1.size; simpa using this
  have h12 : Below (w.heap.size + 1) (w.alloc (.cells #[.pointer (some ⟨b, 0, none⟩), .int .i64 mx] 31)) w2 := hb1.trans (hb2.mono hs1)
  have hb0 : Below w.heap.size w w2 := ((Below.refl _ _).alloc (Nat.le_refl _) _).trans (h12.mono (Nat.le_succ _))
  refine ⟨?_, ?_, ?_, ?_, hb0⟩
  · rw [h12.cell (p := ⟨w.heap.size, 0, none⟩) (Nat.lt_succ_self _)]; simp
  · rw [h12.cell (p := ⟨w.heap.size, 1, none⟩) (Nat.lt_succ_self _)]; simp
  · rw [hb0.cell (p := ⟨b, 0, none⟩) hbw]; exact hc
  · rw [hb0.frozen (p := ⟨b, 0, none⟩) hbw]; exact hf

set_option maxHeartbeats 400000 in
theorem set_parse_err (s : ByteArray) (b : Nat) (mx : Int) (w : World) (hs : s.size ≤ 281474976710656) (hz : Hid (zeroB s.data.toList = false)) (hd : Hid (s.data.toList.all digB = true)) (hp : Hid (okOf (Lib.parseIntB 64 s.data.toList) = none)) (hr : Ready w) :
    Calls Tryd.prog 14 #[.agg #[.pointer (some ⟨b, 0, none⟩), .int .i64 mx], .string s] w fun e w' => e = .returned (.bool false) ∧ Below w.heap.size w w' := by
  go_enter Tryd.func14, Tryd.ntmps14
  go_wp2_with (first | (go_at_call 17; refine (hasZero_any s _ hz.out _).mono ?_; rintro e w' ⟨rfl, rfl⟩) | (go_at_call 18; refine (contains_any s _ hd.out _).mono ?_; rintro e w1 ⟨rfl, hb1⟩; refine Hid.out ?_))
  refine Lib.hid ?_
  have hr1 : Ready w1 := hr.later (((Below.refl _ _).alloc (Nat.le_refl _) _).trans (hb1.mono (by simp)))
  go_wp2_with (go_at_call 20; refine (parse_err s hs hp.out _ hr1).mono ?_; rintro e w2 ⟨x, tp, p, rfl, hb2⟩)
  go_ret
  refine ⟨rfl, ?_⟩
  exact ((Below.refl _ _).alloc (Nat.le_refl _) _).trans ((hb1.mono (by simp)).trans (hb2.mono (by have := hb1.size; simp at this; omega)))

set_option maxHeartbeats 400000 in
theorem set_low (s : ByteArray) (b : Nat) (mx n : Int) (w : World) (hs : s.size ≤ 281474976710656) (hz : Hid (zeroB s.data.toList = false)) (hd : Hid (s.data.toList.all digB = true)) (hp : Hid (Lib.parseIntB 64 s.data.toList = .ok n)) (hlo : n < 1) :
    Calls Tryd.prog 14 #[.agg #[.pointer (some ⟨b, 0, none⟩), .int .i64 mx], .string s] w fun e w' => e = .returned (.bool false) ∧ Below w.heap.size w w' := by
  go_enter Tryd.func14, Tryd.ntmps14
  go_wp2_with (first | (go_at_call 17; refine (hasZero_any s _ hz.out _).mono ?_; rintro e w' ⟨rfl, rfl⟩) | (go_at_call 18; refine (contains_any s _ hd.out _).mono ?_; rintro e w1 ⟨rfl, hb1⟩; refine Hid.out ?_))
  refine Lib.hid ?_
  go_wp2_with (go_at_call 20; refine (parse_ok s (by omega) n hp.out _).mono ?_; rintro e w2 ⟨rfl, hb2⟩)
  go_ret
  refine ⟨rfl, ?_⟩
  exact ((Below.refl _ _).alloc (Nat.le_refl _) _).trans ((hb1.mono (by simp)).trans (hb2.mono (by have := hb1.size; simp at this; omega)))

set_option maxHeartbeats 400000 in
theorem set_high (s : ByteArray) (b : Nat) (mx n old : Int) (w : World) (hs : s.size ≤ 281474976710656) (hz : Hid (zeroB s.data.toList = false)) (hd : Hid (s.data.toList.all digB = true)) (hp : Hid (Lib.parseIntB 64 s.data.toList = .ok n)) (hlo : ¬ n < 1) (hhi : mx < n)
    (hbw : b < w.heap.size) (hc : Hid (w.cell? ⟨b, 0, none⟩ = some (.int .i64 old))) (hf : Hid (w.frozen? ⟨b, 0, none⟩ = false)) :
    Calls Tryd.prog 14 #[.agg #[.pointer (some ⟨b, 0, none⟩), .int .i64 mx], .string s] w fun e w' => e = .returned (.bool false) ∧ Below w.heap.size w w' := by
  go_enter Tryd.func14, Tryd.ntmps14
  go_wp2_with (first | (go_at_call 17; refine (hasZero_any s _ hz.out _).mono ?_; rintro e w' ⟨rfl, rfl⟩) | (go_at_call 18; refine (contains_any s _ hd.out _).mono ?_; rintro e w1 ⟨rfl, hb1⟩; refine Hid.out ?_))
  refine Lib.hid ?_
  go_wp2_with (go_at_call 20; refine (parse_ok s (by omega) n hp.out _).mono ?_; rintro e w2 ⟨rfl, hb2⟩; refine Hid.out ?_)
  refine Lib.hid ?_
  obtain ⟨f1, f2, f3, f4, f5⟩ := set_facts (mx := mx) rfl hbw hc.out hf.out (by simpa using hb1) hb2
  go_wp2
  go_ret
  exact ⟨rfl, f5⟩

set_option maxHeartbeats 400000 in
theorem set_yes (s : ByteArray) (b : Nat) (mx n old : Int) (w : World) (hs : s.size ≤ 281474976710656) (hz : Hid (zeroB s.data.toList = false)) (hd : Hid (s.data.toList.all digB = true)) (hp : Hid (Lib.parseIntB 64 s.data.toList = .ok n)) (hlo : ¬ n < 1) (hhi : ¬ mx < n)
    (hbw : b < w.heap.size) (hc : Hid (w.cell? ⟨b, 0, none⟩ = some (.int .i64 old))) (hf : Hid (w.frozen? ⟨b, 0, none⟩ = false)) :
    Calls Tryd.prog 14 #[.agg #[.pointer (some ⟨b, 0, none⟩), .int .i64 mx], .string s] w fun e w' => e = .returned (.bool true) ∧ ∃ w1, Below w.heap.size w w1 ∧ w' = w1.setCell ⟨b, 0, none⟩ (.int .i64 n) := by
  go_enter Tryd.func14, Tryd.ntmps14
  go_wp2_with (first | (go_at_call 17; refine (hasZero_any s _ hz.out _).mono ?_; rintro e w' ⟨rfl, rfl⟩) | (go_at_call 18; refine (contains_any s _ hd.out _).mono ?_; rintro e w1 ⟨rfl, hb1⟩; refine Hid.out ?_))
  refine Lib.hid ?_
  go_wp2_with (go_at_call 20; refine (parse_ok s (by omega) n hp.out _).mono ?_; rintro e w2 ⟨rfl, hb2⟩; refine Hid.out ?_)
  refine Lib.hid ?_
  obtain ⟨f1, f2, f3, f4, f5⟩ := set_facts (mx := mx) rfl hbw hc.out hf.out (by simpa using hb1) hb2
  go_wp2
  go_ret
  exact ⟨rfl, w2, f5, rfl⟩

/-- ████ setText REFUSES: nothing that was there has turned. -/
theorem setText_no (s : ByteArray) (b : Nat) (mx old : Int) (w : World) (hs : s.size ≤ 281474976710656) (h : setW s.data.toList mx = none)
    (hbw : b < w.heap.size) (hc : w.cell? ⟨b, 0, none⟩ = some (.int .i64 old)) (hf : w.frozen? ⟨b, 0, none⟩ = false) (hr : Ready w) :
    Calls Tryd.prog 14 #[.agg #[.pointer (some ⟨b, 0, none⟩), .int .i64 mx], .string s] w fun e w' => e = .returned (.bool false) ∧ Below w.heap.size w w' := by
  cases hz : zeroB s.data.toList
  · cases hd : s.data.toList.all digB
    · exact set_nondigit s b mx w hz hd
    · have hnz : ¬ (s.data.toList.head?.map (·.toNat) = some 48 ∨ s.data.toList.all digB = false) := by
        rintro (h1 | h1)
        · rw [(zeroB_iff _).2 h1] at hz; cases hz
        · rw [hd] at h1; cases h1
      unfold setW at h
      rw [if_neg hnz] at h
      cases hq : okOf (Lib.parseIntB 64 s.data.toList) with
      | none => exact set_parse_err s b mx w hs hz hd hq hr
      | some n =>
        have hp : Lib.parseIntB 64 s.data.toList = .ok n := by
          cases hp : Lib.parseIntB 64 s.data.toList <;> rw [hp] at hq <;> simp only [okOf] at hq
          · exact congrArg _ (Option.some.inj hq)
          all_goals cases hq
        rw [hp] at h
        dsimp only at h
        by_cases hlo : n < 1
        · exact set_low s b mx n w hs hz hd hp hlo
        · by_cases hhi : mx < n
          · exact set_high s b mx n old w hs hz hd hp hlo hhi hbw hc hf
          · rw [if_neg (by omega)] at h; cases h
  · exact set_zero s b mx w hz

/-- ████ setText TAKES: the number is stored. -/
theorem setText_yes (s : ByteArray) (b : Nat) (mx n old : Int) (w : World) (hs : s.size ≤ 281474976710656) (h : setW s.data.toList mx = some n)
    (hbw : b < w.heap.size) (hc : w.cell? ⟨b, 0, none⟩ = some (.int .i64 old)) (hf : w.frozen? ⟨b, 0, none⟩ = false) :
    Calls Tryd.prog 14 #[.agg #[.pointer (some ⟨b, 0, none⟩), .int .i64 mx], .string s] w fun e w' => e = .returned (.bool true) ∧ ∃ w1, Below w.heap.size w w1 ∧ w' = w1.setCell ⟨b, 0, none⟩ (.int .i64 n) := by
  unfold setW at h
  by_cases hnz : s.data.toList.head?.map (·.toNat) = some 48 ∨ s.data.toList.all digB = false
  · rw [if_pos hnz] at h; cases h
  · rw [if_neg hnz] at h
    have hz : zeroB s.data.toList = false := by
      cases hz : zeroB s.data.toList
      · rfl
      · exact absurd (Or.inl ((zeroB_iff _).1 hz)) hnz
    have hd : s.data.toList.all digB = true := by
      cases hd : s.data.toList.all digB
      · exact absurd (Or.inr hd) hnz
      · rfl
    cases hp : Lib.parseIntB 64 s.data.toList <;> rw [hp] at h <;> dsimp only at h
    · rename_i v
      by_cases hv : v < 1 ∨ mx < v
      · rw [if_pos hv] at h; cases h
      · rw [if_neg hv] at h
        obtain rfl := Option.some.inj h
        exact set_yes s b mx v old w hs hz hd hp (by omega) (by omega) hbw hc hf
    all_goals cases h

set_option maxHeartbeats 400000 in
theorem set8_no (s : ByteArray) (b : Nat) (mx old : Int) (w : World) (hs : s.size ≤ 281474976710656) (h : Hid (setW s.data.toList mx = none))
    (hbw : b < w.heap.size) (hc : w.cell? ⟨b, 0, none⟩ = some (.int .i64 old)) (hf : w.frozen? ⟨b, 0, none⟩ = false) (hr : Ready w) :
    Calls Tryd.prog 8 #[.pointer (some ⟨b, 0, none⟩), .int .i64 mx, .string s] w fun e w' => e = .returned (.bool false) ∧ Below w.heap.size w w' := by
  go_enter Tryd.func8, Tryd.ntmps8
  go_wp2_with (go_at_call 14; refine (setText_no s b mx old _ hs h.out hbw hc hf hr).mono ?_; rintro e w1 ⟨rfl, hb1⟩)
  go_ret
  exact ⟨rfl, hb1⟩

set_option maxHeartbeats 400000 in
theorem set8_yes (s : ByteArray) (b : Nat) (mx n old : Int) (w : World) (hs : s.size ≤ 281474976710656) (h : Hid (setW s.data.toList mx = some n))
    (hbw : b < w.heap.size) (hc : w.cell? ⟨b, 0, none⟩ = some (.int .i64 old)) (hf : w.frozen? ⟨b, 0, none⟩ = false) :
    Calls Tryd.prog 8 #[.pointer (some ⟨b, 0, none⟩), .int .i64 mx, .string s] w fun e w' => e = .returned (.bool true) ∧ ∃ w1, Below w.heap.size w w1 ∧ w' = w1.setCell ⟨b, 0, none⟩ (.int .i64 n) := by
  go_enter Tryd.func8, Tryd.ntmps8
  go_wp2_with (go_at_call 14; refine (setText_yes s b mx n old _ hs h.out hbw hc hf).mono ?_; rintro e w1 ⟨rfl, hb1⟩)
  go_ret
  exact ⟨rfl, hb1⟩

/-! ### String -/
theorem below_grow (w : World) (k : Nat) (os : Array Obj) : Below w.heap.size w (Sort.grow (w.drewN k) os) := below_grown w k os

/-- strconv.FormatInt(n, 10) -/
theorem format_any (n : Int) (h0 : -9223372036854775808 ≤ n) (h1 : n ≤ 9223372036854775807) (w : World) (hr : Ready w) :
    Calls Tryd.prog 21 #[.int .i64 n, .int .i64 10] w fun e w' => e = .returned (.string ⟨(Lib.itoa n).toArray⟩) ∧ Below w.heap.size w w' := by
  refine (Any.strconv_FormatInt_10 Tryd.lays173 n h0 h1 w hr.tab).mono ?_
  rintro e w' ⟨rfl, k, os, rfl⟩
  exact ⟨rfl, below_grow w k os⟩

set_option maxHeartbeats 400000 in
theorem string15 (n : Int) (mx : Value) (b : Nat) (h0 : -9223372036854775808 ≤ n) (h1 : n ≤ 9223372036854775807) (w : World) (hr : Ready w) (hbw : b < w.heap.size) (hc : w.cell? ⟨b, 0, none⟩ = some (.int .i64 n)) (hmx : ∃ m, mx = .int .i64 m) :
    Calls Tryd.prog 15 #[.agg #[.pointer (some ⟨b, 0, none⟩), mx]] w fun e w' => e = .returned (.string ⟨(Lib.itoa n).toArray⟩) ∧ Below w.heap.size w w' := by
  obtain ⟨m, rfl⟩ := hmx
  have hc1 : ∀ o, (w.alloc o).cell? ⟨b, 0, none⟩ = some (.int .i64 n) := fun o => (((Below.refl _ _).alloc (Nat.le_refl _) o).cell (p := ⟨b, 0, none⟩) hbw).trans hc
  have hr1 : ∀ o, Ready (w.alloc o) := fun o => hr.later ((Below.refl _ _).alloc (Nat.le_refl _) _)
  go_enter Tryd.func15, Tryd.ntmps15
  go_wp2_with (go_at_call 21; refine (format_any n h0 h1 _ (hr1 _)).mono ?_; rintro e w1 ⟨rfl, hb1⟩)
  go_ret
  exact ⟨rfl, ((Below.refl _ _).alloc (Nat.le_refl _) _).trans (hb1.mono (by simp))⟩

set_option maxHeartbeats 400000 in
theorem string11 (n : Int) (b : Nat) (h0 : -9223372036854775808 ≤ n) (h1 : n ≤ 9223372036854775807) (w : World) (hr : Ready w) (hbw : b < w.heap.size) (hc : w.cell? ⟨b, 0, none⟩ = some (.int .i64 n)) :
    Calls Tryd.prog 11 #[.pointer (some ⟨b, 0, none⟩)] w fun e w' => e = .returned (.string ⟨(Lib.itoa n).toArray⟩) ∧ Below w.heap.size w w' := by
  go_enter Tryd.func11, Tryd.ntmps11
  go_wp2_with (go_at_call 15; refine (string15 n _ b h0 h1 _ hr hbw hc ⟨_, rfl⟩).mono ?_; rintro e w1 ⟨rfl, hb1⟩)
  go_ret
  exact ⟨rfl, hb1⟩

/-- what the window shows -/
def shown (n : Int) : Int := if n = 0 then 200000 else n

set_option maxHeartbeats 400000 in
theorem string16_zero (n m : Int) (b : Nat) (hn : (n == 0) = true) (w : World) (hr : Ready w) (hbw : b < w.heap.size) (hc : w.cell? ⟨b, 0, none⟩ = some (.int .i64 n)) :
    Calls Tryd.prog 16 #[.agg #[.pointer (some ⟨b, 0, none⟩), .int .i64 m]] w fun e w' => e = .returned (.string ⟨(Lib.itoa 200000).toArray⟩) ∧ Below w.heap.size w w' := by
  have hc1 : ∀ o, (w.alloc o).cell? ⟨b, 0, none⟩ = some (.int .i64 n) := fun o => (((Below.refl _ _).alloc (Nat.le_refl _) o).cell (p := ⟨b, 0, none⟩) hbw).trans hc
  have hr1 : ∀ o, Ready (w.alloc o) := fun o => hr.later ((Below.refl _ _).alloc (Nat.le_refl _) _)
  go_enter Tryd.func16, Tryd.ntmps16
  go_wp2_with (go_at_call 21; refine (format_any 200000 (by omega) (by omega) _ (hr1 _)).mono ?_; rintro e w1 ⟨rfl, hb1⟩)
  go_ret
  exact ⟨rfl, ((Below.refl _ _).alloc (Nat.le_refl _) _).trans (hb1.mono (by simp))⟩

set_option maxHeartbeats 400000 in
theorem string16_plain (n m : Int) (b : Nat) (hn : (n == 0) = false) (h0 : -9223372036854775808 ≤ n) (h1 : n ≤ 9223372036854775807) (w : World) (hr : Ready w) (hbw : b < w.heap.size) (hc : w.cell? ⟨b, 0, none⟩ = some (.int .i64 n)) :
    Calls Tryd.prog 16 #[.agg #[.pointer (some ⟨b, 0, none⟩), .int .i64 m]] w fun e w' => e = .returned (.string ⟨(Lib.itoa n).toArray⟩) ∧ Below w.heap.size w w' := by
  have hc1 : ∀ o, (w.alloc o).cell? ⟨b, 0, none⟩ = some (.int .i64 n) := fun o => (((Below.refl _ _).alloc (Nat.le_refl _) o).cell (p := ⟨b, 0, none⟩) hbw).trans hc
  have hr1 : ∀ o, Ready (w.alloc o) := fun o => hr.later ((Below.refl _ _).alloc (Nat.le_refl _) _)
  have hbw1 : ∀ o, b < (w.alloc o).heap.size := fun o => by simp; omega
  go_enter Tryd.func16, Tryd.ntmps16
  go_wp2_with (go_at_call 15; refine (string15 n _ b h0 h1 _ (hr1 _) (hbw1 _) (hc1 _) ⟨_, rfl⟩).mono ?_; rintro e w1 ⟨rfl, hb1⟩)
  go_ret
  exact ⟨rfl, ((Below.refl _ _).alloc (Nat.le_refl _) _).trans (hb1.mono (by simp))⟩

theorem string16 (n m : Int) (b : Nat) (h0 : -9223372036854775808 ≤ n) (h1 : n ≤ 9223372036854775807) (w : World) (hr : Ready w) (hbw : b < w.heap.size) (hc : w.cell? ⟨b, 0, none⟩ = some (.int .i64 n)) :
    Calls Tryd.prog 16 #[.agg #[.pointer (some ⟨b, 0, none⟩), .int .i64 m]] w fun e w' => e = .returned (.string ⟨(Lib.itoa (shown n)).toArray⟩) ∧ Below w.heap.size w w' := by
  unfold shown
  by_cases hn : n = 0
  · rw [if_pos hn]; exact string16_zero n m b (beq_iff_eq.2 hn) w hr hbw hc
  · rw [if_neg hn]; exact string16_plain n m b (beq_eq_false_iff_ne.2 hn) h0 h1 w hr hbw hc

set_option maxHeartbeats 400000 in
theorem string13 (n m : Int) (b : Nat) (h0 : -9223372036854775808 ≤ n) (h1 : n ≤ 9223372036854775807) (w : World) (hr : Ready w) (hbw : b < w.heap.size) (hc : w.cell? ⟨b, 0, none⟩ = some (.int .i64 n)) :
    Calls Tryd.prog 13 #[.pointer (some ⟨b, 0, none⟩), .int .i64 m] w fun e w' => e = .returned (.string ⟨(Lib.itoa (shown n)).toArray⟩) ∧ Below w.heap.size w w' := by
  go_enter Tryd.func13, Tryd.ntmps13
  go_wp2_with (go_at_call 16; refine (string16 n m b h0 h1 _ hr hbw hc).mono ?_; rintro e w1 ⟨rfl, hb1⟩)
  go_ret
  exact ⟨rfl, hb1⟩
end Go.Proofs.Qxb6000013aDoor
