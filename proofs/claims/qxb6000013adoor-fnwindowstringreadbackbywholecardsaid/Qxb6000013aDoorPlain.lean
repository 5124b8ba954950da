/-
  THE PLAIN MATHEMATICS OF THE THREE LAWS OVER wholeValue: no Go in sight.
-/
import Derived.Lib.ParseIntB
import Derived.Lib.ItoaNum
import Derived.Lib.DecodeN
namespace Go.Proofs.Qxb6000013aDoor
open Go
set_option linter.unusedVariables false

/-- a decimal digit -/
def digB (c : UInt8) : Bool := decide (48 ≤ c.toNat) && decide (c.toNat ≤ 57)
theorem digB_iff (c : UInt8) : digB c = true ↔ 48 ≤ c.toNat ∧ c.toNat ≤ 57 := by simp [digB]
theorem digB_false (c : UInt8) : digB c = false ↔ c.toNat < 48 ∨ 57 < c.toNat := by
  rw [← Bool.not_eq_true, digB_iff]; omega

/-- the model's loop -/
def mw (acc : Nat) : List UInt8 → Option Nat
  | [] => some acc
  | c :: r => if digB c then (if (9223372036854775807 - (c.toNat - 48)) / 10 < acc then none else mw (acc * 10 + (c.toNat - 48)) r) else none

/-- the model -/
def modelW (l : List UInt8) (mx : Int) : Option Int :=
  match l with
  | [] => none
  | c :: _ => if c.toNat = 48 then none else match mw 0 l with
    | none => none
    | some v => if mx < (v : Int) then none else some (v : Int)

/-- what the parse of a run of digits comes to -/
def parsed (acc : Nat) (l : List UInt8) : Option Nat :=
  match Lib.parseUintM (18446744073709551615) acc l with
  | .ok u => if 9223372036854775808 ≤ u then none else some u
  | _ => none

/-- setText: none: refused; some n: taken, and n is stored. -/
def setW (l : List UInt8) (mx : Int) : Option Int :=
  if l.head?.map (·.toNat) = some 48 ∨ l.all digB = false then none
  else match Lib.parseIntB 64 l with
    | .ok n => if n < 1 ∨ mx < n then none else some n
    | _ => none

theorem parsed_big : ∀ (l : List UInt8) (acc : Nat), 9223372036854775808 ≤ acc → parsed acc l = none
  | [], acc, h => by simp only [parsed, Lib.parseUintM]; rw [if_pos h]
  | c :: r, acc, h => by
    by_cases h1 : 48 ≤ c.toNat ∧ c.toNat ≤ 57
    · have e : Lib.parseUintM 18446744073709551615 acc (c :: r) = .range := by rw [Lib.parseUintM, if_pos h1, if_pos (by omega)]
      simp only [parsed, e]
    · unfold parsed
      rw [Lib.parseUintM, if_neg h1]

theorem parsed_mw : ∀ (l : List UInt8) (acc : Nat), acc < 9223372036854775808 → l.all digB = true → parsed acc l = mw acc l
  | [], acc, h, _ => by simp only [parsed, Lib.parseUintM, mw]; rw [if_neg (by omega)]
  | c :: r, acc, h, hd => by
    rw [List.all_cons, Bool.and_eq_true] at hd
    obtain ⟨hc, hr⟩ := hd
    have hc' := (digB_iff c).1 hc
    unfold mw
    rw [hc, if_pos rfl]
    by_cases hb : acc * 10 + (c.toNat - 48) < 9223372036854775808
    · rw [if_neg (by omega), ← parsed_mw r _ hb hr]
      have e : Lib.parseUintM (18446744073709551615) acc (c :: r) = Lib.parseUintM (18446744073709551615) (acc * 10 + (c.toNat - 48)) r := by
        rw [Lib.parseUintM]
        rw [if_pos hc', if_neg (by omega), if_neg (by omega)]
      unfold parsed
      rw [e]
    · rw [if_pos (by omega)]
      by_cases h1 : 1844674407370955162 ≤ acc
      · have e : Lib.parseUintM 18446744073709551615 acc (c :: r) = .range := by rw [Lib.parseUintM, if_pos hc', if_pos h1]
        simp only [parsed, e]
      · by_cases h2 : 18446744073709551615 < acc * 10 + (c.toNat - 48)
        · have e : Lib.parseUintM 18446744073709551615 acc (c :: r) = .range := by rw [Lib.parseUintM, if_pos hc', if_neg h1, if_pos h2]
          simp only [parsed, e]
        · have e : Lib.parseUintM (18446744073709551615) acc (c :: r) = Lib.parseUintM (18446744073709551615) (acc * 10 + (c.toNat - 48)) r := by
            rw [Lib.parseUintM]
            rw [if_pos hc', if_neg h1, if_neg h2]
          have := parsed_big r (acc * 10 + (c.toNat - 48)) (by omega)
          unfold parsed at this ⊢
          rw [e, this]

/-- ParseInt at a run of digits, by the model's loop -/
def asInt : Option Nat → Option Int
  | none => none
  | some u => some (u : Int)

def okOf : Lib.NumEnd Int → Option Int
  | .ok n => some n
  | _ => none

theorem parse_digits (l : List UInt8) (hl : l ≠ []) (hd : l.all digB = true) : okOf (Lib.parseIntB 64 l) = asInt (mw 0 l) := by
  match l, hl with
  | c :: r, _ =>
    have hc := hd
    rw [List.all_cons, Bool.and_eq_true] at hc
    have hc' := (digB_iff c).1 hc.1
    have hp := parsed_mw (c :: r) 0 (by omega) hd
    rw [← hp]
    have h45 : ¬ c.toNat = 45 := by omega
    have h43 : ¬ c.toNat = 43 := by omega
    simp only [parsed, Lib.parseIntB, Lib.parseUintB, h45, h43, or_self, reduceCtorEq, if_false, Nat.reducePow, Nat.reduceSub, not_false_eq_true, true_and, false_and]
    cases hq : Lib.parseUintM 18446744073709551615 0 (c :: r) <;> simp only [okOf, asInt]
    rename_i u
    by_cases hu : 9223372036854775808 ≤ u
    · simp only [hu, if_true]
    · simp only [hu, if_false]

theorem mw_bad : ∀ (l : List UInt8) (acc : Nat), l.all digB = false → mw acc l = none
  | [], acc, h => by simp at h
  | c :: r, acc, h => by
    unfold mw
    by_cases hc : digB c = true
    · rw [hc, if_pos rfl]
      rw [List.all_cons, hc, Bool.true_and] at h
      split
      · rfl
      · exact mw_bad r _ h
    · rw [if_neg hc]

/-- the value of a run of digits -/
def val (acc : Nat) : List UInt8 → Nat
  | [] => acc
  | c :: r => val (acc * 10 + (c.toNat - 48)) r

theorem mw_val : ∀ (l : List UInt8) (acc u : Nat), mw acc l = some u → u = val acc l
  | [], acc, u, h => (Option.some.inj h).symm
  | c :: r, acc, u, h => by
    unfold mw at h
    split at h
    · split at h
      · cases h
      · exact mw_val r _ u h
    · cases h

theorem val_ge : ∀ (l : List UInt8) (acc : Nat), acc ≤ val acc l
  | [], acc => Nat.le_refl _
  | c :: r, acc => by have := val_ge r (acc * 10 + (c.toNat - 48)); unfold val; omega

theorem mw_le : ∀ (l : List UInt8) (acc u : Nat), acc < 9223372036854775808 → mw acc l = some u → u < 9223372036854775808
  | [], acc, u, h0, h => by have := Option.some.inj h; omega
  | c :: r, acc, u, h0, h => by
    unfold mw at h
    split at h
    · next hc =>
      have hc' := (digB_iff c).1 hc
      split at h
      · cases h
      · exact mw_le r _ u (by omega) h
    · cases h

theorem mw_of_val : ∀ (l : List UInt8) (acc : Nat), l.all digB = true → val acc l < 9223372036854775808 → mw acc l = some (val acc l)
  | [], acc, _, _ => rfl
  | c :: r, acc, hd, h => by
    rw [List.all_cons, Bool.and_eq_true] at hd
    have hc' := (digB_iff c).1 hd.1
    have hg := val_ge r (acc * 10 + (c.toNat - 48))
    unfold val at h ⊢
    unfold mw
    rw [hd.1, if_pos rfl, if_neg (by omega)]
    exact mw_of_val r _ hd.2 h

theorem val_snoc : ∀ (l : List UInt8) (acc : Nat) (c : UInt8), val acc (l ++ [c]) = val acc l * 10 + (c.toNat - 48)
  | [], acc, c => rfl
  | a :: r, acc, c => val_snoc r _ c

theorem val_pos (c : UInt8) (r : List UInt8) (h : 48 < c.toNat) : 1 ≤ val 0 (c :: r) := by
  have := val_ge r (0 * 10 + (c.toNat - 48))
  unfold val; omega

theorem ofNat_dig (c : UInt8) (h : digB c = true) : UInt8.ofNat (48 + (c.toNat - 48)) = c := by
  have hc' := (digB_iff c).1 h
  rw [show 48 + (c.toNat - 48) = c.toNat by omega]
  exact UInt8.ofNat_toNat

/-- A canonical run of digits is the numeral of its value. -/
theorem dec_val : ∀ (n : Nat) (l : List UInt8), l.length = n → l ≠ [] → l.all digB = true → l.head?.map (·.toNat) ≠ some 48 → Lib.decDigits (val 0 l) = l
  | 0, l, hn, h0, _, _ => absurd (List.length_eq_zero_iff.1 hn) h0
  | n + 1, l, hn, h0, hd, hh => by
    obtain ⟨m, c, rfl⟩ : ∃ m c, l = m ++ [c] := ⟨l.dropLast, l.getLast h0, (List.dropLast_concat_getLast h0).symm⟩
    rw [List.all_append, Bool.and_eq_true] at hd
    have hc : digB c = true := by simpa using hd.2
    have hc' := (digB_iff c).1 hc
    rw [val_snoc]
    by_cases hm : m = []
    · subst hm
      rw [show val 0 [] * 10 + (c.toNat - 48) = c.toNat - 48 from by show 0 * 10 + (c.toNat - 48) = _; omega, Lib.decDigits_one (by omega), ofNat_dig c hc]
      rfl
    · have hhm : m.head?.map (·.toNat) ≠ some 48 := by
        match m, hm with
        | a :: r, _ => simpa using hh
      have hp : 1 ≤ val 0 m := by
        have hd1 := hd.1
        clear hd hh hn h0
        match m, hm, hhm, hd1 with
        | a :: r, _, hhm, hd1 =>
          rw [List.all_cons, Bool.and_eq_true] at hd1
          have ha' := (digB_iff a).1 hd1.1
          have : a.toNat ≠ 48 := by simpa using hhm
          exact val_pos a r (by omega)
      have hl : m.length = n := by simpa using hn
      have ih := dec_val n m hl hm hd.1 hhm
      rw [Lib.decDigits, dif_neg (by omega), show (val 0 m * 10 + (c.toNat - 48)) / 10 = val 0 m by omega, show (val 0 m * 10 + (c.toNat - 48)) % 10 = c.toNat - 48 by omega, ih, ofNat_dig c hc]

theorem dec_facts (u : Nat) : (Lib.decDigits u).all digB = true ∧ val 0 (Lib.decDigits u) = u ∧ Lib.decDigits u ≠ [] ∧ (1 ≤ u → (Lib.decDigits u).head?.map (·.toNat) ≠ some 48) := by
  induction u using Nat.strongRecOn with
  | _ u ih =>
    have hto : ∀ d, d < 10 → (UInt8.ofNat (48 + d)).toNat = 48 + d := fun d hd => by
      rw [UInt8.toNat_ofNat']; omega
    by_cases h : u < 10
    · rw [Lib.decDigits_one h]
      have := hto u h
      refine ⟨?_, ?_, by simp, ?_⟩
      · simp only [List.all_cons, List.all_nil, Bool.and_true]; rw [digB_iff]; omega
      · show 0 * 10 + ((UInt8.ofNat (48 + u)).toNat - 48) = u; omega
      · intro h1; simp only [List.head?_cons, Option.map_some, ne_eq, Option.some.injEq]; omega
    · obtain ⟨i1, i2, i3, i4⟩ := ih (u / 10) (by omega)
      have := hto (u % 10) (by omega)
      rw [Lib.decDigits, dif_neg h]
      refine ⟨?_, ?_, by simp, ?_⟩
      · rw [List.all_append, i1, Bool.true_and]
        simp only [List.all_cons, List.all_nil, Bool.and_true]; rw [digB_iff]; omega
      · rw [val_snoc, i2, this]; omega
      · intro _
        have i5 := i4 (by omega)
        match hm : Lib.decDigits (u / 10), i3 with
        | a :: r, _ => rw [hm] at i5; simpa using i5

/-- THE MODEL IS setText. -/
theorem modelW_eq (l : List UInt8) (mx : Int) : modelW l mx = setW l mx := by
  unfold setW
  match l with
  | [] => simp [modelW, Lib.parseIntB]
  | c :: r =>
    by_cases h48 : c.toNat = 48
    · rw [if_pos (Or.inl (by simp [h48]))]
      simp [modelW, h48]
    · cases hd : (c :: r).all digB with
      | false =>
        rw [if_pos (Or.inr rfl)]
        simp only [modelW, h48, if_false, mw_bad _ 0 hd]
      | true =>
        rw [if_neg (by simp [h48])]
        have hp := parse_digits (c :: r) (by simp) hd
        simp only [modelW, h48, if_false]
        cases hm : mw 0 (c :: r) with
        | none =>
          rw [hm] at hp
          cases hq : Lib.parseIntB 64 (c :: r) <;> rw [hq] at hp <;> simp only [okOf, asInt] at hp ⊢
          cases hp
        | some u =>
          rw [hm] at hp
          have hu := mw_val _ _ _ hm
          have hdc := (digB_iff c).1 (by rw [List.all_cons, Bool.and_eq_true] at hd; exact hd.1)
          have hpos := val_pos c r (by omega)
          cases hq : Lib.parseIntB 64 (c :: r) <;> rw [hq] at hp <;> simp only [okOf, asInt] at hp ⊢
          · obtain rfl := Option.some.inj hp
            by_cases hx : mx < (u : Int)
            · rw [if_pos hx, if_pos (Or.inr hx)]
            · rw [if_neg hx, if_neg (by omega)]
          all_goals cases hp

/-- What setText takes: the text is the numeral of the number. -/
theorem setW_some (l : List UInt8) (mx n : Int) (h : setW l mx = some n) : 1 ≤ n ∧ n ≤ mx ∧ n < 9223372036854775808 ∧ Lib.itoa n = l := by
  rw [← modelW_eq] at h
  match l with
  | [] => simp [modelW] at h
  | c :: r =>
    unfold modelW at h
    by_cases h48 : c.toNat = 48
    · simp [h48] at h
    · simp only [h48, if_false] at h
      cases hd : (c :: r).all digB with
      | false => rw [mw_bad _ 0 hd] at h; cases h
      | true =>
        cases hm : mw 0 (c :: r) with
        | none => rw [hm] at h; cases h
        | some u =>
          rw [hm] at h
          have hdc := (digB_iff c).1 (by rw [List.all_cons, Bool.and_eq_true] at hd; exact hd.1)
          have hu := mw_val _ _ _ hm
          have hb := mw_le _ _ _ (by omega) hm
          have hpos := val_pos c r (by omega)
          have hdec := dec_val _ (c :: r) rfl (by simp) hd (by simpa using h48)
          rw [← hu] at hdec
          dsimp only at h
          by_cases hx : mx < (u : Int)
          · rw [if_pos hx] at h; cases h
          · rw [if_neg hx] at h
            obtain rfl := Option.some.inj h
            refine ⟨by omega, by omega, by omega, ?_⟩
            unfold Lib.itoa
            rw [if_neg (by omega)]
            simpa using hdec

/-- Every number of 1..mx, written, is read back. -/
theorem setW_itoa (n mx : Int) (h1 : 1 ≤ n) (h2 : n ≤ mx) (h3 : n < 9223372036854775808) : setW (Lib.itoa n) mx = some n := by
  obtain ⟨u, rfl⟩ : ∃ u : Nat, n = u := ⟨n.toNat, by omega⟩
  obtain ⟨f1, f2, f3, f4⟩ := dec_facts u
  have f5 := f4 (by omega)
  have e : Lib.itoa (u : Int) = Lib.decDigits u := by unfold Lib.itoa; rw [if_neg (by omega)]; simp
  rw [e, ← modelW_eq]
  have hm := mw_of_val (Lib.decDigits u) 0 f1 (by omega)
  rw [f2] at hm
  match hl : Lib.decDigits u, f3 with
  | c :: r, _ =>
    rw [hl] at f5 hm
    have h48 : c.toNat ≠ 48 := by simpa using f5
    unfold modelW
    simp only [h48, if_false, hm]
    rw [if_neg (by omega)]

/-- A negative number's text is refused. -/
theorem setW_neg (n mx : Int) (h : n < 0) : setW (Lib.itoa n) mx = none := by
  unfold setW Lib.itoa
  rw [if_pos h, if_pos (Or.inr ?_)]
  rw [List.all_cons, show digB 45 = false by decide, Bool.false_and]

/-! ### strings.ContainsFunc(text, notDigit) -/
def ndB (r : Nat) : Bool := decide (r < 48) || decide (57 < r)

theorem decode_high (s : ByteArray) (i : Nat) (h : 128 ≤ (s.get! i).toNat) : 128 ≤ (Utf8.decode s i).1 := by
  rw [Lib.decode_at]
  unfold Lib.decodeN
  rw [if_neg (by omega)]
  repeat' split
  all_goals simp only []
  all_goals omega

theorem decode_low (s : ByteArray) (i : Nat) (h : (s.get! i).toNat < 128) : Utf8.decode s i = ((s.get! i).toNat, 1) := by
  rw [Lib.decode_at]
  unfold Lib.decodeN
  rw [if_pos h]

theorem decode_nd (s : ByteArray) (i : Nat) : ndB (Utf8.decode s i).1 = !digB (s.get! i) := by
  by_cases h : (s.get! i).toNat < 128
  · rw [decode_low s i h]
    by_cases hd : digB (s.get! i) = true
    · have := (digB_iff _).1 hd
      rw [hd]; simp [ndB]; omega
    · have hd' : digB (s.get! i) = false := by simpa using hd
      have := (digB_false _).1 hd'
      rw [hd']; simp [ndB]; omega
  · have h1 := decode_high s i (by omega)
    have hd' : digB (s.get! i) = false := (digB_false _).2 (by omega)
    rw [hd']; simp [ndB]; omega

theorem get!_eq (s : ByteArray) (i : Nat) (h : i < s.size) : s.data.toList[i]? = some (s.get! i) := by
  have h' : i < s.data.size := h
  show _ = some (s.data[i]!)
  rw [getElem!_pos s.data i h']
  simp

theorem drop_get (s : ByteArray) (i : Nat) (h : i < s.size) : s.data.toList.drop i = s.get! i :: s.data.toList.drop (i + 1) := by
  have h' : i < s.data.toList.length := by simpa using h
  rw [List.drop_eq_getElem_cons h']
  congr 1
  have := get!_eq s i h
  rw [List.getElem?_eq_getElem h'] at this
  exact Option.some.inj this

end Go.Proofs.Qxb6000013aDoor
