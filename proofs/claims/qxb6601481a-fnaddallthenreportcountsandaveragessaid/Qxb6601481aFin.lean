/-
  SEAT b6601481a: THE LAW (6): what its means are.
-/
import Derived.Test.Qxb6601481aLaw0
namespace Go.Proofs.Qxb6601481a
open Go.RowKit Go.Deep
open Ieee

theorem sw : double.signWeight = 9223372036854775808 := by kernel_rfl
theorem bi : double.binade = 4503599627370496 := by kernel_rfl
theorem ir : double.infRung = 9218868437227405312 := by kernel_rfl
theorem read_nan (s r b : Nat) (hs : s < 2) (hr : r < 4503599627370495) (hb : b = s * 9223372036854775808 + 9218868437227405313 + r) : ∃ g p, double.read b = .nan g p := by
  have hm : b % 9223372036854775808 = 9218868437227405313 + r := by
    rcases (show s = 0 ∨ s = 1 by omega) with rfl | rfl <;> omega
  have h1 : ¬ b % 9223372036854775808 < 4503599627370496 := by omega
  have h2 : ¬ b % 9223372036854775808 < 9218868437227405312 := by omega
  have h3 : ¬ b % 9223372036854775808 = 9218868437227405312 := by omega
  unfold Format.read
  rw [sw, bi, ir]
  simp only [h1, h2, h3, if_false]
  exact ⟨_, _, rfl⟩
theorem nan_is (V : World) (x y : Nat) : ∃ s r : Nat, s < 2 ∧ r < 2 ^ 52 - 1 ∧ nanOf V x y = s * 2 ^ 63 + 0x7ff0000000000000 + 1 + r :=
  ⟨V.tape V.drawn (.nanBits .f64 x y) % 2, V.tape V.drawn (.nanBits .f64 x y) / 2 % (2 ^ 52 - 1), Nat.mod_lt _ (by omega), Nat.mod_lt _ (by omega), by simp only [nanOf, Question.cut]⟩
theorem lits : (2 : Nat) ^ 63 = 9223372036854775808 ∧ (2 : Nat) ^ 52 - 1 = 4503599627370495 ∧ (0x7ff0000000000000 : Nat) + 1 = 9218868437227405313 := by decide
theorem nan_read (V : World) (x y : Nat) : ∃ g p, double.read (nanOf V x y) = .nan g p := by
  obtain ⟨s, r, hs, hr, hb⟩ := nan_is V x y
  refine read_nan s r _ hs (by rw [lits.2.1] at hr; exact hr) ?_
  rw [hb, lits.1, Nat.add_assoc (s * 9223372036854775808), lits.2.2]
theorem nan_order (V : World) (x y : Nat) : FloatKind.f64.format.order (nanOf V x y) (nanOf V x y) = none := by
  obtain ⟨g, p, h⟩ := nan_read V x y
  show (double.read (nanOf V x y)).order (double.read (nanOf V x y)) = none
  rw [h]
  rfl

theorem mean_exists (o : Nat → Out) (n : Nat) (h : Small o n) (hn : n ≤ 4096) : ∃ mean', MeanIs 0 (tot o n).rs (tot o n).dec mean' ∧ (((tot o n).dec = 0 ∧ mean' = 0) ∨ (0 < (tot o n).dec ∧ notGt (FloatKind.f64.format.order (floatOfInt .f64 (rlo o n)) mean') ∧ notGt (FloatKind.f64.format.order mean' (floatOfInt .f64 (tot o n).rmax)))) := by
  by_cases hd : (tot o n).dec = 0
  · exact ⟨0, .inl ⟨by omega, rfl⟩, .inl ⟨hd, rfl⟩⟩
  · have h1 := h.dec
    have h2 := h.rs
    have h3 := h.rmax
    have h4 := h.brlo
    obtain ⟨r, hr, hl, hh, _⟩ := div_between (tot o n).rs (tot o n).dec (rlo o n) (tot o n).rmax (by omega) (by omega) (by omega) (by omega) (by omega) h.lo h.hi
    exact ⟨r, .inr ⟨by omega, hr⟩, .inr ⟨by omega, hl, hh⟩⟩

/-- what the mean of the phases is -/
def PhOk (o : Nat → Out) (n : Nat) (pm : Nat) : Prop := (n = 0 ∧ FloatKind.f64.format.order pm pm = none) ∨ (0 < n ∧ notGt (FloatKind.f64.format.order (floatOfInt .f64 (plo o n)) pm) ∧ notGt (FloatKind.f64.format.order pm (floatOfInt .f64 (phi o n))))

theorem phase_is (o : Nat → Out) (n : Nat) (h : Small o n) (hn : n ≤ 4096) : PhIs (tot o n).ps (n : Int) (PhOk o n) := by
  by_cases h0 : n = 0
  · subst h0
    refine .inr ⟨by kernel_rfl, fun V => .inl ⟨rfl, nan_order _ _ _⟩⟩
  · have h2 := h.ps
    have h3 := h.bplo
    have h4 := h.bphi
    obtain ⟨r, hr, hl, hh, _⟩ := div_between (tot o n).ps (n : Int) (plo o n) (phi o n) (by omega) (by omega) (by omega) (by omega) (by omega) h.plo' h.phi'
    exact .inl ⟨r, hr, .inr ⟨by omega, hl, hh⟩⟩
end Go.Proofs.Qxb6601481a
