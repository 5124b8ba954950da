/-
  SEAT b6601481a: THE WALK OF zzBytes (18).
-/
import Derived.Test.Qxb6601481aOuts
namespace Go.Proofs.Qxb6601481a
open Go.RowKit Go.Deep
set_option linter.unusedVariables false
set_option linter.unusedSimpArgs false

/-- the outcomes behind a slice value -/
def OutsV (A B : Nat) (w : World) (a : Option Addr) (n : Nat) (o : Nat → Out) (s : Nat → Option Addr × Nat × Nat) : Prop := n = 0 ∨ ∃ b off, a = some ⟨b, off, none⟩ ∧ Outs A B w b off n o s

theorem outs_slot {A B : Nat} {w : World} {b off n : Nat} {o : Nat → Out} {s : Nat → Option Addr × Nat × Nat} (h : Outs A B w b off n o s) (i : Nat) (hi : i < n) (j : Nat) (v : Value) (hv : (oc (o i) (sv (s i)))[j]? = some v) : w.cell? ⟨b, off + i * 11 + j, none⟩ = some v :=
  h.row i hi j v (by simpa using hv)
theorem bools_len {A B : Nat} {w : World} {p : Option Addr × Nat × Nat} {n : Nat} {f : Nat → Bool} (h : Bools A B w (sv p) n f) : p.2.1 = n := by
  rcases h.it with ⟨a1, c1, h1, h2⟩ | ⟨b, off, cap, h1, _⟩
  · simp only [sv, Value.slice.injEq] at h1
    omega
  · simp only [sv, Value.slice.injEq] at h1
    omega

def lenTo (o : Nat → Out) : Nat → Nat
  | 0 => 0
  | k + 1 => lenTo o k + (o k).nl

theorem field8 (b x : Nat) (W : World) : (Instr.fieldAt 34 (.pointer (some ⟨b, x, none⟩)) 8).run Try.prog W = .ok (.pointer (some ⟨b, x + 8, none⟩)) W := by
  go_simp

set_option maxHeartbeats 2000000 in
set_option maxRecDepth 100000 in
theorem bytes_any (a : Option Addr) (n c : Nat) (o : Nat → Out) (s : Nat → Option Addr × Nat × Nat) (b1 b2 : Bool) (ph : Int) (w : World) (H : OutsV 0 w.heap.size w a n o s) :
    Calls Try.prog 18 #[.slice a n c, .bool b1, .bool b2, .int .i64 ph] w fun e w' => ((e = .returned (.bool false)) ∨ (e = .returned (.bool true) ∧ n ≤ 1048576 ∧ ∀ i, i < n → (o i).nl ≤ 1048576)) ∧ w' = w := by
  by_cases hn : n ≤ 1048576
  · have hn1 : ¬ (1048576 : Int) < (n : Int) := by omega
    go_enter Try.func18, Try.ntmps18
    go_wp2
    go_loopw [9, 10] (fun z i wr => ∃ k : Nat, k ≤ n ∧ i = .int .i64 k ∧ (∃ zz : Nat, z = .int .i64 zz ∧ zz ≤ 1048576) ∧ (∀ i, i < k → (o i).nl ≤ 1048576) ∧ wr = w) (fun _ i _ => n - (intOf i).toNat)
    case atStart => exact ⟨0, Nat.zero_le _, rfl, ⟨n, rfl, hn⟩, fun i hi => absurd hi (Nat.not_lt_zero _), rfl⟩
    case round =>
      obtain ⟨k, hk, rfl, ⟨zz, rfl, hz⟩, hall, hwr⟩ := hrel
      obtain rfl := hwr.symm
      clear hwr
      by_cases hlt : k < n
      · obtain ⟨b, off, rfl, HO⟩ : ∃ b off, a = some ⟨b, off, none⟩ ∧ Outs 0 w.heap.size w b off n o s := by
          rcases H with h | h
          · omega
          · exact h
        have q1 := outs_slot HO k hlt 8 (sv (s k)) rfl
        have hix := index51 b off n c k hlt
        have hl := bools_len (HO.bl k hlt)
        unfold sv at q1
        rw [hl] at q1
        have HA := hid0 hall
        clear hall H HO
        by_cases h1 : (o k).nl ≤ 1048576
        · have h1' : ¬ (1048576 : Int) < ((o k).nl : Int) := by omega
          by_cases h2 : zz + (o k).nl ≤ 1048576
          · have h2' : ¬ (1048576 : Int) < (zz : Int) + ((o k).nl : Int) := by omega
            go_wp2
            go_roundw
            case rel =>
              refine ⟨k + 1, by omega, by go_num, ⟨zz + (o k).nl, by go_num, h2⟩, fun i hi => ?_, trivial⟩
              by_cases e : i = k
              · subst e; exact h1
              · exact HA.out i (by omega)
            case measure => simp [intOf]; omega
          · have h2' : (1048576 : Int) < (zz : Int) + ((o k).nl : Int) := by omega
            go_wp2
            go_ret
            exact ⟨.inl rfl, rfl⟩
        · have h1' : (1048576 : Int) < ((o k).nl : Int) := by omega
          go_wp2
          go_ret
          exact ⟨.inl rfl, rfl⟩
      · have e : k = n := by omega
        subst e
        have HA := hid0 hall
        clear hall
        go_wp2
        go_ret
        exact ⟨.inr ⟨rfl, hn, HA.out⟩, rfl⟩
  · have hn1 : (1048576 : Int) < (n : Int) := by omega
    go_enter Try.func18, Try.ntmps18
    go_wp2
    go_ret
    exact ⟨.inl rfl, rfl⟩
end Go.Proofs.Qxb6601481a
