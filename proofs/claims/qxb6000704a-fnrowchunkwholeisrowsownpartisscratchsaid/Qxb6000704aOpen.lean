/-
  SEAT b6000704a: an argument of type [128]uint8 opened: 128 bytes; a slice of bytes opened: nil, or a row of cells.
-/
import Derived.Test.Qxb6000704aLaw5
import Derived.ProofKit
import Derived.OpenShut
import Derived.WideKeyArr2
import Derived.Stop.BytesEq
namespace Go.Proofs.Qxb6000704a
open Go.ChangeShapes Go.WideShapes Go.ChangeAt Go.RowKit Go.WideMaps
open Extern.Stop (cell)

theorem Try.own : ownKnob Try.prog.godebug = none := by kernel_rfl
theorem Try.laidOut : laidOutB Try.prog = true := by kernel_rfl
theorem cells5 : Try.prog.cellsOf 5 = 1 := by kernel_rfl
theorem arr32 : ArrKey Try.prog 32 5 128 := ⟨Try.underlying32, by kernel_rfl, cells5, by kernel_rfl⟩

theorem mapM_each {α β : Type} (f : α → Option β) : ∀ (L : List α) (ys : List β), L.mapM f = some ys → ∀ x ∈ L, ∃ y, f x = some y
  | [], _, _, x, hx => by cases hx
  | a :: L, ys, h, x, hx => by
    rw [List.mapM_cons] at h
    simp only [bind, Option.bind_eq_some_iff, pure, Option.some.injEq] at h
    obtain ⟨y, hy, zs, hzs, _⟩ := h
    rcases List.mem_cons.1 hx with rfl | hx
    · exact ⟨y, hy⟩
    · exact mapM_each f L zs hzs x hx

theorem byte_of {n : Int} (h : (Lit.int .u8 n).wf = true) : ∃ u : UInt8, Value.int .u8 n = cell u := by
  have hr : 0 ≤ n ∧ n < 256 := by
    simp [Lit.wf] at h
    have e1 : IntKind.u8.min = 0 := by decide
    have e2 : IntKind.u8.max = 255 := by decide
    omega
  refine ⟨UInt8.ofNat n.toNat, ?_⟩
  unfold cell
  congr 1
  simp
  omega

theorem bytes_of : ∀ (l : List Value), (∀ x ∈ l, ∃ u : UInt8, x = cell u) → ∃ xs : List UInt8, l = xs.map cell
  | [], _ => ⟨[], rfl⟩
  | a :: l, h => by
    obtain ⟨u, rfl⟩ := h a (by simp)
    obtain ⟨xs, rfl⟩ := bytes_of l fun x hx => h x (by simp [hx])
    exact ⟨u :: xs, rfl⟩

section
variable {H : Type} {enc : TypeId × Value → H} {W : World} {base : Nat} {sp : Nat → Bool} {held : Bool}

theorem open_bytes128 {r : Reach} {b0 : Nat} {v : Value} {d : DataW H} {ps : List MemPlace} (hv : Value.okWide Try.prog W r b0 32 v) (hd : DataW.Trod enc Try.prog W base sp held 32 v d ps) :
    ∃ xs : List UInt8, v = .agg (xs.map cell).toArray ∧ xs.length = 128 := by
  obtain ⟨cs, rfl, hn⟩ := okWide_arr arr32 hv
  obtain ⟨fuel, hf⟩ := hd
  cases fuel with
  | zero => simp [DataW.trod] at hf
  | succ m =>
    rw [DataW.trod_step] at hf
    unfold DataW.trodStep at hf
    simp only [arr32.hu, Value.cells] at hf
    rw [if_pos (by rw [arr32.size]; simpa using hn)] at hf
    simp only [Option.map_eq_some_iff] at hf
    obtain ⟨ys, hy, _⟩ := hf
    have each : ∀ x ∈ cs.toList, ∃ u : UInt8, x = cell u := by
      intro x hx
      obtain ⟨i, hi, rfl⟩ := List.mem_iff_getElem.1 hx
      obtain ⟨y, h1⟩ := mapM_each _ _ _ hy i (by simp at hi ⊢; omega)
      obtain ⟨a, ea, _, wa⟩ := DataW.trod_int Try.underlying5 h1
      rw [cells5, Nat.mul_one] at ea
      have : cs.toList[i] = .int .u8 a := by
        have e2 : ((cs.toList.drop i).take 1)[0]? = some (Value.int .u8 a) := by rw [ea]; rfl
        rw [List.getElem?_take_of_lt (by omega), List.getElem?_drop, Nat.add_zero, List.getElem?_eq_getElem hi] at e2
        exact Option.some.inj e2
      rw [this]
      exact byte_of wa
    obtain ⟨xs, hxs⟩ := bytes_of _ each
    refine ⟨xs, ?_, ?_⟩
    · rw [← hxs]
    · have := congrArg List.length hxs
      simp at this
      omega

theorem open_row {r : Reach} {b0 : Nat} {v : Value} {d : DataW H} {ps : List MemPlace} (hv : Value.okWide Try.prog W r b0 31 v) (hd : DataW.Trod enc Try.prog W base sp held 31 v d ps) :
    ∃ (a : Option Addr) (len cap : Nat), v = .slice a len cap ∧ (len = 0 ∨ ∃ (b off : Nat) (z : Nat → Int), a = some ⟨b, off, none⟩ ∧ ∀ i, i < len → W.cell? ⟨b, off + i, none⟩ = some (.int .u8 (z i))) := by
  obtain ⟨a, len, cap, rfl⟩ := okWide_slice Try.underlying31 hv
  refine ⟨a, len, cap, rfl, ?_⟩
  obtain ⟨fuel, hf⟩ := hd
  rcases open_ints Try.underlying31 Try.underlying5 cells5 hf with ⟨h, _⟩ | ⟨ad, l, c, zs, h, _, hlc, _, hl, _, hc, _⟩
  · injection h with h _
    injection h with _ h2 _
    exact Or.inl h2
  · injection h with h _
    injection h with ha h2 h3
    subst ha
    subst h2
    subst h3
    have hl' : len ≤ zs.length := by
      rw [hl]
      split <;> omega
    rcases Nat.eq_zero_or_pos len with h0 | h0
    · exact Or.inl h0
    · obtain ⟨b, off, rfl, hh⟩ := ints_at hc (by omega)
      exact Or.inr ⟨b, off, fun i => zs.getD i 0, rfl, fun i hi => hh i (by omega)⟩
end

theorem all_one (xs : List UInt8) : ((xs.map cell).toArray).all (·.oneCell') = true := by
  simp [cell, Value.oneCell']
end Go.Proofs.Qxb6000704a
