/-
  THE ROW's CLOSED FACTS, ONE BY ONE (together they outgrow the lid on memory).
-/
import Derived.Test.Qxb6000686aRows
import Derived.ProofKit
namespace Go.Proofs.Qxb6000686a.fnCliqueStepsOnCompleteGraph
open Go
set_option maxRecDepth 100000

/-! ### The head's words: the text of the head as a list of signs is given outright: the kernel does not take a long string apart within the lid. -/
def hA : List Char := [104, 97, 114, 110, 101, 115, 115].map Char.ofNat
def hB : List Char := [100, 57, 100, 102, 48, 98, 99, 57, 100, 56, 97, 101, 51, 51, 100, 101, 101, 48, 55, 56, 56, 53, 102, 50, 53, 53, 101, 97, 57, 48, 52, 101, 56, 49, 48, 51, 97, 49, 49, 52, 54, 100, 53, 53, 49, 102, 97, 101, 102, 99, 100, 99, 52, 98, 57, 49, 97, 54, 54, 100, 100, 102, 97, 51].map Char.ofNat
def hC : List Char := [99, 117, 116].map Char.ofNat
def hT : List Char := [97, 116, 32, 101, 120, 97, 109, 112, 108, 101, 46, 99, 111, 109, 47, 119, 97, 105, 116, 103, 114, 97, 112, 104, 47, 119, 97, 105, 116, 103, 114, 97, 112, 104, 47, 122, 122, 108, 97, 119, 115, 95, 105, 110, 116, 101, 114, 110, 97, 108, 95, 108, 111, 99, 107, 95, 98, 49, 46, 70, 110, 67, 108, 105, 113, 117, 101, 83, 116, 101, 112, 115, 79, 110, 67, 111, 109, 112, 108, 101, 116, 101, 71, 114, 97, 112, 104, 32, 101, 120, 97, 109, 112, 108, 101, 46, 99, 111, 109, 47, 119, 97, 105, 116, 103, 114, 97, 112, 104, 47, 119, 97, 105, 116, 103, 114, 97, 112, 104, 47, 122, 122, 108, 97, 119, 115, 95, 105, 110, 116, 101, 114, 110, 97, 108, 95, 108, 111, 99, 107, 95, 98, 49, 46, 70, 110, 67, 108, 105, 113, 117, 101, 83, 116, 101, 112, 115, 90, 101, 114, 111, 69, 120, 97, 99, 116, 108, 121, 87, 105, 116, 104, 111, 117, 116, 77, 117, 116, 117, 97, 108, 80, 97, 114, 116, 110, 101, 114, 32, 101, 120, 97, 109, 112, 108, 101, 46, 99, 111, 109, 47, 119, 97, 105, 116, 103, 114, 97, 112, 104, 47, 119, 97, 105, 116, 103, 114, 97, 112, 104, 47, 122, 122, 108, 97, 119, 115, 95, 105, 110, 116, 101, 114, 110, 97, 108, 95, 108, 111, 99, 107, 95, 98, 49, 46, 70, 110, 67, 108, 105, 113, 117, 101, 83, 116, 101, 112, 115, 76, 105, 109, 105, 116, 79, 110, 108, 121, 67, 97, 112, 115, 32, 101, 120, 97, 109, 112, 108, 101, 46, 99, 111, 109, 47, 119, 97, 105, 116, 103, 114, 97, 112, 104, 47, 119, 97, 105, 116, 103, 114, 97, 112, 104, 47, 122, 122, 108, 97, 119, 115, 95, 105, 110, 116, 101, 114, 110, 97, 108, 95, 108, 111, 99, 107, 95, 98, 49, 46, 70, 110, 83, 101, 97, 114, 99, 104, 76, 101, 97, 118, 101, 115, 69, 120, 97, 99, 116, 108, 121, 84, 104, 101, 82, 101, 97, 99, 104, 97, 98, 108, 101, 32, 101, 120, 97, 109, 112, 108, 101, 46, 99, 111, 109, 47, 119, 97, 105, 116, 103, 114, 97, 112, 104, 47, 119, 97, 105, 116, 103, 114, 97, 112, 104, 47, 122, 122, 108, 97, 119, 115, 95, 105, 110, 116, 101, 114, 110, 97, 108, 95, 108, 111, 99, 107, 95, 98, 49, 46, 70, 110, 83, 101, 97, 114, 99, 104, 79, 114, 100, 101, 114, 73, 115, 82, 101, 118, 101, 114, 115, 101, 84, 111, 112, 111, 108, 111, 103, 105, 99, 97, 108, 79, 110, 68, 65, 71, 32, 101, 120, 97, 109, 112, 108, 101, 46, 99, 111, 109, 47, 119, 97, 105, 116, 103, 114, 97, 112, 104, 47, 119, 97, 105, 116, 103, 114, 97, 112, 104, 47, 122, 122, 108, 97, 119, 115, 95, 105, 110, 116, 101, 114, 110, 97, 108, 95, 108, 111, 99, 107, 95, 98, 49, 46, 70, 110, 83, 101, 97, 114, 99, 104, 70, 111, 114, 103, 101, 116, 115, 69, 97, 114, 108, 105, 101, 114, 83, 101, 97, 114, 99, 104, 32, 101, 120, 97, 109, 112, 108, 101, 46, 99, 111, 109, 47, 119, 97, 105, 116, 103, 114, 97, 112, 104, 47, 119, 97, 105, 116, 103, 114, 97, 112, 104, 47, 122, 122, 108, 97, 119, 115, 95, 105, 110, 116, 101, 114, 110, 97, 108, 95, 108, 111, 99, 107, 95, 98, 49, 46, 70, 110, 67, 121, 99, 108, 101, 83, 116, 101, 112, 115, 67, 111, 117, 110, 116, 115, 67, 121, 99, 108, 101, 115, 84, 104, 114, 111, 117, 103, 104, 82, 111, 111, 116, 32, 101, 120, 97, 109, 112, 108, 101, 46, 99, 111, 109, 47, 119, 97, 105, 116, 103, 114, 97, 112, 104, 47, 119, 97, 105, 116, 103, 114, 97, 112, 104, 47, 122, 122, 108, 97, 119, 115, 95, 105, 110, 116, 101, 114, 110, 97, 108, 95, 108, 111, 99, 107, 95, 98, 49, 46, 70, 110, 67, 121, 99, 108, 101, 83, 116, 101, 112, 115, 76, 105, 109, 105, 116, 79, 110, 108, 121, 67, 97, 112, 115, 32, 101, 120, 97, 109, 112, 108, 101, 46, 99, 111, 109, 47, 119, 97, 105, 116, 103, 114, 97, 112, 104, 47, 119, 97, 105, 116, 103, 114, 97, 112, 104, 47, 122, 122, 108, 97, 119, 115, 95, 105, 110, 116, 101, 114, 110, 97, 108, 95, 108, 111, 99, 107, 95, 98, 49, 46, 70, 110, 67, 121, 99, 108, 101, 83, 116, 101, 112, 115, 90, 101, 114, 111, 69, 120, 97, 99, 116, 108, 121, 87, 105, 116, 104, 111, 117, 116, 67, 121, 99, 108, 101, 84, 104, 114, 111, 117, 103, 104, 82, 111, 111, 116].map Char.ofNat
theorem words_split : ∀ (a r : List Char), a.all (fun c => c != ' ') = true → wordsSigns (a ++ ' ' :: r) = a :: wordsSigns r
  | [], r, _ => rfl
  | c :: a, r, h => by
    rw [List.all_cons, Bool.and_eq_true] at h
    have ih := words_split a r h.2
    have hc : c ≠ ' ' := by simpa using h.1
    show wordsSigns (c :: (a ++ ' ' :: r)) = _
    rw [wordsSigns]
    · rw [ih]
    · exact hc
theorem e0 : Try.prog.initOrder = String.ofList (hA ++ ' ' :: (hB ++ ' ' :: (hC ++ ' ' :: hT))) := by kernel_rfl
theorem head_words : ∃ rest, wordsSigns Try.prog.initOrder.toList = hA :: hB :: hC :: rest := by
  rw [e0, String.toList_ofList, words_split hA _ (by decide), words_split hB _ (by decide), words_split hC _ (by decide)]
  exact ⟨_, rfl⟩
theorem lays : Try.prog.laysLater = false := by kernel_rfl
theorem noRefl : Try.prog.bearsReflect = false := by kernel_rfl
theorem door : Try.prog.doorFits [] = true := by kernel_rfl
theorem behind (rest : List (List Char)) : behindMainWord (hA :: hB :: hC :: rest) = hC :: rest := by kernel_rfl
theorem strip (rest : List (List Char)) : stripLifts liftWords (hC :: rest) = ([], hC :: rest) := by kernel_rfl

theorem mayEnter_of {P : Program} {a b c : List Char} {rest : List (List Char)} (h : wordsSigns P.initOrder.toList = a :: b :: c :: rest) (hb : behindMainWord (a :: b :: c :: rest) = c :: rest)
    (hs : stripLifts liftWords (c :: rest) = ([], c :: rest)) (hc : c = "cut".toList) (l : P.laysLater = false) (r : P.bearsReflect = false) (d : P.doorFits [] = true) : P.mayEnter = true := by
  unfold Program.mayEnter
  rw [h, hb]
  dsimp only
  rw [hs, l, r]
  dsimp only
  rw [d, hc]
  simp
theorem headLifts_of {P : Program} {a b c : List Char} {rest : List (List Char)} (h : wordsSigns P.initOrder.toList = a :: b :: c :: rest) (hb : behindMainWord (a :: b :: c :: rest) = c :: rest)
    (hs : stripLifts liftWords (c :: rest) = ([], c :: rest)) : P.headLifts = [] := by
  unfold Program.headLifts
  rw [h, hb, hs]
  dsimp only
  split <;> rfl
theorem liftsFinal_of {P : Program} {a b c : List Char} {rest : List (List Char)} (h : wordsSigns P.initOrder.toList = a :: b :: c :: rest) (hb : behindMainWord (a :: b :: c :: rest) = c :: rest)
    (hc : c = "cut".toList) (hl : P.headLifts = []) : P.liftsFinal = false := by
  unfold Program.liftsFinal
  rw [h, hb, hl, hc]
  simp
theorem make_of {P : Program} {a b c : List Char} {rest : List (List Char)} (h : wordsSigns P.initOrder.toList = a :: b :: c :: rest) (hb : behindMainWord (a :: b :: c :: rest) = c :: rest)
    (hc : c = "cut".toList) : P.make = some .cut := by
  unfold Program.make
  rw [h, hb, hc]
  rfl
theorem hC_cut : hC = "cut".toList := by kernel_rfl
theorem k24 : Try.prog.mayEnter = true := by
  obtain ⟨rest, h⟩ := head_words
  exact mayEnter_of h (behind rest) (strip rest) hC_cut lays noRefl door
theorem kLifts : Try.prog.liftsFinal = false := by
  obtain ⟨rest, h⟩ := head_words
  exact liftsFinal_of h (behind rest) hC_cut (headLifts_of h (behind rest) (strip rest))
theorem kMake : Try.prog.make = some .cut := by
  obtain ⟨rest, h⟩ := head_words
  exact make_of h (behind rest) hC_cut
theorem k24b : (Rows.fnCliqueStepsOnCompleteGraphRow.lifted == Try.prog.liftsFinal) = true := by rw [kLifts]; rfl
theorem k24c : (Try.prog.make == some Rows.fnCliqueStepsOnCompleteGraphRow.make) = true := by rw [kMake]; rfl

theorem k1 : Rows.fnCliqueStepsOnCompleteGraphRow.wf (OpenSpec.ofChange Rows.fnCliqueStepsOnCompleteGraphSpec) = true := by kernel_rfl
theorem k2 : laidOutB Try.prog = true := by kernel_rfl
theorem k3 : mapsRowed Try.prog = true := by kernel_rfl
theorem k4 : Try.f3.params.all (Try.prog.readableRec ·) = true := by kernel_rfl
theorem k5 : namedTie Try.prog Rows.fnCliqueStepsOnCompleteGraphRow.named Rows.fnCliqueStepsOnCompleteGraphSpec.vars = true := by kernel_rfl
theorem k7 : (Try.prog.stops == []) = true := by kernel_rfl
theorem k9 : (Try.prog.stopKnobs == []) = true := by kernel_rfl
theorem k10 : (Rows.fnCliqueStepsOnCompleteGraphRow.inPlace == Try.prog.inPlace 3) = true := by kernel_rfl
theorem k11 : (Rows.fnCliqueStepsOnCompleteGraphRow.unfollowed == Try.prog.unfollowed 3) = true := by kernel_rfl
theorem k12 : (Rows.fnCliqueStepsOnCompleteGraphRow.recurses == Try.prog.recurses 3) = true := by kernel_rfl
theorem k13 : (Rows.fnCliqueStepsOnCompleteGraphRow.named == Try.prog.varsNamed 3) = true := by kernel_rfl
theorem k6 : (Rows.fnCliqueStepsOnCompleteGraphRow.stops == []) = true := by kernel_rfl
theorem k8 : (Rows.fnCliqueStepsOnCompleteGraphRow.knobs == []) = true := by kernel_rfl
theorem k14 : (Rows.fnCliqueStepsOnCompleteGraphRow.maps == (Try.f3.params.toList ++ Rows.fnCliqueStepsOnCompleteGraphSpec.plain.varTypes Try.prog).any (Try.prog.mapsRec ·)) = true := by kernel_rfl
theorem k15 : (Rows.fnCliqueStepsOnCompleteGraphRow.ifaces == (Try.f3.params.toList ++ Rows.fnCliqueStepsOnCompleteGraphSpec.plain.varTypes Try.prog).any (Try.prog.ifacesRec ·)) = true := by kernel_rfl
theorem k16 : (Rows.fnCliqueStepsOnCompleteGraphRow.mapsOut == Try.prog.mapsAmong Try.f3.resultTypes.toList) = true := by kernel_rfl
theorem k17 : (Rows.fnCliqueStepsOnCompleteGraphRow.loops == (Try.f3.params.toList ++ Rows.fnCliqueStepsOnCompleteGraphSpec.plain.varTypes Try.prog).any (Try.prog.loopsFrom ·)) = true := by kernel_rfl
theorem k17b : (Rows.fnCliqueStepsOnCompleteGraphRow.wideKeys == (Try.f3.params.toList ++ Rows.fnCliqueStepsOnCompleteGraphSpec.plain.varTypes Try.prog ++ Try.f3.resultTypes.toList).any (Try.prog.wideKeysFrom ·)) = true := by kernel_rfl
theorem k18 : Rows.fnCliqueStepsOnCompleteGraphSpec.vars.all (Try.prog.varReadable ·) = true := by kernel_rfl
theorem k19 : Try.f3.resultTypes.all (fun t => Try.prog.readableRec t && decide (t < Try.prog.types.size)) = true := by kernel_rfl
theorem k20 : (Rows.fnCliqueStepsOnCompleteGraphRow.ifacesOut == Try.f3.resultTypes.toList.any (Try.prog.ifacesRec ·)) = true := by kernel_rfl
theorem k21 : (Rows.fnCliqueStepsOnCompleteGraphRow.loopsOut == Try.f3.resultTypes.toList.any (Try.prog.loopsFrom ·)) = true := by kernel_rfl
theorem k22 : (Rows.fnCliqueStepsOnCompleteGraphRow.plainKeys == Try.prog.plainKeys) = true := by kernel_rfl
theorem k23 : Rows.fnCliqueStepsOnCompleteGraphRow.shortTexts.isNone = true := by kernel_rfl
theorem k23b : Try.prog.stopsHeard = true := by kernel_rfl
theorem k25 : (Rows.fnCliqueStepsOnCompleteGraphRow.kinds == (if Rows.fnCliqueStepsOnCompleteGraphRow.domain.isEmpty then [] else Try.f3.params.toList.map fun t => match Try.prog.underlying t with | some (.int k) => some k | _ => none)) = true := by kernel_rfl
theorem k26 : (Rows.fnCliqueStepsOnCompleteGraphRow.pinned == Rows.fnCliqueStepsOnCompleteGraphRow.pinnedBy) = true := by kernel_rfl
theorem k27 : (Rows.fnCliqueStepsOnCompleteGraphRow.veiled == (Try.f3.params.toList ++ Rows.fnCliqueStepsOnCompleteGraphSpec.plain.varTypes Try.prog ++ Try.f3.resultTypes.toList).any (Try.prog.veiledRec ·)) = true := by kernel_rfl
theorem k28 : Rows.fnCliqueStepsOnCompleteGraphRow.veiledFits Try.prog Try.f3.params.toList (Try.f3.params.toList ++ Rows.fnCliqueStepsOnCompleteGraphSpec.plain.varTypes Try.prog ++ Try.f3.resultTypes.toList) = true := by kernel_rfl

theorem facts : joinedFacts Try.prog 3 Try.f3 Rows.fnCliqueStepsOnCompleteGraphSpec Rows.fnCliqueStepsOnCompleteGraphRow = true := by
  unfold joinedFacts
  simp only [Bool.and_eq_true]
  exact ⟨⟨⟨⟨⟨⟨⟨⟨⟨⟨⟨⟨⟨⟨⟨⟨⟨⟨⟨⟨⟨⟨⟨⟨⟨⟨⟨⟨⟨⟨⟨k1, k2⟩, k3⟩, k4⟩, k5⟩, k6⟩, k7⟩, k8⟩, k9⟩, k10⟩, k11⟩, k12⟩, k13⟩, k14⟩, k15⟩, k16⟩, k17⟩, k17b⟩, k18⟩, k19⟩, k20⟩, k21⟩, k22⟩, k23⟩, k23b⟩, k24⟩, k24b⟩, k24c⟩, k25⟩, k26⟩, k27⟩, k28⟩
end Go.Proofs.Qxb6000686a.fnCliqueStepsOnCompleteGraph
