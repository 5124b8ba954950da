/-
  DERIVED. GIVEN WITH THE SEED: THE CARDS: each row of Qxb6000013aDoorRows.lean that lists a variable, with what it lists TIED to the program's text (the seventh form; the later family's looks); each row that meets fmt, with fmt's text TOLD by the authors' own Lean function (tested against real Go, not proved from fmt's source: count such statements apart). THE CARD IS WHAT COUNTS. Prove the row's statement (the work); the ties are given (Qxb6000013aDoorTie.lean); close each card by the builder's one call (the guide's Derived/Test/ToyasCard.lean, 'card_holds'). Laid BY PROGRAM, IN A SANDBOX (cutbox-door.mjs). By AI agents, Wed Nov 11 2026. No macro, syntax, notation, axiom, sorry.
-/
import Derived.Test.Qxb6000013aDoorRows
import GoSem.ClaimSeven
namespace Go.Proofs.Qxb6000013aDoor
namespace Rows

/-- THE TIED CARD OF 'zzlaws_internal_config_b1.FnWholeSetTextMatchesDigitModel'. -/
def fnWholeSetTextMatchesDigitModelCard : Claim7 := { stood := { row := fnWholeSetTextMatchesDigitModelRow, standIns := [], harness := (true, "1e486c61da7baadc69bf4751c5303afd24ceeb64ad2264cfbd00a9819fa57890"), looks := true }, kinds := [], alts := [], laidByText := true, laidKinds := [.data, .data, .data, .sentinel, .sentinel], laidTests := true, laidLooks := .later }
def FnWholeSetTextMatchesDigitModelCardSaid : Prop := Claim7.holds Tryd.pinned (.plain (OpenSpec.ofChange fnWholeSetTextMatchesDigitModelSpec)) fnWholeSetTextMatchesDigitModelCard

/-- THE TIED CARD OF 'zzlaws_internal_config_b1.FnWholeCanonicalRoundTrip'. -/
def fnWholeCanonicalRoundTripCard : Claim7 := { stood := { row := fnWholeCanonicalRoundTripRow, standIns := [], harness := (true, "1e486c61da7baadc69bf4751c5303afd24ceeb64ad2264cfbd00a9819fa57890"), looks := true }, kinds := [], alts := [], laidByText := true, laidKinds := [.data, .data, .data, .sentinel, .sentinel], laidTests := true, laidLooks := .later }
def FnWholeCanonicalRoundTripCardSaid : Prop := Claim7.holds Tryd.pinned (.plain (OpenSpec.ofChange fnWholeCanonicalRoundTripSpec)) fnWholeCanonicalRoundTripCard

/-- THE TIED CARD OF 'zzlaws_internal_config_b1.FnWholeSetTextMonotoneInMax'. -/
def fnWholeSetTextMonotoneInMaxCard : Claim7 := { stood := { row := fnWholeSetTextMonotoneInMaxRow, standIns := [], harness := (true, "1e486c61da7baadc69bf4751c5303afd24ceeb64ad2264cfbd00a9819fa57890"), looks := true }, kinds := [], alts := [], laidByText := true, laidKinds := [.data, .data, .data, .sentinel, .sentinel], laidTests := true, laidLooks := .later }
def FnWholeSetTextMonotoneInMaxCardSaid : Prop := Claim7.holds Tryd.pinned (.plain (OpenSpec.ofChange fnWholeSetTextMonotoneInMaxSpec)) fnWholeSetTextMonotoneInMaxCard

/-- THE TIED CARD OF 'zzlaws_internal_config_b1.FnWindowStringReadBackByWhole'. -/
def fnWindowStringReadBackByWholeCard : Claim7 := { stood := { row := fnWindowStringReadBackByWholeRow, standIns := [], harness := (true, "1e486c61da7baadc69bf4751c5303afd24ceeb64ad2264cfbd00a9819fa57890"), looks := true }, kinds := [], alts := [], laidByText := true, laidKinds := [.data, .data, .data, .sentinel, .sentinel], laidTests := true, laidLooks := .later }
def FnWindowStringReadBackByWholeCardSaid : Prop := Claim7.holds Tryd.pinned (.plain (OpenSpec.ofChange fnWindowStringReadBackByWholeSpec)) fnWindowStringReadBackByWholeCard
end Rows
end Go.Proofs.Qxb6000013aDoor
