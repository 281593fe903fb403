/-
  DERIVED. GIVEN WITH THE SEED: THE CARDS: each row of Qxb6002900aDoorRows.lean that lists a variable, with what it lists TIED to the program's text (the seventh form; the later family's looks); each row that meets fmt, with fmt's text TOLD by the authors' own Lean function (tested against real Go, not proved from fmt's source: count such statements apart). THE CARD IS WHAT COUNTS. Prove the row's statement (the work); the ties are given (Qxb6002900aDoorTie.lean); close each card by the builder's one call (the guide's Derived/Test/ToyasCard.lean, 'card_holds'). Laid BY PROGRAM, IN A SANDBOX (cutbox-door.mjs). By AI agents, Wed Nov 11 2026. No macro, syntax, notation, axiom, sorry.
-/
import Derived.Test.Qxb6002900aDoorRows
import GoSem.ClaimSeven
namespace Go.Proofs.Qxb6002900aDoor
namespace Rows

/-- THE TIED CARD OF 'zzlaws_internal_config_b1.FnWholeSetTextMatchesCanonicalDecimalModel'. -/
def fnWholeSetTextMatchesCanonicalDecimalModelCard : Claim7 := { stood := { row := fnWholeSetTextMatchesCanonicalDecimalModelRow, standIns := [], harness := (true, "f1f51885170578a791401b77ae89b436854a54e5ac29ae373878504a201c754b"), looks := true }, kinds := [], alts := [], laidByText := true, laidKinds := [.data, .data, .data, .sentinel, .sentinel], laidTests := true, laidLooks := .later }
def FnWholeSetTextMatchesCanonicalDecimalModelCardSaid : Prop := Claim7.holds Tryd.pinned (.plain (OpenSpec.ofChange fnWholeSetTextMatchesCanonicalDecimalModelSpec)) fnWholeSetTextMatchesCanonicalDecimalModelCard

/-- THE TIED CARD OF 'zzlaws_internal_config_b1.FnWindowStringThenSetTextRoundTrip'. -/
def fnWindowStringThenSetTextRoundTripCard : Claim7 := { stood := { row := fnWindowStringThenSetTextRoundTripRow, standIns := [], harness := (true, "f1f51885170578a791401b77ae89b436854a54e5ac29ae373878504a201c754b"), looks := true }, kinds := [], alts := [], laidByText := true, laidKinds := [.data, .data, .data, .sentinel, .sentinel], laidTests := true, laidLooks := .later }
def FnWindowStringThenSetTextRoundTripCardSaid : Prop := Claim7.holds Tryd.pinned (.plain (OpenSpec.ofChange fnWindowStringThenSetTextRoundTripSpec)) fnWindowStringThenSetTextRoundTripCard
end Rows
end Go.Proofs.Qxb6002900aDoor
