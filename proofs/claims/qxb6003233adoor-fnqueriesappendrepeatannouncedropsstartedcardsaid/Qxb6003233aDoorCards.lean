/-
  DERIVED. GIVEN WITH THE SEED: THE CARDS: each row of Qxb6003233aDoorRows.lean that lists a variable, with what it lists TIED to the program's text (the seventh form; the later family's looks); each row that meets fmt, with fmt's text TOLD by the authors' own Lean function (tested against real Go, not proved from fmt's source: count such statements apart). THE CARD IS WHAT COUNTS. Prove the row's statement (the work); the ties are given (Qxb6003233aDoorTie.lean); close each card by the builder's one call (the guide's Derived/Test/ToyasCard.lean, 'card_holds'). Laid BY PROGRAM, IN A SANDBOX (cutbox-door.mjs). By AI agents, Wed Nov 11 2026. No macro, syntax, notation, axiom, sorry.
-/
import Derived.Test.Qxb6003233aDoorRows
import GoSem.ClaimSeven
namespace Go.Proofs.Qxb6003233aDoor
namespace Rows

/-- THE TIED CARD OF 'zzlaws_internal_load_b1.FnAppendPaddedSortsAsNumbers'. -/
def fnAppendPaddedSortsAsNumbersCard : Claim7 := { stood := { row := fnAppendPaddedSortsAsNumbersRow, standIns := [], harness := (true, "865fd91810e8f0359fbe35c56b1e793ebaf496237f855cd0e771379da9ae4510"), looks := false }, kinds := [], alts := [], laidByText := true, laidKinds := [.data, .data, .data], laidTests := true, laidLooks := .later }
def FnAppendPaddedSortsAsNumbersCardSaid : Prop := Claim7.holds Tryd.pinned (.plain (OpenSpec.ofChange fnAppendPaddedSortsAsNumbersSpec)) fnAppendPaddedSortsAsNumbersCard

/-- THE TIED CARD OF 'zzlaws_internal_load_b1.FnQueriesAppendIsTheDocumentedAnnounce'. -/
def fnQueriesAppendIsTheDocumentedAnnounceCard : Claim7 := { stood := { row := fnQueriesAppendIsTheDocumentedAnnounceRow, standIns := [], harness := (true, "865fd91810e8f0359fbe35c56b1e793ebaf496237f855cd0e771379da9ae4510"), looks := false }, kinds := [], alts := [], laidByText := true, laidKinds := [.data, .data, .data], laidTests := true, laidLooks := .later }
def FnQueriesAppendIsTheDocumentedAnnounceCardSaid : Prop := Claim7.holds Tryd.pinned (.plain (OpenSpec.ofChange fnQueriesAppendIsTheDocumentedAnnounceSpec)) fnQueriesAppendIsTheDocumentedAnnounceCard

/-- THE TIED CARD OF 'zzlaws_internal_load_b1.FnQueriesAppendRepeatAnnounceDropsStarted'. -/
def fnQueriesAppendRepeatAnnounceDropsStartedCard : Claim7 := { stood := { row := fnQueriesAppendRepeatAnnounceDropsStartedRow, standIns := [], harness := (true, "865fd91810e8f0359fbe35c56b1e793ebaf496237f855cd0e771379da9ae4510"), looks := false }, kinds := [], alts := [], laidByText := true, laidKinds := [.data, .data, .data], laidTests := true, laidLooks := .later }
def FnQueriesAppendRepeatAnnounceDropsStartedCardSaid : Prop := Claim7.holds Tryd.pinned (.plain (OpenSpec.ofChange fnQueriesAppendRepeatAnnounceDropsStartedSpec)) fnQueriesAppendRepeatAnnounceDropsStartedCard
end Rows
end Go.Proofs.Qxb6003233aDoor
