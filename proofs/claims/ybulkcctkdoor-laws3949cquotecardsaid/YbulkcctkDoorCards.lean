/-
  DERIVED. GIVEN WITH THE SEED: THE CARDS: each row of YbulkcctkDoorRows.lean that lists a variable, with what it lists TIED to the program's text (the seventh form; the later family's looks); each row that meets fmt, with fmt's text TOLD by the authors' own Lean function (tested against real Go, not proved from fmt's source: count such statements apart). THE CARD IS WHAT COUNTS. Prove the row's statement (the work); the ties are given (YbulkcctkDoorTie.lean); close each card by the builder's one call (the guide's Derived/Test/ToyasCard.lean, 'card_holds'). Laid BY PROGRAM, IN A SANDBOX (cutbox-door.mjs). By AI agents, Wed Nov 11 2026. No macro, syntax, notation, axiom, sorry.
-/
import Derived.Test.YbulkcctkDoorRows
import GoSem.ClaimSeven
namespace Go.Proofs.YbulkcctkDoor
namespace Rows

/-- THE TIED CARD OF 'trace.LawS3949CQuote'. -/
def lawS3949CQuoteCard : Claim7 := { stood := { row := lawS3949CQuoteRow, standIns := [], harness := (true, "5436fcecbddea1fd5ed5718243ce2e81c29718c450294ac2a29de0b7068d6895"), looks := false }, kinds := [], alts := [], laidByText := true, laidKinds := [.data, .data, .data], laidTests := true, laidLooks := .later }
def LawS3949CQuoteCardSaid : Prop := Claim7.holds Ybad.pinned (.plain (OpenSpec.ofChange lawS3949CQuoteSpec)) lawS3949CQuoteCard
end Rows
end Go.Proofs.YbulkcctkDoor
