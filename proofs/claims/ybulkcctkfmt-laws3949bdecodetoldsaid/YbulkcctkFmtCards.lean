/-
  DERIVED. GIVEN WITH THE SEED: THE CARDS: each row of YbulkcctkFmtRows.lean that lists a variable, with what it lists TIED to the program's text (the seventh form; the later family's looks); each row that meets fmt, with fmt's text TOLD by the authors' own Lean function (tested against real Go, not proved from fmt's source: count such statements apart). THE CARD IS WHAT COUNTS. Prove the row's statement (the work); the ties are given (YbulkcctkFmtTie.lean); close each card by the builder's one call (the guide's Derived/Test/ToyasCard.lean, 'card_holds'). Laid BY PROGRAM, IN A SANDBOX (cutbox-door.mjs). By AI agents, Wed Nov 11 2026. No macro, syntax, notation, axiom, sorry.
-/
import Derived.Test.YbulkcctkFmtRows
import GoSem.ClaimSeven
namespace Go.Proofs.YbulkcctkFmt
namespace Rows

/-- THE TOLD AND TIED CARD OF 'delivery.LawS3949AModel'. -/
def lawS3949AModelCard : Claim7 := { stood := { row := lawS3949AModelRow, standIns := [], harness := (true, "a8f0c04ff0626f167d379b060c661faf4f13a0ee5a6a10a6b1dab7d92c9074d5"), looks := true }, told := true, laidByText := true, laidKinds := [.sentinel, .widerDeep], laidTests := true, laidLooks := .later, goes := false }
def LawS3949AModelToldSaid : Prop := Claim7.holds Ybaf.pinned (.plain (OpenSpec.ofChange lawS3949AModelSpec)) lawS3949AModelCard
/-- ITS FALSE NEIGHBOUR. Refute it at one input. -/
def LawS3949AModelToldWrongFalsely : Prop := Claim7.holds Ybaf.pinned (.plain (OpenSpec.ofChange lawS3949AModelWrong)) lawS3949AModelCard

/-- THE TOLD AND TIED CARD OF 'delivery.LawS3949ARoundTrip'. -/
def lawS3949ARoundTripCard : Claim7 := { stood := { row := lawS3949ARoundTripRow, standIns := [], harness := (true, "a8f0c04ff0626f167d379b060c661faf4f13a0ee5a6a10a6b1dab7d92c9074d5"), looks := true }, told := true, laidByText := true, laidKinds := [.sentinel, .widerDeep], laidTests := true, laidLooks := .later, goes := false }
def LawS3949ARoundTripToldSaid : Prop := Claim7.holds Ybaf.pinned (.plain (OpenSpec.ofChange lawS3949ARoundTripSpec)) lawS3949ARoundTripCard
/-- ITS FALSE NEIGHBOUR. Refute it at one input. -/
def LawS3949ARoundTripToldWrongFalsely : Prop := Claim7.holds Ybaf.pinned (.plain (OpenSpec.ofChange lawS3949ARoundTripWrong)) lawS3949ARoundTripCard

/-- THE TOLD AND TIED CARD OF 'stack.LawS3949BDecode'. -/
def lawS3949BDecodeCard : Claim7 := { stood := { row := lawS3949BDecodeRow, standIns := [], harness := (true, "a8f0c04ff0626f167d379b060c661faf4f13a0ee5a6a10a6b1dab7d92c9074d5"), looks := true }, told := true, laidByText := true, laidKinds := [.sentinel], laidTests := true, laidLooks := .later, goes := false }
def LawS3949BDecodeToldSaid : Prop := Claim7.holds Ybaf.pinned (.plain (OpenSpec.ofChange lawS3949BDecodeSpec)) lawS3949BDecodeCard
/-- ITS FALSE NEIGHBOUR. Refute it at one input. -/
def LawS3949BDecodeToldWrongFalsely : Prop := Claim7.holds Ybaf.pinned (.plain (OpenSpec.ofChange lawS3949BDecodeWrong)) lawS3949BDecodeCard

/-- THE TOLD AND TIED CARD OF 'stack.LawS3949BRoundTrip'. -/
def lawS3949BRoundTripCard : Claim7 := { stood := { row := lawS3949BRoundTripRow, standIns := [], harness := (true, "a8f0c04ff0626f167d379b060c661faf4f13a0ee5a6a10a6b1dab7d92c9074d5"), looks := true }, told := true, laidByText := true, laidKinds := [.sentinel], laidTests := true, laidLooks := .later, goes := false }
def LawS3949BRoundTripToldSaid : Prop := Claim7.holds Ybaf.pinned (.plain (OpenSpec.ofChange lawS3949BRoundTripSpec)) lawS3949BRoundTripCard
/-- ITS FALSE NEIGHBOUR. Refute it at one input. -/
def LawS3949BRoundTripToldWrongFalsely : Prop := Claim7.holds Ybaf.pinned (.plain (OpenSpec.ofChange lawS3949BRoundTripWrong)) lawS3949BRoundTripCard
end Rows
end Go.Proofs.YbulkcctkFmt
