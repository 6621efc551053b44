/-
  DERIVED. GIVEN WITH THE SEED: THE PROGRAM's TIES (one call each: nine closed facts by the kernel) AND EACH ROW's TIE, after the 31st guide's Derived/Test/Toyas{Tie, Card}.lean. No idea stands in it: it is a product of the set-up. Laid BY PROGRAM, IN A SANDBOX (cutbox-door.mjs). By AI agents, Wed Nov 11 2026. No macro, syntax, notation, axiom, sorry.
-/
import Derived.Test.YbulkcctkFmtRows
import Derived.LaidByTextLater
import Derived.SevenTiedAt
import Derived.LaidSub
import Derived.LaidOnce
namespace Go.Proofs.YbulkcctkFmt
open Go
set_option maxRecDepth 100000
theorem seatTie1 : Ybaf.prog.laidByTextLater [("example.com/horologe/horologe/delivery.ErrMode", Rows.laid_example_com_horologe_horologe_delivery_ErrMode), ("example.com/horologe/horologe/delivery.modeNames", Rows.laid_example_com_horologe_horologe_delivery_modeNames), ("example.com/horologe/horologe/internal/stack.ErrWire", Rows.laid_example_com_horologe_horologe_internal_stack_ErrWire)] [.sentinel, .widerDeep, .sentinel] true :=
  Program.laidByTextLater_by_one 52 8 5 (by kernel_rfl) (by kernel_rfl) (by kernel_rfl) (by kernel_rfl) (by kernel_rfl) (by kernel_rfl) (fun _ _ => by kernel_rfl)
theorem noOwnUnsafe : Ybaf.pinned.checked.prog.headLifts.contains "ownunsafe" = false := by kernel_rfl
theorem tie : Ybaf.prog.laidByTextLater [("example.com/horologe/horologe/delivery.ErrMode", Rows.laid_example_com_horologe_horologe_delivery_ErrMode), ("example.com/horologe/horologe/delivery.modeNames", Rows.laid_example_com_horologe_horologe_delivery_modeNames)] [.sentinel, .widerDeep] true :=
  Program.laidByTextLater.sub seatTie1 ["example.com/horologe/horologe/delivery.ErrMode", "example.com/horologe/horologe/delivery.modeNames"] (by kernel_rfl) (by kernel_rfl)
theorem lawS3949AModel_row_tie : Rows.lawS3949AModelRow.laidByTextAt .later Ybaf.pinned [.sentinel, .widerDeep] true :=
  OpenClaim.laidByTextAt_later rfl rfl tie noOwnUnsafe
theorem lawS3949ARoundTrip_row_tie : Rows.lawS3949ARoundTripRow.laidByTextAt .later Ybaf.pinned [.sentinel, .widerDeep] true :=
  OpenClaim.laidByTextAt_later rfl rfl tie noOwnUnsafe
theorem tie2 : Ybaf.prog.laidByTextLater [("example.com/horologe/horologe/internal/stack.ErrWire", Rows.laid_example_com_horologe_horologe_internal_stack_ErrWire)] [.sentinel] true :=
  Program.laidByTextLater.sub seatTie1 ["example.com/horologe/horologe/internal/stack.ErrWire"] (by kernel_rfl) (by kernel_rfl)
theorem lawS3949BDecode_row_tie : Rows.lawS3949BDecodeRow.laidByTextAt .later Ybaf.pinned [.sentinel] true :=
  OpenClaim.laidByTextAt_later rfl rfl tie2 noOwnUnsafe
theorem lawS3949BRoundTrip_row_tie : Rows.lawS3949BRoundTripRow.laidByTextAt .later Ybaf.pinned [.sentinel] true :=
  OpenClaim.laidByTextAt_later rfl rfl tie2 noOwnUnsafe
end Go.Proofs.YbulkcctkFmt
