/-
  DERIVED. GIVEN WITH THE SEED: THE PROGRAM's TIES (one call each: nine closed facts by the kernel) AND EACH ROW's TIE, after the 31st guide's Derived/Test/Toyas{Tie, Card}.lean. No idea stands in it: it is a product of the set-up. Laid BY PROGRAM, IN A SANDBOX (cutbox-door.mjs). By AI agents, Wed Nov 11 2026. No macro, syntax, notation, axiom, sorry.
-/
import Derived.Test.YbulkoukDoorRows
import Derived.LaidByTextLater
import Derived.SevenTiedAt
import Derived.LaidSub
import Derived.LaidOnce
namespace Go.Proofs.YbulkoukDoor
open Go
set_option maxRecDepth 100000
theorem seatTie1 : Ybad.prog.laidByTextLater [("encoding/csv.ErrQuote", Rows.laid_encoding_csv_ErrQuote), ("encoding/csv.ErrFieldCount", Rows.laid_encoding_csv_ErrFieldCount), ("example.com/sluice/sluice.crlf", Rows.laid_example_com_sluice_sluice_crlf)] [.called, .called, .widerDeep] true :=
  Program.laidByTextLater_by_one 52 8 3 (by kernel_rfl) (by kernel_rfl) (by kernel_rfl) (by kernel_rfl) (by kernel_rfl) (by kernel_rfl) (fun _ _ => by kernel_rfl)
theorem noOwnUnsafe : Ybad.pinned.checked.prog.headLifts.contains "ownunsafe" = false := by kernel_rfl
theorem tie : Ybad.prog.laidByTextLater [("encoding/csv.ErrFieldCount", Rows.laid_encoding_csv_ErrFieldCount)] [.called] true :=
  Program.laidByTextLater.sub seatTie1 ["encoding/csv.ErrFieldCount"] (by kernel_rfl) (by kernel_rfl)
theorem lawS0764BExact_row_tie : Rows.lawS0764BExactRow.laidByTextAt .later Ybad.pinned [.called] true :=
  OpenClaim.laidByTextAt_later rfl rfl tie noOwnUnsafe
theorem lawS0764BNear_row_tie : Rows.lawS0764BNearRow.laidByTextAt .later Ybad.pinned [.called] true :=
  OpenClaim.laidByTextAt_later rfl rfl tie noOwnUnsafe
theorem tie2 : Ybad.prog.laidByTextLater [("encoding/csv.ErrQuote", Rows.laid_encoding_csv_ErrQuote), ("example.com/sluice/sluice.crlf", Rows.laid_example_com_sluice_sluice_crlf)] [.called, .widerDeep] true :=
  Program.laidByTextLater.sub seatTie1 ["encoding/csv.ErrQuote", "example.com/sluice/sluice.crlf"] (by kernel_rfl) (by kernel_rfl)
theorem lawS0764CModel_row_tie : Rows.lawS0764CModelRow.laidByTextAt .later Ybad.pinned [.called, .widerDeep] true :=
  OpenClaim.laidByTextAt_later rfl rfl tie2 noOwnUnsafe
theorem lawS0764CLazyNoError_row_tie : Rows.lawS0764CLazyNoErrorRow.laidByTextAt .later Ybad.pinned [.called, .widerDeep] true :=
  OpenClaim.laidByTextAt_later rfl rfl tie2 noOwnUnsafe
end Go.Proofs.YbulkoukDoor
