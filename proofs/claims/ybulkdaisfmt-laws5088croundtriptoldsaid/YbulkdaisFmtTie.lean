/-
  DERIVED. GIVEN WITH THE SEED: THE PROGRAM's TIES (one call each: nine closed facts by the kernel) AND EACH ROW's TIE, after the 31st guide's Derived/Test/Toyas{Tie, Card}.lean. No idea stands in it: it is a product of the set-up. Laid BY PROGRAM, IN A SANDBOX (cutbox-door.mjs). By AI agents, Wed Nov 11 2026. No macro, syntax, notation, axiom, sorry.
-/
import Derived.Test.YbulkdaisFmtRows
import Derived.LaidByTextLater
import Derived.SevenTiedAt
import Derived.LaidSub
import Derived.LaidOnce
namespace Go.Proofs.YbulkdaisFmt
open Go
set_option maxRecDepth 100000
theorem seatTie1 : Ybaf.prog.laidByTextLater [("io.EOF", Rows.laid_io_EOF), ("io.ErrUnexpectedEOF", Rows.laid_io_ErrUnexpectedEOF), ("chorale.example/chorale/internal/wire.errIntOverflow", Rows.laid_chorale_example_chorale_internal_wire_errIntOverflow)] [.sentinel, .sentinel, .called] true :=
  Program.laidByTextLater_by_one 66 8 2 (by kernel_rfl) (by kernel_rfl) (by kernel_rfl) (by kernel_rfl) (by kernel_rfl) (by kernel_rfl) (fun _ _ => by kernel_rfl)
theorem noOwnUnsafe : Ybaf.pinned.checked.prog.headLifts.contains "ownunsafe" = false := by kernel_rfl
theorem tie : Ybaf.prog.laidByTextLater [("io.EOF", Rows.laid_io_EOF), ("io.ErrUnexpectedEOF", Rows.laid_io_ErrUnexpectedEOF), ("chorale.example/chorale/internal/wire.errIntOverflow", Rows.laid_chorale_example_chorale_internal_wire_errIntOverflow)] [.sentinel, .sentinel, .called] true :=
  Program.laidByTextLater.sub seatTie1 ["io.EOF", "io.ErrUnexpectedEOF", "chorale.example/chorale/internal/wire.errIntOverflow"] (by kernel_rfl) (by kernel_rfl)
theorem lawS5088CRoundTrip_row_tie : Rows.lawS5088CRoundTripRow.laidByTextAt .later Ybaf.pinned [.sentinel, .sentinel, .called] true :=
  OpenClaim.laidByTextAt_later rfl rfl tie noOwnUnsafe
theorem lawS5088CTruncated_row_tie : Rows.lawS5088CTruncatedRow.laidByTextAt .later Ybaf.pinned [.sentinel, .sentinel, .called] true :=
  OpenClaim.laidByTextAt_later rfl rfl tie noOwnUnsafe
theorem lawS5088COutOfOrder_row_tie : Rows.lawS5088COutOfOrderRow.laidByTextAt .later Ybaf.pinned [.sentinel, .sentinel, .called] true :=
  OpenClaim.laidByTextAt_later rfl rfl tie noOwnUnsafe
end Go.Proofs.YbulkdaisFmt
