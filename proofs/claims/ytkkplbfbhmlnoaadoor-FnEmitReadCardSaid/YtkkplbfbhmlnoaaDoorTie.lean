/-
  DERIVED. GIVEN WITH THE SEED: THE PROGRAM's TIES (one call each: nine closed facts by the kernel) AND EACH ROW's TIE, after the 31st guide's Derived/Test/Toyas{Tie, Card}.lean. No idea stands in it: it is a product of the set-up. Laid BY PROGRAM, IN A SANDBOX (cutbox-door.mjs). By AI agents, Wed Nov 11 2026. No macro, syntax, notation, axiom, sorry.
-/
import Derived.Test.YtkkplbfbhmlnoaaDoorRows
import Derived.LaidByTextLater
import Derived.SevenTiedAt
import Derived.LaidSub
import Derived.LaidOnce
namespace Go.Proofs.YtkkplbfbhmlnoaaDoor
open Go
set_option maxRecDepth 100000
theorem seatTie1 : Tryd.prog.laidByTextLater [("errors.errorType", Rows.laid_errors_errorType), ("io.EOF", Rows.laid_io_EOF), ("io.ErrUnexpectedEOF", Rows.laid_io_ErrUnexpectedEOF)] [.handle, .sentinel, .sentinel] true :=
  Program.laidByTextLater_by_one 73 8 2 (by kernel_rfl) (by kernel_rfl) (by kernel_rfl) (by kernel_rfl) (by kernel_rfl) (by kernel_rfl) (fun _ _ => by kernel_rfl)
theorem noOwnUnsafe : Tryd.pinned.checked.prog.headLifts.contains "ownunsafe" = false := by kernel_rfl
theorem tie : Tryd.prog.laidByTextLater [("errors.errorType", Rows.laid_errors_errorType), ("io.EOF", Rows.laid_io_EOF), ("io.ErrUnexpectedEOF", Rows.laid_io_ErrUnexpectedEOF)] [.handle, .sentinel, .sentinel] true :=
  Program.laidByTextLater.sub seatTie1 ["errors.errorType", "io.EOF", "io.ErrUnexpectedEOF"] (by kernel_rfl) (by kernel_rfl)
theorem fnQuantization_row_tie : Rows.fnQuantizationRow.laidByTextAt .later Tryd.pinned [.handle, .sentinel, .sentinel] true :=
  OpenClaim.laidByTextAt_later rfl rfl tie noOwnUnsafe
theorem fnEmitRead_row_tie : Rows.fnEmitReadRow.laidByTextAt .later Tryd.pinned [.handle, .sentinel, .sentinel] true :=
  OpenClaim.laidByTextAt_later rfl rfl tie noOwnUnsafe
theorem fnBadTables_row_tie : Rows.fnBadTablesRow.laidByTextAt .later Tryd.pinned [.handle, .sentinel, .sentinel] true :=
  OpenClaim.laidByTextAt_later rfl rfl tie noOwnUnsafe
theorem fnBits_row_tie : Rows.fnBitsRow.laidByTextAt .later Tryd.pinned [.handle, .sentinel, .sentinel] true :=
  OpenClaim.laidByTextAt_later rfl rfl tie noOwnUnsafe
theorem fnNumbers_row_tie : Rows.fnNumbersRow.laidByTextAt .later Tryd.pinned [.handle, .sentinel, .sentinel] true :=
  OpenClaim.laidByTextAt_later rfl rfl tie noOwnUnsafe
theorem fnQuantizationUpto_row_tie : Rows.fnQuantizationUptoRow.laidByTextAt .later Tryd.pinned [.handle, .sentinel, .sentinel] true :=
  OpenClaim.laidByTextAt_later rfl rfl tie noOwnUnsafe
theorem fnEmitReadUpto_row_tie : Rows.fnEmitReadUptoRow.laidByTextAt .later Tryd.pinned [.handle, .sentinel, .sentinel] true :=
  OpenClaim.laidByTextAt_later rfl rfl tie noOwnUnsafe
theorem fnBadTablesUpto_row_tie : Rows.fnBadTablesUptoRow.laidByTextAt .later Tryd.pinned [.handle, .sentinel, .sentinel] true :=
  OpenClaim.laidByTextAt_later rfl rfl tie noOwnUnsafe
theorem fnBitsUpto_row_tie : Rows.fnBitsUptoRow.laidByTextAt .later Tryd.pinned [.handle, .sentinel, .sentinel] true :=
  OpenClaim.laidByTextAt_later rfl rfl tie noOwnUnsafe
theorem fnNumbersUpto_row_tie : Rows.fnNumbersUptoRow.laidByTextAt .later Tryd.pinned [.handle, .sentinel, .sentinel] true :=
  OpenClaim.laidByTextAt_later rfl rfl tie noOwnUnsafe
end Go.Proofs.YtkkplbfbhmlnoaaDoor
