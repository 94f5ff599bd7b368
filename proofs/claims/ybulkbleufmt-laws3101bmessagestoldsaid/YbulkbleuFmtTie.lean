/-
  DERIVED. GIVEN WITH THE SEED: THE PROGRAM's TIES (one call each: nine closed facts by the kernel) AND EACH ROW's TIE, after the 31st guide's Derived/Test/Toyas{Tie, Card}.lean. No idea stands in it: it is a product of the set-up. Laid BY PROGRAM, IN A SANDBOX (cutbox-door.mjs). By AI agents, Wed Nov 11 2026. No macro, syntax, notation, axiom, sorry.
-/
import Derived.Test.YbulkbleuFmtRows
import Derived.LaidByTextLater
import Derived.SevenTiedAt
import Derived.LaidSub
import Derived.LaidOnce
namespace Go.Proofs.YbulkbleuFmt
open Go
set_option maxRecDepth 100000
theorem seatTie1 : Ybaf.prog.laidByTextLater [("example.com/flowvane/flowvane/internal/ipfix.ErrMalformed", Rows.laid_example_com_flowvane_flowvane_internal_ipfix_ErrMalformed), ("example.com/flowvane/flowvane/internal/ipfix.ErrRecordTooLong", Rows.laid_example_com_flowvane_flowvane_internal_ipfix_ErrRecordTooLong)] [.sentinel, .sentinel] true :=
  Program.laidByTextLater_by_one 47 8 2 (by kernel_rfl) (by kernel_rfl) (by kernel_rfl) (by kernel_rfl) (by kernel_rfl) (by kernel_rfl) (fun _ _ => by kernel_rfl)
theorem noOwnUnsafe : Ybaf.pinned.checked.prog.headLifts.contains "ownunsafe" = false := by kernel_rfl
theorem tie : Ybaf.prog.laidByTextLater [("example.com/flowvane/flowvane/internal/ipfix.ErrMalformed", Rows.laid_example_com_flowvane_flowvane_internal_ipfix_ErrMalformed), ("example.com/flowvane/flowvane/internal/ipfix.ErrRecordTooLong", Rows.laid_example_com_flowvane_flowvane_internal_ipfix_ErrRecordTooLong)] [.sentinel, .sentinel] true :=
  Program.laidByTextLater.sub seatTie1 ["example.com/flowvane/flowvane/internal/ipfix.ErrMalformed", "example.com/flowvane/flowvane/internal/ipfix.ErrRecordTooLong"] (by kernel_rfl) (by kernel_rfl)
theorem lawS3101BMessages_row_tie : Rows.lawS3101BMessagesRow.laidByTextAt .later Ybaf.pinned [.sentinel, .sentinel] true :=
  OpenClaim.laidByTextAt_later rfl rfl tie noOwnUnsafe
theorem lawS3101BFailingWriter_row_tie : Rows.lawS3101BFailingWriterRow.laidByTextAt .later Ybaf.pinned [.sentinel, .sentinel] true :=
  OpenClaim.laidByTextAt_later rfl rfl tie noOwnUnsafe
end Go.Proofs.YbulkbleuFmt
