/-
  DERIVED. GIVEN WITH THE SEED: THE PROGRAM's TIES (one call each: nine closed facts by the kernel) AND EACH ROW's TIE, after the 31st guide's Derived/Test/Toyas{Tie, Card}.lean. No idea stands in it: it is a product of the set-up. Laid BY PROGRAM, IN A SANDBOX (cutbox-door.mjs). By AI agents, Wed Nov 11 2026. No macro, syntax, notation, axiom, sorry.
-/
import Derived.Test.YbulkblgyDoorRows
import Derived.LaidByTextLater
import Derived.SevenTiedAt
import Derived.LaidSub
import Derived.LaidOnce
namespace Go.Proofs.YbulkblgyDoor
open Go
set_option maxRecDepth 100000
theorem seatTie1 : Ybad.prog.laidByTextLater [("net/netip.z4", Rows.laid_net_netip_z4), ("example.com/tideway/tideway/internal/wire.ErrBadHeader", Rows.laid_example_com_tideway_tideway_internal_wire_ErrBadHeader), ("example.com/tideway/tideway/internal/wire.ErrMustNotSkip", Rows.laid_example_com_tideway_tideway_internal_wire_ErrMustNotSkip), ("net/netip.z0", Rows.laid_net_netip_z0)] [.called, .sentinel, .sentinel, .zero] true :=
  Program.laidByTextLater_by_one 53 8 3 (by kernel_rfl) (by kernel_rfl) (by kernel_rfl) (by kernel_rfl) (by kernel_rfl) (by kernel_rfl) (fun _ _ => by kernel_rfl)
theorem noOwnUnsafe : Ybad.pinned.checked.prog.headLifts.contains "ownunsafe" = false := by kernel_rfl
theorem tie : Ybad.prog.laidByTextLater [("net/netip.z4", Rows.laid_net_netip_z4), ("example.com/tideway/tideway/internal/wire.ErrBadHeader", Rows.laid_example_com_tideway_tideway_internal_wire_ErrBadHeader), ("example.com/tideway/tideway/internal/wire.ErrMustNotSkip", Rows.laid_example_com_tideway_tideway_internal_wire_ErrMustNotSkip), ("net/netip.z0", Rows.laid_net_netip_z0)] [.called, .sentinel, .sentinel, .zero] true :=
  Program.laidByTextLater.sub seatTie1 ["net/netip.z4", "example.com/tideway/tideway/internal/wire.ErrBadHeader", "example.com/tideway/tideway/internal/wire.ErrMustNotSkip", "net/netip.z0"] (by kernel_rfl) (by kernel_rfl)
theorem lawS3105BModel_row_tie : Rows.lawS3105BModelRow.laidByTextAt .later Ybad.pinned [.called, .sentinel, .sentinel, .zero] true :=
  OpenClaim.laidByTextAt_later rfl rfl tie noOwnUnsafe
theorem lawS3105BRaw_row_tie : Rows.lawS3105BRawRow.laidByTextAt .later Ybad.pinned [.called, .sentinel, .sentinel, .zero] true :=
  OpenClaim.laidByTextAt_later rfl rfl tie noOwnUnsafe
end Go.Proofs.YbulkblgyDoor
