/-
  DERIVED. GIVEN WITH THE SEED: THE CARDS: each row of YbulkblgyDoorRows.lean that lists a variable, with what it lists TIED to the program's text (the seventh form; the later family's looks); each row that meets fmt, with fmt's text TOLD by the authors' own Lean function (tested against real Go, not proved from fmt's source: count such statements apart). THE CARD IS WHAT COUNTS. Prove the row's statement (the work); the ties are given (YbulkblgyDoorTie.lean); close each card by the builder's one call (the guide's Derived/Test/ToyasCard.lean, 'card_holds'). Laid BY PROGRAM, IN A SANDBOX (cutbox-door.mjs). By AI agents, Wed Nov 11 2026. No macro, syntax, notation, axiom, sorry.
-/
import Derived.Test.YbulkblgyDoorRows
import GoSem.ClaimSeven
namespace Go.Proofs.YbulkblgyDoor
namespace Rows

/-- THE TIED CARD OF 'wire.LawS3105BModel'. -/
def lawS3105BModelCard : Claim7 := { stood := { row := lawS3105BModelRow, standIns := [], harness := (true, "901d02822203e4e2962234f57b8b71e5c48b1b5d41e40c110ca4d2fbd3d1e661"), looks := true }, kinds := [], alts := [], laidByText := true, laidKinds := [.called, .sentinel, .sentinel, .zero], laidTests := true, laidLooks := .later }
def LawS3105BModelCardSaid : Prop := Claim7.holds Ybad.pinned (.plain (OpenSpec.ofChange lawS3105BModelSpec)) lawS3105BModelCard

/-- THE TIED CARD OF 'wire.LawS3105BRaw'. -/
def lawS3105BRawCard : Claim7 := { stood := { row := lawS3105BRawRow, standIns := [], harness := (true, "901d02822203e4e2962234f57b8b71e5c48b1b5d41e40c110ca4d2fbd3d1e661"), looks := true }, kinds := [], alts := [], laidByText := true, laidKinds := [.called, .sentinel, .sentinel, .zero], laidTests := true, laidLooks := .later }
def LawS3105BRawCardSaid : Prop := Claim7.holds Ybad.pinned (.plain (OpenSpec.ofChange lawS3105BRawSpec)) lawS3105BRawCard
end Rows
end Go.Proofs.YbulkblgyDoor
