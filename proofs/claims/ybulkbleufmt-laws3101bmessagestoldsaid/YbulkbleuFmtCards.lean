/-
  DERIVED. GIVEN WITH THE SEED: THE CARDS: each row of YbulkbleuFmtRows.lean that lists a variable, with what it lists TIED to the program's text (the seventh form; the later family's looks); each row that meets fmt, with fmt's text TOLD by the authors' own Lean function (tested against real Go, not proved from fmt's source: count such statements apart). THE CARD IS WHAT COUNTS. Prove the row's statement (the work); the ties are given (YbulkbleuFmtTie.lean); close each card by the builder's one call (the guide's Derived/Test/ToyasCard.lean, 'card_holds'). Laid BY PROGRAM, IN A SANDBOX (cutbox-door.mjs). By AI agents, Wed Nov 11 2026. No macro, syntax, notation, axiom, sorry.
-/
import Derived.Test.YbulkbleuFmtRows
import GoSem.ClaimSeven
namespace Go.Proofs.YbulkbleuFmt
namespace Rows

/-- THE TOLD AND TIED CARD OF 'ipfix.LawS3101BMessages'. -/
def lawS3101BMessagesCard : Claim7 := { stood := { row := lawS3101BMessagesRow, standIns := [], harness := (true, "e9708c72f3f123dfeac5d7e84685af6c12c2732e33b454bb5196f0a0dc82c6ae"), looks := true }, told := true, laidByText := true, laidKinds := [.sentinel, .sentinel], laidTests := true, laidLooks := .later, goes := false }
def LawS3101BMessagesToldSaid : Prop := Claim7.holds Ybaf.pinned (.plain (OpenSpec.ofChange lawS3101BMessagesSpec)) lawS3101BMessagesCard
/-- ITS FALSE NEIGHBOUR. Refute it at one input. -/
def LawS3101BMessagesToldWrongFalsely : Prop := Claim7.holds Ybaf.pinned (.plain (OpenSpec.ofChange lawS3101BMessagesWrong)) lawS3101BMessagesCard

/-- THE TOLD AND TIED CARD OF 'ipfix.LawS3101BFailingWriter'. -/
def lawS3101BFailingWriterCard : Claim7 := { stood := { row := lawS3101BFailingWriterRow, standIns := [], harness := (true, "e9708c72f3f123dfeac5d7e84685af6c12c2732e33b454bb5196f0a0dc82c6ae"), looks := true }, told := true, laidByText := true, laidKinds := [.sentinel, .sentinel], laidTests := true, laidLooks := .later, goes := false }
def LawS3101BFailingWriterToldSaid : Prop := Claim7.holds Ybaf.pinned (.plain (OpenSpec.ofChange lawS3101BFailingWriterSpec)) lawS3101BFailingWriterCard
/-- ITS FALSE NEIGHBOUR. Refute it at one input. -/
def LawS3101BFailingWriterToldWrongFalsely : Prop := Claim7.holds Ybaf.pinned (.plain (OpenSpec.ofChange lawS3101BFailingWriterWrong)) lawS3101BFailingWriterCard

/-- THE TOLD CARD OF 'capture.LawS3101CRaw'. -/
def lawS3101CRawCard : Claim7 := { stood := { row := lawS3101CRawRow, standIns := [], harness := (true, "e9708c72f3f123dfeac5d7e84685af6c12c2732e33b454bb5196f0a0dc82c6ae"), looks := true }, told := true, goes := false }
def LawS3101CRawToldSaid : Prop := Claim7.holds Ybaf.pinned (.plain (OpenSpec.ofChange lawS3101CRawSpec)) lawS3101CRawCard
/-- ITS FALSE NEIGHBOUR. Refute it at one input. -/
def LawS3101CRawToldWrongFalsely : Prop := Claim7.holds Ybaf.pinned (.plain (OpenSpec.ofChange lawS3101CRawWrong)) lawS3101CRawCard

/-- THE TOLD CARD OF 'capture.LawS3101CBuilt'. -/
def lawS3101CBuiltCard : Claim7 := { stood := { row := lawS3101CBuiltRow, standIns := [], harness := (true, "e9708c72f3f123dfeac5d7e84685af6c12c2732e33b454bb5196f0a0dc82c6ae"), looks := true }, told := true, goes := false }
def LawS3101CBuiltToldSaid : Prop := Claim7.holds Ybaf.pinned (.plain (OpenSpec.ofChange lawS3101CBuiltSpec)) lawS3101CBuiltCard
/-- ITS FALSE NEIGHBOUR. Refute it at one input. -/
def LawS3101CBuiltToldWrongFalsely : Prop := Claim7.holds Ybaf.pinned (.plain (OpenSpec.ofChange lawS3101CBuiltWrong)) lawS3101CBuiltCard
end Rows
end Go.Proofs.YbulkbleuFmt
