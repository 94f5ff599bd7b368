/-
  NARROWER THAN 'FOR EVERY INPUT', by the rows' own cells (each row's printed sentence says how): LawS3101BMessages: ifaces, laid · LawS3101BFailingWriter: ifaces, laid.
  DERIVED. THE GIVEN ROWS OF THIS SEAT. 4 by the template 'for every input the law returns true; each argument reads behind the call as it read before'; 0 by the template 'total and deterministic' (their statements: YbulkbleuFmtTotals.lean).
  GIVEN WITH THE SEED: the statements are not yours to turn. If you find one false, say at which input.
  Laid BY PROGRAM, IN A SANDBOX (cutbox-rows.mjs): the forced cells as the released guide's own fill.sh prints them over the translation d96b4401ba91386c… (all of the seat's roots in one cut). By AI agents, Wed Nov 11 2026. No macro, syntax, notation, axiom, sorry.
-/
import Derived.Test.YbulkbleuFmtChecked
import GoSem.Claim
import GoSem.ClaimJoined
import GoSem.ClaimMapViews
import Derived.JoinedTies
import Derived.KernelRfl
namespace Go.Proofs.YbulkbleuFmt
/- THE CELL 'sum', in the pinned program and in every row, IS THE sha256 OF THE DUMP (.gsa) THAT YbulkbleuFmtProg.lean LOADS. Nothing in Lean hashes anything: it is a label: what it is worth is what the hold of that sum in a sandbox is worth. -/
noncomputable def Ybaf.pinned : Pinned := { name := "ybulkbleufmt", sum := "d96b4401ba91386cc4f1fc88725e25488b25cef983b91c745b23f4f54c53f8f7", checked := Ybaf.checked }
namespace Rows
def none {H : Type} : Left H := { results := [], args := [] }

/- WHAT THE LISTED PACKAGE-LEVEL VARIABLES READ AS WHEN THE CALL BEGINS. Each datum BY PROGRAM (the guide's laid-datum.mjs) off the statement by which the dump's own 'gosem.cut.vars' lays the variable. In a bare row this is a premise. The card (YbulkbleuFmtCards.lean) ties it to the program's text. -/
def laid_example_com_flowvane_flowvane_internal_ipfix_ErrMalformed {H : Type} : DataW H := .iface "*errors.errorString" (.ptr (.agg [.lit (.string [109, 97, 108, 102, 111, 114, 109, 101, 100])]))
def laid_example_com_flowvane_flowvane_internal_ipfix_ErrRecordTooLong {H : Type} : DataW H := .iface "*errors.errorString" (.ptr (.agg [.lit (.string [114, 101, 99, 111, 114, 100, 32, 116, 111, 111, 32, 108, 111, 110, 103])]))

/-- 'ipfix.LawS3101BMessages': WHATEVER THE INPUT: true; the input reads as it did. -/
def lawS3101BMessagesSpec : ChangeSpec := { name := "lawS3101BMessages", vars := ["example.com/flowvane/flowvane/internal/ipfix.ErrRecordTooLong", "example.com/flowvane/flowvane/internal/ipfix.ErrMalformed"], fn := fun _ => fun
  | [d1, d2, d3, d4, d5, d6, d7, d8, g1, g2] => { results := [.lit (.bool true)], args := [d1, d2, d3, d4, d5, d6, d7, d8], vars := [g1, g2] }
  | _ => none }
def lawS3101BMessagesRow : OpenClaim := { program := "ybulkbleufmt", sum := "d96b4401ba91386cc4f1fc88725e25488b25cef983b91c745b23f4f54c53f8f7", func := "example.com/flowvane/flowvane/internal/ipfix.LawS3101BMessages", spec := "lawS3101BMessages", stops := ["fmt.errorf"], inPlace := ["fmt.errorf", "internal/reflectlite.TypeOf"], unfollowed := true, recurses := true, named := ["example.com/flowvane/flowvane/internal/ipfix.ErrRecordTooLong", "example.com/flowvane/flowvane/internal/ipfix.ErrMalformed", "encoding/binary.BigEndian"], ifaces := true, plainKeys := false, apart := false, laid := [("example.com/flowvane/flowvane/internal/ipfix.ErrMalformed", laid_example_com_flowvane_flowvane_internal_ipfix_ErrMalformed), ("example.com/flowvane/flowvane/internal/ipfix.ErrRecordTooLong", laid_example_com_flowvane_flowvane_internal_ipfix_ErrRecordTooLong)] }
/-- NO THEOREM (fmt's text is open here; it may be false): for the released tool's asking of the row's closed facts alone. THE STATEMENT IS 'LawS3101BMessagesToldSaid' (YbulkbleuFmtCards.lean). -/
def LawS3101BMessagesFormAsk : Prop := lawS3101BMessagesRow.holds Ybaf.pinned (OpenSpec.ofChange lawS3101BMessagesSpec)

/-- ITS FALSE NEIGHBOUR: 'it returns false'. Refute it at one input. -/
def lawS3101BMessagesWrong : ChangeSpec := { name := "lawS3101BMessages", vars := ["example.com/flowvane/flowvane/internal/ipfix.ErrRecordTooLong", "example.com/flowvane/flowvane/internal/ipfix.ErrMalformed"], fn := fun _ => fun
  | [d1, d2, d3, d4, d5, d6, d7, d8, g1, g2] => { results := [.lit (.bool false)], args := [d1, d2, d3, d4, d5, d6, d7, d8], vars := [g1, g2] }
  | _ => none }
def LawS3101BMessagesWrongFormAsk : Prop := lawS3101BMessagesRow.holds Ybaf.pinned (OpenSpec.ofChange lawS3101BMessagesWrong)

/-- 'ipfix.LawS3101BFailingWriter': WHATEVER THE INPUT: true; the input reads as it did. -/
def lawS3101BFailingWriterSpec : ChangeSpec := { name := "lawS3101BFailingWriter", vars := ["example.com/flowvane/flowvane/internal/ipfix.ErrRecordTooLong", "example.com/flowvane/flowvane/internal/ipfix.ErrMalformed"], fn := fun _ => fun
  | [d1, d2, d3, d4, d5, d6, g1, g2] => { results := [.lit (.bool true)], args := [d1, d2, d3, d4, d5, d6], vars := [g1, g2] }
  | _ => none }
def lawS3101BFailingWriterRow : OpenClaim := { program := "ybulkbleufmt", sum := "d96b4401ba91386cc4f1fc88725e25488b25cef983b91c745b23f4f54c53f8f7", func := "example.com/flowvane/flowvane/internal/ipfix.LawS3101BFailingWriter", spec := "lawS3101BFailingWriter", stops := ["fmt.errorf"], inPlace := ["fmt.errorf", "internal/reflectlite.TypeOf"], unfollowed := true, recurses := true, named := ["example.com/flowvane/flowvane/internal/ipfix.ErrRecordTooLong", "example.com/flowvane/flowvane/internal/ipfix.ErrMalformed", "encoding/binary.BigEndian"], ifaces := true, plainKeys := false, apart := false, laid := [("example.com/flowvane/flowvane/internal/ipfix.ErrMalformed", laid_example_com_flowvane_flowvane_internal_ipfix_ErrMalformed), ("example.com/flowvane/flowvane/internal/ipfix.ErrRecordTooLong", laid_example_com_flowvane_flowvane_internal_ipfix_ErrRecordTooLong)] }
/-- NO THEOREM (fmt's text is open here; it may be false): for the released tool's asking of the row's closed facts alone. THE STATEMENT IS 'LawS3101BFailingWriterToldSaid' (YbulkbleuFmtCards.lean). -/
def LawS3101BFailingWriterFormAsk : Prop := lawS3101BFailingWriterRow.holds Ybaf.pinned (OpenSpec.ofChange lawS3101BFailingWriterSpec)

/-- ITS FALSE NEIGHBOUR: 'it returns false'. Refute it at one input. -/
def lawS3101BFailingWriterWrong : ChangeSpec := { name := "lawS3101BFailingWriter", vars := ["example.com/flowvane/flowvane/internal/ipfix.ErrRecordTooLong", "example.com/flowvane/flowvane/internal/ipfix.ErrMalformed"], fn := fun _ => fun
  | [d1, d2, d3, d4, d5, d6, g1, g2] => { results := [.lit (.bool false)], args := [d1, d2, d3, d4, d5, d6], vars := [g1, g2] }
  | _ => none }
def LawS3101BFailingWriterWrongFormAsk : Prop := lawS3101BFailingWriterRow.holds Ybaf.pinned (OpenSpec.ofChange lawS3101BFailingWriterWrong)

/-- 'capture.LawS3101CRaw': WHATEVER THE INPUT: true; the input reads as it did. -/
def lawS3101CRawSpec : ChangeSpec := { name := "lawS3101CRaw", fn := fun _ => fun
  | [d1, d2, d3] => { results := [.lit (.bool true)], args := [d1, d2, d3] }
  | _ => none }
def lawS3101CRawRow : OpenClaim := { program := "ybulkbleufmt", sum := "d96b4401ba91386cc4f1fc88725e25488b25cef983b91c745b23f4f54c53f8f7", func := "example.com/flowvane/flowvane/internal/capture.LawS3101CRaw", spec := "lawS3101CRaw", stops := ["fmt.errorf"], inPlace := ["fmt.errorf"], unfollowed := true, recurses := true, named := ["encoding/binary.BigEndian", "encoding/binary.LittleEndian"], plainKeys := false, apart := false }
/-- NO THEOREM (fmt's text is open here; it may be false): for the released tool's asking of the row's closed facts alone. THE STATEMENT IS 'LawS3101CRawToldSaid' (YbulkbleuFmtCards.lean). -/
def LawS3101CRawFormAsk : Prop := lawS3101CRawRow.holds Ybaf.pinned (OpenSpec.ofChange lawS3101CRawSpec)

/-- ITS FALSE NEIGHBOUR: 'it returns false'. Refute it at one input. -/
def lawS3101CRawWrong : ChangeSpec := { name := "lawS3101CRaw", fn := fun _ => fun
  | [d1, d2, d3] => { results := [.lit (.bool false)], args := [d1, d2, d3] }
  | _ => none }
def LawS3101CRawWrongFormAsk : Prop := lawS3101CRawRow.holds Ybaf.pinned (OpenSpec.ofChange lawS3101CRawWrong)

/-- 'capture.LawS3101CBuilt': WHATEVER THE INPUT: true; the input reads as it did. -/
def lawS3101CBuiltSpec : ChangeSpec := { name := "lawS3101CBuilt", fn := fun _ => fun
  | [d1, d2, d3, d4, d5, d6] => { results := [.lit (.bool true)], args := [d1, d2, d3, d4, d5, d6] }
  | _ => none }
def lawS3101CBuiltRow : OpenClaim := { program := "ybulkbleufmt", sum := "d96b4401ba91386cc4f1fc88725e25488b25cef983b91c745b23f4f54c53f8f7", func := "example.com/flowvane/flowvane/internal/capture.LawS3101CBuilt", spec := "lawS3101CBuilt", stops := ["fmt.errorf"], inPlace := ["fmt.errorf"], unfollowed := true, recurses := true, named := ["encoding/binary.BigEndian", "encoding/binary.LittleEndian"], plainKeys := false, apart := false }
/-- NO THEOREM (fmt's text is open here; it may be false): for the released tool's asking of the row's closed facts alone. THE STATEMENT IS 'LawS3101CBuiltToldSaid' (YbulkbleuFmtCards.lean). -/
def LawS3101CBuiltFormAsk : Prop := lawS3101CBuiltRow.holds Ybaf.pinned (OpenSpec.ofChange lawS3101CBuiltSpec)

/-- ITS FALSE NEIGHBOUR: 'it returns false'. Refute it at one input. -/
def lawS3101CBuiltWrong : ChangeSpec := { name := "lawS3101CBuilt", fn := fun _ => fun
  | [d1, d2, d3, d4, d5, d6] => { results := [.lit (.bool false)], args := [d1, d2, d3, d4, d5, d6] }
  | _ => none }
def LawS3101CBuiltWrongFormAsk : Prop := lawS3101CBuiltRow.holds Ybaf.pinned (OpenSpec.ofChange lawS3101CBuiltWrong)

end Rows
end Go.Proofs.YbulkbleuFmt
