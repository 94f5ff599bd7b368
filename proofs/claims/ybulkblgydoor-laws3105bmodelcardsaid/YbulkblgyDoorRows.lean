/-
  NARROWER THAN 'FOR EVERY INPUT', by the rows' own cells (each row's printed sentence says how): LawS3105BModel: ifaces, laid · LawS3105BRaw: ifaces, laid.
  DERIVED. THE GIVEN ROWS OF THIS SEAT. 2 by the template 'for every input the law returns true; each argument reads behind the call as it read before'; 0 by the template 'total and deterministic' (their statements: YbulkblgyDoorTotals.lean).
  GIVEN WITH THE SEED: the statements are not yours to turn. If you find one false, say at which input.
  Laid BY PROGRAM, IN A SANDBOX (cutbox-rows.mjs): the forced cells as the released guide's own fill.sh prints them over the translation c581041a1f0e7b43… (all of the seat's roots in one cut). By AI agents, Wed Nov 11 2026. No macro, syntax, notation, axiom, sorry.
-/
import Derived.Test.YbulkblgyDoorChecked
import GoSem.Claim
import GoSem.ClaimJoined
import GoSem.ClaimMapViews
import Derived.JoinedTies
import Derived.KernelRfl
namespace Go.Proofs.YbulkblgyDoor
/- THE CELL 'sum', in the pinned program and in every row, IS THE sha256 OF THE DUMP (.gsa) THAT YbulkblgyDoorProg.lean LOADS. Nothing in Lean hashes anything: it is a label: what it is worth is what the hold of that sum in a sandbox is worth. -/
noncomputable def Ybad.pinned : Pinned := { name := "ybulkblgydoor", sum := "c581041a1f0e7b4326f9e10ed27780a21ab86f209df20c7526084559db7a9aea", checked := Ybad.checked }
namespace Rows
def none {H : Type} : Left H := { results := [], args := [] }

/- WHAT THE LISTED PACKAGE-LEVEL VARIABLES READ AS WHEN THE CALL BEGINS. Each datum BY PROGRAM (the guide's laid-datum.mjs) off the statement by which the dump's own 'gosem.cut.vars' lays the variable. In a bare row this is a premise. The card (YbulkblgyDoorCards.lean) ties it to the program's text. -/
def laid_net_netip_z4 {H : Type} : DataW H := .agg [.ptr (.agg [.lit (.bool false), .lit (.string [])])]
def laid_example_com_tideway_tideway_internal_wire_ErrBadHeader {H : Type} : DataW H := .iface "*errors.errorString" (.ptr (.agg [.lit (.string [119, 105, 114, 101, 58, 32, 109, 97, 108, 102, 111, 114, 109, 101, 100, 32, 104, 101, 97, 100, 101, 114])]))
def laid_example_com_tideway_tideway_internal_wire_ErrMustNotSkip {H : Type} : DataW H := .iface "*errors.errorString" (.ptr (.agg [.lit (.string [119, 105, 114, 101, 58, 32, 104, 101, 97, 100, 101, 114, 32, 111, 114, 32, 111, 112, 116, 105, 111, 110, 32, 110, 111, 116, 32, 112, 114, 111, 99, 101, 115, 115, 101, 100])]))
def laid_net_netip_z0 {H : Type} : DataW H := .agg [.nil]

/-- 'wire.LawS3105BModel': WHATEVER THE INPUT: true; the input reads as it did. -/
def lawS3105BModelSpec : ChangeSpec := { name := "lawS3105BModel", vars := ["example.com/tideway/tideway/internal/wire.ErrMustNotSkip", "example.com/tideway/tideway/internal/wire.ErrBadHeader"], fn := fun _ => fun
  | [d, g1, g2] => { results := [.lit (.bool true)], args := [d], vars := [g1, g2] }
  | _ => none }
def lawS3105BModelRow : OpenClaim := { program := "ybulkblgydoor", sum := "c581041a1f0e7b4326f9e10ed27780a21ab86f209df20c7526084559db7a9aea", func := "example.com/tideway/tideway/internal/wire.LawS3105BModel", spec := "lawS3105BModel", named := ["example.com/tideway/tideway/internal/wire.ErrMustNotSkip", "example.com/tideway/tideway/internal/wire.ErrBadHeader", "net/netip.z4", "net/netip.z0", "encoding/binary.BigEndian"], ifaces := true, apart := false, laid := [("net/netip.z4", laid_net_netip_z4), ("example.com/tideway/tideway/internal/wire.ErrBadHeader", laid_example_com_tideway_tideway_internal_wire_ErrBadHeader), ("example.com/tideway/tideway/internal/wire.ErrMustNotSkip", laid_example_com_tideway_tideway_internal_wire_ErrMustNotSkip), ("net/netip.z0", laid_net_netip_z0)] }
def LawS3105BModelSaid : Prop := lawS3105BModelRow.holds Ybad.pinned (OpenSpec.ofChange lawS3105BModelSpec)

/-- ITS FALSE NEIGHBOUR: 'it returns false'. Refute it at one input. -/
def lawS3105BModelWrong : ChangeSpec := { name := "lawS3105BModel", vars := ["example.com/tideway/tideway/internal/wire.ErrMustNotSkip", "example.com/tideway/tideway/internal/wire.ErrBadHeader"], fn := fun _ => fun
  | [d, g1, g2] => { results := [.lit (.bool false)], args := [d], vars := [g1, g2] }
  | _ => none }
def LawS3105BModelWrongFalsely : Prop := lawS3105BModelRow.holds Ybad.pinned (OpenSpec.ofChange lawS3105BModelWrong)

/-- 'wire.LawS3105BRaw': WHATEVER THE INPUT: true; the input reads as it did. -/
def lawS3105BRawSpec : ChangeSpec := { name := "lawS3105BRaw", vars := ["example.com/tideway/tideway/internal/wire.ErrBadHeader", "example.com/tideway/tideway/internal/wire.ErrMustNotSkip"], fn := fun _ => fun
  | [d1, d2, d3, d4, g1, g2] => { results := [.lit (.bool true)], args := [d1, d2, d3, d4], vars := [g1, g2] }
  | _ => none }
def lawS3105BRawRow : OpenClaim := { program := "ybulkblgydoor", sum := "c581041a1f0e7b4326f9e10ed27780a21ab86f209df20c7526084559db7a9aea", func := "example.com/tideway/tideway/internal/wire.LawS3105BRaw", spec := "lawS3105BRaw", named := ["example.com/tideway/tideway/internal/wire.ErrBadHeader", "example.com/tideway/tideway/internal/wire.ErrMustNotSkip", "net/netip.z4", "net/netip.z0", "encoding/binary.BigEndian"], ifaces := true, apart := false, laid := [("net/netip.z4", laid_net_netip_z4), ("example.com/tideway/tideway/internal/wire.ErrBadHeader", laid_example_com_tideway_tideway_internal_wire_ErrBadHeader), ("example.com/tideway/tideway/internal/wire.ErrMustNotSkip", laid_example_com_tideway_tideway_internal_wire_ErrMustNotSkip), ("net/netip.z0", laid_net_netip_z0)] }
def LawS3105BRawSaid : Prop := lawS3105BRawRow.holds Ybad.pinned (OpenSpec.ofChange lawS3105BRawSpec)

/-- ITS FALSE NEIGHBOUR: 'it returns false'. Refute it at one input. -/
def lawS3105BRawWrong : ChangeSpec := { name := "lawS3105BRaw", vars := ["example.com/tideway/tideway/internal/wire.ErrBadHeader", "example.com/tideway/tideway/internal/wire.ErrMustNotSkip"], fn := fun _ => fun
  | [d1, d2, d3, d4, g1, g2] => { results := [.lit (.bool false)], args := [d1, d2, d3, d4], vars := [g1, g2] }
  | _ => none }
def LawS3105BRawWrongFalsely : Prop := lawS3105BRawRow.holds Ybad.pinned (OpenSpec.ofChange lawS3105BRawWrong)

end Rows
end Go.Proofs.YbulkblgyDoor
