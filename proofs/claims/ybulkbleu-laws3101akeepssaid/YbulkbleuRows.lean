/-
  No cell of these rows narrows 'for every input' (looked for: loops, veiled, ifaces, maps, wideKeys, modest, calm, conditions, laid).
  DERIVED. THE GIVEN ROWS OF THIS SEAT. 2 by the template 'for every input the law returns true; each argument reads behind the call as it read before'; 0 by the template 'total and deterministic' (their statements: YbulkbleuTotals.lean).
  GIVEN WITH THE SEED: the statements are not yours to turn. If you find one false, say at which input.
  Laid BY PROGRAM, IN A SANDBOX (cutbox-rows.mjs): the forced cells as the released guide's own fill.sh prints them over the translation 471758e0012693f2… (all of the seat's roots in one cut). By AI agents, Wed Nov 11 2026. No macro, syntax, notation, axiom, sorry.
-/
import Derived.Test.YbulkbleuChecked
import GoSem.Claim
import GoSem.ClaimJoined
import GoSem.ClaimMapViews
import Derived.JoinedTies
import Derived.KernelRfl
namespace Go.Proofs.Ybulkbleu
/- THE CELL 'sum', in the pinned program and in every row, IS THE sha256 OF THE DUMP (.gsa) THAT YbulkbleuProg.lean LOADS. Nothing in Lean hashes anything: it is a label: what it is worth is what the hold of that sum in a sandbox is worth. -/
noncomputable def Yba.pinned : Pinned := { name := "ybulkbleu", sum := "471758e0012693f2ffd6fc69f50de7b1f93d7eaa1aef49f7e75bb9d9a58192fe", checked := Yba.checked }
namespace Rows
def none {H : Type} : Left H := { results := [], args := [] }

/-- 'ipfix.LawS3101AKeeps': WHATEVER THE INPUT: true; the input reads as it did. -/
def lawS3101AKeepsSpec : ChangeSpec := { name := "lawS3101AKeeps", fn := fun _ => fun
  | [d1, d2] => { results := [.lit (.bool true)], args := [d1, d2] }
  | _ => none }
def lawS3101AKeepsRow : OpenClaim := { program := "ybulkbleu", sum := "471758e0012693f2ffd6fc69f50de7b1f93d7eaa1aef49f7e75bb9d9a58192fe", func := "example.com/flowvane/flowvane/internal/ipfix.LawS3101AKeeps", spec := "lawS3101AKeeps", plainKeys := false, apart := false }
def LawS3101AKeepsSaid : Prop := lawS3101AKeepsRow.holds Yba.pinned (OpenSpec.ofChange lawS3101AKeepsSpec)

/-- ITS FALSE NEIGHBOUR: 'it returns false'. Refute it at one input. -/
def lawS3101AKeepsWrong : ChangeSpec := { name := "lawS3101AKeeps", fn := fun _ => fun
  | [d1, d2] => { results := [.lit (.bool false)], args := [d1, d2] }
  | _ => none }
def LawS3101AKeepsWrongFalsely : Prop := lawS3101AKeepsRow.holds Yba.pinned (OpenSpec.ofChange lawS3101AKeepsWrong)

/-- 'ipfix.LawS3101AOthers': WHATEVER THE INPUT: true; the input reads as it did. -/
def lawS3101AOthersSpec : ChangeSpec := { name := "lawS3101AOthers", fn := fun _ => fun
  | [d1, d2, d3, d4, d5, d6] => { results := [.lit (.bool true)], args := [d1, d2, d3, d4, d5, d6] }
  | _ => none }
def lawS3101AOthersRow : OpenClaim := { program := "ybulkbleu", sum := "471758e0012693f2ffd6fc69f50de7b1f93d7eaa1aef49f7e75bb9d9a58192fe", func := "example.com/flowvane/flowvane/internal/ipfix.LawS3101AOthers", spec := "lawS3101AOthers", plainKeys := false, apart := false }
def LawS3101AOthersSaid : Prop := lawS3101AOthersRow.holds Yba.pinned (OpenSpec.ofChange lawS3101AOthersSpec)

/-- ITS FALSE NEIGHBOUR: 'it returns false'. Refute it at one input. -/
def lawS3101AOthersWrong : ChangeSpec := { name := "lawS3101AOthers", fn := fun _ => fun
  | [d1, d2, d3, d4, d5, d6] => { results := [.lit (.bool false)], args := [d1, d2, d3, d4, d5, d6] }
  | _ => none }
def LawS3101AOthersWrongFalsely : Prop := lawS3101AOthersRow.holds Yba.pinned (OpenSpec.ofChange lawS3101AOthersWrong)

end Rows
end Go.Proofs.Ybulkbleu
