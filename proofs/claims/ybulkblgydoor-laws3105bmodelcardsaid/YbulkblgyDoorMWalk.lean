/- LawS3105BModel: the walk, its parts put together. -/
import Derived.Test.YbulkblgyDoorMWa
import Derived.Test.YbulkblgyDoorMWb
import Derived.Test.YbulkblgyDoorMWc
import Derived.Test.YbulkblgyDoorMWd
namespace Go.Proofs.YbulkblgyDoor
open Go.RowKit
theorem model_walk (I : Arg) (w : World) (hops : List (List Int)) (rd td : List Int) (hA : AOk I w hops rd td) (hw : 4 < w.heap.size) (za ab am : Addr) (ca cm : Array Value) (ta tm : TypeId) (h0 : w.cell? ⟨0, 0, none⟩ = some (.iface 67 (.pointer (some am)))) (h1 : w.cell? ⟨1, 0, none⟩ = some (.iface 67 (.pointer (some ab)))) (h2 : w.cell? ⟨2, 0, none⟩ = some (.pointer (some za))) (hne : ab ≠ am) (hca : w.heap[ab.block]? = some (.cells ca ta (0, 0))) (hcm : w.heap[am.block]? = some (.cells cm tm (0, 0))) : Calls Ybad.prog 3 #[.agg I.cells] w fun e w' => e = .returned (.bool true) ∧ w.grownBy w' none :=
  parts.go ⟨part_a⟩ ⟨part_b⟩ ⟨part_c⟩ ⟨part_d⟩ I w hops rd td hA hw za ab am ca cm ta tm h0 h1 h2 hne hca hcm
end Go.Proofs.YbulkblgyDoor
