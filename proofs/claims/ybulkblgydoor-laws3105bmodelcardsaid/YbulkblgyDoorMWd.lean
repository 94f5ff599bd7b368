/- LawS3105BModel: the walk: the list, the call, the comparison: the parts put together. -/
import Derived.Test.YbulkblgyDoorMTd0
import Derived.Test.YbulkblgyDoorMTd1
import Derived.Test.YbulkblgyDoorMTd2
import Derived.Test.YbulkblgyDoorMTd3
import Derived.Test.YbulkblgyDoorMTd4
import Derived.Test.YbulkblgyDoorMTd5
import Derived.Test.YbulkblgyDoorMTd6
namespace Go.Proofs.YbulkblgyDoor
theorem part_d : parts.d := partsD.go ⟨partD_0⟩ ⟨partD_1⟩ ⟨partD_2⟩ ⟨partD_3⟩ ⟨partD_4⟩ ⟨partD_5⟩ ⟨partD_6⟩
end Go.Proofs.YbulkblgyDoor
