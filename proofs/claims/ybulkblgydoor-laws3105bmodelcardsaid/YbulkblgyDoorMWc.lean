/- LawS3105BModel: the walk: the Timestamp, its parts put together. -/
import Derived.Test.YbulkblgyDoorMTc0
import Derived.Test.YbulkblgyDoorMTc1
import Derived.Test.YbulkblgyDoorMTc2
import Derived.Test.YbulkblgyDoorMTe0
import Derived.Test.YbulkblgyDoorMTe1
import Derived.Test.YbulkblgyDoorMTe2
import Derived.Test.YbulkblgyDoorMTe3
import Derived.Test.YbulkblgyDoorMTf0
import Derived.Test.YbulkblgyDoorMTf1
import Derived.Test.YbulkblgyDoorMTf2
namespace Go.Proofs.YbulkblgyDoor
theorem partE_4 : partsE.p4 := partsF.go ⟨partF_0⟩ ⟨partF_1⟩ ⟨partF_2⟩
theorem partC_3 : partsC.p3 := partsE.go ⟨partE_0⟩ ⟨partE_1⟩ ⟨partE_2⟩ ⟨partE_3⟩ ⟨partE_4⟩
theorem part_c : parts.c := partsC.go ⟨partC_0⟩ ⟨partC_1⟩ ⟨partC_2⟩ ⟨partC_3⟩
end Go.Proofs.YbulkblgyDoor
