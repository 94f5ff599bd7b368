/- LawS3105BModel: the walk: the buffer filled. -/
import Derived.Test.YbulkblgyDoorMTd
namespace Go.Proofs.YbulkblgyDoor
open Go.RowKit
set_option maxRecDepth 100000 in
set_option maxHeartbeats 40000000 in
theorem partD_4 : partsD.p4 := by
  delta partsD
  intro I
  set_option tactic.hygienic false in intros
  have hil' : (i : Int) < (N : Int) := by omega
  have hfl := filled_len N i hi'
  have c0 := hRi.cellD i (by omega)
  generalize (filled N i).getD i 0 = y0 at c0
  have z0 := hRi.frozen i
  have hR2 := hRi.set i (by omega) 170 (by omega) (by omega)
  rw [filled_set N i hlt'] at hR2
  have HR2 := hide hR2
  clear hR2 hfl
  go_wp2
  exact ⟨⟨i + 1, by omega, by go_num, HR2.out, gb_trans hgi' (gb_set _ _ _ _)⟩, by simp [intOf]; omega⟩
end Go.Proofs.YbulkblgyDoor
