/- LawS3105BModel: the walk: the Timestamp is full and cannot count. -/
import Derived.Test.YbulkblgyDoorMTe
namespace Go.Proofs.YbulkblgyDoor
open Go.RowKit
set_option maxRecDepth 100000 in
set_option maxHeartbeats 40000000 in
theorem partE_0 : partsE.p0 := by
  delta partsE
  intro I
  set_option tactic.hygienic false in intros
  subst h15
  go_wp2
  go_meet
  have hst : stamp T [I.q0, I.q1, I.q2, I.q3] I.ms = none := by
    rw [HT.out, stamp_full Hf3.out (by omega) HDz.out, if_pos rfl]
  refine ⟨T, T, true, .inr ⟨HWo, .inl ⟨rfl, hst⟩⟩, by rw [HTl.out]; exact hM2, by rw [HTl.out]; exact hM2, HG10.out, rfl, HSt.out, ?_⟩
  have := HP10.out.sl (B := B4) (by omega)
  rwa [HTl.out] at this
end Go.Proofs.YbulkblgyDoor
