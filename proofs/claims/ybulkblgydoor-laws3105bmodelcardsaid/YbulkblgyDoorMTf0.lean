/- LawS3105BModel: the walk: the Timestamp: the comparison. -/
import Derived.Test.YbulkblgyDoorMTf
namespace Go.Proofs.YbulkblgyDoor
open Go.RowKit
set_option maxRecDepth 100000 in
set_option maxHeartbeats 40000000 in
theorem partF_0 : partsF.p0 := by
  delta partsF
  intro I
  set_option tactic.hygienic false in intros
  clear f8
  go_region_with (go_at_call 7; (with_reducible refine Calls.mono (eq_two (some ⟨g, a, none⟩) (some ⟨ib, 4, none⟩) 4 (M - a) 4 ((T.drop a).take 4) [I.q0, I.q1, I.q2, I.q3] w10.drew HX4.out rfl (by omega) HIX.out HIS.out) ?_); rintro e wa ⟨rfl, hga⟩)
  all_goals
    go_wp2_with fail
    go_meet
    exact ⟨rfl, gb_trans (gb_drew _ _) hga⟩
end Go.Proofs.YbulkblgyDoor
