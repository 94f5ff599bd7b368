/- LawS3105BModel: the walk: the Timestamp: its data filled in. -/
import Derived.Test.YbulkblgyDoorMTc
namespace Go.Proofs.YbulkblgyDoor
open Go.RowKit
set_option maxRecDepth 100000 in
set_option maxHeartbeats 40000000 in
theorem partC_0 : partsC.p0 := by
  delta partsC
  intro I
  set_option tactic.hygienic false in intros
  clear hR0 hM hQ hwM hwQ hPi hRi hM2 hP72 hRP hQ1 hgA hwg
  by_cases hs0 : P = 0
  · obtain rfl : M = 4 := by have := HMb.out; omega
    subst hs0
    go_region_with (go_at_call 5; (with_reducible refine Calls.mono (fill_any g 4 0 0 I.tn I.tc _ I.ta (List.replicate 4 0) td 2 w6.drew (.inl rfl) hRd hN3.out (by omega) hrl.out hrn.out hrb.out hIr Hner.out (by omega) (by omega)) ?_); rintro e wa ⟨rfl, hRa, hga⟩)
    all_goals
      go_wp2_with fail
      go_meet
      exact ⟨rfl, hRa, gb_trans (gb_drew _ _) hga⟩
  · have hM3 : (4 : Int) ≤ (M : Int) := by have := HMb.out; omega
    have hM4 : ¬ M = 4 := by have := HMb.out; omega
    clear hs0
    go_region_with (go_at_call 5; (with_reducible refine Calls.mono (fill_any g 4 (M - 4) (M - 4) I.tn I.tc _ I.ta (List.replicate M 0) td 2 w6.drew (.inr rfl) hRd (by rw [HMP.out]; exact hN3.out) (by rw [HMP.out]; have := HP72.out; omega) hrl.out hrn.out hrb.out hIr Hner.out (by omega) (by omega)) ?_); rintro e wa ⟨rfl, hRa, hga⟩)
    all_goals
      go_wp2_with fail
      go_meet
      exact ⟨rfl, by rw [← HMP.out]; exact hRa, gb_trans (gb_drew _ _) hga⟩
end Go.Proofs.YbulkblgyDoor
