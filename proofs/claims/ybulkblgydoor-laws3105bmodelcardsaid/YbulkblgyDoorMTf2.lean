/- LawS3105BModel: the walk: the Timestamp: another address stands there. -/
import Derived.Test.YbulkblgyDoorMTf
namespace Go.Proofs.YbulkblgyDoor
open Go.RowKit
set_option maxRecDepth 100000 in
set_option maxHeartbeats 40000000 in
theorem partF_2 : partsF.p2 := by
  delta partsF
  intro I
  set_option tactic.hygienic false in intros
  rw [decide_eq_false heq]
  have Heq := hide heq
  clear heq
  go_wp2
  go_meet
  have hst : stamp T [I.q0, I.q1, I.q2, I.q3] I.ms = some T := by
    have h3 := H3.out
    have hT := HT.out
    have hD := HDz.out
    have hH := Heq.out
    have e0 : 4 + szT f * u = a := by rw [Ha.out, HR.out, Hz.out]
    rw [hT] at hH ⊢
    rw [stamp_room (.inr (.inr h3)) hD hlt hs9, e0, if_pos ⟨h3, hH⟩]
  obtain ⟨q1, q2⟩ := HFAR.out _ (gb_some (some g') hgk)
  refine ⟨T, T, false, .inr ⟨HWo, .inr ⟨rfl, hst⟩⟩, by rw [HTl.out]; exact hM2, by rw [HTl.out]; exact hM2, q1, rfl, q2, ?_⟩
  have := HPb.out.sl (B := B4) (by omega)
  rwa [HTl.out] at this
end Go.Proofs.YbulkblgyDoor
