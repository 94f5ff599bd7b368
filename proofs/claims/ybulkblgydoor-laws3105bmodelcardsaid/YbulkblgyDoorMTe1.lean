/- LawS3105BModel: the walk: the Timestamp is full and counts. -/
import Derived.Test.YbulkblgyDoorMTe
namespace Go.Proofs.YbulkblgyDoor
open Go.RowKit
set_option maxRecDepth 100000 in
set_option maxHeartbeats 40000000 in
theorem partE_1 : partsE.p1 := by
  delta partsE
  intro I
  set_option tactic.hygienic false in intros
  have hb15 : ((o : Int) == 15) = false := by rw [beq_eq_false_iff_ne]; omega
  have k3 := HP10.out.cellD 3 (by rw [HTl.out]; omega)
  rw [Ht3.out] at k3
  have z3 := HP10.out.frozen 3
  obtain ⟨V2, hV2⟩ : ∃ V2 : Nat, (V : Int) + 16 = (V2 : Int) := ⟨V + 16, by omega⟩
  have hV2b : V2 < 256 := by have := HV.out; rcases Hf3.out with h | h | h <;> omega
  have hwV2 : IntKind.u8.wrap (V2 : Int) = (V2 : Int) := IntWalk.u8_in _ ⟨by omega, by omega⟩
  have HP11 := hide (HP10.out.set 3 (by rw [HTl.out]; omega) V2 (by omega) (by omega))
  have hM3i : (3 : Int) < (M : Int) := by omega
  have HV2 := hide (show V2 = (o + 1) * 16 + f by have := HV.out; omega)
  clear hV2b
  go_wp2
  go_meet
  have hst : stamp T [I.q0, I.q1, I.q2, I.q3] I.ms = some (T.set 3 (V2 : Int)) := by
    rw [HT.out, stamp_full Hf3.out ho16 HDz.out, if_neg h15, HV2.out]
  obtain ⟨q1, q2⟩ := HFAR.out _ (gb_set w10 g' 3 (.int .u8 (V2 : Int)))
  refine ⟨T, T.set 3 (V2 : Int), false, .inr ⟨HWo, .inr ⟨rfl, hst⟩⟩, by rw [HTl.out]; exact hM2, by rw [List.length_set, HTl.out]; exact hM2, q1, rfl, q2, ?_⟩
  have := HP11.out.sl (B := B4) (by omega)
  rwa [List.length_set, HTl.out] at this
end Go.Proofs.YbulkblgyDoor
