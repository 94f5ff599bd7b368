/- LawS3105BModel: the walk: the Timestamp: times alone. -/
import Derived.Test.YbulkblgyDoorMTe
namespace Go.Proofs.YbulkblgyDoor
open Go.RowKit
set_option maxRecDepth 100000 in
set_option maxHeartbeats 40000000 in
theorem partE_2 : partsE.p2 := by
  delta partsE
  intro I
  set_option tactic.hygienic false in intros
  obtain rfl : z = 4 := by have := Hz.out; exact this
  have ha4 : a + 4 ≤ M := by have := HMb.out; have := Ha.out; omega
  have hai : (a : Int) ≤ (M : Int) := by omega
  have hca : ¬ c = a := by omega
  have hPd := HP10.out.kept (gb_drew w10 none) (by simp)
  have HPd := hide hPd
  clear hPd
  go_upto_region 90 with fail
  go_region_with (go_at_call 6; (with_reducible refine Calls.mono (put_own g' a (M - a) (c - a) c T I.ms w10.drew hms.1 hms.2 (by omega) HPd.out (by rw [HTl.out]; exact ha4)) ?_); rintro e wa ⟨rfl, hPa, hga⟩)
  all_goals
    have hga' : w10.grownBy wa (some g') := gb_trans (gb_drew _ _) hga
    have hls : (splice T a (msB I.ms)).length = M := by rw [length_splice _ _ _ (by rw [HTl.out]; simpa [msB] using ha4), HTl.out]
    have k2 := hPa.cellD 2 (by omega)
    have hk2 : (splice T a (msB I.ms)).getD 2 0 = (Q : Int) := by
      rw [splice_getD _ _ _ _ (by have := Ha.out; omega) (by rw [HTl.out]; omega), Ht2.out]
    rw [hk2] at k2
    have z2 := hPa.frozen 2
    obtain ⟨Q2, hQ2⟩ : ∃ Q2 : Nat, (Q : Int) + 4 = (Q2 : Int) := ⟨Q + 4, by omega⟩
    have hwQ2 : IntKind.u8.wrap (Q2 : Int) = (Q2 : Int) := IntWalk.u8_in _ ⟨by omega, by omega⟩
    have HP12 := hide (hPa.set 2 (by omega) Q2 (by omega) (by omega))
    have hM2i : (2 : Int) < (M : Int) := by omega
    have Hls := hide hls
    have HPa := hide hPa
    clear hPa hls hk2
    go_wp2
    go_meet
    have hst : stamp T [I.q0, I.q1, I.q2, I.q3] I.ms = some ((splice T a (msB I.ms)).set 2 (Q2 : Int)) := by
      rw [HT.out, stamp_room (.inl rfl) HDz.out hlt hs9, if_neg (by simp), if_neg (by simp)]
      have e1 : 4 + szT 0 * u + szT 0 - 4 = a := by rw [Ha.out, HR.out]; simp only [show szT 0 = 4 from rfl]; omega
      have e2 : ((5 + szT 0 * u + szT 0 : Nat) : Int) = (Q2 : Int) := by have := HQb.out; rw [HR.out] at this; simp only [show szT 0 = 4 from rfl]; omega
      rw [e1, e2]
    obtain ⟨q1, q2⟩ := HFAR.out _ (gb_trans hga' (gb_set wa g' 2 (.int .u8 (Q2 : Int))))
    refine ⟨T, _, false, .inr ⟨HWo, .inr ⟨rfl, hst⟩⟩, by rw [HTl.out]; exact hM2, by rw [List.length_set, Hls.out]; exact hM2, q1, rfl, q2, ?_⟩
    have := HP12.out.sl (B := B4) (by omega)
    rwa [List.length_set, Hls.out] at this
end Go.Proofs.YbulkblgyDoor
