/- LawS3105BModel: the walk: the Timestamp: her own address stands there. -/
import Derived.Test.YbulkblgyDoorMTf
namespace Go.Proofs.YbulkblgyDoor
open Go.RowKit
set_option maxRecDepth 100000 in
set_option maxHeartbeats 40000000 in
theorem partF_1 : partsF.p1 := by
  delta partsF
  intro I
  set_option tactic.hygienic false in intros
  rw [decide_eq_true heq]
  have Heq := hide heq
  clear heq
  go_upto_region 87 with fail
  go_region_with (go_at_call 6; (with_reducible refine Calls.mono (put_own g' a4 (M - a4) (c - a4) c T I.ms wb.drew hms.1 hms.2 (by omega) HPd.out (by rw [HTl.out]; exact ha44)) ?_); rintro e wa ⟨rfl, hPa, hga⟩)
  all_goals
    have hga' : w10.grownBy wa (some g') := gb_trans (gb_some _ hgk) (gb_trans (gb_drew _ _) hga)
    have hls : (splice T a4 (msB I.ms)).length = M := by rw [length_splice _ _ _ (by rw [HTl.out]; simpa [msB] using ha44), HTl.out]
    have k2 := hPa.cellD 2 (by omega)
    have hk2 : (splice T a4 (msB I.ms)).getD 2 0 = (Q : Int) := by
      rw [splice_getD _ _ _ _ (by have := Ha4.out; have := Ha.out; omega) (by rw [HTl.out]; omega), Ht2.out]
    rw [hk2] at k2
    have z2 := hPa.frozen 2
    obtain ⟨Q2, hQ2⟩ : ∃ Q2 : Nat, (Q : Int) + 8 = (Q2 : Int) := ⟨Q + 8, by omega⟩
    have hwQ2 : IntKind.u8.wrap (Q2 : Int) = (Q2 : Int) := IntWalk.u8_in _ ⟨by omega, by omega⟩
    have HP12 := hide (hPa.set 2 (by omega) Q2 (by omega) (by omega))
    have hM2i : (2 : Int) < (M : Int) := by omega
    have Hls := hide hls
    clear hPa hls hk2
    go_wp2
    go_meet
    have hst : stamp T [I.q0, I.q1, I.q2, I.q3] I.ms = some ((splice T a4 (msB I.ms)).set 2 (Q2 : Int)) := by
      have h3 := H3.out
      have hT := HT.out
      have hD := HDz.out
      have hH := Heq.out
      have e0 : 4 + szT f * u = a := by rw [Ha.out, HR.out, Hz.out]
      have e1 : a + szT f - 4 = a4 := by rw [Ha4.out, ← Hz.out, HZ8.out]; omega
      have e2 : ((5 + szT f * u + szT f : Nat) : Int) = (Q2 : Int) := by have := HQb.out; rw [HR.out, Hz.out] at this; rw [show szT f = 8 from Hz.out ▸ HZ8.out] at this ⊢; omega
      rw [hT] at hH ⊢
      rw [stamp_room (.inr (.inr h3)) hD hlt hs9, e0, if_neg (fun h => h.2 hH), if_neg (by omega), e1, e2]
    obtain ⟨q1, q2⟩ := HFAR.out _ (gb_trans hga' (gb_set wa g' 2 (.int .u8 (Q2 : Int))))
    refine ⟨T, _, false, .inr ⟨HWo, .inr ⟨rfl, hst⟩⟩, by rw [HTl.out]; exact hM2, by rw [List.length_set, Hls.out]; exact hM2, q1, rfl, q2, ?_⟩
    have := HP12.out.sl (B := B4) (by omega)
    rwa [List.length_set, Hls.out] at this
end Go.Proofs.YbulkblgyDoor
