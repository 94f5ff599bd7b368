/- LawS3105BModel: the walk: the Timestamp: addresses and times. -/
import Derived.Test.YbulkblgyDoorMTe
namespace Go.Proofs.YbulkblgyDoor
open Go.RowKit
set_option maxRecDepth 100000 in
set_option maxHeartbeats 40000000 in
theorem partE_3 : partsE.p3 := by
  delta partsE
  intro I
  set_option tactic.hygienic false in intros
  obtain rfl : z = 8 := by have := Hz.out; exact this
  have ha8 : a + 8 ≤ M := by have := HMb.out; have := Ha.out; omega
  obtain ⟨a4, ha4⟩ : ∃ a4 : Nat, (a : Int) + 4 = (a4 : Int) := ⟨a + 4, by omega⟩
  have ha4n : a4 = a + 4 := by omega
  have hwa4 : IntKind.i64.wrap (a4 : Int) = (a4 : Int) := IntWalk.i64_in _ (by omega)
  have Ha4 := hide ha4n
  have ha44 : a4 + 4 ≤ M := by omega
  have hai : (a4 : Int) ≤ (M : Int) := by omega
  have hca : ¬ c = a4 := by omega
  clear ha4n
  go_upto_region 94 with fail
  go_loopw [31] (fun s31 wr => ∃ q : Nat, q ≤ 4 ∧ s31 = .int .i64 q ∧ Pr wr g' c (splice T a ([I.q0, I.q1, I.q2, I.q3].take q)) ∧ w10.grownBy wr (some g')) (fun s31 _ => 4 - (intOf s31).toNat)
  case atStart => exact ⟨0, by omega, rfl, by rw [take_nil0]; exact HP10.out, gb_refl _ _⟩
  case round => as_aux_lemma =>
    obtain ⟨q, hq, rfl, hPq, hgq⟩ := hrel
    obtain ⟨wb, hwb⟩ : ∃ wb, wb = wr := ⟨_, rfl⟩
    subst hwb
    by_cases hq4 : q < 4
    · have hqi : (q : Int) < 4 := by omega
      have hCq := HC10.out.own hgq (by omega)
      have fy := (hCq.cell (4 + q)).trans (I.selfCell q hq4)
      obtain ⟨y0, y1⟩ := getD_byte hA.q q
      obtain ⟨n, hn⟩ : ∃ n, n = a + q := ⟨_, rfl⟩
      have hidx : (a : Int) + (q : Int) = (n : Int) := by omega
      have hoC : a + [I.q0, I.q1, I.q2, I.q3].length ≤ T.length := by rw [HTl.out]; simp; omega
      obtain ⟨⟨u0, k0⟩, z0⟩ := hPq.spots (by simpa using hq4) hoC
      have hst := hPq.step (by simpa using hq4) hoC rfl y0 y1
      rw [← hn] at k0 z0 hst
      have hnM : n < M := by omega
      have hnMi : (n : Int) < (M : Int) := by omega
      have HST := hide hst
      generalize [I.q0, I.q1, I.q2, I.q3].getD q 0 = y at *
      clear hoC hst hn hPq f8 hai hca ha4
      go_wp2
      exact ⟨⟨q + 1, by omega, by go_num, HST.out, gb_trans hgq (gb_set _ _ _ _)⟩, by simp [intOf]; omega⟩
    · obtain rfl : q = 4 := by omega
      have hqi : ¬ ((4 : Nat) : Int) < 4 := by omega
      rw [show [I.q0, I.q1, I.q2, I.q3].take 4 = [I.q0, I.q1, I.q2, I.q3] from rfl] at hPq
      have f8b := HCc.out wb hgq
      have HPd := hide (hPq.kept (gb_drew wb none) (by simp))
      have hls1 := hide (show (splice T a [I.q0, I.q1, I.q2, I.q3]).length = M by rw [length_splice _ _ _ (by rw [HTl.out]; simp; omega), HTl.out])
      clear hPq f8
      go_upto_region 97 with fail
      go_region_with (go_at_call 6; (with_reducible refine Calls.mono (put_own g' a4 (M - a4) (c - a4) c (splice T a [I.q0, I.q1, I.q2, I.q3]) I.ms wb.drew hms.1 hms.2 (by omega) HPd.out (by rw [hls1.out]; exact ha44)) ?_); rintro e wa ⟨rfl, hPa, hga⟩)
      all_goals
        have hga' : w10.grownBy wa (some g') := gb_trans hgq (gb_trans (gb_drew _ _) hga)
        have hls : (splice (splice T a [I.q0, I.q1, I.q2, I.q3]) a4 (msB I.ms)).length = M := by rw [length_splice _ _ _ (by rw [hls1.out]; simpa [msB] using ha44), hls1.out]
        have k2 := hPa.cellD 2 (by omega)
        have hk2 : (splice (splice T a [I.q0, I.q1, I.q2, I.q3]) a4 (msB I.ms)).getD 2 0 = (Q : Int) := by
          rw [splice_getD _ _ _ _ (by have := Ha4.out; have := Ha.out; omega) (by rw [hls1.out]; omega), splice_getD _ _ _ _ (by have := Ha.out; omega) (by rw [HTl.out]; omega), Ht2.out]
        rw [hk2] at k2
        have z2 := hPa.frozen 2
        obtain ⟨Q2, hQ2⟩ : ∃ Q2 : Nat, (Q : Int) + 8 = (Q2 : Int) := ⟨Q + 8, by omega⟩
        have hwQ2 : IntKind.u8.wrap (Q2 : Int) = (Q2 : Int) := IntWalk.u8_in _ ⟨by omega, by omega⟩
        have HP12 := hide (hPa.set 2 (by omega) Q2 (by omega) (by omega))
        have hM2i : (2 : Int) < (M : Int) := by omega
        have Hls := hide hls
        clear hPa hls hk2
        go_wp2
        go_meet
        have hst : stamp T [I.q0, I.q1, I.q2, I.q3] I.ms = some ((splice (splice T a [I.q0, I.q1, I.q2, I.q3]) a4 (msB I.ms)).set 2 (Q2 : Int)) := by
          rw [HT.out, stamp_room (.inr (.inl rfl)) HDz.out hlt hs9, if_neg (by simp), if_pos rfl]
          have e0 : 4 + szT 1 * u = a := by rw [Ha.out, HR.out]; simp only [show szT 1 = 8 from rfl]
          have e1 : a + szT 1 - 4 = a4 := by rw [Ha4.out]; simp only [show szT 1 = 8 from rfl]; omega
          have e2 : ((5 + szT 1 * u + szT 1 : Nat) : Int) = (Q2 : Int) := by have := HQb.out; rw [HR.out] at this; simp only [show szT 1 = 8 from rfl]; omega
          rw [e0, e1, e2]
        obtain ⟨q1, q2⟩ := HFAR.out _ (gb_trans hga' (gb_set wa g' 2 (.int .u8 (Q2 : Int))))
        refine ⟨T, _, false, .inr ⟨HWo, .inr ⟨rfl, hst⟩⟩, by rw [HTl.out]; exact hM2, by rw [List.length_set, Hls.out]; exact hM2, q1, rfl, q2, ?_⟩
        have := HP12.out.sl (B := B4) (by omega)
        rwa [List.length_set, Hls.out] at this
end Go.Proofs.YbulkblgyDoor
