/- LawS3105BModel: the walk: the Timestamp: her own address laid. -/
import Derived.Test.YbulkblgyDoorMTc
namespace Go.Proofs.YbulkblgyDoor
open Go.RowKit
set_option maxRecDepth 100000 in
set_option maxHeartbeats 40000000 in
theorem partC_2 : partsC.p2 := by
  delta partsC
  intro I
  set_option tactic.hygienic false in intros
  rcases Hcnd.out with ⟨rfl, rfl, hmt, hlt⟩ | ⟨rfl, _⟩
  · have hli : (u : Int) < (s : Int) := by omega
    have hz8 : z = 8 := by rcases Hz48.out with ⟨h, _⟩ | ⟨_, h⟩; omega; exact h
    have haM4 : a + 4 ≤ M := by have := HRz.out hlt; have := HMb.out; have := Ha.out; omega
    clear hz8 hmt
    go_upto_region 77 with fail
    go_loopw [30] (fun s30 wr => ∃ q : Nat, q ≤ 4 ∧ s30 = .int .i64 q ∧ Pr wr g M (splice (tsB 3 o s u D) a ([I.q0, I.q1, I.q2, I.q3].take q)) ∧ w8.grownBy wr (some g)) (fun s30 _ => 4 - (intOf s30).toNat)
    case atStart => exact ⟨0, by omega, rfl, by rw [take_nil0]; exact HP8.out, gb_refl _ _⟩
    case round => as_aux_lemma =>
      obtain ⟨q, hq, rfl, hPq, hgq⟩ := hrel
      obtain ⟨wb, hwb⟩ : ∃ wb, wb = wr := ⟨_, rfl⟩
      subst hwb
      by_cases hq4 : q < 4
      · have hqi : (q : Int) < 4 := by omega
        have hCq := hC8.own hgq hig
        have fy := (hCq.cell (4 + q)).trans (I.selfCell q hq4)
        obtain ⟨y0, y1⟩ := getD_byte hA.q q
        obtain ⟨n, hn⟩ : ∃ n, n = a + q := ⟨_, rfl⟩
        have hidx : (a : Int) + (q : Int) = (n : Int) := by omega
        have hoC : a + [I.q0, I.q1, I.q2, I.q3].length ≤ (tsB 3 o s u D).length := by rw [HTL.out D HDl.out]; simpa using haM4
        obtain ⟨⟨u0, k0⟩, z0⟩ := hPq.spots (by simpa using hq4) hoC
        have hst := hPq.step (by simpa using hq4) hoC rfl y0 y1
        rw [← hn] at k0 z0 hst
        have hnM : n < M := by omega
        have hnMi : (n : Int) < (M : Int) := by omega
        have HST := hide hst
        generalize [I.q0, I.q1, I.q2, I.q3].getD q 0 = y at *
        clear hoC hst hn hPq
        go_wp2
        exact ⟨⟨q + 1, by omega, by go_num, HST.out, gb_trans hgq (gb_set _ _ _ _)⟩, by simp [intOf]; omega⟩
      · obtain rfl : q = 4 := by omega
        have hqi : ¬ ((4 : Nat) : Int) < 4 := by omega
        rw [show [I.q0, I.q1, I.q2, I.q3].take 4 = [I.q0, I.q1, I.q2, I.q3] from rfl, Ha.out, tsB_splice] at hPq
        have HPq := hide hPq
        clear hPq
        go_wp2
        go_meet
        exact ⟨_, by rw [length_splice _ _ _ (by rw [HDl.out]; have := HMb.out; have := Ha.out; simp; omega)]; exact HDl.out, HPq.out, hgq⟩
  · go_wp2
    go_meet
    exact ⟨D, HDl.out, HP8.out, gb_refl _ _⟩
end Go.Proofs.YbulkblgyDoor
