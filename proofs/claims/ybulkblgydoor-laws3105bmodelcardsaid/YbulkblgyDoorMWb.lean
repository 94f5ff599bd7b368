/- LawS3105BModel: the walk: the Record Route. -/
import Derived.Test.YbulkblgyDoorMTrunk
namespace Go.Proofs.YbulkblgyDoor
open Go.RowKit
set_option maxRecDepth 100000 in
set_option maxHeartbeats 40000000 in
theorem part_b : parts.b := by
  delta parts
  intro I
  set_option tactic.hygienic false in intros
  cases hs : I.hasRR with
  | false =>
    have f11 : w3.cell? ⟨ib, 11, none⟩ = some (.bool false) := (hC3.cell 11).trans (by rw [← hs]; rfl)
    go_wp2
    go_meet
    exact ⟨[], [], .inl ⟨rfl, rfl⟩, by simp, by simp, gb_refl _ _, Sl.nil _ _, Sl.nil _ _⟩
  | true =>
    have f11 : w3.cell? ⟨ib, 11, none⟩ = some (.bool true) := (hC3.cell 11).trans (by rw [← hs]; rfl)
    have f18 : w3.cell? ⟨ib, 18, none⟩ = some (.int .u8 I.rrSlots) := (hC3.cell 18).trans rfl
    have f19 : w3.cell? ⟨ib, 19, none⟩ = some (.int .u8 I.rrUsed) := (hC3.cell 19).trans rfl
    obtain ⟨l0, l1⟩ := hA.rrs
    obtain ⟨l2, l3⟩ := hA.rru
    obtain ⟨s, hss, hs9⟩ : ∃ s : Nat, I.rrSlots % 10 = (s : Int) ∧ s ≤ 9 := ⟨(I.rrSlots % 10).toNat, by omega, by omega⟩
    obtain ⟨u, huu, hus⟩ : ∃ u : Nat, I.rrUsed % ((s : Int) + 1) = u ∧ u ≤ s := ⟨(I.rrUsed % ((s : Int) + 1)).toNat, by have := Int.emod_nonneg I.rrUsed (show ((s : Int) + 1) ≠ 0 by omega); omega, by have := Int.emod_lt_of_pos I.rrUsed (show (0 : Int) < (s : Int) + 1 by omega); omega⟩
    obtain ⟨M, hM⟩ : ∃ M : Nat, (3 : Int) + 4 * (s : Int) = M := ⟨3 + 4 * s, by omega⟩
    obtain ⟨Q, hQ⟩ : ∃ Q : Nat, (4 : Int) + 4 * (u : Int) = Q := ⟨4 + 4 * u, by omega⟩
    have hMb : M = 3 + 4 * s := by omega
    have hQb : Q = 4 + 4 * u := by omega
    have HMb := hide hMb
    have HQb := hide hQb
    have hM1 : 3 ≤ M := by omega
    have hM2 : M ≤ 39 := by omega
    have hQ1 : Q ≤ 40 := by omega
    clear hMb hQb
    have hmk := run_bytes w3 M (by omega)
    have hR0 := made_row w3 M
    have hgA : w3.grownBy (w3.alloc (.cells (madeCells #[.int .u8 0] M) 5)) none := gb_alloc _ _ _
    have hwM : IntKind.u8.wrap (M : Int) = (M : Int) := IntWalk.u8_in _ ⟨by omega, by omega⟩
    have hwQ : IntKind.u8.wrap (Q : Int) = (Q : Int) := IntWalk.u8_in _ ⟨by omega, by omega⟩
    go_upto_region 46 with fail
    clear hmk
    obtain ⟨g, hg⟩ : ∃ g, w3.heap.size = g := ⟨_, rfl⟩
    rw [hg] at hR0 ⊢
    generalize (w3.alloc (.cells (madeCells #[.int .u8 0] M) 5)) = w4 at *
    have hgB : B3 ≤ g := by have := HB3.out; omega
    have hig : ib < g := by omega
    have hwg : w.heap.size ≤ g := by have := Hib.out; omega
    have hC4 := hC3.kept hgA
    clear hg f11 f18 f19
    rw [hss, huu]
    have f20 : w4.cell? ⟨ib, 20, none⟩ = some (.slice I.ra I.rn I.rc) := (hC4.cell 20).trans rfl
    have gd : w4.grownBy w4.drew none := gb_drew _ _
    have hIr := hide ((hA.rin.kept hC4.grown).kept gd)
    have hRd := hR0.kept gd (by simp)
    have hner : 0 < I.rn → ∀ b o, I.ra = some ⟨b, o, none⟩ → b ≠ g := fun hp b o e => by
      obtain ⟨b', o', e', hb', _⟩ := hA.rin (by rw [hA.rl]; exact hp)
      rw [e] at e'
      simp only [Option.some.injEq, Addr.mk.injEq] at e'
      omega
    have hrl := hide hA.rl
    have hrn := hide hA.rn
    have hrb := hide hA.rb
    have Hner := hide hner
    clear hner
    have hlr : (List.replicate M (0 : Int)).length = M := by simp
    obtain ⟨N, hN⟩ : ∃ N, M - 3 = N := ⟨_, rfl⟩
    have hN4 : N = 4 * s := by have := HMb.out; omega
    have HN4 := hide hN4
    have hN2 : N ≤ 200 := by omega
    have hN3 := hide (show 3 + N ≤ (List.replicate M (0 : Int)).length by omega)
    clear hN4 hlr
    go_cut [15] from 188 to 192 (fun s15 wk => s15 = .slice (some ⟨g, 0, none⟩) M M ∧ Row wk g 5 (splice (List.replicate M 0) 3 (fillB rd 1 N)) ∧ w4.grownBy wk (some g))
    case first => as_aux_lemma =>
      clear hR0
      clear hPS hsl hwl hdl hC3 hSs hSw hT3 hC4 hwg hgB hM hQ hwM hwQ hss huu l0 l1 l2 l3 hus
      by_cases hs0 : N = 0
      · obtain rfl : M = 3 := by omega
        subst hs0
        clear hN hM1 hM2 hN2
        have hn2 : 0 ≤ 200 := by omega
        go_region_with (go_at_call 5; (with_reducible refine Calls.mono (fill_any g 3 0 0 I.rn I.rc _ I.ra (List.replicate 3 0) rd 1 w4.drew (.inl rfl) hRd hN3.out (by omega) hrl.out hrn.out hrb.out hIr Hner.out (by omega) (by omega)) ?_); rintro e wa ⟨rfl, hRa, hga⟩)
        all_goals
          go_wp2_with fail
          go_meet
          exact ⟨rfl, hRa, gb_trans (gb_drew _ _) hga⟩
      · have HN2 := hide hN2
        have HN3 := hide hN
        have hM3 : (3 : Int) ≤ (M : Int) := by omega
        have hM4 : ¬ M = 3 := by omega
        clear hs0 hM1 hM2 hN2 hN
        go_region_with (go_at_call 5; (with_reducible refine Calls.mono (fill_any g 3 (M - 3) (M - 3) I.rn I.rc _ I.ra (List.replicate M 0) rd 1 w4.drew (.inr rfl) hRd (by rw [HN3.out]; exact hN3.out) (by rw [HN3.out]; exact HN2.out) hrl.out hrn.out hrb.out hIr Hner.out (by omega) (by omega)) ?_); rintro e wa ⟨rfl, hRa, hga⟩)
        all_goals
          go_wp2_with fail
          go_meet
          exact ⟨rfl, by rw [← HN3.out]; exact hRa, gb_trans (gb_drew _ _) hga⟩
    case rest => as_aux_lemma =>
      obtain ⟨rfl, hRf, hgf⟩ := hcut
      obtain ⟨w5, hw5⟩ : ∃ w5, w5 = wc := ⟨_, rfl⟩
      subst hw5
      clear hRd hR0 gd f20 hIr Hner hrl hrn hrb hN3
      have hDl := fillB_len rd 1 N
      obtain ⟨D, hD⟩ : ∃ D, D = fillB rd 1 N := ⟨_, rfl⟩
      rw [← hD] at hRf hDl
      have hspl : (splice (List.replicate M (0 : Int)) 3 D).length = M := by rw [length_splice _ _ _ (by rw [hDl]; simp; omega)]; simp
      have c0 := hRf.cellD 0 (by omega)
      have c1 := hRf.cellD 1 (by omega)
      have c2 := hRf.cellD 2 (by omega)
      have z0 := hRf.frozen 0
      have z1 := hRf.frozen 1
      have z2 := hRf.frozen 2
      have hR3 := ((hRf.set 0 (by omega) 7 (by omega) (by omega)).set 1 (by rw [List.length_set]; omega) M (by omega) (by omega)).set 2 (by rw [List.length_set, List.length_set]; omega) Q (by omega) (by omega)
      have hRR : (((splice (List.replicate M (0 : Int)) 3 D).set 0 7).set 1 (M : Int)).set 2 (Q : Int) = rrB s u D := by
        have e : List.replicate M (0 : Int) = List.replicate (3 + N) 0 := by rw [← hN, show 3 + (M - 3) = M by omega]
        rw [e, head3f N _ _ _ D hDl, rrB, HMb.out, HQb.out]
      rw [hRR] at hR3
      have hrrl : (rrB s u D).length = M := by simp only [rrB, List.length_cons, hDl]; omega
      have hP6 := hR3.pr (by omega)
      rw [hrrl] at hP6
      have hg6 : w5.grownBy (((w5.setCell ⟨g, 0, none⟩ (.int .u8 7)).setCell ⟨g, 1, none⟩ (.int .u8 M)).setCell ⟨g, 2, none⟩ (.int .u8 Q)) (some g) := gb_trans (gb_trans (gb_set _ _ _ _) (gb_set _ _ _ _)) (gb_set _ _ _ _)
      have hG6 := gb_new hgA (gb_trans hgf hg6) (by rw [HB3.out]; exact hgB)
      have HP6 := hide hP6
      have HG6 := hide hG6
      clear hP6 hG6 hg6 hR3 hRR hspl hRf
      have hDN : D.length = 4 * s := by rw [hDl, HN4.out]
      have HDN := hide hDN
      have Hrl := hide hrrl
      clear hDN hDl hrrl
      go_upto_region 50 with fail
      generalize (((w5.setCell ⟨g, 0, none⟩ (.int .u8 7)).setCell ⟨g, 1, none⟩ (.int .u8 M)).setCell ⟨g, 2, none⟩ (.int .u8 Q)) = w6 at *
      have hP6 := HP6.out
      have hG6 := HG6.out
      have hI6 : InB w6 (some ⟨g, 0, none⟩) (rrB s u D) := fun _ => ⟨g, 0, rfl, hP6.lt, fun i hi => by rw [Nat.zero_add]; exact hP6.cellD i hi⟩
      have HI6 := hide hI6
      have hB6 : B3 ≤ w6.heap.size := by have := hG6.size; have := HB3.out; omega
      have HB6 := hide hB6
      obtain ⟨RR, hRR⟩ : ∃ RR, RR = rrB s u D := ⟨_, rfl⟩
      rw [← hRR] at HI6 HP6 Hrl
      have HRR := hide hRR
      clear hRR hI6 hB6 hP6 c0 c1 c2 z0 z1 z2 hM hQ hwM hwQ hss huu hN hC4 hgA hgf hG6
      have hr2 : RR.getD 2 0 = (Q : Int) := by rw [HRR.out, HQb.out]; rfl
      have Hr2 := hide hr2
      clear hr2
      go_upto_if 210 with (at_builtin; refine wpList_app w6 rfl _ _ rfl w6.heap.size (.slice none 0 0) [] rfl (Sl.nil _ _) (some ⟨g, 0, none⟩) M M RR rfl Hrl.out HP6.out.bytes HI6.out (Nat.le_refl _) (by simp; omega) ?_; rintro v' w7 hS7 hg7)
      rw [List.nil_append] at hS7
      have hg7' : w6.grownBy w7 none := hg7
      rcases hS7.view with ⟨_, e0⟩ | ⟨g', c, rfl, hgB', hP7⟩
      · exact absurd (congrArg List.length e0) (by rw [Hrl.out]; simp; omega)
      · rw [Hrl.out]
        have hgg : g < g' := by have := HP6.out.lt; omega
        have hle : M ≤ c := by rw [← Hrl.out]; exact hP7.le
        have hSr7 : Sl w7 B3 (.slice (some ⟨g, 0, none⟩) M M) RR := by
          have := (HP6.out.kept hg7' (by simp)).sl (B := B3) hgB
          rwa [Hrl.out] at this
        have hG7 := gb_trans HG6.out hg7'
        have hC7 := hC3.kept hG7
        have HSr7 := hide hSr7
        have HG7 := hide hG7
        have HC7 := hide hC7
        clear hSr7 hG7 hC7 hg7 hg7' hS7 HP6 HI6 HG6 HB6 hgB'
        by_cases hlt : u < s
        · have hli : (u : Int) < (s : Int) := by omega
          obtain ⟨a, ha⟩ : ∃ a, a = 3 + 4 * u := ⟨_, rfl⟩
          have haM : a + 4 ≤ M := by have := HMb.out; omega
          have hai : (3 : Int) + 4 * (u : Int) = (a : Int) := by omega
          have Ha := hide ha
          clear ha
          go_upto_region 53 with fail
          go_loopw [19] (fun s19 wr => ∃ q : Nat, q ≤ 4 ∧ s19 = .int .i64 q ∧ Pr wr g' c (splice RR a ([I.q0, I.q1, I.q2, I.q3].take q)) ∧ w7.grownBy wr (some g')) (fun s19 _ => 4 - (intOf s19).toNat)
          case atStart => exact ⟨0, by omega, rfl, by rw [take_nil0]; exact hP7, gb_refl _ _⟩
          case round => as_aux_lemma =>
            obtain ⟨q, hq, rfl, hPq, hgq⟩ := hrel
            obtain ⟨wb, hwb⟩ : ∃ wb, wb = wr := ⟨_, rfl⟩
            subst hwb
            by_cases hq4 : q < 4
            · have hqi : (q : Int) < 4 := by omega
              have hCq := HC7.out.own hgq (by omega)
              have fy := (hCq.cell (4 + q)).trans (I.selfCell q hq4)
              obtain ⟨y0, y1⟩ := getD_byte hA.q q
              obtain ⟨n, hn⟩ : ∃ n, n = a + q := ⟨_, rfl⟩
              have hidx : (a : Int) + (q : Int) = (n : Int) := by omega
              have hoC : a + [I.q0, I.q1, I.q2, I.q3].length ≤ RR.length := by rw [Hrl.out]; simpa using haM
              obtain ⟨⟨u0, k0⟩, z0⟩ := hPq.spots (by simpa using hq4) hoC
              have hst := hPq.step (by simpa using hq4) hoC rfl y0 y1
              rw [← hn] at k0 z0 hst
              have hnM : n < M := by omega
              have hnMi : (n : Int) < (M : Int) := by omega
              have HST := hide hst
              generalize [I.q0, I.q1, I.q2, I.q3].getD q 0 = y at *
              clear hoC hst hn hPq
              go_wp2
              exact ⟨⟨q + 1, by omega, by go_num, HST.out, gb_trans hgq (gb_set _ _ _ _)⟩, by simp [intOf]; omega⟩
            · obtain rfl : q = 4 := by omega
              have hqi : ¬ ((4 : Nat) : Int) < 4 := by omega
              rw [show [I.q0, I.q1, I.q2, I.q3].take 4 = [I.q0, I.q1, I.q2, I.q3] from rfl] at hPq
              have hls : (splice RR a [I.q0, I.q1, I.q2, I.q3]).length = M := by rw [length_splice _ _ _ (by rw [Hrl.out]; simpa using haM), Hrl.out]
              have k2 := hPq.cellD 2 (by omega)
              have hk2 : (splice RR a [I.q0, I.q1, I.q2, I.q3]).getD 2 0 = (Q : Int) := by
                rw [splice_getD _ _ _ _ (by have := Ha.out; omega) (by rw [Hrl.out]; omega), Hr2.out]
              rw [hk2] at k2
              have z2 := hPq.frozen 2
              obtain ⟨Q2, hQ2⟩ : ∃ Q2 : Nat, (Q : Int) + 4 = (Q2 : Int) := ⟨Q + 4, by omega⟩
              have hwQ2 : IntKind.u8.wrap (Q2 : Int) = (Q2 : Int) := IntWalk.u8_in _ ⟨by omega, by omega⟩
              have hP8 := hPq.set 2 (by omega) Q2 (by omega) (by omega)
              have HP8 := hide hP8
              have hM2i : (2 : Int) < (M : Int) := by omega
              have Hls := hide hls
              have HQ2 := hide (show Q2 = 8 + 4 * u by have := HQb.out; omega)
              clear hP8 hPq hls hk2
              go_wp2
              go_meet
              refine ⟨RR, (splice RR a [I.q0, I.q1, I.q2, I.q3]).set 2 (Q2 : Int), .inr ?_, by rw [Hrl.out]; exact hM2, by rw [List.length_set, Hls.out]; exact hM2, gb_new HG7.out (gb_trans hgq (gb_set _ _ _ _)) (by rw [HB3.out]; omega), HSr7.out.far (gb_trans hgq (gb_set _ _ _ _)) (by simp [Value.ownBlock]; omega), ?_⟩
              · rw [HRR.out]
                refine ⟨rrB_wo HDN.out, ?_⟩
                rw [record_room HDN.out hlt hs9, HQ2.out, Ha.out]
              · have := HP8.out.sl (B := B3) (by omega)
                rw [List.length_set, Hls.out] at this
                exact this
        · have hli : ¬ (u : Int) < (s : Int) := by omega
          obtain rfl : s = u := by omega
          go_wp2
          go_meet
          refine ⟨RR, RR, .inr ?_, by rw [Hrl.out]; exact hM2, by rw [Hrl.out]; exact hM2, HG7.out, HSr7.out, ?_⟩
          · rw [HRR.out]
            exact ⟨rrB_wo HDN.out, record_full HDN.out⟩
          · have := hP7.sl (B := B3) (by omega)
            rwa [Hrl.out] at this
end Go.Proofs.YbulkblgyDoor
