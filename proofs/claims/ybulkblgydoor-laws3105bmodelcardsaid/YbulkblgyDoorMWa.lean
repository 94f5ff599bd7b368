/- LawS3105BModel: the walk: the source route. -/
import Derived.Test.YbulkblgyDoorMTrunk
namespace Go.Proofs.YbulkblgyDoor
open Go.RowKit
set_option maxRecDepth 100000 in
set_option maxHeartbeats 40000000 in
theorem part_a : parts.a := by
  delta parts
  intro I
  set_option tactic.hygienic false in intros
  cases hs : I.hasSR with
  | false =>
    have f10 : w2.cell? ⟨ib, 10, none⟩ = some (.bool false) := (hC2.cell 10).trans (by rw [← hs]; rfl)
    go_wp2
    go_meet
    exact ⟨[], [], _, true, .inl ⟨rfl, rfl, rfl, rfl⟩, by simp, by simp, by simp, hC2, Sl.nil _ _, Sl.nil _ _, rfl, hT⟩
  | true =>
    have f10 : w2.cell? ⟨ib, 10, none⟩ = some (.bool true) := (hC2.cell 10).trans (by rw [← hs]; rfl)
    have f15 : w2.cell? ⟨ib, 15, none⟩ = some (.bool I.strict) := (hC2.cell 15).trans rfl
    have f17 : w2.cell? ⟨ib, 17, none⟩ = some (.int .u8 I.srLeft) := (hC2.cell 17).trans rfl
    obtain ⟨typ, htyp⟩ : ∃ typ : Int, typ = if I.strict then 137 else 131 := ⟨_, rfl⟩
    have HTY := hide htyp
    have ht0 : 0 ≤ typ := by cases hst : I.strict <;> simp [hst] at htyp <;> omega
    have ht1 : typ < 256 := by cases hst : I.strict <;> simp [hst] at htyp <;> omega
    clear htyp
    go_upto_if 57 with fail
    go_cut [8] from 56 to 57 (fun s8 wk => s8 = .int .u8 typ ∧ w2 = wk)
    case first => as_aux_lemma =>
      cases hst : I.strict with
      | false =>
        rw [hst] at f15
        have := HTY.out
        rw [hst] at this
        simp only [Bool.false_eq_true, if_false] at this
        subst this
        go_wp2
        go_meet; exact ⟨rfl, rfl⟩
      | true =>
        rw [hst] at f15
        have := HTY.out
        rw [hst] at this
        simp only [if_true] at this
        subst this
        go_wp2
        go_meet; exact ⟨rfl, rfl⟩
    case rest => as_aux_lemma =>
      obtain ⟨rfl, rfl⟩ := hcut
      have hl0 := hA.left.1
      have hl1 := hA.left.2
      obtain ⟨k, hk, hkh⟩ : ∃ k : Nat, I.srLeft % ((h : Int) + 1) = k ∧ k ≤ h := ⟨(I.srLeft % ((h : Int) + 1)).toNat, by have := Int.emod_nonneg I.srLeft (show ((h : Int) + 1) ≠ 0 by omega); omega, by have := Int.emod_lt_of_pos I.srLeft (show (0 : Int) < (h : Int) + 1 by omega); omega⟩
      obtain ⟨M, hM⟩ : ∃ M : Nat, (3 : Int) + 4 * (h : Int) = M := ⟨3 + 4 * h, by omega⟩
      obtain ⟨Q, hQ⟩ : ∃ Q : Nat, (4 : Int) + 4 * (k : Int) = Q := ⟨4 + 4 * k, by omega⟩
      have hMb : M = 3 + 4 * h := by omega
      have hQb : Q = 4 + 4 * k := by omega
      have HMb := hide hMb
      have HQb := hide hQb
      have hM1 : 3 ≤ M := by omega
      have hM2 : M ≤ 39 := by omega
      have hQ1 : Q ≤ 40 := by omega
      clear hMb hQb
      have hmk := run_bytes w2 M (by omega)
      have hR0 := made_row w2 M
      have hgA : w2.grownBy (w2.alloc (.cells (madeCells #[.int .u8 0] M) 5)) none := gb_alloc _ _ _
      have hwM : IntKind.u8.wrap (M : Int) = (M : Int) := IntWalk.u8_in _ ⟨by omega, by omega⟩
      have hwQ : IntKind.u8.wrap (Q : Int) = (Q : Int) := IntWalk.u8_in _ ⟨by omega, by omega⟩
      go_upto_region 13 with fail
      clear hmk
      obtain ⟨g, hg⟩ : ∃ g, w2.heap.size = g := ⟨_, rfl⟩
      rw [hg] at hR0 ⊢
      generalize (w2.alloc (.cells (madeCells #[.int .u8 0] M) 5)) = w3 at *
      have hig : ib < g := by have := hC2.lt; omega
      have htg : tb < g := by have := hT.lt; omega
      have HG := hide hg
      clear hg f10 f15 f17
      rw [hk]
      have hlr : (List.replicate M (0 : Int)).length = M := by simp
      have c0 := hR0.cellD 0 (by omega)
      have c1 := hR0.cellD 1 (by omega)
      have c2 := hR0.cellD 2 (by omega)
      have z0 := hR0.frozen 0
      have z1 := hR0.frozen 1
      have z2 := hR0.frozen 2
      have hR3 := ((hR0.set 0 (by omega) typ ht0 ht1).set 1 (by rw [List.length_set]; omega) M (by omega) (by omega)).set 2 (by rw [List.length_set, List.length_set]; omega) Q (by omega) (by omega)
      have hg3 : w3.grownBy (((w3.setCell ⟨g, 0, none⟩ (.int .u8 typ)).setCell ⟨g, 1, none⟩ (.int .u8 M)).setCell ⟨g, 2, none⟩ (.int .u8 Q)) (some g) := gb_trans (gb_trans (gb_set _ _ _ _) (gb_set _ _ _ _)) (gb_set _ _ _ _)
      have HR3 := hide hR3
      have HG3 := hide hg3
      have HR0 := hide hR0
      clear hR3 hg3 hR0
      go_upto_region 17 with fail
      have hG3 := HG3.out
      have hR3 := HR3.out
      obtain ⟨C0, hC0⟩ : ∃ C0 : List Int, C0 = typ :: (M : Int) :: (Q : Int) :: List.replicate (4 * h) 0 := ⟨_, rfl⟩
      obtain ⟨G, hGe⟩ : ∃ G : List Int, G = hops.flatten := ⟨_, rfl⟩
      have hGl : G.length = 4 * h := by rw [hGe, fours_len hops hA.four, HH.out]
      have hCl : C0.length = 3 + 4 * h := by rw [hC0]; simp; omega
      have hP0 : Pr (((w3.setCell ⟨g, 0, none⟩ (.int .u8 typ)).setCell ⟨g, 1, none⟩ (.int .u8 M)).setCell ⟨g, 2, none⟩ (.int .u8 Q)) g M C0 := by
        have e : List.replicate M (0 : Int) = List.replicate (3 + 4 * h) 0 := by rw [HMb.out]
        rw [e, head3, ← hC0] at hR3
        have := hR3.pr (by rw [hCl]; omega)
        rwa [hCl, ← HMb.out] at this
      clear hR3 HR3 HG3
      generalize (((w3.setCell ⟨g, 0, none⟩ (.int .u8 typ)).setCell ⟨g, 1, none⟩ (.int .u8 M)).setCell ⟨g, 2, none⟩ (.int .u8 Q)) = w4 at *
      have hC4 := (hC2.kept hgA).own hG3 hig
      have hT4 := (hT.kept hgA (by simp)).kept hG3 (by simp; omega)
      have HC0 := hide hC0
      have HGe := hide hGe
      have HGl := hide hGl
      have HCl := hide hCl
      clear hC0 hGe hGl hCl c0 c1 c2 z0 z1 z2 HR0 hlr hG3 hgA hC2 hT HG hM hQ hwM hwQ hk
      go_loopw [10] (fun s10 wr => ∃ j : Nat, j ≤ h ∧ s10 = .int .i64 j ∧ Pr wr g M (splice C0 3 (G.take (4 * j))) ∧ w4.grownBy wr (some g)) (fun s10 _ => h - (intOf s10).toNat)
      case atStart => exact ⟨0, by omega, rfl, by rw [Nat.mul_zero, take_nil0]; exact hP0, gb_refl _ _⟩
      case round => as_aux_lemma =>
        obtain ⟨j, hj, rfl, hPj, hgj⟩ := hrel
        obtain ⟨wa, hwa⟩ : ∃ wa, wa = wr := ⟨_, rfl⟩
        subst hwa
        by_cases hlt : j < h
        · have hil : (j : Int) < (h : Int) := by omega
          go_upto_region 20 with fail
          go_loopw [11] (fun s11 wr2 => ∃ q : Nat, q ≤ 4 ∧ s11 = .int .i64 q ∧ Pr wr2 g M (splice C0 3 (G.take (4 * j + q))) ∧ w4.grownBy wr2 (some g)) (fun s11 _ => 4 - (intOf s11).toNat)
          case atStart => exact ⟨0, by omega, rfl, hPj, hgj⟩
          case round => as_aux_lemma =>
            obtain ⟨q, hq, rfl, hPq, hgq⟩ := hrel
            obtain ⟨wb, hwb⟩ : ∃ wb, wb = wr := ⟨_, rfl⟩
            subst hwb
            by_cases hq4 : q < 4
            · have hqi : (q : Int) < 4 := by omega
              obtain ⟨b, o, eha, hbl, hcells⟩ := hA.hops (by rw [HH.out]; omega)
              have hCq := hC4.own hgq hig
              have f16 : wb.cell? ⟨ib, 16, none⟩ = some (.slice (some ⟨b, o, none⟩) I.hn I.hc) := by rw [← eha]; exact (hCq.cell 16).trans rfl
              have fy := (hCq.grown.cell_far ⟨b, o + j * 4 + q, none⟩ hbl (by simp)).trans (hcells j (by rw [HH.out]; exact hlt) q hq4)
              have hye : (hops.getD j []).getD q 0 = G.getD (4 * j + q) 0 := by rw [HGe.out, fours_getD hops j q hA.four (by rw [HH.out]; exact hlt) hq4]
              obtain ⟨y0, y1⟩ := hA.hbyte j q
              obtain ⟨n, hn⟩ : ∃ n, n = 3 + (4 * j + q) := ⟨_, rfl⟩
              have hidx : (3 : Int) + 4 * (j : Int) + (q : Int) = (n : Int) := by omega
              have hmG : 4 * j + q < G.length := by rw [HGl.out]; omega
              have hoC : 3 + G.length ≤ C0.length := by rw [HGl.out, HCl.out]; exact Nat.le_refl _
              obtain ⟨⟨u0, k0⟩, z0⟩ := hPq.spots hmG hoC
              have hst := hPq.step hmG hoC hye y0 y1
              rw [← hn] at k0 z0 hst
              have hnM : n < M := by have := HMb.out; omega
              have hnMi : (n : Int) < (M : Int) := by omega
              have HST := hide hst
              have hjn : (j : Int) < (I.hn : Int) := by omega
              generalize (hops.getD j []).getD q 0 = y at *
              clear hcells hye hmG hoC hst hn eha
              go_wp2
              exact ⟨⟨q + 1, by omega, by go_num, HST.out, gb_trans hgq (gb_set _ _ _ _)⟩, by simp [intOf]; omega⟩
            · obtain rfl : q = 4 := by omega
              have hqi : ¬ ((4 : Nat) : Int) < 4 := by omega
              go_wp2
              exact ⟨⟨j + 1, by omega, by go_num, hPq, hgq⟩, by simp [intOf]; omega⟩
        · obtain rfl : h = j := by omega
          have hil : ¬ (h : Int) < (h : Int) := by omega
          obtain ⟨dn, hdn⟩ : ∃ dn : Bool, ((k : Int) == (h : Int)) = dn := ⟨_, rfl⟩
          have hPs : Pr wa g M (srB typ hops k) := by
            have e : splice C0 3 (G.take (4 * h)) = srB typ hops k := by
              rw [List.take_of_length_le (by rw [HGl.out]; exact Nat.le_refl _), HC0.out, splice3 _ _ _ _ _ HGl.out, srB, HGe.out, HMb.out, HQb.out, HH.out]
            rwa [e] at hPj
          clear hPj
          have HPs := hide hPs
          have c1 := hPs.cellD 1 (by simp [srB])
          have ec1 : (srB typ hops k).getD 1 0 = (M : Int) := by rw [HMb.out, ← HH.out]; rfl
          rw [ec1] at c1
          have hgl := hPs.lt
          have hCa := hC4.own hgj hig
          have hTa := hT4.kept hgj (by simp; omega)
          clear ec1 hPs
          go_upto_if 109 with fail
          go_cut [5, 12, 13, 14] from 108 to 171 (fun s5 _ _ _ wk => ∃ wsr dst, ((h = 0 ∧ wsr = [] ∧ dst = [I.p0, I.p1, I.p2, I.p3]) ∨ (0 < h ∧ wsr = typ :: (M : Int) :: 4 :: (revd hops (h - 1) ++ [I.p0, I.p1, I.p2, I.p3]) ∧ dst = hops.getD (h - 1) [])) ∧ wa.grownBy wk (some tb) ∧ Sl wk ib s5 wsr ∧ Row wk tb 22 dst)
          case first => as_aux_lemma =>
            by_cases hp : 0 < h
            · have hpi : (h : Int) > 0 := by omega
              have hmk := run_bytes wa M (by omega)
              have hR0 := made_row wa M
              have hgA : wa.grownBy (wa.alloc (.cells (madeCells #[.int .u8 0] M) 5)) none := gb_alloc _ _ _
              go_upto_region 26 with fail
              clear hmk
              obtain ⟨g2, hg2⟩ : ∃ g2, wa.heap.size = g2 := ⟨_, rfl⟩
              rw [hg2] at hR0 hgl ⊢
              have c1m := (hgA.cell_far ⟨g, 1, none⟩ (by show g < _; omega) (by simp)).trans c1
              have hCm := hCa.kept hgA
              have hTm := hTa.kept hgA (by simp)
              generalize (wa.alloc (.cells (madeCells #[.int .u8 0] M) 5)) = wm at *
              have HG2 := hide hg2
              clear hg2 c1
              have hlr : (List.replicate M (0 : Int)).length = M := by simp
              have c0 := hR0.cellD 0 (by omega)
              have c1 := hR0.cellD 1 (by omega)
              have c2 := hR0.cellD 2 (by omega)
              have z0 := hR0.frozen 0
              have z1 := hR0.frozen 1
              have z2 := hR0.frozen 2
              have hR3 := ((hR0.set 0 (by omega) typ ht0 ht1).set 1 (by rw [List.length_set]; omega) M (by omega) (by omega)).set 2 (by rw [List.length_set, List.length_set]; omega) 4 (by omega) (by omega)
              have hg3 : wm.grownBy (((wm.setCell ⟨g2, 0, none⟩ (.int .u8 typ)).setCell ⟨g2, 1, none⟩ (.int .u8 M)).setCell ⟨g2, 2, none⟩ (.int .u8 4)) (some g2) := gb_trans (gb_trans (gb_set _ _ _ _) (gb_set _ _ _ _)) (gb_set _ _ _ _)
              have HR3 := hide hR3
              have HG3 := hide hg3
              clear hR3 hg3 hR0
              have hgg : g ≠ g2 := by omega
              go_upto_region 30 with fail
              have hG3 := HG3.out
              have hR3 := HR3.out
              obtain ⟨C2, hC2⟩ : ∃ C2 : List Int, C2 = typ :: (M : Int) :: 4 :: List.replicate (4 * h) 0 := ⟨_, rfl⟩
              obtain ⟨d, hd⟩ : ∃ d : Nat, (h : Int) - 1 = (d : Int) := ⟨h - 1, by omega⟩
              have hdh : d + 1 = h := by omega
              obtain ⟨G2, hG2e⟩ : ∃ G2 : List Int, G2 = revd hops d ++ [I.p0, I.p1, I.p2, I.p3] := ⟨_, rfl⟩
              have hG2l : G2.length = 4 * h := by rw [hG2e, List.length_append, revd_len hops hA.four d (by rw [HH.out]; omega)]; simp; omega
              have hC2l : C2.length = 3 + 4 * h := by rw [hC2]; simp; omega
              have hP2 : Pr (((wm.setCell ⟨g2, 0, none⟩ (.int .u8 typ)).setCell ⟨g2, 1, none⟩ (.int .u8 M)).setCell ⟨g2, 2, none⟩ (.int .u8 4)) g2 M C2 := by
                have e : List.replicate M (0 : Int) = List.replicate (3 + 4 * h) 0 := by rw [HMb.out]
                rw [e, head3, ← hC2] at hR3
                have := hR3.pr (by rw [hC2l]; omega)
                rwa [hC2l, ← HMb.out] at this
              clear hR3 HR3 HG3
              generalize (((wm.setCell ⟨g2, 0, none⟩ (.int .u8 typ)).setCell ⟨g2, 1, none⟩ (.int .u8 M)).setCell ⟨g2, 2, none⟩ (.int .u8 4)) = wn at *
              have hig2 : ib < g2 := by omega
              have htg2 : tb < g2 := by omega
              have hCn := hCm.own hG3 hig2
              have hTn := hTm.kept hG3 (by simp; omega)
              have HgA := hide (gb_new hgA hG3 (by rw [HG2.out]; exact Nat.le_refl _))
              have HC2 := hide hC2
              have HG2e := hide hG2e
              have HG2l := hide hG2l
              have HC2l := hide hC2l
              have HT0 := hide hTn
              clear hC2 hG2e hG2l hC2l c0 c1 c2 z0 z1 z2 hlr hG3 hgA hCm hTm c1m hTn hTa hT4 hP0 hdn
              go_loopw [12] (fun s12 wr => ∃ j : Nat, j ≤ d ∧ s12 = .int .i64 j ∧ Pr wr g2 M (splice C2 3 (G2.take (4 * j))) ∧ wn.grownBy wr (some g2)) (fun s12 _ => d - (intOf s12).toNat)
              case atStart => exact ⟨0, by omega, rfl, by rw [Nat.mul_zero, take_nil0]; exact hP2, gb_refl _ _⟩
              case round => as_aux_lemma =>
                obtain ⟨j, hj, rfl, hPj, hgj'⟩ := hrel
                obtain ⟨wd, hwd⟩ : ∃ wd, wd = wr := ⟨_, rfl⟩
                subst hwd
                by_cases hlt : j < d
                · have hil : (j : Int) < (d : Int) := by omega
                  go_upto_region 33 with fail
                  obtain ⟨e, he⟩ : ∃ e : Nat, (h : Int) - 2 - (j : Int) = (e : Int) := ⟨h - 2 - j, by omega⟩
                  have heh : e + 2 + j = h := by omega
                  go_loopw [13] (fun s13 wr2 => ∃ q : Nat, q ≤ 4 ∧ s13 = .int .i64 q ∧ Pr wr2 g2 M (splice C2 3 (G2.take (4 * j + q))) ∧ wn.grownBy wr2 (some g2)) (fun s13 _ => 4 - (intOf s13).toNat)
                  case atStart => exact ⟨0, by omega, rfl, hPj, hgj'⟩
                  case round => as_aux_lemma =>
                    obtain ⟨q, hq, rfl, hPq, hgq⟩ := hrel
                    obtain ⟨wb, hwb⟩ : ∃ wb, wb = wr := ⟨_, rfl⟩
                    subst hwb
                    by_cases hq4 : q < 4
                    · have hqi : (q : Int) < 4 := by omega
                      obtain ⟨b, o, eha, hbl, hcells⟩ := hA.hops (by rw [HH.out]; omega)
                      have hCq := hCn.own hgq hig2
                      have f16 : wb.cell? ⟨ib, 16, none⟩ = some (.slice (some ⟨b, o, none⟩) I.hn I.hc) := by rw [← eha]; exact (hCq.cell 16).trans rfl
                      have fy := (hCq.grown.cell_far ⟨b, o + e * 4 + q, none⟩ hbl (by simp)).trans (hcells e (by rw [HH.out]; omega) q hq4)
                      have hye : (hops.getD e []).getD q 0 = G2.getD (4 * j + q) 0 := by
                        rw [HG2e.out, revd_getD hops hA.four d j q _ (by rw [HH.out]; omega) hlt hq4, HH.out, show h - 2 - j = e by omega]
                      obtain ⟨y0, y1⟩ := hA.hbyte e q
                      obtain ⟨n, hn⟩ : ∃ n, n = 3 + (4 * j + q) := ⟨_, rfl⟩
                      have hidx : (3 : Int) + 4 * (j : Int) + (q : Int) = (n : Int) := by omega
                      have hmG : 4 * j + q < G2.length := by rw [HG2l.out]; omega
                      have hoC : 3 + G2.length ≤ C2.length := by rw [HG2l.out, HC2l.out]; exact Nat.le_refl _
                      obtain ⟨⟨u0, k0⟩, z0⟩ := hPq.spots hmG hoC
                      have hst := hPq.step hmG hoC hye y0 y1
                      rw [← hn] at k0 z0 hst
                      have hnM : n < M := by have := HMb.out; omega
                      have hnMi : (n : Int) < (M : Int) := by omega
                      have HST := hide hst
                      have hjn : (e : Int) < (I.hn : Int) := by omega
                      generalize (hops.getD e []).getD q 0 = y at *
                      clear hcells hye hmG hoC hst hn eha
                      go_wp2
                      exact ⟨⟨q + 1, by omega, by go_num, HST.out, gb_trans hgq (gb_set _ _ _ _)⟩, by simp [intOf]; omega⟩
                    · obtain rfl : q = 4 := by omega
                      have hqi : ¬ ((4 : Nat) : Int) < 4 := by omega
                      go_wp2
                      exact ⟨⟨j + 1, by omega, by go_num, hPq, hgq⟩, by simp [intOf]; omega⟩
                · obtain rfl : d = j := by omega
                  have hil : ¬ (d : Int) < (d : Int) := by omega
                  go_upto_region 37 with fail
                  go_loopw [14] (fun s14 wr2 => ∃ q : Nat, q ≤ 4 ∧ s14 = .int .i64 q ∧ Pr wr2 g2 M (splice C2 3 (G2.take (4 * d + q))) ∧ wn.grownBy wr2 (some g2)) (fun s14 _ => 4 - (intOf s14).toNat)
                  case atStart => exact ⟨0, by omega, rfl, hPj, hgj'⟩
                  case round => as_aux_lemma =>
                    obtain ⟨q, hq, rfl, hPq, hgq⟩ := hrel
                    obtain ⟨wb, hwb⟩ : ∃ wb, wb = wr := ⟨_, rfl⟩
                    subst hwb
                    have hCq := hCn.own hgq hig2
                    by_cases hq4 : q < 4
                    · have hqi : (q : Int) < 4 := by omega
                      have fy := (hCq.cell q).trans (I.srcCell q hq4)
                      have hye : [I.p0, I.p1, I.p2, I.p3].getD q 0 = G2.getD (4 * d + q) 0 := by
                        rw [HG2e.out, revd_last hops hA.four d q _ (by rw [HH.out]; omega)]
                      obtain ⟨y0, y1⟩ := getD_byte hA.p q
                      obtain ⟨n, hn⟩ : ∃ n, n = 3 + (4 * d + q) := ⟨_, rfl⟩
                      have hidx : (3 : Int) + 4 * (d : Int) + (q : Int) = (n : Int) := by omega
                      have hmG : 4 * d + q < G2.length := by rw [HG2l.out]; omega
                      have hoC : 3 + G2.length ≤ C2.length := by rw [HG2l.out, HC2l.out]; exact Nat.le_refl _
                      obtain ⟨⟨u0, k0⟩, z0⟩ := hPq.spots hmG hoC
                      have hst := hPq.step hmG hoC hye y0 y1
                      rw [← hn] at k0 z0 hst
                      have hnM : n < M := by have := HMb.out; omega
                      have hnMi : (n : Int) < (M : Int) := by omega
                      have HST := hide hst
                      generalize [I.p0, I.p1, I.p2, I.p3].getD q 0 = y at *
                      clear hye hmG hoC hst hn
                      go_wp2
                      exact ⟨⟨q + 1, by omega, by go_num, HST.out, gb_trans hgq (gb_set _ _ _ _)⟩, by simp [intOf]; omega⟩
                    · obtain rfl : q = 4 := by omega
                      have hqi : ¬ ((4 : Nat) : Int) < 4 := by omega
                      obtain ⟨b, o, eha, hbl, hcells⟩ := hA.hops (by rw [HH.out]; omega)
                      have f16 : wb.cell? ⟨ib, 16, none⟩ = some (.slice (some ⟨b, o, none⟩) I.hn I.hc) := by rw [← eha]; exact (hCq.cell 16).trans rfl
                      have y0 := (hCq.grown.cell_far ⟨b, o + d * 4 + 0, none⟩ hbl (by simp)).trans (hcells d (by rw [HH.out]; omega) 0 (by omega))
                      have y1 := (hCq.grown.cell_far ⟨b, o + d * 4 + 1, none⟩ hbl (by simp)).trans (hcells d (by rw [HH.out]; omega) 1 (by omega))
                      have y2 := (hCq.grown.cell_far ⟨b, o + d * 4 + 2, none⟩ hbl (by simp)).trans (hcells d (by rw [HH.out]; omega) 2 (by omega))
                      have y3 := (hCq.grown.cell_far ⟨b, o + d * 4 + 3, none⟩ hbl (by simp)).trans (hcells d (by rw [HH.out]; omega) 3 (by omega))
                      rw [Nat.add_zero] at y0
                      have hX4 : (hops.getD d []).length = 4 := by
                        have hi : d < hops.length := by rw [HH.out]; omega
                        simp only [List.getD, List.getElem?_eq_getElem hi, Option.getD_some]
                        exact hA.four _ (List.getElem_mem hi)
                      have hXe : hops.getD d [] = [(hops.getD d []).getD 0 0, (hops.getD d []).getD 1 0, (hops.getD d []).getD 2 0, (hops.getD d []).getD 3 0] := by
                        generalize hops.getD d [] = X at hX4
                        match X, hX4 with
                        | [x0, x1, x2, x3], _ => rfl
                      have b0 := hA.hbyte d 0
                      have b1 := hA.hbyte d 1
                      have b2 := hA.hbyte d 2
                      have b3 := hA.hbyte d 3
                      have HXe := hide hXe
                      clear hXe hX4 hcells
                      have hTb := HT0.out.kept hgq (by simp; omega)
                      have t0 := hTb.cellD 0 (by simp)
                      have t1 := hTb.cellD 1 (by simp)
                      have t2 := hTb.cellD 2 (by simp)
                      have t3 := hTb.cellD 3 (by simp)
                      have tz0 := hTb.frozen 0
                      have tz1 := hTb.frozen 1
                      have tz2 := hTb.frozen 2
                      have tz3 := hTb.frozen 3
                      have hT5 := (((hTb.set 0 (by simp) _ b0.1 b0.2).set 1 (by simp) _ b1.1 b1.2).set 2 (by simp) _ b2.1 b2.2).set 3 (by simp) _ b3.1 b3.2
                      have HT5 := hide hT5
                      have hPf : Pr wb g2 M (typ :: (M : Int) :: 4 :: (revd hops d ++ [I.p0, I.p1, I.p2, I.p3])) := by
                        have e : splice C2 3 (G2.take (4 * d + 4)) = typ :: (M : Int) :: 4 :: (revd hops d ++ [I.p0, I.p1, I.p2, I.p3]) := by
                          rw [List.take_of_length_le (by rw [HG2l.out]; omega), HC2.out, splice3 _ _ _ _ _ HG2l.out, HG2e.out]
                        rwa [e] at hPq
                      have hlf : (typ :: (M : Int) :: 4 :: (revd hops d ++ [I.p0, I.p1, I.p2, I.p3])).length = M := by
                        rw [HMb.out]
                        simp only [List.length_cons, List.length_append, List.length_nil, revd_len hops hA.four d (by rw [HH.out]; omega)]; omega
                      have HPf := hide hPf
                      have hdn1 : (d : Int) < (I.hn : Int) := by omega
                      have Hlf := hide hlf
                      clear hPf hPq hT5 hlf eha b0 b1 b2 b3
                      generalize (hops.getD d []).getD 0 0 = x0 at *
                      generalize (hops.getD d []).getD 1 0 = x1 at *
                      generalize (hops.getD d []).getD 2 0 = x2 at *
                      generalize (hops.getD d []).getD 3 0 = x3 at *
                      go_wp2
                      go_meet
                      have hgs : wb.grownBy ((((wb.setCell ⟨tb, 0, none⟩ (.int .u8 x0)).setCell ⟨tb, 1, none⟩ (.int .u8 x1)).setCell ⟨tb, 2, none⟩ (.int .u8 x2)).setCell ⟨tb, 3, none⟩ (.int .u8 x3)) (some tb) := gb_trans (gb_trans (gb_trans (gb_set _ _ _ _) (gb_set _ _ _ _)) (gb_set _ _ _ _)) (gb_set _ _ _ _)
                      refine ⟨_, _, .inr ⟨hp, rfl, rfl⟩, ?_, ?_, ?_⟩
                      · exact gb_trans (gb_some _ (gb_new HgA.out hgq (by rw [HG2.out]; exact Nat.le_refl _))) hgs
                      · have := (HPf.out.kept hgs (by simp; omega)).sl (B := ib) (by omega)
                        rw [Hlf.out] at this
                        rw [show h - 1 = d by omega]
                        exact this
                      · rw [show h - 1 = d by omega, HXe.out]
                        exact HT5.out
            · have hpi : ¬ (h : Int) > 0 := by omega
              go_wp2
              go_meet
              exact ⟨[], _, .inl ⟨by omega, rfl, rfl⟩, gb_refl _ _, Sl.nil _ _, hTa⟩
          case rest => as_aux_lemma =>
            obtain ⟨wsr, dst, hcs, hgk, hSk, hRk⟩ := hcut
            have hPs := HPs.out
            have hsl : (srB typ hops k).length = M := by rw [srB_len _ _ _ hA.four, HH.out, HMb.out]
            have hSr : Sl wc ib (.slice (some ⟨g, 0, none⟩) M M) (srB typ hops k) := by
              have := (hPs.kept hgk (by simp; omega)).sl (B := ib) (by omega)
              rwa [hsl] at this
            have hM2' := hM2
            have hwl : wsr.length ≤ 39 := by
              rcases hcs with ⟨_, rfl, _⟩ | ⟨h1, rfl, _⟩
              · simp
              · simp only [List.length_cons, List.length_append, List.length_nil, revd_len hops hA.four (h - 1) (by rw [HH.out]; omega)]; omega
            have hdl : dst.length = 4 := by
              rcases hcs with ⟨_, _, rfl⟩ | ⟨h1, _, rfl⟩
              · simp
              · have hi : h - 1 < hops.length := by rw [HH.out]; omega
                simp only [List.getD, List.getElem?_eq_getElem hi, Option.getD_some]
                exact hA.four _ (List.getElem_mem hi)
            have hPS : PS [I.p0, I.p1, I.p2, I.p3] (srB typ hops k) wsr dst dn := by
              right
              refine ⟨?_, ?_⟩
              · have := srB_wo typ hops k hA.four
                have ht := HTY.out
                cases hst : I.strict <;> simp [hst] at ht <;> subst ht
                · exact .inl this
                · exact .inr this
              · by_cases hkk : k = h
                · right
                  refine ⟨by rw [← hdn]; simp [hkk], ?_⟩
                  have := route_done typ hops [I.p0, I.p1, I.p2, I.p3] hA.four
                  rw [HH.out] at this
                  rw [hkk, this]
                  rcases hcs with ⟨h1, rfl, rfl⟩ | ⟨h1, rfl, rfl⟩
                  · rw [if_pos (List.eq_nil_of_length_eq_zero (by rw [HH.out]; exact h1))]
                  · rw [if_neg (fun e => by have := HH.out; rw [e] at this; simp at this; omega), HMb.out]
                · left
                  exact ⟨by rw [← hdn]; simp; omega, route_skip typ hops k _ hA.four (by rw [HH.out]; omega)⟩
            go_wp2
            go_meet
            exact ⟨_, wsr, dst, dn, hPS, by rw [hsl]; exact hM2, hwl, hdl, hCa.own hgk hit, hSr, hSk, rfl, hRk⟩
end Go.Proofs.YbulkblgyDoor
