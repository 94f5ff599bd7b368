/- LawS3101B*: (*MessageWriter).Flush: the writer's Write fails. -/
import Derived.Test.YbulkbleuFmtAddF
import Derived.Test.YbulkbleuFmtWr
import Derived.Handy
namespace Go.Proofs.YbulkbleuFmt.B
open Go.RowKit

theorem split5 (L : List Int) (h : 16 ≤ L.length) : ∃ X1 X2 X3 X4 X5 Y, L = X1 ++ (X2 ++ (X3 ++ (X4 ++ (X5 ++ Y)))) ∧ X1.length = 2 ∧ X2.length = 2 ∧ X3.length = 4 ∧ X4.length = 4 ∧ X5.length = 4 ∧ Y = L.drop 16 := by
  refine ⟨L.take 2, (L.drop 2).take 2, (L.drop 4).take 4, (L.drop 8).take 4, (L.drop 12).take 4, L.drop 16, ?_, by simp; omega, by simp; omega, by simp; omega, by simp; omega, by simp; omega, rfl⟩
  have e1 : L.drop 12 = (L.drop 12).take 4 ++ L.drop 16 := by rw [← List.drop_drop (i := 4) (j := 12)]; exact (List.take_append_drop 4 _).symm
  have e2 : L.drop 8 = (L.drop 8).take 4 ++ L.drop 12 := by rw [← List.drop_drop (i := 4) (j := 8)]; exact (List.take_append_drop 4 _).symm
  have e3 : L.drop 4 = (L.drop 4).take 4 ++ L.drop 8 := by rw [← List.drop_drop (i := 4) (j := 4)]; exact (List.take_append_drop 4 _).symm
  have e4 : L.drop 2 = (L.drop 2).take 2 ++ L.drop 4 := by rw [← List.drop_drop (i := 2) (j := 2)]; exact (List.take_append_drop 2 _).symm
  rw [← e1, ← e2, ← e3, ← e4, List.take_append_drop]

/-- What Flush leaves when the writer fails. -/
structure Left14 (w w' : World) (B mb zb : Nat) (v tv : Value) (n s : Nat) (sid rec : Int) (len : Nat) : Prop where
  buf : ∃ L', L'.length = len ∧ Buf w' B v L'
  mc : MC w' mb v s sid rec tv
  calls : w'.cell? ⟨zb, 1, none⟩ = some (.int .i64 ((n + 1 : Nat) : Int))
  size : w.heap.size ≤ w'.heap.size
  block : ∀ k, k < w.heap.size → k ≠ zb → some k ≠ v.ownBlock → w'.heap[k]? = w.heap[k]?
  zc : ∀ j, j ≠ 1 → w'.cell? ⟨zb, j, none⟩ = w.cell? ⟨zb, j, none⟩
  zf : ∀ j, w'.frozen? ⟨zb, j, none⟩ = w.frozen? ⟨zb, j, none⟩
  os : w'.os = w.os
  tape : w'.tape = w.tape
  output : w'.output = w.output

set_option maxRecDepth 100000 in
set_option maxHeartbeats 2000000 in
theorem flush_fail (B mb zb s n : Nat) (v tv : Value) (L : List Int) (sid rec dm ex sq : Int) (ev : Value) (w : World) (hb : Buf w B v L) (hM : MC w mb v s sid rec tv) (c0 : w.cell? ⟨mb, 0, none⟩ = some (.iface 35 (.pointer (some ⟨zb, 0, none⟩)))) (c1 : w.cell? ⟨mb, 1, none⟩ = some (.int .u32 dm)) (c3 : w.cell? ⟨mb, 3, none⟩ = some (.int .u32 ex)) (c4 : w.cell? ⟨mb, 4, none⟩ = some (.int .u32 sq))
    (z1 : w.cell? ⟨zb, 1, none⟩ = some (.int .i64 n)) (z2 : w.cell? ⟨zb, 2, none⟩ = some (.iface 102 ev)) (zf : ∀ j, w.frozen? ⟨zb, j, none⟩ = false) (hn : n ≤ 100000) (hs0 : 0 < s) (hs : s + 4 ≤ L.length) (hlen : L.length ≤ 10000) (h16 : 16 < L.length) (hmb : mb < B) (hzb : zb < B) (_hzm : zb ≠ mb) (hB : B ≤ w.heap.size)
    (d0 : 0 ≤ dm) (d1 : dm < 4294967296) (e0 : 0 ≤ ex) (e1 : ex < 4294967296) (q0 : 0 ≤ sq) (q1 : sq < 4294967296) :
    Calls Ybaf.prog 14 #[.pointer (some ⟨mb, 0, none⟩)] w fun e w' => e = .returned (.iface 102 ev) ∧ Left14 w w' B mb zb v tv n s sid rec L.length := by
  have c7 := hM.c7
  have c8 := hM.c8
  obtain ⟨g, cap, m, hv⟩ := hb.shape
  have hm : m = L.length ∧ L.length ≤ cap := by
    obtain ⟨g', cap', cur, e, _, _, hc, _⟩ := hb
    rw [hv] at e
    simp only [Value.slice.injEq] at e
    omega
  obtain ⟨rfl, hcap⟩ := hm
  subst hv
  have hgB := (hb.lt g rfl).1
  have n16 : ((L.length : Int) == 16) = false := beq_eq_false_iff_ne.2 (by omega)
  have hne : some mb ≠ (Value.slice (some ⟨g, 0, none⟩) L.length cap).ownBlock := hb.ne hmb
  have hnz : some zb ≠ (Value.slice (some ⟨g, 0, none⟩) L.length cap).ownBlock := hb.ne hzb
  have hwr : IntKind.u16.wrap (L.length : Int) = (L.length : Int) := IntWalk.u16_in _ ⟨by omega, by omega⟩
  go_enter Ybaf.func14, Ybaf.ntmps14
  go_upto_region 4 with (go_at_call 30; (with_reducible refine Calls.mono (close_any B mb s _ L w hb c7 c8 hs0 hs hlen hmb hB) ?_); rintro e w1 ⟨rfl, hb1, hg1⟩)
  have hlm : mb < w.heap.size := by omega
  have hlz : zb < w.heap.size := by omega
  have hM1 := hM.grown hg1 hlm hne
  have hc : ∀ j, w1.cell? ⟨mb, j, none⟩ = w.cell? ⟨mb, j, none⟩ := fun j => hg1.cell_far ⟨mb, j, none⟩ hlm hne
  have hzc : ∀ j, w1.cell? ⟨zb, j, none⟩ = w.cell? ⟨zb, j, none⟩ := fun j => hg1.cell_far ⟨zb, j, none⟩ hlz hnz
  have hzf : ∀ j, w1.frozen? ⟨zb, j, none⟩ = w.frozen? ⟨zb, j, none⟩ := fun j => hg1.frozen_far ⟨zb, j, none⟩ hlz hnz
  have k0 := (hc 0).trans c0
  have k1 := (hc 1).trans c1
  have k3 := (hc 3).trans c3
  have k4 := (hc 4).trans c4
  have k7 := hM1.c7
  have y1 := (hzc 1).trans z1
  have y2 := (hzc 2).trans z2
  have yf : ∀ j, w1.frozen? ⟨zb, j, none⟩ = false := fun j => (hzf j).trans (zf j)
  have hpl : (patch L (s + 2) (L.length - s)).length = L.length := patch_len _ _ _
  obtain ⟨L1, hL1⟩ : ∃ L1, patch L (s + 2) (L.length - s) = L1 := ⟨_, rfl⟩
  rw [hL1] at hb1 hpl
  have hBs : B ≤ w1.heap.size := Nat.le_trans hB hg1.size
  have hlm1 : mb < w1.heap.size := by omega
  have hlz1 : zb < w1.heap.size := by omega
  have hgl : g < w1.heap.size := (hb1.lt g rfl).2
  have Hc := hide hzc
  have Hf := hide hzf
  clear hc hzc hzf c0 c1 c3 c4 c7 c8 z1 z2 hL1
  go_cut [3] (fun s3 wk => ∃ hk, s3 = .pointer (some ⟨hk, 0, none⟩) ∧ wk.heap[hk]? = some (.cells #[.int .u16 (L.length : Int), .int .u32 ex, .int .u32 sq, .int .u32 dm] 94 (0, 0)) ∧ w1.grownBy wk none ∧ w1.heap.size ≤ hk)
  case first =>
    go_region
    all_goals
      go_wp2_with fail
      go_meet
      exact ⟨_, rfl, heap_alloc_new w1 _, ⟨rfl, rfl, rfl, by show w1.heap.size ≤ (w1.alloc _).heap.size; simp, fun k hk _ => heap_alloc_old w1 _ hk⟩, Nat.le_refl _⟩
  case rest =>
    obtain ⟨hk, rfl, hkb, hg2, hkl⟩ := hcut
    have hM2 : MC wc.drew mb (.slice (some ⟨g, 0, none⟩) L.length cap) s sid rec tv := by have h := hM1.grown hg2 hlm1 (by simp); exact ⟨h.c7, h.c8, h.c9, h.c10, h.c11, h.c12, h.fz⟩
    have hb2 : Buf wc.drew B (.slice (some ⟨g, 0, none⟩) L.length cap) L1 := by have h := hb1.kept hg2 (by simp [Value.ownBlock]); exact h
    obtain ⟨X1, X2, X3, X4, X5, Y, hX, x1, x2, x3, x4, x5, hY⟩ := split5 L1 (by omega)
    rw [hX] at hb2
    have hk0 : wc.cell? ⟨hk, 0, none⟩ = some (.int .u16 (L.length : Int)) := by simp [World.cell?, hkb]
    have hk1 : wc.cell? ⟨hk, 1, none⟩ = some (.int .u32 ex) := by simp [World.cell?, hkb]
    have hk2 : wc.cell? ⟨hk, 2, none⟩ = some (.int .u32 sq) := by simp [World.cell?, hkb]
    have hk3 : wc.cell? ⟨hk, 3, none⟩ = some (.int .u32 dm) := by simp [World.cell?, hkb]
    have j7 := hM2.c7
    have hYl : Y.length = L.length - 16 := by rw [hY, List.length_drop, hpl]
    have g12 : w1.grownBy wc (some g) := ⟨hg2.os, hg2.tape, hg2.output, hg2.size, fun k hk' _ => hg2.block k hk' (by simp)⟩
    go_upto_region 5 with fail
    go_cut [46] (fun _ wk => ∃ L2, L2.length = L.length ∧ Buf wk B (.slice (some ⟨g, 0, none⟩) L.length cap) L2 ∧ w1.grownBy wk (some g))
    case first =>
      go_region_with (go_at_call 31; (with_reducible refine Calls.mono (header_any B g L.length cap X1 X2 X3 X4 X5 Y L.length ex sq dm wc.drew hb2 x1 x2 x3 x4 x5 (by omega) (by omega) e0 e1 q0 q1 d0 d1) ?_); rintro e w3 ⟨⟨v3, rfl⟩, hb3, hg3⟩)
      all_goals
        go_wp2_with fail
        (try simp [Act.put])
        go_meet
        refine ⟨_, ?_, hb3, g12.trans ⟨hg3.os, hg3.tape, hg3.output, hg3.size, hg3.block⟩⟩
        simp [hdrB, be16_len, be32_len, hYl]
        omega
    case rest =>
      obtain ⟨L2, hl2, hb3, hg3⟩ := hcut
      have hng : some mb ≠ some g := by simp; omega
      have hngz : some zb ≠ some g := by simp; omega
      have hM3 := hM1.grown hg3 hlm1 hng
      have hc3 : ∀ j, wc.cell? ⟨mb, j, none⟩ = w1.cell? ⟨mb, j, none⟩ := fun j => hg3.cell_far ⟨mb, j, none⟩ hlm1 hng
      have hz3 : ∀ j, wc.cell? ⟨zb, j, none⟩ = w1.cell? ⟨zb, j, none⟩ := fun j => hg3.cell_far ⟨zb, j, none⟩ hlz1 hngz
      have hf3 : ∀ j, wc.frozen? ⟨zb, j, none⟩ = w1.frozen? ⟨zb, j, none⟩ := fun j => hg3.frozen_far ⟨zb, j, none⟩ hlz1 hngz
      have i0 := (hc3 0).trans k0
      have i7 := hM3.c7
      have m1 : wc.drew.cell? ⟨zb, 1, none⟩ = some (.int .i64 n) := (hz3 1).trans y1
      have m2 : wc.drew.cell? ⟨zb, 2, none⟩ = some (.iface 102 ev) := (hz3 2).trans y2
      have mf : wc.drew.frozen? ⟨zb, 1, none⟩ = false := (hf3 1).trans (yf 1)
      go_upto_region 6 with fail
      go_cut [5] (fun s5 wk => s5 = .iface 102 ev ∧ wk = ((wc.drew).setCell ⟨zb, 1, none⟩ (.int .i64 ((n + 1 : Nat) : Int))).drew)
      case first =>
        go_region_with (go_at_call 64; (with_reducible refine Calls.mono (write_fail zb _ n ev wc.drew hn m1 m2 mf) ?_); rintro e w4 ⟨rfl, rfl⟩)
        all_goals
          go_wp2_with fail
          go_meet
          exact ⟨rfl, rfl⟩
      case rest =>
        obtain ⟨rfl, rfl⟩ := hcut
        go_wp2
        go_ret
        have hgA := hg1.trans hg3
        refine ⟨rfl, ⟨L2, hl2, ?_⟩, ?_, ?_, ?_, fun k hk' hz' hv' => ?_, fun j hj => ?_, fun j => ?_, ?_, ?_, ?_⟩
        · exact hb3.setFar hzb _
        · have h := hM3
          refine ⟨?_, ?_, ?_, ?_, ?_, h.c12.imp fun _ hd => (World.cell?_setCell_other _ _ _ _ (by intro e; simp only [Addr.mk.injEq] at e; omega)).trans hd, fun j => ?_⟩
          · exact (World.cell?_setCell_other _ _ _ _ (by intro e; simp only [Addr.mk.injEq] at e; omega)).trans h.c7
          · exact (World.cell?_setCell_other _ _ _ _ (by intro e; simp only [Addr.mk.injEq] at e; omega)).trans h.c8
          · exact (World.cell?_setCell_other _ _ _ _ (by intro e; simp only [Addr.mk.injEq] at e; omega)).trans h.c9
          · exact (World.cell?_setCell_other _ _ _ _ (by intro e; simp only [Addr.mk.injEq] at e; omega)).trans h.c10
          · exact (World.cell?_setCell_other _ _ _ _ (by intro e; simp only [Addr.mk.injEq] at e; omega)).trans h.c11
          · exact (World.frozen?_setCell _ _ _ _).trans (h.fz j)
        · exact World.cell?_setCell_same _ _ _ m1
        · show w.heap.size ≤ (wc.drew.setCell _ _).heap.size
          rw [World.size_setCell]
          exact hgA.size
        · exact (Below.heap_setCell _ _ _ _ (by simpa using hz')).trans (hgA.block k hk' hv')
        · exact (World.cell?_setCell_other _ _ _ _ (by intro e; simp only [Addr.mk.injEq] at e; omega)).trans ((hz3 j).trans (Hc.out j))
        · exact (World.frozen?_setCell _ _ _ _).trans ((hf3 j).trans (Hf.out j))
        · exact hgA.os
        · exact hgA.tape
        · exact hgA.output
end Go.Proofs.YbulkbleuFmt.B
