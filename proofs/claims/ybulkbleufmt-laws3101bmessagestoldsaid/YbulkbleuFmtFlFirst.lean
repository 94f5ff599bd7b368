/- LawS3101BMessages: (*MessageWriter).Flush: the first message is taken; its template is sent. -/
import Derived.Test.YbulkbleuFmtFlOk
namespace Go.Proofs.YbulkbleuFmt.B
open Go.RowKit Go.Maps

set_option maxRecDepth 100000 in
set_option maxHeartbeats 2000000 in
theorem flush_first (B mb zb sb tb pb pc s n n0 : Nat) (v : Value) (D : DataW Unit) (tid : Int) (L : List Int) (sid rec dm ex sq : Int) (w : World) (hb : Buf w B v L) (hM : MC w mb v s sid rec (.slice (some ⟨pb, 0, none⟩) 1 pc)) (c5 : w.cell? ⟨mb, 5, none⟩ = some (.map (some sb))) (hpb : w.cell? ⟨pb, 0, none⟩ = some (.pointer (some ⟨tb, 0, none⟩))) (ht0 : w.cell? ⟨tb, 0, none⟩ = some (.int .u16 tid)) (hown : w.ownsMap Ybaf.prog 22 ptrElem sb n0 D) (hn0 : n0 ≤ 1000) (wi : (K tid).wf = true) (hpz : pb ≠ zb) (hpm : pb ≠ mb) (hpg : some pb ≠ v.ownBlock) (htz : tb ≠ zb) (htm : tb ≠ mb) (htB : tb < B) (hsb : sb < B) (hsm : sb ≠ mb) (hsz : sb ≠ zb) (c0 : w.cell? ⟨mb, 0, none⟩ = some (.iface 35 (.pointer (some ⟨zb, 0, none⟩)))) (c1 : w.cell? ⟨mb, 1, none⟩ = some (.int .u32 dm)) (c3 : w.cell? ⟨mb, 3, none⟩ = some (.int .u32 ex)) (c4 : w.cell? ⟨mb, 4, none⟩ = some (.int .u32 sq))
    (z0 : w.cell? ⟨zb, 0, none⟩ = some (.slice none 0 0)) (z1 : w.cell? ⟨zb, 1, none⟩ = some (.int .i64 n)) (z2 : w.cell? ⟨zb, 2, none⟩ = some .nilIface) (zf : ∀ j, w.frozen? ⟨zb, j, none⟩ = false) (hn : n ≤ 100000) (hs0 : 0 < s) (hs : s + 4 ≤ L.length) (hlen : L.length ≤ 10000) (h16 : 16 < L.length) (hmb : mb < B) (hzb : zb < B) (hzm : zb ≠ mb) (hB : B ≤ w.heap.size)
    (d0 : 0 ≤ dm) (d1 : dm < 4294967296) (e0 : 0 ≤ ex) (e1 : ex < 4294967296) (q0 : 0 ≤ sq) (q1 : sq + rec < 4294967296) (r0 : 0 ≤ rec) :
    Calls Ybaf.prog 14 #[.pointer (some ⟨mb, 0, none⟩)] w fun e w' => e = .returned .nilIface ∧ ∃ g cap, v = .slice (some ⟨g, 0, none⟩) L.length cap ∧ FlOk w w' B mb zb sb g cap (.slice none 0 0) [] (sentB L s ex sq dm) n (sq + rec) (.slice (some ⟨pb, 0, none⟩) 0 pc) ∧ w'.ownsMap Ybaf.prog 22 ptrElem sb (n0 + 1) (D.put (K tid) (.lit (.int .i64 tb))) := by
  have q2 : sq < 4294967296 := by omega
  have c7 := hM.c7
  have c8 := hM.c8
  obtain ⟨g, cap, m, hv⟩ := hb.shape
  have hm : m = L.length ∧ L.length ≤ cap := by
    obtain ⟨g', cap', cur, e, _, _, hc, _⟩ := hb
    rw [hv] at e
    simp only [Value.slice.injEq] at e
    omega
  obtain ⟨rfl, hcap⟩ := hm
  subst hv
  have hgB := (hb.lt g rfl).1
  have n16 : ((L.length : Int) == 16) = false := beq_eq_false_iff_ne.2 (by omega)
  have hne : some mb ≠ (Value.slice (some ⟨g, 0, none⟩) L.length cap).ownBlock := hb.ne hmb
  have hnz : some zb ≠ (Value.slice (some ⟨g, 0, none⟩) L.length cap).ownBlock := hb.ne hzb
  have hwr : IntKind.u16.wrap (L.length : Int) = (L.length : Int) := IntWalk.u16_in _ ⟨by omega, by omega⟩
  go_enter Ybaf.func14, Ybaf.ntmps14
  go_upto_region 4 with (go_at_call 30; (with_reducible refine Calls.mono (close_any B mb s _ L w hb c7 c8 hs0 hs hlen hmb hB) ?_); rintro e w1 ⟨rfl, hb1, hg1⟩)
  have hlm : mb < w.heap.size := by omega
  have hlz : zb < w.heap.size := by omega
  have hM1 := hM.grown hg1 hlm hne
  have hc : ∀ j, w1.cell? ⟨mb, j, none⟩ = w.cell? ⟨mb, j, none⟩ := fun j => hg1.cell_far ⟨mb, j, none⟩ hlm hne
  have hzc : ∀ j, w1.cell? ⟨zb, j, none⟩ = w.cell? ⟨zb, j, none⟩ := fun j => hg1.cell_far ⟨zb, j, none⟩ hlz hnz
  have hzf : ∀ j, w1.frozen? ⟨zb, j, none⟩ = w.frozen? ⟨zb, j, none⟩ := fun j => hg1.frozen_far ⟨zb, j, none⟩ hlz hnz
  have k0 := (hc 0).trans c0
  have k1 := (hc 1).trans c1
  have k3 := (hc 3).trans c3
  have k4 := (hc 4).trans c4
  have k5 := (hc 5).trans c5
  have k7 := hM1.c7
  have y1 := (hzc 1).trans z1
  have y0 := (hzc 0).trans z0
  have y2 := (hzc 2).trans z2
  have yf : ∀ j, w1.frozen? ⟨zb, j, none⟩ = false := fun j => (hzf j).trans (zf j)
  have hpl : (patch L (s + 2) (L.length - s)).length = L.length := patch_len _ _ _
  obtain ⟨L1, hL1⟩ : ∃ L1, patch L (s + 2) (L.length - s) = L1 := ⟨_, rfl⟩
  have HL1 := hide hL1
  rw [hL1] at hb1 hpl
  have hBs : B ≤ w1.heap.size := Nat.le_trans hB hg1.size
  have hlm1 : mb < w1.heap.size := by omega
  have hlz1 : zb < w1.heap.size := by omega
  have hgl : g < w1.heap.size := (hb1.lt g rfl).2
  have Hc := hide hzc
  have HcM := hide hc
  have Hf := hide hzf
  clear hc hzc hzf c0 c1 c3 c4 c5 c7 c8 z0 z1 z2 hL1
  go_cut [3] (fun s3 wk => ∃ hk, s3 = .pointer (some ⟨hk, 0, none⟩) ∧ wk.heap[hk]? = some (.cells #[.int .u16 (L.length : Int), .int .u32 ex, .int .u32 sq, .int .u32 dm] 94 (0, 0)) ∧ w1.grownBy wk none ∧ w1.heap.size ≤ hk)
  case first =>
    go_region
    all_goals
      go_wp2_with fail
      go_meet
      exact ⟨_, rfl, heap_alloc_new w1 _, ⟨rfl, rfl, rfl, by show w1.heap.size ≤ (w1.alloc _).heap.size; simp, fun k hk _ => heap_alloc_old w1 _ hk⟩, Nat.le_refl _⟩
  case rest =>
    obtain ⟨hk, rfl, hkb, hg2, hkl⟩ := hcut
    have hM2 : MC wc.drew mb (.slice (some ⟨g, 0, none⟩) L.length cap) s sid rec (.slice (some ⟨pb, 0, none⟩) 1 pc) := by have h := hM1.grown hg2 hlm1 (by simp); exact ⟨h.c7, h.c8, h.c9, h.c10, h.c11, h.c12, h.fz⟩
    have hb2 : Buf wc.drew B (.slice (some ⟨g, 0, none⟩) L.length cap) L1 := by have h := hb1.kept hg2 (by simp [Value.ownBlock]); exact h
    obtain ⟨X1, X2, X3, X4, X5, Y, hX, x1, x2, x3, x4, x5, hY⟩ := split5 L1 (by omega)
    rw [hX] at hb2
    have hk0 : wc.cell? ⟨hk, 0, none⟩ = some (.int .u16 (L.length : Int)) := by simp [World.cell?, hkb]
    have hk1 : wc.cell? ⟨hk, 1, none⟩ = some (.int .u32 ex) := by simp [World.cell?, hkb]
    have hk2 : wc.cell? ⟨hk, 2, none⟩ = some (.int .u32 sq) := by simp [World.cell?, hkb]
    have hk3 : wc.cell? ⟨hk, 3, none⟩ = some (.int .u32 dm) := by simp [World.cell?, hkb]
    have j7 := hM2.c7
    have hYl : Y.length = L.length - 16 := by rw [hY, List.length_drop, hpl]
    have g12 : w1.grownBy wc (some g) := ⟨hg2.os, hg2.tape, hg2.output, hg2.size, fun k hk' _ => hg2.block k hk' (by simp)⟩
    go_upto_region 5 with fail
    go_cut [46] (fun _ wk => Buf wk B (.slice (some ⟨g, 0, none⟩) L.length cap) (sentB L s ex sq dm) ∧ w1.grownBy wk (some g))
    case first =>
      go_region_with (go_at_call 31; (with_reducible refine Calls.mono (header_any B g L.length cap X1 X2 X3 X4 X5 Y L.length ex sq dm wc.drew hb2 x1 x2 x3 x4 x5 (by omega) (by omega) e0 e1 q0 q2 d0 d1) ?_); rintro e w3 ⟨⟨v3, rfl⟩, hb3, hg3⟩)
      all_goals
        go_wp2_with fail
        (try simp [Act.put])
        go_meet
        refine ⟨?_, g12.trans ⟨hg3.os, hg3.tape, hg3.output, hg3.size, hg3.block⟩⟩
        unfold sentB
        rw [HL1.out, ← hY]
        exact hb3
    case rest =>
      obtain ⟨hb3, hg3⟩ := hcut
      have hml : (sentB L s ex sq dm).length = L.length := sentB_len _ _ _ _ _ (by omega)
      generalize hMM : sentB L s ex sq dm = M at *
      have HMM := hide hMM
      clear hMM
      have hng : some mb ≠ some g := by simp; omega
      have hngz : some zb ≠ some g := by simp; omega
      have hM3 := hM1.grown hg3 hlm1 hng
      have hc3 : ∀ j, wc.cell? ⟨mb, j, none⟩ = w1.cell? ⟨mb, j, none⟩ := fun j => hg3.cell_far ⟨mb, j, none⟩ hlm1 hng
      have hz3 : ∀ j, wc.cell? ⟨zb, j, none⟩ = w1.cell? ⟨zb, j, none⟩ := fun j => hg3.cell_far ⟨zb, j, none⟩ hlz1 hngz
      have hf3 : ∀ j, wc.frozen? ⟨zb, j, none⟩ = w1.frozen? ⟨zb, j, none⟩ := fun j => hg3.frozen_far ⟨zb, j, none⟩ hlz1 hngz
      have i0 := (hc3 0).trans k0
      have i7 := hM3.c7
      have m0 : wc.drew.cell? ⟨zb, 0, none⟩ = some (.slice none 0 0) := (hz3 0).trans y0
      have m1 : wc.drew.cell? ⟨zb, 1, none⟩ = some (.int .i64 n) := (hz3 1).trans y1
      have m2 : wc.drew.cell? ⟨zb, 2, none⟩ = some .nilIface := (hz3 2).trans y2
      have mf : ∀ j, wc.drew.frozen? ⟨zb, j, none⟩ = false := fun j => (hf3 j).trans (yf j)
      have hgA : w.grownBy wc (some g) := hg1.trans hg3
      have hmw : Msgs wc.drew B g (.slice none 0 0) [] [] := (Msgs.nil w B g).keep (fun k h1 h2 h3 => hgA.block k h2 (by simpa using h3)) (.inl rfl)
      have hb4 : Buf wc.drew B (.slice (some ⟨g, 0, none⟩) M.length cap) M := by rw [hml]; exact hb3
      have hB4 : B ≤ wc.drew.heap.size := Nat.le_trans hB hgA.size
      have hM0 : 0 < M.length := by omega
      have hM9 : M.length ≤ 10000 := by omega
      have hwr4 := write_ok B zb g cap M (.slice none 0 0) [] [] n wc.drew hn (by simp) hb4 hM0 hM9 hmw m0 m1 m2 mf hzb hB4
      rw [hml] at hwr4
      clear hb4 hM0 hM9
      go_upto_region 6 with fail
      obtain ⟨w4, rfl⟩ : ∃ w4, w4 = wc := ⟨wc, rfl⟩
      go_cut [5] (fun s5 wk => s5 = .nilIface ∧ Wrote w4.drew wk B zb g M (.slice none 0 0) [] n)
      case first =>
        go_region_with (go_at_call 64; (with_reducible refine Calls.mono hwr4 ?_); rintro e w7 ⟨rfl, hWr⟩)
        all_goals
          go_wp2_with fail
          go_meet
          exact ⟨rfl, hWr⟩
      case rest =>
        obtain ⟨rfl, hWr⟩ := hcut
        obtain ⟨w5, rfl⟩ : ∃ w5, w5 = wc := ⟨wc, rfl⟩
        have hmn : ∀ k, k < B → some k ≠ (Value.slice none 0 0).ownBlock := fun k hk e => by have := ((Msgs.nil w B g).own.lt k e.symm).1; omega
        have hl4 : w4.drew.heap.size = w4.heap.size := rfl
        have hk5 : ∀ k, k < B → k ≠ zb → w5.heap[k]? = w4.heap[k]? := fun k h1 h2 => hWr.block k (by omega) h2 (hmn k h1)
        have hc5 : ∀ j, w5.cell? ⟨mb, j, none⟩ = w4.cell? ⟨mb, j, none⟩ := fun j => World.cell?_of_block (a := ⟨mb, j, none⟩) (hk5 mb hmb (Ne.symm hzm))
        have hM5 : MC w5 mb (.slice (some ⟨g, 0, none⟩) L.length cap) s sid rec (.slice (some ⟨pb, 0, none⟩) 1 pc) := ⟨(hc5 7).trans hM3.c7, (hc5 8).trans hM3.c8, (hc5 9).trans hM3.c9, (hc5 10).trans hM3.c10, (hc5 11).trans hM3.c11, hM3.c12.imp fun _ h => (hc5 12).trans h, fun j => (World.frozen?_of_block (a := ⟨mb, j, none⟩) (hk5 mb hmb (Ne.symm hzm))).trans (hM3.fz j)⟩
        have l4 : w5.drew.cell? ⟨mb, 4, none⟩ = some (.int .u32 sq) := (hc5 4).trans ((hc3 4).trans k4)
        have l10 : w5.drew.cell? ⟨mb, 10, none⟩ = some (.int .u32 rec) := hM5.c10
        have lf : w5.drew.frozen? ⟨mb, 4, none⟩ = false := hM5.fz 4
        have hwrap : IntKind.u32.wrap (sq + rec) = sq + rec := IntWalk.u32_in _ ⟨by omega, by omega⟩
        go_upto_region 9 with fail
        go_cut [76] (fun _ wk => wk = w5.drew.setCell ⟨mb, 4, none⟩ (.int .u32 (sq + rec)))
        case first =>
          go_region
          all_goals
            go_wp2_with fail
            go_meet
            exact rfl
        case rest =>
          have hc6 : ∀ j, j ≠ 4 → wc.cell? ⟨mb, j, none⟩ = w5.cell? ⟨mb, j, none⟩ := fun j hj => by rw [hcut]; exact World.cell?_setCell_other _ _ _ _ (by intro e; simp only [Addr.mk.injEq] at e; omega)
          have n4 : wc.cell? ⟨mb, 4, none⟩ = some (.int .u32 (sq + rec)) := by rw [hcut]; exact World.cell?_setCell_same _ _ _ l4
          have hf6 : ∀ p : Addr, wc.frozen? p = w5.frozen? p := fun p => by rw [hcut]; exact World.frozen?_setCell _ _ _ _
          have hk6 : ∀ k, k ≠ mb → wc.heap[k]? = w5.heap[k]? := fun k hk => by rw [hcut]; exact Below.heap_setCell _ _ _ _ hk
          have hs6 : wc.heap.size = w5.heap.size := by rw [hcut]; exact World.size_setCell _ _ _
          have ho6 : wc.os = w5.os ∧ wc.tape = w5.tape ∧ wc.output = w5.output := by rw [hcut]; exact ⟨rfl, rfl, rfl⟩
          obtain ⟨w6, rfl⟩ : ∃ w6, w6 = wc := ⟨wc, rfl⟩
          clear hcut
          have o7 : w6.cell? ⟨mb, 7, none⟩ = some (.slice (some ⟨g, 0, none⟩) L.length cap) := (hc6 7 (by omega)).trans hM5.c7
          have o8 := (hc6 8 (by omega)).trans hM5.c8
          have o9 := (hc6 9 (by omega)).trans hM5.c9
          have o10 := (hc6 10 (by omega)).trans hM5.c10
          have o11 := (hc6 11 (by omega)).trans hM5.c11
          obtain ⟨dd, o12'⟩ := hM5.c12
          have o12 := (hc6 12 (by omega)).trans o12'
          have of_ : ∀ j, w6.frozen? ⟨mb, j, none⟩ = false := fun j => (hf6 _).trans (hM5.fz j)
          have hk6' : ∀ k, k ≠ mb → k ≠ sb → w6.heap[k]? = w5.heap[k]? := fun k h1 _ => hk6 k h1
          have o5 : w6.drew.cell? ⟨mb, 5, none⟩ = some (.map (some sb)) := (hc6 5 (by omega)).trans ((hc5 5).trans ((hc3 5).trans k5))
          have pk : ∀ k, k < w.heap.size → k ≠ zb → k ≠ mb → k ≠ g → w6.heap[k]? = w.heap[k]? := fun k h1 h2 h3 h4 => (hk6 k h3).trans ((hWr.block k (by have := hgA.size; omega) h2 (by simp [Value.ownBlock])).trans (hgA.block k h1 (by simpa using h4)))
          have hpl : pb < w.heap.size := World.block_lt_of_cell? _ _ hpb
          have htl : tb < w.heap.size := World.block_lt_of_cell? _ _ ht0
          have hsl : sb < w.heap.size := hown.lt
          have opb : w6.cell? ⟨pb, 0, none⟩ = some (.pointer (some ⟨tb, 0, none⟩)) := (World.cell?_of_block (a := ⟨pb, 0, none⟩) (pk pb hpl hpz hpm (fun e => hpg (by rw [e]; rfl)))).trans hpb
          have otb : w6.drew.cell? ⟨tb, 0, none⟩ = some (.int .u16 tid) := (World.cell?_of_block (w := w) (w' := w6) (a := ⟨tb, 0, none⟩) (pk tb htl htz htm (by omega))).trans ht0
          have hown6 : w6.ownsMap Ybaf.prog 22 ptrElem sb n0 D := by
            obtain ⟨es, clock, x1, x2⟩ := hown
            exact ⟨es, clock, (pk sb hsl hsz hsm (by omega)).trans x1, x2⟩
          obtain ⟨w7, hrun, hown7, hturn⟩ := (hown6.drew).store law22 Ybaf.underlying43 (by unfold maxLen; omega) (keyOf_int_mk Ybaf.underlying22 wi) (val := .pointer (some ⟨tb, 0, none⟩)) (d := .lit (.int .i64 tb)) (ps := []) rfl
          have hg7 := hturn.grown
          have hm6 : mb < w6.drew.heap.size := by show mb < w6.heap.size; rw [hs6]; have := hWr.size; have := hgA.size; omega
          have hc7 : ∀ j, w7.cell? ⟨mb, j, none⟩ = w6.cell? ⟨mb, j, none⟩ := fun j => hg7.cell_far ⟨mb, j, none⟩ hm6 (by simp; omega)
          have hk7 : ∀ k, k < w6.heap.size → k ≠ sb → w7.heap[k]? = w6.heap[k]? := fun k h1 h2 => hg7.block k h1 (by simpa using h2)
          have hs7 : w7.heap.size = w6.heap.size := by obtain ⟨es, clock, es', clock', x1, rfl⟩ := hturn; simp [ChangeMaps.setBlock]
          have hk7' : ∀ k, k ≠ mb → k ≠ sb → w7.heap[k]? = w5.heap[k]? := fun k h1 h2 => by
            by_cases hk : k < w6.heap.size
            · exact (hk7 k hk h2).trans (hk6 k h1)
            · rw [Array.getElem?_eq_none (by omega), Array.getElem?_eq_none (by omega)]
          have hf7 : ∀ p : Addr, w7.frozen? p = w5.frozen? p := fun p => (hturn.frozen p).trans (hf6 p)
          have hc7' : ∀ j, j ≠ 4 → w7.cell? ⟨mb, j, none⟩ = w5.cell? ⟨mb, j, none⟩ := fun j hj => (hc7 j).trans (hc6 j hj)
          have n47 : w7.cell? ⟨mb, 4, none⟩ = some (.int .u32 (sq + rec)) := (hc7 4).trans n4
          have ho7 : w7.os = w5.os ∧ w7.tape = w5.tape ∧ w7.output = w5.output := ⟨hg7.os.trans ho6.1, hg7.tape.trans ho6.2.1, hg7.output.trans ho6.2.2⟩
          have hs75 : w7.heap.size = w5.heap.size := hs7.trans hs6
          have H6 := hide (And.intro hc7' (And.intro hf7 (And.intro hk7' hk5)))
          have u7 := (hc7 7).trans o7
          have u8 := (hc7 8).trans o8
          have u9 := (hc7 9).trans o9
          have u10 := (hc7 10).trans o10
          have u11 := (hc7 11).trans o11
          have u12 := (hc7 12).trans o12
          have uf : ∀ j, w7.frozen? ⟨mb, j, none⟩ = false := fun j => (hturn.frozen _).trans (of_ j)
          have HT := hide (And.intro n47 (And.intro ho7 (And.intro hs75 hown7)))
          have HM7 : Hid (MC w7 mb (.slice (some ⟨g, 0, none⟩) L.length cap) s sid rec (.slice (some ⟨pb, 0, none⟩) 1 pc)) := ⟨u7, u8, u9, u10, u11, ⟨dd, u12⟩, uf⟩
          have H5 := hide (And.intro hc5 (And.intro hc3 (And.intro hz3 hf3)))
          clear hc6 hf6 hk6 hk6' hk5 pk hc7 hk7 hk7' hf7 hc7' n47 ho7 hs75 hs7 hturn hown7 hg7 hown6 hc5 hc3 hz3 hf3 l4 l10 lf hmn
          go_wp2
          refine wp_loop_rounds 2 ?_
          rw [rounds_succ]
          go_wp2
          go_region
          all_goals go_wp2
          all_goals
            rw [rounds_succ]
            go_wp2
          have p7 : w7.drew.cell? ⟨mb, 7, none⟩ = some (.slice (some ⟨g, 0, none⟩) L.length cap) := u7
          have p8 : w7.drew.cell? ⟨mb, 8, none⟩ = some (.int .i64 s) := u8
          have p9 : w7.drew.cell? ⟨mb, 9, none⟩ = some (.int .u16 sid) := u9
          have p10 : w7.drew.cell? ⟨mb, 10, none⟩ = some (.int .u32 rec) := u10
          have p11 : w7.drew.cell? ⟨mb, 11, none⟩ = some (.slice (some ⟨pb, 0, none⟩) 1 pc) := u11
          have p12 : w7.drew.cell? ⟨mb, 12, none⟩ = some (.bool dd) := u12
          have f7 : w7.drew.frozen? ⟨mb, 7, none⟩ = false := uf 7
          have f8 : w7.drew.frozen? ⟨mb, 8, none⟩ = false := uf 8
          have f9 : w7.drew.frozen? ⟨mb, 9, none⟩ = false := uf 9
          have f10 : w7.drew.frozen? ⟨mb, 10, none⟩ = false := uf 10
          have f11 : w7.drew.frozen? ⟨mb, 11, none⟩ = false := uf 11
          have f12 : w7.drew.frozen? ⟨mb, 12, none⟩ = false := uf 12
          have hc16 : (16 : Int) ≤ (cap : Int) := by omega
          go_region
          all_goals go_wp2
          all_goals go_ret
          all_goals
            obtain rfl := HMM.out
            obtain ⟨n47, ho7, hs75, hown7⟩ := HT.out
            have hX := flush_back (tv' := .slice (some ⟨pb, 0, none⟩) 0 pc) HM7.out H6.out H5.out hWr hb3 hgA HcM.out Hc.out Hf.out n47 ho7 hs75 (Msgs.nil w B g) hmb hzb hzm h16 hml hsm hsz hsb
            refine ⟨rfl, g, cap, rfl, hX.1, ?_⟩
            obtain ⟨es, clock, x1, x2⟩ := hown7
            exact ⟨es, clock, hX.2.trans x1, x2⟩
end Go.Proofs.YbulkbleuFmt.B
