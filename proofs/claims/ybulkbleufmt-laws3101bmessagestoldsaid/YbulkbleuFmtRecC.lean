/- LawS3101BFailingWriter: WriteRecord in the message's two states. -/
import Derived.Test.YbulkbleuFmtInvB
namespace Go.Proofs.YbulkbleuFmt.B
open Go.RowKit Go.Maps Go.Extern.Stop Go.Stop Go.Extern

theorem tplB_len (tid : Int) (fs : List (Int × Int)) : (tplB tid fs).length = 4 + 4 * fs.length := by
  unfold tplB
  simp only [List.length_append, be16_len, specB_len]
  omega
theorem at_empty (tid : Int) : (DataW.map ([] : List (Lit × DataW Unit))).atKey (K tid) .nil = .nil := rfl

theorem a_fits {F : Interp} {w : World} {B mb tb fb zb sb mx N vb c r : Nat} {tid : Int} {fs : List (Int × Int)} {a : Addr} {tx : ByteArray} {ev : Value} {n : Nat} (hE : Env F w B mb tb fb zb sb mx tid fs a tx ev) (hA : StA w B mb) (z1 : w.cell? ⟨zb, 1, none⟩ = some (.int .i64 n))
    (rows : List (List Int)) (wi : (K tid).wf = true) (hwf : Hid (FsWf fs)) (hk : fs.length ≤ 4) (ht0 : 256 ≤ tid) (ht1 : tid < 65536) (hV : ValsIn N w vb rows) (hN : N ≤ w.heap.size) (hvb : vb < N) (hBv : B ≤ vb) (hfit : Hid (Fits fs rows)) (hr : rows.flatten.length = r) (hgv : ∀ g n cap, w.cell? ⟨mb, 7, none⟩ = some (.slice (some ⟨g, 0, none⟩) n cap) → g < vb)
    (hmx : 24 + (4 + 4 * fs.length) + r ≤ mx) :
    Calls Ybaf.prog 11 #[.pointer (some ⟨mb, 0, none⟩), .pointer (some ⟨tb, 0, none⟩), .slice (some ⟨vb, 0, none⟩) fs.length c] w fun e w' => e = .returned .nilIface ∧ Far w w' B mb zb ∧ StB w' B mb tb (4 + 4 * fs.length) r tid 1 ∧ w'.cell? ⟨zb, 1, none⟩ = some (.int .i64 n) := by
  obtain ⟨g, cap, L, sid, hL, hb, hM⟩ := hA
  obtain ⟨ds, c12⟩ := hM.c12
  obtain ⟨l0, l1, l2, l3, l4, l5, l6⟩ := hE.lo
  have hB := hE.size
  have hfl := firstB_len L tid fs rows
  rw [tplB_len, hL, hr] at hfl
  refine (first_fits B mb tb fb vb c sb N mx g cap 0 (.map []) L tid sid 0 ds fs rows w hb hM hE.c2 hE.c5 hE.c6 c12 hE.own wi (at_empty tid) hE.tpl hwf hk (by omega) (by omega) (by omega) (by omega) (by omega) (by omega) (by omega) (by omega) hB (by omega) (by omega) ht0 ht1 hV hN hvb (hgv g _ _ hM.c7) hfit (by rw [hfl]; omega)).mono ?_
  rintro e w' ⟨rfl, w0, j, ⟨v', pb, pc, hS, hM1, hp1, hp2⟩, rfl⟩
  have hsz : w.heap.size ≤ (w.alloc (kept (.slice (some ⟨g, 0, none⟩) L.length cap) 0 sid 0 (.slice none 0 0) ds)).heap.size := by simp
  have f1 := Far.alloc (B := B) (mb := mb) (zb := zb) w (kept (.slice (some ⟨g, 0, none⟩) L.length cap) 0 sid 0 (.slice none 0 0) ds) hB (by omega) (by omega)
  have f2 := Far.step (zb := zb) hS (by omega) (by omega) (by omega)
  have hz : w0.heap[zb]? = w.heap[zb]? := (hS.block zb (by omega) (by omega) (hS.start.ne (by omega))).trans (heap_alloc_old w _ (by omega))
  refine ⟨rfl, (f1.trans f2).trans (Far.drewN w0 j B mb zb), ?_, (World.cell?_of_block (w := w) (w' := w0) (a := ⟨zb, 1, none⟩) hz).trans z1⟩
  obtain ⟨g1, cap1, rfl⟩ := hS.body.shape2
  have e1 : 20 + (4 + 4 * fs.length) = L.length + 4 + (tplB tid fs).length := by rw [tplB_len, hL]
  have hM2 : MC (w0.drewN j) mb (.slice (some ⟨g1, 0, none⟩) (firstB L tid fs rows).length cap1) (L.length + 4 + (tplB tid fs).length) tid (0 + 1) (.slice (some ⟨pb, 0, none⟩) 1 pc) := ⟨hM1.c7, hM1.c8, hM1.c9, hM1.c10, hM1.c11, hM1.c12, hM1.fz⟩
  exact ⟨g1, cap1, _, pb, pc, by rw [hfl]; omega, hS.body, by rw [e1]; exact hM2, hp1, by omega⟩

theorem a_long {F : Interp} {w : World} {B mb tb fb zb sb mx N vb c r : Nat} {tid : Int} {fs : List (Int × Int)} {a : Addr} {tx : ByteArray} {ev : Value} {n : Nat} (hE : Env F w B mb tb fb zb sb mx tid fs a tx ev) (hA : StA w B mb) (z1 : w.cell? ⟨zb, 1, none⟩ = some (.int .i64 n))
    (rows : List (List Int)) (wi : (K tid).wf = true) (hwf : Hid (FsWf fs)) (hk : fs.length ≤ 4) (ht0 : 256 ≤ tid) (ht1 : tid < 65536) (hV : ValsIn N w vb rows) (hN : N ≤ w.heap.size) (hvb : vb < N) (hBv : B ≤ vb) (hfit : Hid (Fits fs rows)) (hr : rows.flatten.length = r) (hgv : ∀ g n cap, w.cell? ⟨mb, 7, none⟩ = some (.slice (some ⟨g, 0, none⟩) n cap) → g < vb)
    (hmx : mx < 24 + (4 + 4 * fs.length) + r) :
    Calls Ybaf.prog 11 #[.pointer (some ⟨mb, 0, none⟩), .pointer (some ⟨tb, 0, none⟩), .slice (some ⟨vb, 0, none⟩) fs.length c] w fun e w' => (∃ qb, e = .returned (.iface 119 (.pointer (some ⟨qb, 0, none⟩))) ∧ w'.cell? ⟨qb, 1, none⟩ = some (.iface 102 (.pointer (some a)))) ∧ Far w w' B mb zb ∧ StA w' B mb ∧ w'.cell? ⟨zb, 1, none⟩ = some (.int .i64 n) := by
  obtain ⟨g, cap, L, sid, hL, hb, hM⟩ := hA
  obtain ⟨ds, c12⟩ := hM.c12
  obtain ⟨l0, l1, l2, l3, l4, l5, l6⟩ := hE.lo
  have hB := hE.size
  have hlm : mb < w.heap.size := by omega
  have hgB : B ≤ g ∧ g < w.heap.size := hb.lt g rfl
  have hfl := firstB_len L tid fs rows
  rw [tplB_len, hL, hr] at hfl
  have ga := World.grownBy_alloc w (kept (.slice (some ⟨g, 0, none⟩) L.length cap) 0 sid 0 (.slice none 0 0) ds) none
  have hsz : (w.alloc (kept (.slice (some ⟨g, 0, none⟩) L.length cap) 0 sid 0 (.slice none 0 0) ds)).heap.size = w.heap.size + 1 := by simp
  have hc : ∀ j, (w.alloc (kept (.slice (some ⟨g, 0, none⟩) L.length cap) 0 sid 0 (.slice none 0 0) ds)).cell? ⟨mb, j, none⟩ = w.cell? ⟨mb, j, none⟩ := fun j => World.cell?_alloc_past _ _ _ hlm
  have hvg := hgv g _ _ hM.c7
  refine (wr_long B mb tb vb fs.length c 0 mx g cap L none 0 0 sid 0 tid ds F a tx w hE.tape hM c12 hE.c2 hlm hgB.2 hE.tpl.c0 (by omega) (by omega) (by omega) hE.g0 (by omega) (by omega) (by omega) hE.at_ (by omega) (by omega) (by omega) ?_ hL).mono ?_
  · refine (add_first B mb tb fb vb c sb N _ L tid sid 0 fs rows (w.alloc (kept (.slice (some ⟨g, 0, none⟩) L.length cap) 0 sid 0 (.slice none 0 0) ds)) (hb.alloc _) (hM.alloc hlm _) ((hc 5).trans hE.c5) ((hc 6).trans hE.c6) (hE.tpl.grown ga (by omega) (by omega)) hwf hk (by omega) (by omega) (by omega) (by omega) (by omega) (by omega) (by omega) (by omega) (by omega) (by omega) (by omega) ht0 ht1 (hV.alloc hN hvb _) (by omega) hvb (fun k' hk' => by simp [Value.ownBlock] at hk'; omega) hfit (look_absent (hE.own.alloc _).drew wi (at_empty tid))).mono ?_
    rintro e w1 ⟨v', pb, pc, rfl, hS, hM1, hp1, hp2⟩
    exact ⟨rfl, v', firstB L tid fs rows, _, _, _, _, hS, hM1, by rw [hfl]; omega⟩
  · rintro e w' ⟨qb, w1, v1, L1, s1, sid1, rec1, tv1, j, rfl, hq, hS, hM1, hg⟩
    have hMd : MC (w1.drewN j) mb v1 s1 sid1 rec1 tv1 := ⟨hM1.c7, hM1.c8, hM1.c9, hM1.c10, hM1.c11, hM1.c12, hM1.fz⟩
    have hMb := (back_mc (w := w1.drewN j) (mb := mb) (s1 := s1) (v1 := v1) (tv1 := tv1) (sid1 := sid1) (rec1 := rec1) hMd (.slice (some ⟨g, 0, none⟩) L.length cap) 0 sid 0 (.slice none 0 0) ds).1
    have hblk := back_block (w1.drewN j) mb (.slice (some ⟨g, 0, none⟩) L.length cap) 0 sid 0 (.slice none 0 0) ds
    have hsb := back_size (w1.drewN j) mb (.slice (some ⟨g, 0, none⟩) L.length cap) 0 sid 0 (.slice none 0 0) ds
    have f1 := Far.alloc (B := B) (mb := mb) (zb := zb) w (kept (.slice (some ⟨g, 0, none⟩) L.length cap) 0 sid 0 (.slice none 0 0) ds) hB (by omega) (by omega)
    have f2 := Far.step (zb := zb) hS (by omega) (by omega) (by omega)
    have f3 := Far.back (B := B) (mb := mb) (zb := zb) (w1.drewN j) (.slice (some ⟨g, 0, none⟩) L.length cap) 0 sid 0 (.slice none 0 0) ds (by omega)
    obtain ⟨wb, hwb⟩ : ∃ wb, back (w1.drewN j) mb (.slice (some ⟨g, 0, none⟩) L.length cap) 0 sid 0 (.slice none 0 0) ds = wb := ⟨_, rfl⟩
    rw [hwb] at hMb hblk hsb hg f3
    have hs1 := hS.size
    have hs2 : (w1.drewN j).heap.size = w1.heap.size := rfl
    have f4 := Far.grown (B := B) (mb := mb) (zb := zb) hg (by omega) (by omega) (by omega)
    have hbb : Buf wb B (.slice (some ⟨g, 0, none⟩) L.length cap) L := by
      obtain ⟨g', cap', cur, e, hb', hh, rest⟩ := hS.old
      refine ⟨g', cap', cur, e, hb', ?_, rest⟩
      rw [hblk g' (by omega)]
      exact hh
    have hz : w'.heap[zb]? = w.heap[zb]? := (hg.block zb (by omega) (by simp)).trans ((hblk zb (by omega)).trans ((hS.block zb (by omega) (by omega) (hS.start.ne (by omega))).trans (heap_alloc_old w _ (by omega))))
    exact ⟨⟨qb, rfl, hq⟩, f1.trans (f2.trans ((Far.drewN w1 j B mb zb).trans (f3.trans f4))), ⟨g, cap, L, sid, hL, hbb.kept hg (by simp [Value.ownBlock]), hMb.grown hg (by omega) (by simp)⟩, (World.cell?_of_block (w := w) (w' := w') (a := ⟨zb, 1, none⟩) hz).trans z1⟩

theorem b_fits {F : Interp} {w : World} {B mb tb fb zb sb mx N vb c r q : Nat} {tid : Int} {fs : List (Int × Int)} {a : Addr} {tx : ByteArray} {ev : Value} {n : Nat} (hE : Env F w B mb tb fb zb sb mx tid fs a tx ev) (hA : StB w B mb tb (4 + 4 * fs.length) r tid q) (z1 : w.cell? ⟨zb, 1, none⟩ = some (.int .i64 n))
    (rows : List (List Int)) (wi : (K tid).wf = true) (hwf : Hid (FsWf fs)) (hk : fs.length ≤ 4) (hV : ValsIn N w vb rows) (hN : N ≤ w.heap.size) (hvb : vb < N) (hBv : B ≤ vb) (hfit : Hid (Fits fs rows)) (hr : rows.flatten.length = r) (hgv : ∀ g n cap, w.cell? ⟨mb, 7, none⟩ = some (.slice (some ⟨g, 0, none⟩) n cap) → g < vb) (hq : q ≤ 1000)
    (hmx : 24 + (4 + 4 * fs.length) + r * (q + 1) ≤ mx) (hm1 : mx ≤ 1000) :
    Calls Ybaf.prog 11 #[.pointer (some ⟨mb, 0, none⟩), .pointer (some ⟨tb, 0, none⟩), .slice (some ⟨vb, 0, none⟩) fs.length c] w fun e w' => e = .returned .nilIface ∧ Far w w' B mb zb ∧ StB w' B mb tb (4 + 4 * fs.length) r tid (q + 1) ∧ w'.cell? ⟨zb, 1, none⟩ = some (.int .i64 n) := by
  obtain ⟨g, cap, L, pb, pc, hL, hb, hM, hp, hpB⟩ := hA
  obtain ⟨ds, c12⟩ := hM.c12
  obtain ⟨l0, l1, l2, l3, l4, l5, l6⟩ := hE.lo
  have hB := hE.size
  have hlm : mb < w.heap.size := by omega
  have hpl : pb < w.heap.size := World.block_lt_of_cell? _ _ hp
  have hmul : r * (q + 1) = r * q + r := Nat.mul_succ r q
  have hl2 : (L ++ rows.flatten).length = 24 + (4 + 4 * fs.length) + r * (q + 1) := by rw [List.length_append, hL, hr, hmul]; omega
  have hc : ∀ j, (w.alloc (kept (.slice (some ⟨g, 0, none⟩) L.length cap) (20 + (4 + 4 * fs.length)) tid q (.slice (some ⟨pb, 0, none⟩) 1 pc) ds)).cell? ⟨mb, j, none⟩ = w.cell? ⟨mb, j, none⟩ := fun j => World.cell?_alloc_past _ _ _ hlm
  have hsz : (w.alloc (kept (.slice (some ⟨g, 0, none⟩) L.length cap) (20 + (4 + 4 * fs.length)) tid q (.slice (some ⟨pb, 0, none⟩) 1 pc) ds)).heap.size = w.heap.size + 1 := by simp
  have hpo := Buf.other hb (by omega) hp
  refine (wr_fits mb tb vb fs.length c (20 + (4 + 4 * fs.length)) mx g cap L.length (some ⟨pb, 0, none⟩) 1 pc tid q ds (fun w0 => ∃ v', Step (w.alloc (kept (.slice (some ⟨g, 0, none⟩) L.length cap) (20 + (4 + 4 * fs.length)) tid q (.slice (some ⟨pb, 0, none⟩) 1 pc) ds)) w0 B mb (.slice (some ⟨g, 0, none⟩) L.length cap) v' L (L ++ rows.flatten) ∧ MC w0 mb v' (20 + (4 + 4 * fs.length)) tid ((q : Int) + 1) (.slice (some ⟨pb, 0, none⟩) 1 pc)) w hM c12 ?_).mono ?_
  · refine (later_add B mb tb fb vb c sb pb pc _ N g cap 0 (.map []) L tid q ds fs rows w hb hM hE.c5 hp hE.own wi (at_empty tid) hE.tpl hwf hk (by omega) (by omega) (by omega) (by omega) hB (by omega) (by omega) (by omega) hV hN hvb (hgv g _ _ hM.c7) hfit).mono ?_
    rintro e w1 ⟨v', rfl, hS, hM1⟩
    refine ⟨rfl, ⟨v', hS, hM1⟩, ?_, (hS.cells 2 (by omega)).trans ((hc 2).trans hE.c2)⟩
    obtain ⟨g1, cap1, hv⟩ := hS.body.shape2
    have h7 := hM1.c7
    rw [hv] at h7
    exact ⟨g1, cap1, _, h7, by rw [hl2]; omega⟩
  · rintro e w' ⟨rfl, w0, j, ⟨v', hS, hM1⟩, rfl⟩
    have f1 := Far.alloc (B := B) (mb := mb) (zb := zb) w (kept (.slice (some ⟨g, 0, none⟩) L.length cap) (20 + (4 + 4 * fs.length)) tid q (.slice (some ⟨pb, 0, none⟩) 1 pc) ds) hB (by omega) (by omega)
    have f2 := Far.step (zb := zb) hS (by omega) (by omega) (by omega)
    have hz : ∀ k, k < w.heap.size → k ≠ mb → some k ≠ (Value.slice (some ⟨g, 0, none⟩) L.length cap).ownBlock → w0.heap[k]? = w.heap[k]? := fun k h1 h2 h3 => (hS.block k (by omega) h2 h3).trans (heap_alloc_old w _ h1)
    refine ⟨rfl, (f1.trans f2).trans (Far.drewN w0 j B mb zb), ?_, (World.cell?_of_block (w := w) (w' := w0) (a := ⟨zb, 1, none⟩) (hz zb (by omega) (by omega) (hb.ne (by omega)))).trans z1⟩
    obtain ⟨g1, cap1, rfl⟩ := hS.body.shape2
    have hM2 : MC (w0.drewN j) mb (.slice (some ⟨g1, 0, none⟩) (L ++ rows.flatten).length cap1) (20 + (4 + 4 * fs.length)) tid ((q + 1 : Nat) : Int) (.slice (some ⟨pb, 0, none⟩) 1 pc) := ⟨hM1.c7, hM1.c8, hM1.c9, hM1.c10, hM1.c11, hM1.c12, hM1.fz⟩
    exact ⟨g1, cap1, _, pb, pc, hl2, hS.body, hM2, (World.cell?_of_block (w := w) (w' := w0) (a := ⟨pb, 0, none⟩) (hz pb hpl (by omega) hpo)).trans hp, hpB⟩

theorem b_flush {F : Interp} {w : World} {B mb tb fb zb sb mx N vb c r q : Nat} {tid : Int} {fs : List (Int × Int)} {a : Addr} {tx : ByteArray} {ev : Value} {n : Nat} (hE : Env F w B mb tb fb zb sb mx tid fs a tx ev) (hA : StB w B mb tb (4 + 4 * fs.length) r tid q) (z1 : w.cell? ⟨zb, 1, none⟩ = some (.int .i64 n))
    (rows : List (List Int)) (wi : (K tid).wf = true) (hwf : Hid (FsWf fs)) (hk : fs.length ≤ 4) (hV : ValsIn N w vb rows) (hN : N ≤ w.heap.size) (hvb : vb < N) (hBv : B ≤ vb) (hfit : Hid (Fits fs rows)) (hr : rows.flatten.length = r) (hgv : ∀ g n cap, w.cell? ⟨mb, 7, none⟩ = some (.slice (some ⟨g, 0, none⟩) n cap) → g < vb) (hq : q ≤ 1000) (hn : n ≤ 100000)
    (hmx : mx < 24 + (4 + 4 * fs.length) + r * (q + 1)) (hm0 : 24 + (4 + 4 * fs.length) + r * q ≤ 1000) :
    Calls Ybaf.prog 11 #[.pointer (some ⟨mb, 0, none⟩), .pointer (some ⟨tb, 0, none⟩), .slice (some ⟨vb, 0, none⟩) fs.length c] w fun e w' => e = .returned (.iface 102 ev) ∧ Far w w' B mb zb ∧ StB w' B mb tb (4 + 4 * fs.length) r tid q ∧ w'.cell? ⟨zb, 1, none⟩ = some (.int .i64 ((n + 1 : Nat) : Int)) := by
  obtain ⟨g, cap, L, pb, pc, hL, hb, hM, hp, hpB⟩ := hA
  obtain ⟨ds, c12⟩ := hM.c12
  obtain ⟨l0, l1, l2, l3, l4, l5, l6⟩ := hE.lo
  have hB := hE.size
  have hlm : mb < w.heap.size := by omega
  have hgB : B ≤ g ∧ g < w.heap.size := hb.lt g rfl
  have hpl : pb < w.heap.size := World.block_lt_of_cell? _ _ hp
  have hmul : r * (q + 1) = r * q + r := Nat.mul_succ r q
  have hl2 : (L ++ rows.flatten).length = 24 + (4 + 4 * fs.length) + r * (q + 1) := by rw [List.length_append, hL, hr, hmul]; omega
  have hsz : (w.alloc (kept (.slice (some ⟨g, 0, none⟩) L.length cap) (20 + (4 + 4 * fs.length)) tid q (.slice (some ⟨pb, 0, none⟩) 1 pc) ds)).heap.size = w.heap.size + 1 := by simp
  have hpo := Buf.other hb (by omega) hp
  refine (wr_flush B mb tb vb zb fs.length c (20 + (4 + 4 * fs.length)) mx n g cap L (some ⟨pb, 0, none⟩) 1 pc tid q 0 0 0 ds ev w hM c12 hE.c0 hE.c1 hE.c2 hE.c3 hE.c4 z1 hE.z2 hE.zf hn (by omega) (by omega) (by omega) (by omega) (by omega) (by omega) (by omega) hB hgB.1 hgB.2 (by omega) (by omega) (by omega) (by omega) (by omega) (by omega) ?_).mono ?_
  · refine (later_add B mb tb fb vb c sb pb pc _ N g cap 0 (.map []) L tid q ds fs rows w hb hM hE.c5 hp hE.own wi (at_empty tid) hE.tpl hwf hk (by omega) (by omega) (by omega) (by omega) hB (by omega) (by omega) (by omega) hV hN hvb (hgv g _ _ hM.c7) hfit).mono ?_
    rintro e w1 ⟨v', rfl, hS, hM1⟩
    exact ⟨rfl, v', _, _, _, _, _, hS, hM1, by rw [hl2]; omega⟩
  · rintro e w' ⟨rfl, w1, v1, L1, j, hS, hLf⟩
    have hblk := back_block (w1.drewN j) mb (.slice (some ⟨g, 0, none⟩) L.length cap) (20 + (4 + 4 * fs.length)) tid q (.slice (some ⟨pb, 0, none⟩) 1 pc) ds
    have hsb := back_size (w1.drewN j) mb (.slice (some ⟨g, 0, none⟩) L.length cap) (20 + (4 + 4 * fs.length)) tid q (.slice (some ⟨pb, 0, none⟩) 1 pc) ds
    have f1 := Far.alloc (B := B) (mb := mb) (zb := zb) w (kept (.slice (some ⟨g, 0, none⟩) L.length cap) (20 + (4 + 4 * fs.length)) tid q (.slice (some ⟨pb, 0, none⟩) 1 pc) ds) hB (by omega) (by omega)
    have f2 := Far.step (zb := zb) hS (by omega) (by omega) (by omega)
    have f3 := Far.back (B := B) (mb := mb) (zb := zb) (w1.drewN j) (.slice (some ⟨g, 0, none⟩) L.length cap) (20 + (4 + 4 * fs.length)) tid q (.slice (some ⟨pb, 0, none⟩) 1 pc) ds (by omega)
    obtain ⟨wb, hwb⟩ : ∃ wb, back (w1.drewN j) mb (.slice (some ⟨g, 0, none⟩) L.length cap) (20 + (4 + 4 * fs.length)) tid q (.slice (some ⟨pb, 0, none⟩) 1 pc) ds = wb := ⟨_, rfl⟩
    rw [hwb] at hblk hsb hLf f3
    have hs1 := hS.size
    have hs2 : (w1.drewN j).heap.size = w1.heap.size := rfl
    have hbb : Buf wb B (.slice (some ⟨g, 0, none⟩) L.length cap) L := by
      obtain ⟨g', cap', cur, e, hb', hh, rest⟩ := hS.old
      refine ⟨g', cap', cur, e, hb', ?_, rest⟩
      rw [hblk g' (by omega)]
      exact hh
    have f4 := Far.left hbb hLf (by omega) (by omega) (by omega)
    have hpk : w'.heap[pb]? = w.heap[pb]? := (hLf.block pb (by omega) (by omega) hpo).trans ((hblk pb (by omega)).trans ((hS.block pb (by omega) (by omega) hpo).trans (heap_alloc_old w _ hpl)))
    obtain ⟨L2, e2, hb2⟩ := hLf.buf
    refine ⟨rfl, f1.trans (f2.trans ((Far.drewN w1 j B mb zb).trans (f3.trans f4))), ⟨g, cap, L2, pb, pc, by rw [e2, hL], by rw [e2]; exact hb2, by rw [e2]; exact hLf.mc, (World.cell?_of_block (w := w) (w' := w') (a := ⟨pb, 0, none⟩) hpk).trans hp, hpB⟩, hLf.calls⟩
end Go.Proofs.YbulkbleuFmt.B
