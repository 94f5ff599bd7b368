/- LawS3101B*: (*MessageWriter).WriteRecord over a writer that fails: the message is flushed. -/
import Derived.Test.YbulkbleuFmtWrLong
namespace Go.Proofs.YbulkbleuFmt.B
open Go.RowKit

theorem wr_flush (B mb tb vb zb k c s mx n : Nat) (g cap : Nat) (L : List Int) (ta : Option Addr) (tl tc : Nat) (sid rec dm ex sq : Int) (ds : Bool) (ev : Value) (w : World) (hM : MC w mb (.slice (some ⟨g, 0, none⟩) L.length cap) s sid rec (.slice ta tl tc)) (c12 : w.cell? ⟨mb, 12, none⟩ = some (.bool ds)) (c0 : w.cell? ⟨mb, 0, none⟩ = some (.iface 35 (.pointer (some ⟨zb, 0, none⟩)))) (c1 : w.cell? ⟨mb, 1, none⟩ = some (.int .u32 dm)) (c2 : w.cell? ⟨mb, 2, none⟩ = some (.int .i64 mx)) (c3 : w.cell? ⟨mb, 3, none⟩ = some (.int .u32 ex)) (c4 : w.cell? ⟨mb, 4, none⟩ = some (.int .u32 sq))
    (z1 : w.cell? ⟨zb, 1, none⟩ = some (.int .i64 n)) (z2 : w.cell? ⟨zb, 2, none⟩ = some (.iface 102 ev)) (zf : ∀ j, w.frozen? ⟨zb, j, none⟩ = false) (hn : n ≤ 100000) (hs0 : 0 < s) (hs : s + 4 ≤ L.length) (hlen : L.length ≤ 10000) (h16 : 16 < L.length) (hmb : mb < B) (hzb : zb < B) (hzm : zb ≠ mb) (hB : B ≤ w.heap.size) (hgB : B ≤ g) (hgl : g < w.heap.size)
    (d0 : 0 ≤ dm) (d1 : dm < 4294967296) (e0 : 0 ≤ ex) (e1 : ex < 4294967296) (q0 : 0 ≤ sq) (q1 : sq < 4294967296)
    (hadd : Calls Ybaf.prog 27 #[.pointer (some ⟨mb, 0, none⟩), .pointer (some ⟨tb, 0, none⟩), .slice (some ⟨vb, 0, none⟩) k c] (w.alloc (kept (.slice (some ⟨g, 0, none⟩) L.length cap) s sid rec (.slice ta tl tc) ds)) fun e w1 => e = .returned .nilIface ∧ ∃ v1 L1 s1 sid1 rec1 tv1, Step (w.alloc (kept (.slice (some ⟨g, 0, none⟩) L.length cap) s sid rec (.slice ta tl tc) ds)) w1 B mb (.slice (some ⟨g, 0, none⟩) L.length cap) v1 L L1 ∧ MC w1 mb v1 s1 sid1 rec1 tv1 ∧ mx < L1.length) :
    Calls Ybaf.prog 11 #[.pointer (some ⟨mb, 0, none⟩), .pointer (some ⟨tb, 0, none⟩), .slice (some ⟨vb, 0, none⟩) k c] w fun e w' => e = .returned (.iface 102 ev) ∧ ∃ w1 v1 L1 j, Step (w.alloc (kept (.slice (some ⟨g, 0, none⟩) L.length cap) s sid rec (.slice ta tl tc) ds)) w1 B mb (.slice (some ⟨g, 0, none⟩) L.length cap) v1 L L1 ∧
      Left14 (back (w1.drewN j) mb (.slice (some ⟨g, 0, none⟩) L.length cap) s sid rec (.slice ta tl tc) ds) w' B mb zb (.slice (some ⟨g, 0, none⟩) L.length cap) (.slice ta tl tc) n s sid rec L.length := by
  refine wr_back B mb tb vb k c s mx g cap L ta tl tc sid rec ds w hM c12 c2 (by omega) hgl hadd (fun _ w' => ∃ w1 v1 L1 j, Step (w.alloc (kept (.slice (some ⟨g, 0, none⟩) L.length cap) s sid rec (.slice ta tl tc) ds)) w1 B mb (.slice (some ⟨g, 0, none⟩) L.length cap) v1 L L1 ∧
      Left14 (back (w1.drewN j) mb (.slice (some ⟨g, 0, none⟩) L.length cap) s sid rec (.slice ta tl tc) ds) w' B mb zb (.slice (some ⟨g, 0, none⟩) L.length cap) (.slice ta tl tc) n s sid rec L.length) h16 ev ?_
  intro w1 v1 L1 s1 sid1 rec1 tv1 j hS hM1
  have hMd : MC (w1.drewN j) mb v1 s1 sid1 rec1 tv1 := ⟨hM1.c7, hM1.c8, hM1.c9, hM1.c10, hM1.c11, hM1.c12, hM1.fz⟩
  have hMb := (back_mc (w := w1.drewN j) (mb := mb) (s1 := s1) (v1 := v1) (tv1 := tv1) (sid1 := sid1) (rec1 := rec1) hMd (.slice (some ⟨g, 0, none⟩) L.length cap) s sid rec (.slice ta tl tc) ds).1
  have hlow := back_low (w1.drewN j) mb (.slice (some ⟨g, 0, none⟩) L.length cap) s sid rec (.slice ta tl tc) ds
  have hblk := back_block (w1.drewN j) mb (.slice (some ⟨g, 0, none⟩) L.length cap) s sid rec (.slice ta tl tc) ds
  have hsz := back_size (w1.drewN j) mb (.slice (some ⟨g, 0, none⟩) L.length cap) s sid rec (.slice ta tl tc) ds
  obtain ⟨wb, hwb⟩ : ∃ wb, back (w1.drewN j) mb (.slice (some ⟨g, 0, none⟩) L.length cap) s sid rec (.slice ta tl tc) ds = wb := ⟨_, rfl⟩
  rw [hwb] at hMb hlow hblk hsz ⊢
  have hsA := hS.size
  have hal : w.heap.size < (w.alloc (kept (.slice (some ⟨g, 0, none⟩) L.length cap) s sid rec (.slice ta tl tc) ds)).heap.size := by simp
  have hlw : ∀ i, i < 7 → wb.cell? ⟨mb, i, none⟩ = w.cell? ⟨mb, i, none⟩ := fun i hi => (hlow i hi).trans ((hS.cells i (.inl hi)).trans (World.cell?_alloc_past _ _ _ (by omega)))
  have hzh : wb.heap[zb]? = w.heap[zb]? := (hblk zb hzm).trans ((hS.block zb (by omega) hzm (by simp [Value.ownBlock]; omega)).trans (heap_alloc_old w _ (by omega)))
  have hzc : ∀ i, wb.cell? ⟨zb, i, none⟩ = w.cell? ⟨zb, i, none⟩ := fun i => World.cell?_of_block (w := w) (w' := wb) (a := ⟨zb, i, none⟩) hzh
  have hzf : ∀ i, wb.frozen? ⟨zb, i, none⟩ = w.frozen? ⟨zb, i, none⟩ := fun i => World.frozen?_of_block (w := w) (w' := wb) (a := ⟨zb, i, none⟩) hzh
  have hbb : Buf wb B (.slice (some ⟨g, 0, none⟩) L.length cap) L := by
    obtain ⟨g', cap', cur, e, hb', hh, rest⟩ := hS.old
    refine ⟨g', cap', cur, e, hb', ?_, rest⟩
    rw [hblk g' (by omega)]
    exact hh
  have hsw : (w1.drewN j).heap.size = w1.heap.size := rfl
  refine (flush_fail B mb zb s n _ (.slice ta tl tc) L sid rec dm ex sq ev wb hbb hMb ((hlw 0 (by omega)).trans c0) ((hlw 1 (by omega)).trans c1) ((hlw 3 (by omega)).trans c3) ((hlw 4 (by omega)).trans c4) ((hzc 1).trans z1) ((hzc 2).trans z2) (fun i => (hzf i).trans (zf i)) hn hs0 hs hlen h16 hmb hzb hzm (by omega) d0 d1 e0 e1 q0 q1).mono ?_
  rintro e w' ⟨rfl, hL⟩
  exact ⟨rfl, w1, v1, L1, j, hS, by rw [hwb]; exact hL⟩
end Go.Proofs.YbulkbleuFmt.B
