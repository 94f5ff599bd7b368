/- LawS3101BMessages: the message that holds its header alone, nothing sent. -/
import Derived.Test.YbulkbleuFmtMTurn
namespace Go.Proofs.YbulkbleuFmt.B
open Go.RowKit Go.Maps Go.Extern.Stop Go.Stop Go.Extern

structure StZ (w : World) (B mb zb sb g cap : Nat) (L : List Int) (sid : Int) : Prop where
  hL : L.length = 16
  buf : Buf w B (.slice (some ⟨g, 0, none⟩) L.length cap) L
  mc : MC w mb (.slice (some ⟨g, 0, none⟩) L.length cap) 0 sid 0 (.slice none 0 0)
  sur : Sur w B mb zb sb g [] 0 (.slice none 0 0) [] 0 (.map [])

section
variable {F : Interp} {w w' : World} {B mb tb fb zb sb mx : Nat} {dm ex tid : Int} {fs : List (Int × Int)} {a : Addr} {tx : ByteArray} {g cap : Nat} {L : List Int} {sid : Int}

theorem StZ.below (hP : StZ w B mb zb sb g cap L sid) (hmb : mb < B) (hsb : sb < B) (hzb : zb < B) (hsm : sb ≠ mb) (hzm : zb ≠ mb) (hB : B ≤ w.heap.size) (hb : Below w.heap.size w w') : StZ w' B mb zb sb g cap L sid := by
  have gr : w.grownBy w' none := ⟨hb.os, hb.tape, hb.output, hb.size, fun k hk _ => hb.block k hk⟩
  have hg := hP.buf.lt g rfl
  exact ⟨hP.hL, hP.buf.kept gr (by simp [Value.ownBlock]), hP.mc.grown gr (by omega) (by simp), hP.sur.keep hmb hsb hzb hsm hzm hg.1 hB (hb.cell (p := ⟨mb, 4, none⟩) (by show mb < _; omega)) (fun k h _ _ => hb.block k h) (.inl rfl)⟩

theorem zero_fits (hE : EnvM F w B mb tb fb zb sb mx dm ex tid fs a tx) (hP : StZ w B mb zb sb g cap L sid) (vb c N : Nat) (rows : List (List Int)) (wi : (K tid).wf = true) (hwf : Hid (FsWf fs)) (hk : fs.length ≤ 4) (ht0 : 256 ≤ tid) (ht1 : tid < 65536)
    (hV : ValsIn N w vb rows) (hN : N ≤ w.heap.size) (hvb : vb < N) (hgv : g < vb) (hfit : Hid (Fits fs rows)) (hmx : 20 + lenS true fs + rows.flatten.length ≤ mx) :
    Calls Ybaf.prog 11 #[.pointer (some ⟨mb, 0, none⟩), .pointer (some ⟨tb, 0, none⟩), .slice (some ⟨vb, 0, none⟩) fs.length c] w fun e w' => e = .returned .nilIface ∧ FarM w w' B mb zb sb ∧ StM w' B mb zb sb tb tid fs true [] 0 1 rows.flatten := by
  obtain ⟨ds, c12⟩ := hP.mc.c12
  obtain ⟨l0, l1, l2, l3, l4, l5, l6⟩ := hE.lo
  have hB := hE.size
  have hL := hP.hL
  have hls : lenS true fs = 4 + (4 + 4 * fs.length) := rfl
  have hfl := firstB_len L tid fs rows
  rw [tplB_len, hL] at hfl
  have hg := hP.buf.lt g rfl
  refine (first_fits B mb tb fb vb c sb N mx g cap 0 (.map []) L tid sid 0 ds fs rows w hP.buf hP.mc hE.c2 hE.c5 hE.c6 c12 hP.sur.own wi (at_empty tid) hE.tpl hwf hk (by omega) (by omega) (by omega) (by omega) (by omega) (by omega) (by omega) (by omega) hB (by omega) (by omega) ht0 ht1 hV hN hvb hgv hfit (by rw [hfl]; omega)).mono ?_
  rintro e w' ⟨rfl, w0, j, ⟨v', pb, pc, hS, hM1, hp1, hp2⟩, rfl⟩
  have hsz : w.heap.size ≤ (w.alloc (kept (.slice (some ⟨g, 0, none⟩) L.length cap) 0 sid 0 (.slice none 0 0) ds)).heap.size := by simp
  have f1 := Far.alloc (B := B) (mb := mb) (zb := zb) w (kept (.slice (some ⟨g, 0, none⟩) L.length cap) 0 sid 0 (.slice none 0 0) ds) hB (by omega) (by omega)
  have f2 := Far.step (zb := zb) hS (by omega) (by omega) (by omega)
  refine ⟨rfl, ((f1.trans f2).trans (Far.drewN w0 j B mb zb)).m sb, ?_⟩
  obtain ⟨g1, cap1, rfl⟩ := hS.body.shape2
  have hbd := hS.body
  rw [first_cur] at hbd hM1
  have e1 : L.length + 4 + (tplB tid fs).length = 16 + lenS true fs := by rw [tplB_len, hL, hls]; omega
  rw [e1] at hM1
  have hl : g1 = g ∨ w.heap.size ≤ g1 := by
    rcases hS.lies with ⟨x, _⟩ | ⟨y, x, hy⟩
    · left; simpa [Value.ownBlock] using x
    · right
      have : g1 = y := by simpa [Value.ownBlock] using x
      omega
  have hkk : ∀ k, k < w.heap.size → k ≠ mb → k ≠ g → w0.heap[k]? = w.heap[k]? := fun k c1 c2 c3 => (hS.block k (by omega) c2 (by simpa [Value.ownBlock] using c3)).trans (heap_alloc_old w _ c1)
  have h4 : w0.cell? ⟨mb, 4, none⟩ = w.cell? ⟨mb, 4, none⟩ := (hS.cells 4 (by omega)).trans (World.cell?_alloc_past _ _ _ (by show mb < _; omega))
  have hM2 : MC (w0.drewN j) mb (.slice (some ⟨g1, 0, none⟩) (curB true L tid fs rows.flatten).length cap1) (16 + lenS true fs) tid ((1 : Nat) : Int) (.slice (some ⟨pb, 0, none⟩) 1 pc) := ⟨hM1.c7, hM1.c8, hM1.c9, hM1.c10, hM1.c11, hM1.c12, hM1.fz⟩
  exact ⟨g1, cap1, L, _, _, _, _, some ⟨pb, 0, none⟩, 1, pc, hL, hbd, hM2, hP.sur.keep (w' := w0.drewN j) (by omega) (by omega) (by omega) (by omega) (by omega) hg.1 hB h4 hkk hl, fun _ => ⟨rfl, rfl, rfl, at_empty tid, pb, rfl, rfl, hp1, by omega, by omega⟩, fun x => by cases x⟩

theorem zero_long (hE : EnvM F w B mb tb fb zb sb mx dm ex tid fs a tx) (hP : StZ w B mb zb sb g cap L sid) (vb c N : Nat) (rows : List (List Int)) (wi : (K tid).wf = true) (hwf : Hid (FsWf fs)) (hk : fs.length ≤ 4) (ht0 : 256 ≤ tid) (ht1 : tid < 65536)
    (hV : ValsIn N w vb rows) (hN : N ≤ w.heap.size) (hvb : vb < N) (hBv : B ≤ vb) (hgv : g < vb) (hfit : Hid (Fits fs rows)) (hmx : mx < 20 + lenS true fs + rows.flatten.length) :
    Calls Ybaf.prog 11 #[.pointer (some ⟨mb, 0, none⟩), .pointer (some ⟨tb, 0, none⟩), .slice (some ⟨vb, 0, none⟩) fs.length c] w fun e w' => (∃ qb, e = .returned (.iface 119 (.pointer (some ⟨qb, 0, none⟩))) ∧ w'.cell? ⟨qb, 1, none⟩ = some (.iface 102 (.pointer (some a)))) ∧ FarM w w' B mb zb sb ∧ StZ w' B mb zb sb g cap L sid := by
  obtain ⟨ds, c12⟩ := hP.mc.c12
  obtain ⟨l0, l1, l2, l3, l4, l5, l6⟩ := hE.lo
  have hB := hE.size
  have hL := hP.hL
  have hb := hP.buf
  have hM := hP.mc
  have hls : lenS true fs = 4 + (4 + 4 * fs.length) := rfl
  have hlm : mb < w.heap.size := by omega
  have hgB : B ≤ g ∧ g < w.heap.size := hb.lt g rfl
  have hfl := firstB_len L tid fs rows
  rw [tplB_len, hL] at hfl
  have ga := World.grownBy_alloc w (kept (.slice (some ⟨g, 0, none⟩) L.length cap) 0 sid 0 (.slice none 0 0) ds) none
  have hsz : (w.alloc (kept (.slice (some ⟨g, 0, none⟩) L.length cap) 0 sid 0 (.slice none 0 0) ds)).heap.size = w.heap.size + 1 := by simp
  have hc : ∀ j, (w.alloc (kept (.slice (some ⟨g, 0, none⟩) L.length cap) 0 sid 0 (.slice none 0 0) ds)).cell? ⟨mb, j, none⟩ = w.cell? ⟨mb, j, none⟩ := fun j => World.cell?_alloc_past _ _ _ hlm
  refine (wr_long B mb tb vb fs.length c 0 mx g cap L none 0 0 sid 0 tid ds F a tx w hE.tape hM c12 hE.c2 hlm hgB.2 hE.tpl.c0 (by omega) (by omega) (by omega) hE.g0 (by omega) (by omega) (by omega) hE.at_ (by omega) (by omega) (by omega) ?_ hL).mono ?_
  · refine (add_first B mb tb fb vb c sb N _ L tid sid 0 fs rows (w.alloc (kept (.slice (some ⟨g, 0, none⟩) L.length cap) 0 sid 0 (.slice none 0 0) ds)) (hb.alloc _) (hM.alloc hlm _) ((hc 5).trans hE.c5) ((hc 6).trans hE.c6) (hE.tpl.grown ga (by omega) (by omega)) hwf hk (by omega) (by omega) (by omega) (by omega) (by omega) (by omega) (by omega) (by omega) (by omega) (by omega) (by omega) ht0 ht1 (hV.alloc hN hvb _) (by omega) hvb (fun k' hk' => by simp [Value.ownBlock] at hk'; omega) hfit (look_absent (hP.sur.own.alloc _).drew wi (at_empty tid))).mono ?_
    rintro e w1 ⟨v', pb, pc, rfl, hS, hM1, hp1, hp2⟩
    exact ⟨rfl, v', firstB L tid fs rows, _, _, _, _, hS, hM1, by rw [hfl]; omega⟩
  · rintro e w' ⟨qb, w1, v1, L1, s1, sid1, rec1, tv1, j, rfl, hq, hS, hM1, hg⟩
    have hMd : MC (w1.drewN j) mb v1 s1 sid1 rec1 tv1 := ⟨hM1.c7, hM1.c8, hM1.c9, hM1.c10, hM1.c11, hM1.c12, hM1.fz⟩
    have hMb := (back_mc (w := w1.drewN j) (mb := mb) (s1 := s1) (v1 := v1) (tv1 := tv1) (sid1 := sid1) (rec1 := rec1) hMd (.slice (some ⟨g, 0, none⟩) L.length cap) 0 sid 0 (.slice none 0 0) ds).1
    have hblk := back_block (w1.drewN j) mb (.slice (some ⟨g, 0, none⟩) L.length cap) 0 sid 0 (.slice none 0 0) ds
    have hlow := back_low (w1.drewN j) mb (.slice (some ⟨g, 0, none⟩) L.length cap) 0 sid 0 (.slice none 0 0) ds
    have hsb := back_size (w1.drewN j) mb (.slice (some ⟨g, 0, none⟩) L.length cap) 0 sid 0 (.slice none 0 0) ds
    have f1 := Far.alloc (B := B) (mb := mb) (zb := zb) w (kept (.slice (some ⟨g, 0, none⟩) L.length cap) 0 sid 0 (.slice none 0 0) ds) hB (by omega) (by omega)
    have f2 := Far.step (zb := zb) hS (by omega) (by omega) (by omega)
    have f3 := Far.back (B := B) (mb := mb) (zb := zb) (w1.drewN j) (.slice (some ⟨g, 0, none⟩) L.length cap) 0 sid 0 (.slice none 0 0) ds (by omega)
    obtain ⟨wb, hwb⟩ : ∃ wb, back (w1.drewN j) mb (.slice (some ⟨g, 0, none⟩) L.length cap) 0 sid 0 (.slice none 0 0) ds = wb := ⟨_, rfl⟩
    rw [hwb] at hMb hblk hlow hsb hg f3
    have hs1 := hS.size
    have hs2 : (w1.drewN j).heap.size = w1.heap.size := rfl
    have f4 := Far.grown (B := B) (mb := mb) (zb := zb) hg (by omega) (by omega) (by omega)
    have hbb : Buf wb B (.slice (some ⟨g, 0, none⟩) L.length cap) L := by
      obtain ⟨g', cap', cur, e, hb', hh, rest⟩ := hS.old
      refine ⟨g', cap', cur, e, hb', ?_, rest⟩
      rw [hblk g' (by omega)]
      exact hh
    have hkk : ∀ k, k < w.heap.size → k ≠ mb → k ≠ g → w'.heap[k]? = w.heap[k]? := fun k c1 c2 c3 => (hg.block k (by omega) (by simp)).trans ((hblk k c2).trans ((hS.block k (by omega) c2 (by simpa [Value.ownBlock] using c3)).trans (heap_alloc_old w _ c1)))
    have h4 : w'.cell? ⟨mb, 4, none⟩ = w.cell? ⟨mb, 4, none⟩ := (hg.cell_far ⟨mb, 4, none⟩ (by show mb < _; omega) (by simp)).trans ((hlow 4 (by omega)).trans ((hS.cells 4 (by omega)).trans (hc 4)))
    exact ⟨⟨qb, rfl, hq⟩, (f1.trans (f2.trans ((Far.drewN w1 j B mb zb).trans (f3.trans f4)))).m sb, hL, hbb.kept hg (by simp [Value.ownBlock]), hMb.grown hg (by omega) (by simp), hP.sur.keep (by omega) (by omega) (by omega) (by omega) (by omega) hgB.1 hB h4 hkk (.inl rfl)⟩

set_option maxRecDepth 100000 in
/-- Flush of a message that holds nothing. -/
theorem flush_none (mb g cap : Nat) (w : World) (c7 : w.cell? ⟨mb, 7, none⟩ = some (.slice (some ⟨g, 0, none⟩) 16 cap)) :
    Calls Ybaf.prog 14 #[.pointer (some ⟨mb, 0, none⟩)] w fun e w' => e = .returned .nilIface ∧ w = w' := by
  go_enter Ybaf.func14, Ybaf.ntmps14
  go_wp2
  go_ret
  exact ⟨rfl, rfl⟩
end
end Go.Proofs.YbulkbleuFmt.B
