/- LawS3101BMessages: Flush of a message that holds records; WriteRecord that turns to a new message. -/
import Derived.Test.YbulkbleuFmtMRec
import Derived.Test.YbulkbleuFmtFlFirst
namespace Go.Proofs.YbulkbleuFmt.B
open Go.RowKit Go.Maps Go.Extern.Stop Go.Stop Go.Extern

theorem ValsIn.same {N : Nat} {w w' : World} {vb : Nat} {rows : List (List Int)} (h : ValsIn N w vb rows) (hv : vb < N) (hk : ∀ k, vb ≤ k → k < N → w'.heap[k]? = w.heap[k]?) : ValsIn N w' vb rows := fun i hi => by
  obtain ⟨g, a, b, c, d⟩ := h i hi
  exact ⟨g, a, b, (World.cell?_of_block (a := ⟨vb, i, none⟩) (hk vb (Nat.le_refl _) hv)).trans c, fun q hq => (World.cell?_of_block (a := ⟨g, q, none⟩) (hk g (by omega) b)).trans (d q hq)⟩

/-- A later message that holds its header alone. -/
structure StE (w : World) (B mb zb sb tb : Nat) (tid : Int) (out : List (List Int)) (j0 : Nat) (g cap : Nat) (H : List Int) (mv : Value) (vs : List Value) (n0 : Nat) (D : DataW Unit) (ta : Option Addr) (tc : Nat) : Prop where
  hH : H.length = 16
  buf : Buf w B (.slice (some ⟨g, 0, none⟩) 16 cap) H
  mc : MC w mb (.slice (some ⟨g, 0, none⟩) 16 cap) 0 0 0 (.slice ta 0 tc)
  sur : Sur w B mb zb sb g out j0 mv vs n0 D
  at_ : D.atKey (K tid) .nil = .lit (.int .i64 tb)

section
variable {F : Interp} {w w' : World} {B mb tb fb zb sb mx : Nat} {dm ex tid : Int} {fs : List (Int × Int)} {a : Addr} {tx : ByteArray} {first : Bool} {out : List (List Int)} {j0 q q' : Nat} {R R' : List Int} {g g' cap cap' : Nat} {H : List Int} {mv : Value} {vs : List Value} {n0 : Nat} {D : DataW Unit} {ta : Option Addr} {tl tc : Nat}

theorem flush_any (hE : EnvM F w B mb tb fb zb sb mx dm ex tid fs a tx) (hP : StP w B mb zb sb tb tid fs first out j0 q R g cap H mv vs n0 D ta tl tc) (wi : (K tid).wf = true) (hq : q ≤ 1000) (hj : j0 ≤ 1000) (ho : out.length ≤ 1000) (hlen : 20 + lenS first fs + R.length ≤ 1000) (d0 : 0 ≤ dm) (d1 : dm < 4294967296) (e0 : 0 ≤ ex) (e1 : ex < 4294967296) :
    Calls Ybaf.prog 14 #[.pointer (some ⟨mb, 0, none⟩)] w fun e w' => e = .returned .nilIface ∧ ∃ H' mv' vs' n0' D' ta' tc', StE w' B mb zb sb tb tid (out ++ [msgB first tid fs ex dm j0 R]) (j0 + q) g cap H' mv' vs' n0' D' ta' tc' ∧ FarM w w' B mb zb sb ∧ ∀ k, k < w.heap.size → k ≠ zb → k ≠ mb → k ≠ sb → k ≠ g → some k ≠ mv.ownBlock → w'.heap[k]? = w.heap[k]? := by
  obtain ⟨l0, l1, l2, l3, l4, l5, l6⟩ := hE.lo
  have hB := hE.size
  have hL := curB_len first H tid fs R hP.hH
  have hgB := hP.buf.lt g rfl
  have hcast : ((j0 : Int) + (q : Int)) = ((j0 + q : Nat) : Int) := by omega
  have hmn : ∀ k, k < B → some k ≠ mv.ownBlock := fun k hk e => by have := (hP.sur.ms.own.lt k e.symm).1; omega
  have far : ∀ {w' : World} {tv' : Value} {n : Nat} {sq' : Int} {out' : List (List Int)} {M : List Int}, FlOk w w' B mb zb sb g cap mv out' M n sq' tv' → FarM w w' B mb zb sb := fun h =>
    ⟨h.size, fun k c1 c2 c3 c4 => h.block k (by omega) c3 c2 c4 (by omega) (hmn k c1), h.low, h.z2, h.zf, h.os, h.tape, h.output⟩
  cases hf : first with
  | true =>
    subst hf
    obtain ⟨rfl, rfl, x3, x4, pb, rfl, rfl, x7, x8, x9⟩ := hP.one rfl
    have hpo : some pb ≠ (Value.slice (some ⟨g, 0, none⟩) (curB true H tid fs R).length cap).ownBlock := Buf.other hP.buf (by omega) x7
    refine (flush_first B mb zb sb tb pb tc (16 + lenS true fs) 0 n0 _ D tid _ tid q dm ex j0 w hP.buf hP.mc hE.c5 x7 hE.tpl.c0 hP.sur.own (by omega) wi (by omega) (by omega) hpo (by omega) (by omega) (by omega) (by omega) (by omega) (by omega) hE.c0 hE.c1 hE.c3 hP.sur.c4 hP.sur.z0 hP.sur.z1 hE.z2 hE.zf (by omega) (by omega) (by omega) (by omega) (by omega) (by omega) (by omega) (by omega) hB d0 d1 e0 e1 (by omega) (by omega) (by omega)).mono ?_
    rintro e w' ⟨rfl, g', cap', hv, hF, hO⟩
    simp only [Value.slice.injEq, Option.some.injEq, Addr.mk.injEq, and_true, true_and] at hv
    obtain ⟨rfl, rfl⟩ := hv
    rw [sent_cur _ _ _ _ _ _ _ _ hP.hH] at hF
    obtain ⟨H', hH', hb'⟩ := hF.buf
    obtain ⟨mv', vs', c1, c2⟩ := hF.msgs
    refine ⟨rfl, H', mv', vs', n0 + 1, _, some ⟨pb, 0, none⟩, tc, ⟨hH', hb', hF.mc, ⟨?_, c1, by simpa using hF.calls, by simpa using c2, hO, by omega⟩, atKey_put_same (k := K tid) hP.sur.own.isMap trivial _ _⟩, far hF, hF.block⟩
    rw [← hcast]; exact hF.c4
  | false =>
    subst hf
    obtain ⟨rfl, x2⟩ := hP.two rfl
    refine (flush_later B mb zb sb (16 + lenS false fs) out.length _ ta tc _ tid q dm ex j0 mv vs out w hP.buf hP.mc (by omega) (by omega) (by omega) hE.c0 hE.c1 hE.c3 hP.sur.c4 hP.sur.z0 (fun gb hgb => by simp [Value.ownBlock] at hgb; subst hgb; exact hP.sur.ms) ho hP.sur.z1 hE.z2 hE.zf (by omega) (by omega) (by omega) (by omega) (by omega) (by omega) (by omega) (by omega) hB d0 d1 e0 e1 (by omega) (by omega) (by omega)).mono ?_
    rintro e w' ⟨rfl, g', cap', hv, hF, hO⟩
    simp only [Value.slice.injEq, Option.some.injEq, Addr.mk.injEq, and_true, true_and] at hv
    obtain ⟨rfl, rfl⟩ := hv
    rw [sent_cur _ _ _ _ _ _ _ _ hP.hH] at hF
    obtain ⟨H', hH', hb'⟩ := hF.buf
    obtain ⟨mv', vs', c1, c2⟩ := hF.msgs
    have hown : w'.ownsMap Ybaf.prog 22 ptrElem sb n0 D := by
      obtain ⟨es, clock, y1, y2⟩ := hP.sur.own
      exact ⟨es, clock, hO.trans y1, y2⟩
    refine ⟨rfl, H', mv', vs', n0, D, ta, tc, ⟨hH', hb', hF.mc, ⟨?_, c1, by simpa using hF.calls, c2, hown, hP.sur.nn⟩, x2⟩, far hF, hF.block⟩
    rw [← hcast]; exact hF.c4

/-- The record does not fit: the message is flushed, and the record opens the next one. -/
theorem rec_turn (hE : EnvM F w B mb tb fb zb sb mx dm ex tid fs a tx) (hP : StP w B mb zb sb tb tid fs first out j0 q R g cap H mv vs n0 D ta tl tc) (vb c N : Nat) (rows : List (List Int)) (wi : (K tid).wf = true) (hwf : Hid (FsWf fs)) (hk : fs.length ≤ 4) (ht0 : 0 ≤ tid) (ht1 : tid < 65536)
    (hV : ValsIn N w vb rows) (hN : N ≤ w.heap.size) (hvb : vb < N) (hBv : B ≤ vb) (hgv : g < vb) (hmv : ∀ k, mv.ownBlock = some k → k < vb) (hfit : Hid (Fits fs rows)) (hq : q ≤ 1000) (hj : j0 ≤ 1000) (ho : out.length ≤ 1000) (hgt : mx < 20 + lenS first fs + R.length + rows.flatten.length) (hnx : 20 + rows.flatten.length ≤ mx) (hlen : 20 + lenS first fs + R.length ≤ 1000) (d0 : 0 ≤ dm) (d1 : dm < 4294967296) (e0 : 0 ≤ ex) (e1 : ex < 4294967296) :
    Calls Ybaf.prog 11 #[.pointer (some ⟨mb, 0, none⟩), .pointer (some ⟨tb, 0, none⟩), .slice (some ⟨vb, 0, none⟩) fs.length c] w fun e w' => e = .returned .nilIface ∧ FarM w w' B mb zb sb ∧ StM w' B mb zb sb tb tid fs false (out ++ [msgB first tid fs ex dm j0 R]) (j0 + q) 1 rows.flatten := by
  obtain ⟨l0, l1, l2, l3, l4, l5, l6⟩ := hE.lo
  have hB := hE.size
  have hlm : mb < w.heap.size := by omega
  obtain ⟨ds, c12⟩ := hP.mc.c12
  have hL := curB_len first H tid fs R hP.hH
  have hgB := hP.buf.lt g rfl
  have hc : ∀ j, (w.alloc (kept (.slice (some ⟨g, 0, none⟩) (curB first H tid fs R).length cap) (16 + lenS first fs) tid q (.slice ta tl tc) ds)).cell? ⟨mb, j, none⟩ = w.cell? ⟨mb, j, none⟩ := fun j => World.cell?_alloc_past _ _ _ hlm
  have hsz : (w.alloc (kept (.slice (some ⟨g, 0, none⟩) (curB first H tid fs R).length cap) (16 + lenS first fs) tid q (.slice ta tl tc) ds)).heap.size = w.heap.size + 1 := by simp
  have hf1 := Far.alloc (B := B) (mb := mb) (zb := zb) w (kept (.slice (some ⟨g, 0, none⟩) (curB first H tid fs R).length cap) (16 + lenS first fs) tid q (.slice ta tl tc) ds) hB (by omega) (by omega)
  refine (wr_turn B mb tb vb fs.length c (16 + lenS first fs) mx g cap (curB first H tid fs R) ta tl tc tid q ds (fun w0 => FarM w w0 B mb zb sb ∧ StM w0 B mb zb sb tb tid fs false (out ++ [msgB first tid fs ex dm j0 R]) (j0 + q) 1 rows.flatten) w hP.mc c12 hE.c2 hlm hgB.2 ?_ (by omega) ?_).mono ?_
  · refine (add_any hE hP vb c N rows ds wi hwf hk hV hN hvb hgv hfit hq (by omega)).mono ?_
    rintro e w1 ⟨v', rfl, hS, hM1⟩
    exact ⟨rfl, v', _, _, _, _, _, hS, hM1, by rw [List.length_append]; omega⟩
  · intro w1 v1 L1 s1 sid1 rec1 tv1 j hS hM1
    have hMd : MC (w1.drewN j) mb v1 s1 sid1 rec1 tv1 := ⟨hM1.c7, hM1.c8, hM1.c9, hM1.c10, hM1.c11, hM1.c12, hM1.fz⟩
    have hMb := (back_mc (w := w1.drewN j) (mb := mb) (s1 := s1) (v1 := v1) (tv1 := tv1) (sid1 := sid1) (rec1 := rec1) hMd (.slice (some ⟨g, 0, none⟩) (curB first H tid fs R).length cap) (16 + lenS first fs) tid q (.slice ta tl tc) ds).1
    have hlow := back_low (w1.drewN j) mb (.slice (some ⟨g, 0, none⟩) (curB first H tid fs R).length cap) (16 + lenS first fs) tid q (.slice ta tl tc) ds
    have hblk := back_block (w1.drewN j) mb (.slice (some ⟨g, 0, none⟩) (curB first H tid fs R).length cap) (16 + lenS first fs) tid q (.slice ta tl tc) ds
    have hsb := back_size (w1.drewN j) mb (.slice (some ⟨g, 0, none⟩) (curB first H tid fs R).length cap) (16 + lenS first fs) tid q (.slice ta tl tc) ds
    have f2 := Far.step (zb := zb) hS (by omega) (by omega) (by omega)
    have f3 := Far.back (B := B) (mb := mb) (zb := zb) (w1.drewN j) (.slice (some ⟨g, 0, none⟩) (curB first H tid fs R).length cap) (16 + lenS first fs) tid q (.slice ta tl tc) ds (by omega)
    obtain ⟨wb, hwb⟩ : ∃ wb, back (w1.drewN j) mb (.slice (some ⟨g, 0, none⟩) (curB first H tid fs R).length cap) (16 + lenS first fs) tid q (.slice ta tl tc) ds = wb := ⟨_, rfl⟩
    rw [hwb] at hMb hlow hblk hsb f3 ⊢
    have hsA := hS.size
    have hsw : (w1.drewN j).heap.size = w1.heap.size := rfl
    have hbb : Buf wb B (.slice (some ⟨g, 0, none⟩) (curB first H tid fs R).length cap) (curB first H tid fs R) := by
      obtain ⟨g', cap', cur, e, hb', hh, rest⟩ := hS.old
      refine ⟨g', cap', cur, e, hb', ?_, rest⟩
      rw [hblk g' (by omega)]
      exact hh
    have hkb : ∀ k, k < w.heap.size → k ≠ mb → k ≠ g → wb.heap[k]? = w.heap[k]? := fun k c1 c2 c3 => (hblk k c2).trans ((hS.block k (by omega) c2 (by simpa [Value.ownBlock] using c3)).trans (heap_alloc_old w _ c1))
    have hPb := hP.turn (w' := wb) (by omega) (by omega) (by omega) (by omega) (by omega) hB hbb hMb ((hlow 4 (by omega)).trans ((hS.cells 4 (by omega)).trans (hc 4))) hkb (.inl rfl)
    have hFb : FarM w wb B mb zb sb := (hf1.trans (f2.trans ((Far.drewN w1 j B mb zb).trans f3))).m sb
    have hEb := hE.far hFb
    refine (flush_any hEb hPb wi hq hj ho hlen d0 d1 e0 e1).mono ?_
    rintro e w2 ⟨rfl, H', mv', vs', n0', D', ta', tc', hX, hF2, hk2⟩
    refine ⟨rfl, ?_⟩
    have hE2 := hEb.far hF2
    have hB2 := hE2.size
    have hs2 := hF2.size
    have hlm2 : mb < w2.heap.size := by omega
    obtain ⟨ds2, d12⟩ := hX.mc.c12
    have hV2 : ValsIn N w2 vb rows := hV.same hvb fun k c1 c2 => (hk2 k (by omega) (by omega) (by omega) (by omega) (by omega) (fun x => by have := hmv k x.symm; omega)).trans (hkb k (by omega) (by omega) (by omega))
    have ga := World.grownBy_alloc w2 (kept (.slice (some ⟨g, 0, none⟩) 16 cap) 0 0 0 (.slice ta' 0 tc') ds2) none
    have hsz2 : (w2.alloc (kept (.slice (some ⟨g, 0, none⟩) 16 cap) 0 0 0 (.slice ta' 0 tc') ds2)).heap.size = w2.heap.size + 1 := by simp
    have hc2 : ∀ j, (w2.alloc (kept (.slice (some ⟨g, 0, none⟩) 16 cap) 0 0 0 (.slice ta' 0 tc') ds2)).cell? ⟨mb, j, none⟩ = w2.cell? ⟨mb, j, none⟩ := fun j => World.cell?_alloc_past _ _ _ hlm2
    have hb2 : Buf w2 B (.slice (some ⟨g, 0, none⟩) H'.length cap) H' := by rw [hX.hH]; exact hX.buf
    have hM2 : MC w2 mb (.slice (some ⟨g, 0, none⟩) H'.length cap) 0 0 0 (.slice ta' 0 tc') := by rw [hX.hH]; exact hX.mc
    refine ⟨g, cap, 16, 0, 0, 0, ta', 0, tc', ds2, hX.mc, d12, ?_⟩
    have hg2 := (hX.buf.lt g rfl)
    refine (sent_first B mb tb fb vb c sb N ta' 0 tc' _ H' tid 0 0 fs rows (w2.alloc (kept (.slice (some ⟨g, 0, none⟩) 16 cap) 0 0 0 (.slice ta' 0 tc') ds2)) (hb2.alloc _) (hM2.alloc hlm2 _) ((hc2 5).trans hE2.c5) (hE2.tpl.grown ga (by omega) (by omega)) hwf hk (by omega) (by omega) (by omega) (by omega) (by omega) (by omega) (by rw [hX.hH]; omega) (by omega) (by omega) (by omega) ht0 ht1 (hV2.alloc (by omega) hvb _) (by omega) hvb (fun k' hk' => by simp [Value.ownBlock] at hk'; omega) hfit (fun n => look_there (w := (w2.alloc (kept (.slice (some ⟨g, 0, none⟩) 16 cap) 0 0 0 (.slice ta' 0 tc') ds2)).drewN n) (hX.sur.own.alloc _) wi hX.at_)).mono ?_
    rintro e w3 ⟨v3, rfl, hS3, hM3⟩
    have ecur : H' ++ be16 tid ++ be16 0 ++ rows.flatten = curB false H' tid fs rows.flatten := by simp [curB, tplS]
    rw [ecur] at hS3
    have hl3 := curB_len false H' tid fs rows.flatten hX.hH
    have hl0 : lenS false fs = 0 := rfl
    have g1 := Far.alloc (B := B) (mb := mb) (zb := zb) w2 (kept (.slice (some ⟨g, 0, none⟩) 16 cap) 0 0 0 (.slice ta' 0 tc') ds2) (by omega) (by omega) (by omega)
    have g2 := Far.step (zb := zb) hS3 (by omega) (by omega) (by omega)
    obtain ⟨g3, cap3, rfl⟩ := hS3.body.shape2
    refine ⟨rfl, ⟨hFb.trans (hF2.trans ((g1.trans g2).m sb)), ?_⟩, ⟨g3, cap3, _, hM3.c7, by omega⟩, (hS3.cells 2 (by omega)).trans ((hc2 2).trans hE2.c2)⟩
    have hl : g3 = g ∨ w2.heap.size ≤ g3 := by
      rcases hS3.lies with ⟨x, _⟩ | ⟨y, x, hy⟩
      · left; simpa [Value.ownBlock] using x
      · right
        have : g3 = y := by simpa [Value.ownBlock] using x
        omega
    have hk3 : ∀ k, k < w2.heap.size → k ≠ mb → k ≠ g → w3.heap[k]? = w2.heap[k]? := fun k c1 c2 c3 => (hS3.block k (by omega) c2 (by simpa [Value.ownBlock] using c3)).trans (heap_alloc_old w2 _ c1)
    have hM3' : MC w3 mb (.slice (some ⟨g3, 0, none⟩) (curB false H' tid fs rows.flatten).length cap3) (16 + lenS false fs) tid ((1 : Nat) : Int) (.slice ta' 0 tc') := by
      rw [hX.hH] at hM3
      exact hM3
    exact ⟨g3, cap3, H', mv', vs', n0', D', ta', 0, tc', hX.hH, hS3.body, hM3', hX.sur.keep (by omega) (by omega) (by omega) (by omega) (by omega) hg2.1 (by omega) ((hS3.cells 4 (by omega)).trans (hc2 4)) hk3 hl, (fun x => by cases x), fun _ => ⟨rfl, hX.at_⟩⟩
  · rintro e w' ⟨rfl, w0, j, ⟨hF0, hS0⟩, rfl⟩
    refine ⟨rfl, hF0.trans ((Far.drewN w0 j B mb zb).m sb), ?_⟩
    obtain ⟨g1, cap1, H1, mv1, vs1, n1, D1, ta1, tl1, tc1, hP1⟩ := hS0
    have hB0 := hF0.size
    exact ⟨g1, cap1, H1, mv1, vs1, n1, D1, ta1, tl1, tc1, hP1.below (w' := w0.drewN j) (by omega) (by omega) (by omega) (by omega) (by omega) (by omega) ⟨rfl, rfl, rfl, Nat.le_refl _, fun _ _ => rfl⟩⟩
end
end Go.Proofs.YbulkbleuFmt.B
