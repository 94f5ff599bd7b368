/- LawS3101BMessages: a message that holds records; one record more. -/
import Derived.Test.YbulkbleuFmtMSt
namespace Go.Proofs.YbulkbleuFmt.B
open Go.RowKit Go.Maps Go.Extern.Stop Go.Stop Go.Extern

structure StP (w : World) (B mb zb sb tb : Nat) (tid : Int) (fs : List (Int × Int)) (first : Bool) (out : List (List Int)) (j0 q : Nat) (R : List Int) (g cap : Nat) (H : List Int) (mv : Value) (vs : List Value) (n0 : Nat) (D : DataW Unit) (ta : Option Addr) (tl tc : Nat) : Prop where
  hH : H.length = 16
  buf : Buf w B (.slice (some ⟨g, 0, none⟩) (curB first H tid fs R).length cap) (curB first H tid fs R)
  mc : MC w mb (.slice (some ⟨g, 0, none⟩) (curB first H tid fs R).length cap) (16 + lenS first fs) tid q (.slice ta tl tc)
  sur : Sur w B mb zb sb g out j0 mv vs n0 D
  one : first = true → mv = .slice none 0 0 ∧ out = [] ∧ j0 = 0 ∧ D.atKey (K tid) .nil = .nil ∧ ∃ pb, ta = some ⟨pb, 0, none⟩ ∧ tl = 1 ∧ w.cell? ⟨pb, 0, none⟩ = some (.pointer (some ⟨tb, 0, none⟩)) ∧ B ≤ pb ∧ n0 ≤ 1
  two : first = false → tl = 0 ∧ D.atKey (K tid) .nil = .lit (.int .i64 tb)
def StM (w : World) (B mb zb sb tb : Nat) (tid : Int) (fs : List (Int × Int)) (first : Bool) (out : List (List Int)) (j0 q : Nat) (R : List Int) : Prop := ∃ g cap H mv vs n0 D ta tl tc, StP w B mb zb sb tb tid fs first out j0 q R g cap H mv vs n0 D ta tl tc

section
variable {F : Interp} {w w' : World} {B mb tb fb zb sb mx : Nat} {dm ex tid : Int} {fs : List (Int × Int)} {a : Addr} {tx : ByteArray} {first : Bool} {out : List (List Int)} {j0 q q' : Nat} {R R' : List Int} {g g' cap cap' : Nat} {H : List Int} {mv : Value} {vs : List Value} {n0 : Nat} {D : DataW Unit} {ta : Option Addr} {tl tc : Nat}

theorem StP.turn (hP : StP w B mb zb sb tb tid fs first out j0 q R g cap H mv vs n0 D ta tl tc) (hmb : mb < B) (hsb : sb < B) (hzb : zb < B) (hsm : sb ≠ mb) (hzm : zb ≠ mb) (hB : B ≤ w.heap.size)
    (hb : Buf w' B (.slice (some ⟨g', 0, none⟩) (curB first H tid fs R').length cap') (curB first H tid fs R')) (hm : MC w' mb (.slice (some ⟨g', 0, none⟩) (curB first H tid fs R').length cap') (16 + lenS first fs) tid q' (.slice ta tl tc))
    (h4 : w'.cell? ⟨mb, 4, none⟩ = w.cell? ⟨mb, 4, none⟩) (hk : ∀ k, k < w.heap.size → k ≠ mb → k ≠ g → w'.heap[k]? = w.heap[k]?) (hg : g' = g ∨ w.heap.size ≤ g') : StP w' B mb zb sb tb tid fs first out j0 q' R' g' cap' H mv vs n0 D ta tl tc := by
  have hgB := (hP.buf.lt g rfl).1
  refine ⟨hP.hH, hb, hm, hP.sur.keep hmb hsb hzb hsm hzm hgB hB h4 hk hg, fun e => ?_, hP.two⟩
  obtain ⟨e1, e2, e3, e4, pb, e5, e6, e7, e8⟩ := hP.one e
  have hpo : some pb ≠ (Value.slice (some ⟨g, 0, none⟩) (curB first H tid fs R).length cap).ownBlock := Buf.other hP.buf (by rw [curB_len _ _ _ _ _ hP.hH]; omega) e7
  exact ⟨e1, e2, e3, e4, pb, e5, e6, (World.cell?_of_block (a := ⟨pb, 0, none⟩) (hk pb (World.block_lt_of_cell? _ _ e7) (by omega) (fun x => hpo (by rw [x]; rfl)))).trans e7, e8⟩

theorem StP.below (hP : StP w B mb zb sb tb tid fs first out j0 q R g cap H mv vs n0 D ta tl tc) (hmb : mb < B) (hsb : sb < B) (hzb : zb < B) (hsm : sb ≠ mb) (hzm : zb ≠ mb) (hB : B ≤ w.heap.size) (hb : Below w.heap.size w w') : StP w' B mb zb sb tb tid fs first out j0 q R g cap H mv vs n0 D ta tl tc := by
  have gr : w.grownBy w' none := ⟨hb.os, hb.tape, hb.output, hb.size, fun k hk _ => hb.block k hk⟩
  exact hP.turn hmb hsb hzb hsm hzm hB (hP.buf.kept gr (by simp [Value.ownBlock])) (hP.mc.grown gr (by omega) (by simp)) (hb.cell (p := ⟨mb, 4, none⟩) (by show mb < _; omega)) (fun k h _ _ => hb.block k h) (.inl rfl)

/-- add's contract, in the world where WriteRecord has kept its copy. -/
theorem add_any (hE : EnvM F w B mb tb fb zb sb mx dm ex tid fs a tx) (hP : StP w B mb zb sb tb tid fs first out j0 q R g cap H mv vs n0 D ta tl tc) (vb c N : Nat) (rows : List (List Int)) (ds : Bool) (wi : (K tid).wf = true) (hwf : Hid (FsWf fs)) (hk : fs.length ≤ 4)
    (hV : ValsIn N w vb rows) (hN : N ≤ w.heap.size) (hvb : vb < N) (hgv : g < vb) (hfit : Hid (Fits fs rows)) (hq : q ≤ 1000) (hlen : (curB first H tid fs R).length ≤ 1000) :
    Calls Ybaf.prog 27 #[.pointer (some ⟨mb, 0, none⟩), .pointer (some ⟨tb, 0, none⟩), .slice (some ⟨vb, 0, none⟩) fs.length c] (w.alloc (kept (.slice (some ⟨g, 0, none⟩) (curB first H tid fs R).length cap) (16 + lenS first fs) tid q (.slice ta tl tc) ds)) fun e w' => ∃ v', e = .returned .nilIface ∧ Step (w.alloc (kept (.slice (some ⟨g, 0, none⟩) (curB first H tid fs R).length cap) (16 + lenS first fs) tid q (.slice ta tl tc) ds)) w' B mb (.slice (some ⟨g, 0, none⟩) (curB first H tid fs R).length cap) v' (curB first H tid fs R) (curB first H tid fs R ++ rows.flatten) ∧ MC w' mb v' (16 + lenS first fs) tid ((q : Int) + 1) (.slice ta tl tc) := by
  obtain ⟨l0, l1, l2, l3, l4, l5, l6⟩ := hE.lo
  have hB := hE.size
  cases hf : first with
  | true =>
    subst hf
    obtain ⟨e1, e2, e3, e4, pb, rfl, rfl, e7, e8⟩ := hP.one rfl
    exact later_add B mb tb fb vb c sb pb tc _ N g cap n0 D _ tid q ds fs rows w hP.buf hP.mc hE.c5 e7 hP.sur.own wi e4 hE.tpl hwf hk (by omega) (by omega) (by omega) (by omega) hB (by omega) (by omega) (by omega) hV hN hvb hgv hfit
  | false =>
    subst hf
    obtain ⟨e1, e2⟩ := hP.two rfl
    have hlm : mb < w.heap.size := by omega
    have ga := World.grownBy_alloc w (kept (.slice (some ⟨g, 0, none⟩) (curB false H tid fs R).length cap) (16 + lenS false fs) tid q (.slice ta tl tc) ds) none
    have hsz : (w.alloc (kept (.slice (some ⟨g, 0, none⟩) (curB false H tid fs R).length cap) (16 + lenS false fs) tid q (.slice ta tl tc) ds)).heap.size = w.heap.size + 1 := by simp
    exact sent_same B mb tb fb vb c sb _ N ta tl tc _ _ tid q fs rows _ (hP.buf.alloc _) (hP.mc.alloc hlm _) ((World.cell?_alloc_past _ _ _ hlm).trans hE.c5) (hE.tpl.grown ga (by omega) (by omega)) hwf hk (by omega) (by omega) (by omega) (by omega) (by omega) (by omega) (by omega) (by omega) (hV.alloc hN hvb _) (by omega) hvb (fun k' hk' => by simp [Value.ownBlock] at hk'; omega) hfit (fun n => look_there (w := (w.alloc (kept (.slice (some ⟨g, 0, none⟩) (curB false H tid fs R).length cap) (16 + lenS false fs) tid q (.slice ta tl tc) ds)).drewN n) (hP.sur.own.alloc _) wi e2)

/-- The record fits. -/
theorem rec_step (hE : EnvM F w B mb tb fb zb sb mx dm ex tid fs a tx) (hP : StP w B mb zb sb tb tid fs first out j0 q R g cap H mv vs n0 D ta tl tc) (vb c N : Nat) (rows : List (List Int)) (wi : (K tid).wf = true) (hwf : Hid (FsWf fs)) (hk : fs.length ≤ 4)
    (hV : ValsIn N w vb rows) (hN : N ≤ w.heap.size) (hvb : vb < N) (hgv : g < vb) (hfit : Hid (Fits fs rows)) (hq : q ≤ 1000) (hmx : 20 + lenS first fs + R.length + rows.flatten.length ≤ mx) (hm1 : mx ≤ 1000) :
    Calls Ybaf.prog 11 #[.pointer (some ⟨mb, 0, none⟩), .pointer (some ⟨tb, 0, none⟩), .slice (some ⟨vb, 0, none⟩) fs.length c] w fun e w' => e = .returned .nilIface ∧ FarM w w' B mb zb sb ∧ StM w' B mb zb sb tb tid fs first out j0 (q + 1) (R ++ rows.flatten) := by
  obtain ⟨l0, l1, l2, l3, l4, l5, l6⟩ := hE.lo
  have hB := hE.size
  have hlm : mb < w.heap.size := by omega
  obtain ⟨ds, c12⟩ := hP.mc.c12
  have hL := curB_len first H tid fs R hP.hH
  have hgB := hP.buf.lt g rfl
  have hc : ∀ j, (w.alloc (kept (.slice (some ⟨g, 0, none⟩) (curB first H tid fs R).length cap) (16 + lenS first fs) tid q (.slice ta tl tc) ds)).cell? ⟨mb, j, none⟩ = w.cell? ⟨mb, j, none⟩ := fun j => World.cell?_alloc_past _ _ _ hlm
  have hsz : (w.alloc (kept (.slice (some ⟨g, 0, none⟩) (curB first H tid fs R).length cap) (16 + lenS first fs) tid q (.slice ta tl tc) ds)).heap.size = w.heap.size + 1 := by simp
  refine (wr_fits mb tb vb fs.length c (16 + lenS first fs) mx g cap (curB first H tid fs R).length ta tl tc tid q ds (fun w0 => ∃ v', Step (w.alloc (kept (.slice (some ⟨g, 0, none⟩) (curB first H tid fs R).length cap) (16 + lenS first fs) tid q (.slice ta tl tc) ds)) w0 B mb (.slice (some ⟨g, 0, none⟩) (curB first H tid fs R).length cap) v' (curB first H tid fs R) (curB first H tid fs R ++ rows.flatten) ∧ MC w0 mb v' (16 + lenS first fs) tid ((q : Int) + 1) (.slice ta tl tc)) w hP.mc c12 ?_).mono ?_
  · refine (add_any hE hP vb c N rows ds wi hwf hk hV hN hvb hgv hfit hq (by omega)).mono ?_
    rintro e w1 ⟨v', rfl, hS, hM1⟩
    refine ⟨rfl, ⟨v', hS, hM1⟩, ?_, (hS.cells 2 (by omega)).trans ((hc 2).trans hE.c2)⟩
    obtain ⟨g1, cap1, hv⟩ := hS.body.shape2
    have h7 := hM1.c7
    rw [hv] at h7
    exact ⟨g1, cap1, _, h7, by rw [List.length_append]; omega⟩
  · rintro e w' ⟨rfl, w0, j, ⟨v', hS, hM1⟩, rfl⟩
    have f1 := Far.alloc (B := B) (mb := mb) (zb := zb) w (kept (.slice (some ⟨g, 0, none⟩) (curB first H tid fs R).length cap) (16 + lenS first fs) tid q (.slice ta tl tc) ds) hB (by omega) (by omega)
    have f2 := Far.step (zb := zb) hS (by omega) (by omega) (by omega)
    have hz : ∀ k, k < w.heap.size → k ≠ mb → k ≠ g → w0.heap[k]? = w.heap[k]? := fun k h1 h2 h3 => (hS.block k (by omega) h2 (by simpa [Value.ownBlock] using h3)).trans (heap_alloc_old w _ h1)
    refine ⟨rfl, (f1.trans f2).m sb |>.trans ((Far.drewN w0 j B mb zb).m sb), ?_⟩
    obtain ⟨g1, cap1, rfl⟩ := hS.body.shape2
    have hl : g1 = g ∨ w.heap.size ≤ g1 := by
      rcases hS.lies with ⟨x, _⟩ | ⟨y, x, hy⟩
      · left; simpa [Value.ownBlock] using x
      · right
        have : g1 = y := by simpa [Value.ownBlock] using x
        omega
    have hbd := hS.body
    rw [curB_app] at hbd hM1
    exact ⟨g1, cap1, H, mv, vs, n0, D, ta, tl, tc, hP.turn (w' := w0.drewN j) (by omega) (by omega) (by omega) (by omega) (by omega) hB hbd ⟨hM1.c7, hM1.c8, hM1.c9, hM1.c10, hM1.c11, hM1.c12, hM1.fz⟩ ((hS.cells 4 (by omega)).trans (hc 4)) hz hl⟩
end
end Go.Proofs.YbulkbleuFmt.B
