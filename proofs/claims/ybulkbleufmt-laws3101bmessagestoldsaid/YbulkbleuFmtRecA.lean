/- LawS3101B*: WriteRecord of the first record, and it fits. -/
import Derived.Test.YbulkbleuFmtKept
namespace Go.Proofs.YbulkbleuFmt.B
open Go.RowKit Go.Maps

theorem ValsIn.alloc {N : Nat} {w : World} {vb : Nat} {rows : List (List Int)} (h : ValsIn N w vb rows) (hN : N ≤ w.heap.size) (hv : vb < N) (o : Obj) : ValsIn N (w.alloc o) vb rows := h.kept hN hv (World.grownBy_alloc w o none) (by simp)

/-- What the first record's bytes are. -/
def firstB (L : List Int) (tid : Int) (fs : List (Int × Int)) (rows : List (List Int)) : List Int := patch (L ++ be16 2 ++ be16 0 ++ tplB tid fs) (L.length + 2) (4 + (tplB tid fs).length) ++ be16 tid ++ be16 0 ++ rows.flatten
theorem firstB_len (L : List Int) (tid : Int) (fs : List (Int × Int)) (rows : List (List Int)) : (firstB L tid fs rows).length = L.length + 8 + (tplB tid fs).length + rows.flatten.length := by
  unfold firstB
  simp only [List.length_append, patch_len, be16_len]
  omega

theorem first_fits (B mb tb fb vb c sb N mx : Nat) (g cap n0 : Nat) (D : DataW Unit) (L : List Int) (tid sid rec : Int) (ds : Bool) (fs : List (Int × Int)) (rows : List (List Int)) (w : World) (hb : Buf w B (.slice (some ⟨g, 0, none⟩) L.length cap) L) (hM : MC w mb (.slice (some ⟨g, 0, none⟩) L.length cap) 0 sid rec (.slice none 0 0)) (c2 : w.cell? ⟨mb, 2, none⟩ = some (.int .i64 mx)) (c5 : w.cell? ⟨mb, 5, none⟩ = some (.map (some sb))) (c6 : w.cell? ⟨mb, 6, none⟩ = some (.pointer none)) (c12 : w.cell? ⟨mb, 12, none⟩ = some (.bool ds))
    (hown : w.ownsMap Ybaf.prog 22 ptrElem sb n0 D) (wi : (K tid).wf = true) (hat : D.atKey (K tid) .nil = .nil)
    (hT : Tpl w tb fb tid fs) (hwf : Hid (FsWf fs)) (hk : fs.length ≤ 4) (htb : tb < B) (hfb : fb < B) (hmb : mb < B) (htm : tb ≠ mb) (hfm : fb ≠ mb) (hmv : mb < vb) (hlen : L.length ≤ 1000) (hL0 : 0 < L.length) (hB : B ≤ w.heap.size) (hr0 : 0 ≤ rec) (hr1 : rec < 100000) (ht0 : 256 ≤ tid) (ht1 : tid < 65536)
    (hV : ValsIn N w vb rows) (hN : N ≤ w.heap.size) (hvb : vb < N) (hgv : g < vb) (hfit : Hid (Fits fs rows)) (hfits : (firstB L tid fs rows).length ≤ mx) :
    Calls Ybaf.prog 11 #[.pointer (some ⟨mb, 0, none⟩), .pointer (some ⟨tb, 0, none⟩), .slice (some ⟨vb, 0, none⟩) fs.length c] w fun e w' => e = .returned .nilIface ∧ ∃ w0 j, (∃ v' pb pc, Step (w.alloc (kept (.slice (some ⟨g, 0, none⟩) L.length cap) 0 sid rec (.slice none 0 0) ds)) w0 B mb (.slice (some ⟨g, 0, none⟩) L.length cap) v' L (firstB L tid fs rows) ∧ MC w0 mb v' (L.length + 4 + (tplB tid fs).length) tid (rec + 1) (.slice (some ⟨pb, 0, none⟩) 1 pc) ∧ w0.cell? ⟨pb, 0, none⟩ = some (.pointer (some ⟨tb, 0, none⟩)) ∧ w.heap.size ≤ pb) ∧ w' = w0.drewN j := by
  have hlm : mb < w.heap.size := by omega
  have ga := World.grownBy_alloc w (kept (.slice (some ⟨g, 0, none⟩) L.length cap) 0 sid rec (.slice none 0 0) ds) none
  have hsz : (w.alloc (kept (.slice (some ⟨g, 0, none⟩) L.length cap) 0 sid rec (.slice none 0 0) ds)).heap.size = w.heap.size + 1 := by simp
  have hc : ∀ j, (w.alloc (kept (.slice (some ⟨g, 0, none⟩) L.length cap) 0 sid rec (.slice none 0 0) ds)).cell? ⟨mb, j, none⟩ = w.cell? ⟨mb, j, none⟩ := fun j => World.cell?_alloc_past _ _ _ hlm
  refine wr_fits mb tb vb fs.length c 0 mx g cap L.length none 0 0 sid rec ds _ w hM c12 ?_
  refine (add_first B mb tb fb vb c sb N _ L tid sid rec fs rows (w.alloc (kept (.slice (some ⟨g, 0, none⟩) L.length cap) 0 sid rec (.slice none 0 0) ds)) (hb.alloc _) (hM.alloc hlm _) ((hc 5).trans c5) ((hc 6).trans c6) (hT.grown ga (by omega) (by omega)) hwf hk htb hfb hmb htm hfm hmv hlen hL0 (by omega) hr0 hr1 ht0 ht1 (hV.alloc hN hvb _) (by omega) hvb (fun k' hk' => by simp [Value.ownBlock] at hk'; omega) hfit (look_absent (hown.alloc _).drew wi hat)).mono ?_
  rintro e w1 ⟨v', pb, pc, rfl, hS, hM1, hp1, hp2⟩
  refine ⟨rfl, ⟨v', pb, pc, hS, hM1, hp1, by omega⟩, ?_, (hS.cells 2 (by omega)).trans ((hc 2).trans c2)⟩
  obtain ⟨g1, cap1, hv⟩ := hS.body.shape2
  have h7 := hM1.c7
  rw [hv] at h7
  exact ⟨g1, cap1, _, h7, hfits⟩
end Go.Proofs.YbulkbleuFmt.B
