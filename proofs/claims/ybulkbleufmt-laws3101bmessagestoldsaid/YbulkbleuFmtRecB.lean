/- LawS3101B*: WriteRecord of a later record: it fits, or the message is flushed and the writer fails. -/
import Derived.Test.YbulkbleuFmtRecA
namespace Go.Proofs.YbulkbleuFmt.B
open Go.RowKit Go.Maps

/-- add's contract for a later record, in the world where WriteRecord has kept its copy. -/
theorem later_add (B mb tb fb vb c sb pb pc s N : Nat) (g cap n0 : Nat) (D : DataW Unit) (L : List Int) (tid rec : Int) (ds : Bool) (fs : List (Int × Int)) (rows : List (List Int)) (w : World) (hb : Buf w B (.slice (some ⟨g, 0, none⟩) L.length cap) L) (hM : MC w mb (.slice (some ⟨g, 0, none⟩) L.length cap) s tid rec (.slice (some ⟨pb, 0, none⟩) 1 pc)) (c5 : w.cell? ⟨mb, 5, none⟩ = some (.map (some sb))) (hpb : w.cell? ⟨pb, 0, none⟩ = some (.pointer (some ⟨tb, 0, none⟩)))
    (hown : w.ownsMap Ybaf.prog 22 ptrElem sb n0 D) (wi : (K tid).wf = true) (hat : D.atKey (K tid) .nil = .nil)
    (hT : Tpl w tb fb tid fs) (hwf : Hid (FsWf fs)) (hk : fs.length ≤ 4) (htb : tb < B) (hfb : fb < B) (hmb : mb < B) (hlen : L.length ≤ 10000) (hB : B ≤ w.heap.size) (hs0 : 0 < s) (hr0 : 0 ≤ rec) (hr1 : rec < 100000)
    (hV : ValsIn N w vb rows) (hN : N ≤ w.heap.size) (hvb : vb < N) (hgv : g < vb) (hfit : Hid (Fits fs rows)) :
    Calls Ybaf.prog 27 #[.pointer (some ⟨mb, 0, none⟩), .pointer (some ⟨tb, 0, none⟩), .slice (some ⟨vb, 0, none⟩) fs.length c] (w.alloc (kept (.slice (some ⟨g, 0, none⟩) L.length cap) s tid rec (.slice (some ⟨pb, 0, none⟩) 1 pc) ds)) fun e w' => ∃ v', e = .returned .nilIface ∧ Step (w.alloc (kept (.slice (some ⟨g, 0, none⟩) L.length cap) s tid rec (.slice (some ⟨pb, 0, none⟩) 1 pc) ds)) w' B mb (.slice (some ⟨g, 0, none⟩) L.length cap) v' L (L ++ rows.flatten) ∧ MC w' mb v' s tid (rec + 1) (.slice (some ⟨pb, 0, none⟩) 1 pc) := by
  have hlm : mb < w.heap.size := by omega
  have hpl : pb < w.heap.size := World.block_lt_of_cell? _ _ hpb
  have ga := World.grownBy_alloc w (kept (.slice (some ⟨g, 0, none⟩) L.length cap) s tid rec (.slice (some ⟨pb, 0, none⟩) 1 pc) ds) none
  have hsz : (w.alloc (kept (.slice (some ⟨g, 0, none⟩) L.length cap) s tid rec (.slice (some ⟨pb, 0, none⟩) 1 pc) ds)).heap.size = w.heap.size + 1 := by simp
  exact add_same B mb tb fb vb c sb pb pc s N _ L tid rec fs rows _ (hb.alloc _) (hM.alloc hlm _) ((World.cell?_alloc_past _ _ _ hlm).trans c5) ((World.cell?_alloc_past _ _ _ hpl).trans hpb) (hT.grown ga (by omega) (by omega)) hwf hk htb hfb hmb hlen (by omega) hs0 hr0 hr1 (hV.alloc hN hvb _) (by omega) hvb (fun k' hk' => by simp [Value.ownBlock] at hk'; omega) hfit (look_absent (hown.alloc _).drew wi hat)
end Go.Proofs.YbulkbleuFmt.B
