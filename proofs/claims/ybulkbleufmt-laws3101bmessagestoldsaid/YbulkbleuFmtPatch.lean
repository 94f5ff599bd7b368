/- LawS3101B*: a patch behind the old prefix. -/
import Derived.Test.YbulkbleuFmtNext
namespace Go.Proofs.YbulkbleuFmt.B
open Go.RowKit

theorem patch_append (L M : List Int) (o : Nat) (x : Int) (ho : L.length ≤ o) : patch (L ++ M) o x = L ++ patch M (o - L.length) x := by
  unfold patch
  rw [List.set_append_right _ _ ho, List.set_append_right _ _ (by omega), show o + 1 - L.length = o - L.length + 1 by omega]

theorem Step.patch {w w1 w2 : World} {B mb : Nat} {v v1 : Value} {L L1 : List Int} (h : Step w w1 B mb v v1 L L1) (o : Nat) (x : Int) (hb : Buf w2 B v1 (YbulkbleuFmt.B.patch L1 o x)) (hg : w1.grownBy w2 v1.ownBlock) (ho : L.length ≤ o) (hmb : mb < B) (hB : B ≤ w.heap.size) : Step w w2 B mb v v1 L (YbulkbleuFmt.B.patch L1 o x) := by
  obtain ⟨M, e⟩ := h.pre
  have hlm : mb < w1.heap.size := by have := h.size; omega
  have hne := h.body.ne hmb
  have ep : YbulkbleuFmt.B.patch L1 o x = L ++ YbulkbleuFmt.B.patch M (o - L.length) x := by rw [e]; exact patch_append L M o x ho
  refine ⟨h.start, hb, ?_, h.lies, ⟨_, ep⟩, hg.os.trans h.os, hg.tape.trans h.tape, hg.output.trans h.output, Nat.le_trans h.size hg.size, fun i hi hm hn => ?_, fun j hj => (hg.cell_far ⟨mb, j, none⟩ hlm hne).trans (h.cells j hj), fun j => (hg.frozen_far ⟨mb, j, none⟩ hlm hne).trans (h.frz j)⟩
  · rcases h.lies with ⟨a, b⟩ | ⟨g, a, b⟩
    · obtain ⟨g, cap, cur, rfl, _⟩ := h.start
      obtain ⟨g1, cap1, cur1, rfl, _⟩ := h.body
      simp [Value.ownBlock] at a
      simp [capOf] at b
      subst a b
      rw [ep] at hb
      exact hb.pre
    · refine h.old.kept hg ?_
      rw [a]
      intro e
      have := (h.start.lt g e).2
      omega
  · rw [hg.block i (Nat.lt_of_lt_of_le hi h.size) ?_, h.block i hi hm hn]
    rcases h.lies with ⟨a, _⟩ | ⟨g, a, b⟩
    · rw [a]; exact hn
    · rw [a]; simp; omega
end Go.Proofs.YbulkbleuFmt.B
