/- LawS3101B*: what a new block leaves alone. -/
import Derived.Test.YbulkbleuFmtWrFlush
namespace Go.Proofs.YbulkbleuFmt.B
open Go.RowKit Go.Maps

theorem MC.alloc {w : World} {mb s : Nat} {v tv : Value} {sid rec : Int} (h : MC w mb v s sid rec tv) (hl : mb < w.heap.size) (o : Obj) : MC (w.alloc o) mb v s sid rec tv := h.grown (World.grownBy_alloc w o none) hl (by simp)
theorem Tpl.grown {w w' : World} {tb fb : Nat} {tid : Int} {fs : List (Int × Int)} (h : Tpl w tb fb tid fs) (hg : w.grownBy w' none) (ht : tb < w.heap.size) (hf : fb < w.heap.size) : Tpl w' tb fb tid fs := by
  have hc : ∀ j, w'.cell? ⟨tb, j, none⟩ = w.cell? ⟨tb, j, none⟩ := fun j => hg.cell_far ⟨tb, j, none⟩ ht (by simp)
  have hd : ∀ j, w'.cell? ⟨fb, j, none⟩ = w.cell? ⟨fb, j, none⟩ := fun j => hg.cell_far ⟨fb, j, none⟩ hf (by simp)
  exact ⟨(hc 0).trans h.c0, (hc 1).trans h.c1, (hc 2).trans h.c2, fun i hi => by
    obtain ⟨a, b, c⟩ := h.fs i hi
    exact ⟨(hd _).trans a, (hd _).trans b, (hd _).trans c⟩⟩
end Go.Proofs.YbulkbleuFmt.B
