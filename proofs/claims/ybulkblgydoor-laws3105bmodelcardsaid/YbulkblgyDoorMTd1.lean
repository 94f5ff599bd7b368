/- LawS3105BModel: the walk: the NOPs. -/
import Derived.Test.YbulkblgyDoorMTd
namespace Go.Proofs.YbulkblgyDoor
open Go.RowKit
set_option maxRecDepth 100000 in
set_option maxHeartbeats 40000000 in
theorem partD_1 : partsD.p1 := by
  delta partsD
  intro I
  set_option tactic.hygienic false in intros
  have hil : (i : Int) < (ld : Int) := by omega
  have HI1 := hide (show InB (wa.alloc (.cells #[.int .u8 1] 5)) (some ⟨wa.heap.size, 0, none⟩) [1] from inB_new wa [1])
  have hBl : B7 ≤ (wa.alloc (.cells #[.int .u8 1] 5)).heap.size := by have := hgi.size; have := HB7.out; simp; omega
  have HBl := hide hBl
  have HS1 := hide (hSi.kept (gb_alloc wa (.cells #[.int .u8 1] 5) none))
  have Hgi := hide (gb_trans hgi (gb_alloc wa (.cells #[.int .u8 1] 5) none))
  clear hBl hSi hgi
  go_wp2_with (at_builtin; refine wpList_app (wa.alloc (.cells #[.int .u8 1] 5)) rfl _ _ rfl B7 _ (List.replicate i 1) rfl HS1.out (some ⟨wa.heap.size, 0, none⟩) 1 1 [1] rfl rfl (by simp) HI1.out HBl.out (by simp; omega) ?_; rintro v' w' hS' hg')
  exact ⟨⟨i + 1, by omega, by go_num, by rw [List.replicate_succ']; exact hS', HS1.out.gb Hgi.out (by rw [HB7.out]; exact Nat.le_refl _) hg'⟩, by simp [intOf]; omega⟩
end Go.Proofs.YbulkblgyDoor
