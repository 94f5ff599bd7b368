/- LawS3105BModel: the walk: the end of the list. -/
import Derived.Test.YbulkblgyDoorMTd
namespace Go.Proofs.YbulkblgyDoor
open Go.RowKit
set_option maxRecDepth 100000 in
set_option maxHeartbeats 40000000 in
theorem partD_3 : partsD.p3 := by
  delta partsD
  intro I
  set_option tactic.hygienic false in intros
  cases htr : I.trail with
  | false =>
    rw [htr] at f14
    go_wp2
    go_meet
    exact ⟨by rw [htr, show trB false = [] from rfl, List.append_nil]; exact hSj, hgj⟩
  | true =>
    rw [htr] at f14
    have HI1 := hide (show InB (wb.alloc (.cells #[.int .u8 0, .int .u8 131, .int .u8 255, .int .u8 7] 5)) (some ⟨wb.heap.size, 0, none⟩) [0, 131, 255, 7] from inB_new wb [0, 131, 255, 7])
    have HBl := hide (show B7 ≤ (wb.alloc (.cells #[.int .u8 0, .int .u8 131, .int .u8 255, .int .u8 7] 5)).heap.size by have := hgj.size; have := HB7.out; simp; omega)
    have HS1 := hide (hSj.kept (gb_alloc wb (.cells #[.int .u8 0, .int .u8 131, .int .u8 255, .int .u8 7] 5) none))
    have Hgi := hide (gb_trans hgj (gb_alloc wb (.cells #[.int .u8 0, .int .u8 131, .int .u8 255, .int .u8 7] 5) none))
    have Hyl := hide (show (Y ld 3).length + 4 ≤ 100000 by have := HYl.out 3 (by omega); omega)
    clear hSj hgj
    go_wp2_with (at_builtin; refine wpList_app (wb.alloc (.cells #[.int .u8 0, .int .u8 131, .int .u8 255, .int .u8 7] 5)) rfl _ _ rfl B7 _ (Y ld 3) rfl HS1.out (some ⟨wb.heap.size, 0, none⟩) 4 4 [0, 131, 255, 7] rfl rfl (by simp) HI1.out HBl.out Hyl.out ?_; rintro v' w' hS' hg')
    go_meet
    exact ⟨by rw [htr]; exact hS', HS1.out.gb Hgi.out (by rw [HB7.out]; exact Nat.le_refl _) hg'⟩
end Go.Proofs.YbulkblgyDoor
