/- LawS3105BModel: the walk: the parts put behind one another. -/
import Derived.Test.YbulkblgyDoorMTd
namespace Go.Proofs.YbulkblgyDoor
open Go.RowKit
set_option maxRecDepth 100000 in
set_option maxHeartbeats 40000000 in
theorem partD_2 : partsD.p2 := by
  delta partsD
  intro I
  set_option tactic.hygienic false in intros
  have hil3 : (i : Int) < 3 := by omega
  obtain ⟨j, a, c, e1, hj3, e2, e3, e4, e5⟩ := Hpp.out i hlt3
  have x1 := (hgj.cell_far ⟨rb, i, none⟩ (World.block_lt_of_cell? _ _ e1) (by simp)).trans e1
  have x2 := (hgj.cell_far ⟨pb, j, none⟩ (World.block_lt_of_cell? _ _ e2) (by simp)).trans e2
  have x3 := hide (e3.kept hgj)
  have hj3i : (j : Int) < 3 := by omega
  have HBl := hide (show B7 ≤ wb.heap.size by have := hgj.size; have := HB7.out; omega)
  have Hyl := hide (show (Y ld i).length + (X i).length ≤ 100000 by have := HYl.out i hi3; omega)
  have He4 := hide e4
  have HSj := hide hSj
  have Hgj := hide hgj
  clear e1 e2 e3 e4 e5 hSj hgj
  go_upto_region 111 with (at_builtin; refine wpList_app wb rfl _ _ rfl B7 _ (Y ld i) rfl HSj.out a (X i).length c (X i) rfl rfl He4.out x3.out HBl.out Hyl.out ?_; rintro v1 w1' hS1 hg1)
  have hG1 := HSj.out.gb Hgj.out (by rw [HB7.out]; exact Nat.le_refl _) hg1
  have f13 : w1'.cell? ⟨ib, 13, none⟩ = some (.bool I.extra) := ((HC7.out.kept hG1).cell 13).trans rfl
  clear x1 x2 x3 hg1
  by_cases h0 : i = 0
  · subst h0
    cases hex : I.extra with
    | false =>
      rw [hex] at f13
      go_wp2
      exact ⟨⟨1, by omega, by go_num, by rw [HYs.out ld 0, hex]; simpa [exB] using hS1, hG1⟩, by simp [intOf]⟩
    | true =>
      rw [hex] at f13
      have HI1 := hide (show InB (w1'.alloc (.cells #[.int .u8 148, .int .u8 4, .int .u8 0, .int .u8 0] 5)) (some ⟨w1'.heap.size, 0, none⟩) [148, 4, 0, 0] from inB_new w1' [148, 4, 0, 0])
      have HBl := hide (show B7 ≤ (w1'.alloc (.cells #[.int .u8 148, .int .u8 4, .int .u8 0, .int .u8 0] 5)).heap.size by have := hG1.size; have := HB7.out; simp; omega)
      have HS1 := hide (hS1.kept (gb_alloc w1' (.cells #[.int .u8 148, .int .u8 4, .int .u8 0, .int .u8 0] 5) none))
      have Hgi := hide (gb_trans hG1 (gb_alloc w1' (.cells #[.int .u8 148, .int .u8 4, .int .u8 0, .int .u8 0] 5) none))
      have Hyl2 := hide (show (Y ld 0 ++ X 0).length + 4 ≤ 100000 by have := HYl.out 0 (by omega); have := HXl.out 0 (by omega); simp; omega)
      clear hS1 hG1
      go_wp2_with (at_builtin; refine wpList_app (w1'.alloc (.cells #[.int .u8 148, .int .u8 4, .int .u8 0, .int .u8 0] 5)) rfl _ _ rfl B7 _ (Y ld 0 ++ X 0) rfl HS1.out (some ⟨w1'.heap.size, 0, none⟩) 4 4 [148, 4, 0, 0] rfl rfl (by simp) HI1.out HBl.out Hyl2.out ?_; rintro v' w' hS' hg')
      exact ⟨⟨1, by omega, by go_num, by rw [HYs.out ld 0, hex, ← List.append_assoc]; exact hS', HS1.out.gb Hgi.out (by rw [HB7.out]; exact Nat.le_refl _) hg'⟩, by simp [intOf]⟩
  · have hb0 : ((i : Int) == 0) = false := by rw [beq_eq_false_iff_ne]; omega
    go_wp2
    exact ⟨⟨i + 1, by omega, by go_num, by rw [HYs.out ld i, if_neg h0, List.append_nil]; exact hS1, hG1⟩, by simp [intOf]; omega⟩
end Go.Proofs.YbulkblgyDoor
