/- LawS3105BModel: the walk: the order of the parts. -/
import Derived.Test.YbulkblgyDoorMTd
namespace Go.Proofs.YbulkblgyDoor
open Go.RowKit
set_option maxRecDepth 100000 in
set_option maxHeartbeats 40000000 in
theorem partD_0 : partsD.p0 := by
  delta partsD
  intro I
  set_option tactic.hygienic false in intros
  have Hk := hide hk6
  have hcase : ∀ (j i0 i1 i2 : Nat), i0 < 3 → i1 < 3 → i2 < 3 → pickB j sr rr ts = (sel i0, sel i1, sel i2) → ∃ rb i0' i1' i2', Value.pointer (some ⟨w6.heap.size, 0, none⟩) = .pointer (some ⟨rb, 0, none⟩) ∧ i0' < 3 ∧ i1' < 3 ∧ i2' < 3 ∧ pickB j sr rr ts = (sel i0', sel i1', sel i2') ∧ (w6.alloc (.cells #[.int .i64 ((i0 : Nat) : Int), .int .i64 ((i1 : Nat) : Int), .int .i64 ((i2 : Nat) : Int)] 34)).heap[rb]? = some (.cells #[.int .i64 ((i0' : Nat) : Int), .int .i64 ((i1' : Nat) : Int), .int .i64 ((i2' : Nat) : Int)] 34 (0, 0)) ∧ w6.grownBy (w6.alloc (.cells #[.int .i64 ((i0 : Nat) : Int), .int .i64 ((i1 : Nat) : Int), .int .i64 ((i2 : Nat) : Int)] 34)) none := fun j i0 i1 i2 h0 h1 h2 h3 => ⟨_, i0, i1, i2, rfl, h0, h1, h2, h3, heap_alloc_new _ _, gb_alloc _ _ _⟩
  have HCASE := hide hcase
  clear hcase hk6
  rcases (show k = 0 ∨ k = 1 ∨ k = 2 ∨ k = 3 ∨ k = 4 ∨ k = 5 by have := Hk.out; omega) with rfl | rfl | rfl | rfl | rfl | rfl
  · have x0 := HQ6.out 0 _ rfl
    have x1 := HQ6.out 1 _ rfl
    have x2 := HQ6.out 2 _ rfl
    go_wp2
    go_meet
    exact HCASE.out 0 0 1 2 (by omega) (by omega) (by omega) (by rw [Hsel.out]; rfl)
  · have x0 := HQ6.out 3 _ rfl
    have x1 := HQ6.out 4 _ rfl
    have x2 := HQ6.out 5 _ rfl
    go_wp2
    go_meet
    exact HCASE.out 1 0 2 1 (by omega) (by omega) (by omega) (by rw [Hsel.out]; rfl)
  · have x0 := HQ6.out 6 _ rfl
    have x1 := HQ6.out 7 _ rfl
    have x2 := HQ6.out 8 _ rfl
    go_wp2
    go_meet
    exact HCASE.out 2 1 0 2 (by omega) (by omega) (by omega) (by rw [Hsel.out]; rfl)
  · have x0 := HQ6.out 9 _ rfl
    have x1 := HQ6.out 10 _ rfl
    have x2 := HQ6.out 11 _ rfl
    go_wp2
    go_meet
    exact HCASE.out 3 1 2 0 (by omega) (by omega) (by omega) (by rw [Hsel.out]; rfl)
  · have x0 := HQ6.out 12 _ rfl
    have x1 := HQ6.out 13 _ rfl
    have x2 := HQ6.out 14 _ rfl
    go_wp2
    go_meet
    exact HCASE.out 4 2 0 1 (by omega) (by omega) (by omega) (by rw [Hsel.out]; rfl)
  · have x0 := HQ6.out 15 _ rfl
    have x1 := HQ6.out 16 _ rfl
    have x2 := HQ6.out 17 _ rfl
    go_wp2
    go_meet
    exact HCASE.out 5 2 1 0 (by omega) (by omega) (by omega) (by rw [Hsel.out]; rfl)
end Go.Proofs.YbulkblgyDoor
