/- LawS3105BModel: the walk: the Timestamp: is an address of hers to be laid. -/
import Derived.Test.YbulkblgyDoorMTc
namespace Go.Proofs.YbulkblgyDoor
open Go.RowKit
set_option maxRecDepth 100000 in
set_option maxHeartbeats 40000000 in
theorem partC_1 : partsC.p1 := by
  delta partsC
  intro I
  set_option tactic.hygienic false in intros
  have f25 : w8.cell? ⟨ib, 25, none⟩ = some (.bool I.tsMatch) := (hC8.cell 25).trans rfl
  by_cases h3 : f = 3
  · subst h3
    cases hmt : I.tsMatch with
    | false =>
      rw [hmt] at f25
      obtain rfl : cnd = false := by
        rcases Hcnd.out with ⟨_, _, h, _⟩ | ⟨h, _⟩
        · rw [hmt] at h; exact absurd h (by simp)
        · exact h
      go_wp2
      go_meet
      exact ⟨rfl, rfl⟩
    | true =>
      rw [hmt] at f25
      by_cases hlt : u < s
      · have hli : (u : Int) < (s : Int) := by omega
        obtain rfl : cnd = true := by
          rcases Hcnd.out with ⟨h, _⟩ | ⟨_, h⟩
          · exact h
          · exact absurd ⟨rfl, hmt, hlt⟩ h
        go_wp2
        go_meet
        exact ⟨rfl, rfl⟩
      · have hli : ¬ (u : Int) < (s : Int) := by omega
        obtain rfl : cnd = false := by
          rcases Hcnd.out with ⟨_, _, _, h⟩ | ⟨h, _⟩
          · exact absurd h hlt
          · exact h
        go_wp2
        go_meet
        exact ⟨rfl, rfl⟩
  · have hb3 : ((f : Int) == 3) = false := by
      rw [beq_eq_false_iff_ne]; omega
    obtain rfl : cnd = false := by
      rcases Hcnd.out with ⟨_, h, _⟩ | ⟨h, _⟩
      · exact absurd h h3
      · exact h
    clear h3
    go_wp2
    go_meet
    exact ⟨rfl, rfl⟩
end Go.Proofs.YbulkblgyDoor
