/- LawS3105BModel: the comparison of bytes (7), whatever they are. -/
import Derived.Test.YbulkblgyDoorMStep
import Derived.BigQuiet
import Derived.Deep.QuietTactic
namespace Go.Proofs.YbulkblgyDoor
open Go.RowKit

theorem ext_getD {A B : List Int} {n : Nat} (hA : A.length = n) (hB : B.length = n) (h : ∀ i, i < n → A.getD i 0 = B.getD i 0) : A = B := by
  apply List.ext_getElem (by omega)
  intro i h1 h2
  have := h i (by omega)
  simpa [List.getD, List.getElem?_eq_getElem h1, List.getElem?_eq_getElem h2] using this
set_option maxRecDepth 100000 in
set_option maxHeartbeats 1000000 in
theorem eq_two (a1 a2 : Option Addr) (n c1 c2 : Nat) (A B : List Int) (w : World) (hA : A.length = n) (hB : B.length = n) (hn9 : n ≤ 10000) (h1 : InB w a1 A) (h2 : InB w a2 B) :
    Calls Ybad.prog 7 #[.slice a1 n c1, .slice a2 n c2] w fun e w' => e = .returned (.bool (decide (A = B))) ∧ w.grownBy w' none := by
  have HA := hide hA
  have HB := hide hB
  clear hA hB
  go_enter Ybad.func7, Ybad.ntmps7
  go_wp2
  go_loopw [13] (fun s13 wr => ∃ i : Nat, i ≤ n ∧ s13 = .int .i64 i ∧ Hid (∀ j, j < i → A.getD j 0 = B.getD j 0) ∧ w.grownBy wr none) (fun s13 _ => n - (intOf s13).toNat)
  case atStart => exact ⟨0, by omega, rfl, hide (fun j hj => absurd hj (by omega)), gb_refl _ _⟩
  case round =>
    obtain ⟨i, hi, rfl, hsame, hg⟩ := hrel
    by_cases hlt : i < n
    · have hlA := HA.out
      have hlB := HB.out
      obtain ⟨b1, o1, rfl, _, k1⟩ := (h1.kept hg) (by omega)
      obtain ⟨b2, o2, rfl, _, k2⟩ := (h2.kept hg) (by omega)
      have x1 := k1 i (by omega)
      have x2 := k2 i (by omega)
      have hne : A.getD i 0 ≠ B.getD i 0 → A ≠ B := fun h e => h (by rw [e])
      have hgo : A.getD i 0 = B.getD i 0 → ∀ j, j < i + 1 → A.getD j 0 = B.getD j 0 := fun h j hj => by
        rcases Nat.lt_succ_iff_lt_or_eq.1 hj with h' | rfl
        · exact hsame.out j h'
        · exact h
      have HNE := hide hne
      have HGO := hide hgo
      clear hne hgo
      have hil : (i : Int) < (n : Int) := by omega
      generalize A.getD i 0 = x at *
      generalize B.getD i 0 = y at *
      clear k1 k2 hlA hlB
      by_cases hxy : x = y
      · subst hxy
        go_wp2
        go_quiet (fail)
        go_wp2
        exact ⟨⟨i + 1, by omega, by go_num, hide (by first | exact HGO.out rfl | exact HGO.out trivial), gb_trans hg (gb_drewN' _ _ _)⟩, by simp [intOf]; omega⟩
      · have hbn : (x != y) = true := by simpa using hxy
        go_wp2
        go_quiet (fail)
        go_wp2
        go_ret
        exact ⟨by rw [decide_eq_false (HNE.out hxy)]; rfl, gb_trans hg (gb_drewN' _ _ _)⟩
    · obtain rfl : i = n := by omega
      go_wp2
      go_ret
      exact ⟨by rw [decide_eq_true (ext_getD HA.out HB.out hsame.out)]; rfl, hg⟩
end Go.Proofs.YbulkblgyDoor
