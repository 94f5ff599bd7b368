/- LawS3105BModel: bytes written one after the other; what is asked of the argument. -/
import Derived.Test.YbulkblgyDoorMArg
namespace Go.Proofs.YbulkblgyDoor
open Go.RowKit

theorem take_step {G : List Int} {m : Nat} (hm : m < G.length) : G.take (m + 1) = G.take m ++ [G.getD m 0] := by
  rw [List.take_add_one, List.getD_eq_getElem?_getD, List.getElem?_eq_getElem hm]; rfl
theorem Pr.step {w : World} {g c o m : Nat} {C0 G : List Int} {x : Int} (h : Pr w g c (splice C0 o (G.take m))) (hm : m < G.length) (hl : o + G.length ≤ C0.length) (hx : x = G.getD m 0) (h0 : 0 ≤ x) (h1 : x < 256) : Pr (w.setCell ⟨g, o + m, none⟩ (.int .u8 x)) g c (splice C0 o (G.take (m + 1))) := by
  have hlm : (G.take m).length = m := by rw [List.length_take]; omega
  have hls : (splice C0 o (G.take m)).length = C0.length := length_splice _ _ _ (by rw [hlm]; omega)
  have h2 := h.set (o + m) (by omega) x h0 h1
  have e := splice_put1 C0 (G.take m) o x (by rw [hlm]; omega)
  rw [hlm] at e
  rw [take_step hm, ← hx, ← e]
  exact h2
theorem Pr.spots {w : World} {g c o m : Nat} {C0 G : List Int} (h : Pr w g c (splice C0 o (G.take m))) (hm : m < G.length) (hl : o + G.length ≤ C0.length) : (∃ u, w.cell? ⟨g, o + m, none⟩ = some u) ∧ w.frozen? ⟨g, o + m, none⟩ = false := by
  have hlm : (G.take m).length = m := by rw [List.length_take]; omega
  have hls : (splice C0 o (G.take m)).length = C0.length := length_splice _ _ _ (by rw [hlm]; omega)
  exact ⟨⟨_, h.cellD (o + m) (by omega)⟩, h.frozen _⟩
theorem take_nil0 (C0 G : List Int) (o : Nat) : splice C0 o (G.take 0) = C0 := by rw [List.take_zero]; exact splice_nil1 _ _
theorem head3 (n : Nat) (a b c : Int) : (((List.replicate (3 + n) (0 : Int)).set 0 a).set 1 b).set 2 c = a :: b :: c :: List.replicate n 0 := by
  rw [show 3 + n = n + 1 + 1 + 1 by omega, List.replicate_succ, List.replicate_succ, List.replicate_succ]; rfl
theorem splice3 (n : Nat) (a b c : Int) (G : List Int) (hG : G.length = n) : splice (a :: b :: c :: List.replicate n 0) 3 G = a :: b :: c :: G := by
  unfold splice
  rw [List.drop_eq_nil_of_le (by simp; omega)]
  simp
theorem fours_getD : ∀ (hops : List (List Int)) (i q : Nat), Fours hops → i < hops.length → q < 4 → hops.flatten.getD (4 * i + q) 0 = (hops.getD i []).getD q 0 := by
  intro hops i q hf hi hq
  have h := fours_at hops i hf hi
  have e : hops.getD i [] = hops[i] := by simp [List.getD, List.getElem?_eq_getElem hi]
  rw [e, ← h]
  simp only [List.getD]
  rw [List.getElem?_take_of_lt hq, List.getElem?_drop]
theorem revd_len (hops : List (List Int)) (hf : Fours hops) : ∀ k, k + 1 ≤ hops.length → (revd hops k).length = 4 * k
  | 0, _ => rfl
  | k + 1, hk => by
    have : (hops.getD (hops.length - 2 - k) []).length = 4 := by
      have hi : hops.length - 2 - k < hops.length := by omega
      simp only [List.getD, List.getElem?_eq_getElem hi, Option.getD_some]
      exact hf _ (List.getElem_mem hi)
    rw [revd, List.length_append, revd_len hops hf k (by omega), this]; omega
theorem revd_pre (hops : List (List Int)) : ∀ k d, ∃ Z, revd hops (k + d) = revd hops k ++ Z
  | k, 0 => ⟨[], by simp⟩
  | k, d + 1 => by
    obtain ⟨Z, h⟩ := revd_pre hops k d
    exact ⟨Z ++ hops.getD (hops.length - 2 - (k + d)) [], by rw [show k + (d + 1) = (k + d) + 1 by omega, revd, h, List.append_assoc]⟩
theorem revd_getD (hops : List (List Int)) (hf : Fours hops) (n j q : Nat) (S : List Int) (hn : n + 1 ≤ hops.length) (hj : j < n) (hq : q < 4) : (revd hops n ++ S).getD (4 * j + q) 0 = (hops.getD (hops.length - 2 - j) []).getD q 0 := by
  obtain ⟨Z, hZ⟩ := revd_pre hops (j + 1) (n - (j + 1))
  rw [show j + 1 + (n - (j + 1)) = n by omega] at hZ
  have hl := revd_len hops hf j (by omega)
  have hq4 : (hops.getD (hops.length - 2 - j) []).length = 4 := by
    have hi : hops.length - 2 - j < hops.length := by omega
    simp only [List.getD, List.getElem?_eq_getElem hi, Option.getD_some]
    exact hf _ (List.getElem_mem hi)
  rw [hZ, revd]
  generalize hops.getD (hops.length - 2 - j) [] = X at *
  simp only [List.getD]
  rw [List.append_assoc, List.append_assoc, List.getElem?_append_right (by omega), hl, show 4 * j + q - 4 * j = q by omega, List.getElem?_append_left (by omega)]
theorem revd_last (hops : List (List Int)) (hf : Fours hops) (n q : Nat) (S : List Int) (hn : n + 1 ≤ hops.length) : (revd hops n ++ S).getD (4 * n + q) 0 = S.getD q 0 := by
  have hl := revd_len hops hf n hn
  simp only [List.getD]
  rw [List.getElem?_append_right (by omega), hl, show 4 * n + q - 4 * n = q by omega]

/-- What is asked of the argument: its numbers are bytes, its slices read so. -/
structure AOk (I : Arg) (w : World) (hops : List (List Int)) (rd td : List Int) : Prop where
  p : ∀ x ∈ [I.p0, I.p1, I.p2, I.p3], 0 ≤ x ∧ x < 256
  q : ∀ x ∈ [I.q0, I.q1, I.q2, I.q3], 0 ≤ x ∧ x < 256
  ms : 0 ≤ I.ms ∧ I.ms < 4294967296
  lead : 0 ≤ I.lead ∧ I.lead < 256
  left : 0 ≤ I.srLeft ∧ I.srLeft < 256
  rrs : 0 ≤ I.rrSlots ∧ I.rrSlots < 256
  rru : 0 ≤ I.rrUsed ∧ I.rrUsed < 256
  tsf : 0 ≤ I.tsFlag ∧ I.tsFlag < 256
  tss : 0 ≤ I.tsSlots ∧ I.tsSlots < 256
  tsu : 0 ≤ I.tsUsed ∧ I.tsUsed < 256
  tso : 0 ≤ I.tsOver ∧ I.tsOver < 256
  ord : 0 ≤ I.order ∧ I.order < 256
  hl : hops.length = min I.hn 9
  four : Fours hops
  hb : ∀ x ∈ hops, ∀ y ∈ x, 0 ≤ y ∧ y < 256
  hops : HopsAt w I.ha hops
  rl : rd.length = I.rn
  rb : ∀ y ∈ rd, 0 ≤ y ∧ y < 256
  rin : InB w I.ra rd
  rn : (I.rn : Int) ≤ 9223372036854775807
  tl : td.length = I.tn
  tb : ∀ y ∈ td, 0 ≤ y ∧ y < 256
  tin : InB w I.ta td
  tn : (I.tn : Int) ≤ 9223372036854775807
theorem AOk.hbyte {I : Arg} {w : World} {hops : List (List Int)} {rd td : List Int} (h : AOk I w hops rd td) (i q : Nat) : 0 ≤ (hops.getD i []).getD q 0 ∧ (hops.getD i []).getD q 0 < 256 := by
  refine getD_byte (fun y hy => ?_) q
  by_cases hi : i < hops.length
  · simp only [List.getD, List.getElem?_eq_getElem hi, Option.getD_some] at hy
    exact h.hb _ (List.getElem_mem hi) y hy
  · simp only [List.getD, List.getElem?_eq_none (Nat.le_of_not_lt hi), Option.getD_none] at hy
    simp at hy
theorem box27 (I : Arg) (w : World) : (Instr.box 27 (.agg I.cells)).run Ybad.prog w = .ok (.pointer (some ⟨w.heap.size, 0, none⟩)) (w.alloc (.cells I.cells 27)) := by
  simp [Instr.box, newVar, newRow, Value.cells]
end Go.Proofs.YbulkblgyDoor
