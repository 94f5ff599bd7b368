/- LawS3101BMessages: a slice of messages. -/
import Derived.Test.YbulkbleuFmtVals
import Derived.Test.YbulkbleuFmtMsg
namespace Go.Proofs.YbulkbleuFmt.B
open Go.RowKit

/-- The messages out lie behind the slice mv, its elements vs; none of their blocks is gb. -/
structure Msgs (w : World) (B gb : Nat) (mv : Value) (vs : List Value) (out : List (List Int)) : Prop where
  own : w.ownsRow B 24 1 mv out.length vs
  ne : mv.ownBlock ≠ some gb
  each : ∀ i (h : i < out.length), ∃ u, vs[i]? = some u ∧ Buf w B u out[i] ∧ u.ownBlock ≠ some gb ∧ u.ownBlock ≠ mv.ownBlock
theorem Msgs.nil (w : World) (B gb : Nat) : Msgs w B gb (.slice none 0 0) [] [] := ⟨World.ownsRow_nil _ _ _ _, by simp [Value.ownBlock], fun i h => by simp at h⟩
theorem Buf.block {w : World} {B : Nat} {v : Value} {L : List Int} (h : Buf w B v L) : ∃ g, v.ownBlock = some g ∧ B ≤ g ∧ g < w.heap.size := by
  obtain ⟨g, cap, cur, rfl, hb, hg, _⟩ := h
  exact ⟨g, rfl, hb, (Array.getElem?_eq_some_iff.1 hg).1⟩
theorem Buf.same {w w' : World} {B : Nat} {v : Value} {L : List Int} (h : Buf w B v L) (hb : ∀ k, v.ownBlock = some k → w'.heap[k]? = w.heap[k]?) : Buf w' B v L := by
  obtain ⟨g, cap, cur, rfl, h1, h2, h3⟩ := h
  exact ⟨g, cap, cur, rfl, h1, (hb g rfl).trans h2, h3⟩
theorem ownsRow_same {w w' : World} {B : Nat} {e : TypeId} {size n : Nat} {v : Value} {xs : List Value} (h : w.ownsRow B e size v n xs) (hb : ∀ k, v.ownBlock = some k → w'.heap[k]? = w.heap[k]?) : w'.ownsRow B e size v n xs := by
  refine ⟨h.1, h.2.imp (fun x => x) ?_⟩
  rintro ⟨g, cap, cur, rfl, h1, h2, h3⟩
  exact ⟨g, cap, cur, rfl, h1, (hb g rfl).trans h2, h3⟩
theorem Msgs.keep {w w' : World} {B gb gb' : Nat} {mv : Value} {vs : List Value} {out : List (List Int)} (h : Msgs w B gb mv vs out) (hb : ∀ k, B ≤ k → k < w.heap.size → k ≠ gb → w'.heap[k]? = w.heap[k]?) (hg : gb' = gb ∨ w.heap.size ≤ gb') : Msgs w' B gb' mv vs out := by
  have hm : ∀ k, mv.ownBlock = some k → B ≤ k ∧ k < w.heap.size ∧ k ≠ gb := fun k e => ⟨(h.own.lt k e).1, (h.own.lt k e).2, fun x => h.ne (x ▸ e)⟩
  refine ⟨ownsRow_same h.own fun k e => hb k (hm k e).1 (hm k e).2.1 (hm k e).2.2, fun e => ?_, fun i hi => ?_⟩
  · have := hm _ e
    omega
  · obtain ⟨u, a, b, c, d⟩ := h.each i hi
    obtain ⟨q, e1, e2, e3⟩ := b.block
    have hq : q ≠ gb := fun x => c (x ▸ e1)
    refine ⟨u, a, b.same fun k e => ?_, fun e => ?_, d⟩
    · rw [e1] at e
      obtain rfl := Option.some.inj e
      exact hb _ e2 e3 hq
    · rw [e1] at e
      have := Option.some.inj e
      omega
/-- One message more. -/
theorem Msgs.push {w w1 w2 : World} {B gb : Nat} {mv mv' u0 : Value} {vs : List Value} {out : List (List Int)} {L : List Int} (h : Msgs w B gb mv vs out) (hb : ∀ k, B ≤ k → k < w.heap.size → k ≠ gb → w1.heap[k]? = w.heap[k]?) (hs : w.heap.size ≤ w1.heap.size) (hgb : gb < w.heap.size)
    (hu : Buf w1 B u0 L) (cb : Nat) (hcb : u0.ownBlock = some cb) (hcl : w.heap.size ≤ cb)
    (ho : w2.ownsRow B 24 1 mv' (out.length + 1) (vs ++ [u0])) (hg : w1.grownBy w2 mv.ownBlock) (hl : mv'.ownBlock = mv.ownBlock ∨ mv'.ownBlock = some w1.heap.size) : Msgs w2 B gb mv' (vs ++ [u0]) (out ++ [L]) := by
  have h1 := h.keep hb (.inl rfl)
  have hm : ∀ k, mv.ownBlock = some k → k < w.heap.size := fun k e => (h.own.lt k e).2
  have hvl : vs.length = out.length := by have := h.own.1; omega
  refine ⟨by simpa using ho, fun e => ?_, fun i hi => ?_⟩
  · rcases hl with hl | hl
    · exact h.ne (hl ▸ e)
    · rw [hl] at e
      have := Option.some.inj e
      omega
  · rw [List.length_append] at hi
    by_cases hlt : i < out.length
    · obtain ⟨u, a, b, c, d⟩ := h1.each i hlt
      obtain ⟨_, _, b0, _, _⟩ := h.each i hlt
      obtain ⟨q, e1, e2, e3⟩ := b.block
      have hq : q < w1.heap.size := e3
      rw [List.getElem_append_left hlt]
      refine ⟨u, by rw [List.getElem?_append_left (by omega)]; exact a, b.kept hg d, c, fun e => ?_⟩
      rcases hl with hl | hl
      · exact d (by rw [← hl]; exact e)
      · rw [hl, e1] at e
        have := Option.some.inj e
        omega
    · obtain rfl : i = out.length := by simp at hi; omega
      have hne : u0.ownBlock ≠ mv.ownBlock := fun e => by have := hm cb (by rw [← e]; exact hcb); omega
      refine ⟨u0, by rw [← hvl]; simp, ?_, fun e => ?_, fun e => ?_⟩
      · simp only [List.getElem_concat_length]
        exact hu.kept hg hne
      · rw [hcb] at e
        have := Option.some.inj e
        omega
      · rcases hl with hl | hl
        · exact hne (by rw [← hl]; exact e)
        · obtain ⟨q, e1, e2, e3⟩ := hu.block
          rw [hl, e1] at e
          have := Option.some.inj e
          omega
end Go.Proofs.YbulkbleuFmt.B
