/- LawS3105BModel: slices of her own. -/
import Derived.Test.YbulkblgyDoorMFill
import Derived.Test.YbulkblgyDoorMPt
namespace Go.Proofs.YbulkblgyDoor
open Go.RowKit

/-- The block g, of c cells, holds L first. -/
structure Pr (w : World) (g c : Nat) (L : List Int) : Prop where
  heap : ∃ cur, w.heap[g]? = some (.cells cur 5 (0, 0)) ∧ cur.size = c ∧ cur.toList.take L.length = L.map (Value.int .u8)
  le : L.length ≤ c
  max : c ≤ maxLen
  bytes : ∀ x ∈ L, 0 ≤ x ∧ x < 256
theorem Pr.lt {w : World} {g c : Nat} {L : List Int} (h : Pr w g c L) : g < w.heap.size := by
  obtain ⟨cur, h1, _⟩ := h.heap
  exact (Array.getElem?_eq_some_iff.1 h1).1
theorem Pr.cellD {w : World} {g c : Nat} {L : List Int} (h : Pr w g c L) (i : Nat) (hi : i < L.length) : w.cell? ⟨g, i, none⟩ = some (.int .u8 (L.getD i 0)) := by
  obtain ⟨cur, h1, h2, h3⟩ := h.heap
  have e : (cur.toList.take L.length)[i]? = some (.int .u8 (L.getD i 0)) := by
    rw [h3, List.getElem?_map, List.getD_eq_getElem?_getD, List.getElem?_eq_getElem hi]; rfl
  rw [List.getElem?_take_of_lt hi] at e
  simpa [World.cell?, h1] using e
theorem Pr.frozen {w : World} {g c : Nat} {L : List Int} (h : Pr w g c L) (i : Nat) : w.frozen? ⟨g, i, none⟩ = false := by
  obtain ⟨cur, h1, _⟩ := h.heap
  simp [World.frozen?, h1]
theorem Pr.byte {w : World} {g c : Nat} {L : List Int} (h : Pr w g c L) (i : Nat) : 0 ≤ L.getD i 0 ∧ L.getD i 0 < 256 := getD_byte h.bytes i
theorem Pr.kept {w w' : World} {g c : Nat} {L : List Int} {r : Option Nat} (h : Pr w g c L) (hg : w.grownBy w' r) (hne : some g ≠ r) : Pr w' g c L := by
  obtain ⟨cur, h1, h2, h3⟩ := h.heap
  exact ⟨⟨cur, (hg.block g h.lt hne).trans h1, h2, h3⟩, h.le, h.max, h.bytes⟩
theorem Pr.set {w : World} {g c : Nat} {L : List Int} (h : Pr w g c L) (i : Nat) (_hi : i < L.length) (x : Int) (h0 : 0 ≤ x) (h1 : x < 256) : Pr (w.setCell ⟨g, i, none⟩ (.int .u8 x)) g c (L.set i x) := by
  obtain ⟨cur, k1, k2, k3⟩ := h.heap
  refine ⟨⟨cur.setIfInBounds i (.int .u8 x), ?_, ?_, ?_⟩, by rw [List.length_set]; exact h.le, h.max, fun y hy => ?_⟩
  · rw [heap_setCell_same w g i _ 5 _ k1]
  · simp [k2]
  · rw [List.length_set, Array.toList_setIfInBounds, List.map_set, ← k3, List.take_set]
  · rcases List.mem_or_eq_of_mem_set hy with h2 | rfl
    · exact h.bytes y h2
    · exact ⟨h0, h1⟩
theorem Row.pr {w : World} {g : Nat} {L : List Int} (h : Row w g 5 L) (hl : L.length ≤ 100000) : Pr w g L.length L :=
  ⟨⟨_, h.heap, by simp, by rw [List.take_of_length_le (by simp)]⟩, Nat.le_refl _, by unfold maxLen; omega, h.bytes⟩

/-- A slice of the law's own that reads L. -/
structure Sl (w : World) (B : Nat) (v : Value) (L : List Int) : Prop where
  own : w.ownsRow B 5 1 v L.length (L.map (Value.int .u8))
  bytes : ∀ x ∈ L, 0 ≤ x ∧ x < 256
theorem Sl.nil (w : World) (B : Nat) : Sl w B (.slice none 0 0) [] := ⟨World.ownsRow_nil w B 5 1, by simp⟩
theorem Pr.sl {w : World} {g c B : Nat} {L : List Int} (h : Pr w g c L) (hB : B ≤ g) : Sl w B (.slice (some ⟨g, 0, none⟩) L.length c) L := by
  obtain ⟨cur, k1, k2, k3⟩ := h.heap
  exact ⟨⟨by simp, .inr ⟨g, c, cur, rfl, hB, k1, h.le, h.max, by omega, by rw [Nat.mul_one]; exact k3⟩⟩, h.bytes⟩
theorem Sl.view {w : World} {B : Nat} {v : Value} {L : List Int} (h : Sl w B v L) : (v = .slice none 0 0 ∧ L = []) ∨ ∃ g c, v = .slice (some ⟨g, 0, none⟩) L.length c ∧ B ≤ g ∧ Pr w g c L := by
  rcases h.own.2 with ⟨e, h0⟩ | ⟨g, c, cur, e, hb, k1, k2, k3, k4, k5⟩
  · exact .inl ⟨e, List.eq_nil_of_length_eq_zero h0⟩
  · exact .inr ⟨g, c, e, hb, ⟨⟨cur, k1, by omega, by rwa [Nat.mul_one] at k5⟩, k2, k3, h.bytes⟩⟩
theorem Sl.kept {w w' : World} {B : Nat} {v : Value} {L : List Int} (h : Sl w B v L) (hg : w.grownBy w' none) : Sl w' B v L :=
  ⟨h.own.kept hg (by cases v.ownBlock <;> simp), h.bytes⟩
theorem Sl.far {w w' : World} {B : Nat} {v : Value} {L : List Int} {r : Nat} (h : Sl w B v L) (hg : w.grownBy w' (some r)) (hr : v.ownBlock ≠ some r) : Sl w' B v L :=
  ⟨h.own.kept hg (.inr hr), h.bytes⟩
theorem Sl.up {w : World} {B B' : Nat} {v : Value} {L : List Int} (h : Sl w B v L) (hB : B' ≤ B) : Sl w B' v L := by
  rcases h.view with ⟨rfl, rfl⟩ | ⟨g, c, rfl, hb, hP⟩
  · exact Sl.nil _ _
  · exact hP.sl (Nat.le_trans hB hb)
/-- How such a slice reads. -/
theorem Sl.form {w : World} {B : Nat} {v : Value} {L : List Int} (h : Sl w B v L) : ∃ ao c, v = .slice ao L.length c ∧ L.length ≤ c ∧ InB w ao L := by
  rcases h.view with ⟨rfl, rfl⟩ | ⟨g, c, rfl, hb, hP⟩
  · exact ⟨none, 0, rfl, by simp, fun h => by simp at h⟩
  · exact ⟨_, c, rfl, hP.le, fun _ => ⟨g, 0, rfl, hP.lt, fun i hi => by rw [Nat.zero_add]; exact hP.cellD i hi⟩⟩
theorem Sl.lt {w : World} {B : Nat} {v : Value} {L : List Int} (h : Sl w B v L) : ∀ k, v.ownBlock = some k → B ≤ k ∧ k < w.heap.size := h.own.lt
/-- What turned only her own block, turned nothing older. -/
theorem Sl.gb {w0 w w' : World} {B : Nat} {v : Value} {L : List Int} (h : Sl w B v L) (h0 : w0.grownBy w none) (hB : w0.heap.size ≤ B) (hg : w.grownBy w' v.ownBlock) : w0.grownBy w' none := by
  cases hv : v.ownBlock with
  | none => rw [hv] at hg; exact gb_trans h0 hg
  | some k => rw [hv] at hg; exact gb_new h0 hg (Nat.le_trans hB (h.lt k hv).1)

/-- 'append(v, x...)'. -/
theorem wpList_app {ops : Array Oper} {rest : List Oper} {o : Oper} {a : Act} {Q : Exit → Act → World → Prop} (w : World) (hgd : o.guard = none) (s x : Operand)
    (ho : o.op = .call { callee := .builtin .append, args := #[s, x], argTypes := #[25, 25] }) (B : Nat) (v : Value) (L : List Int) (hs : a.eval s = v) (hS : Sl w B v L) (ao : Option Addr) (n cap : Nat) (X : List Int) (hx : a.eval x = .slice ao n cap) (hX : X.length = n) (hb : ∀ y ∈ X, 0 ≤ y ∧ y < 256) (hI : InB w ao X) (hB : B ≤ w.heap.size) (hn : L.length + n ≤ 100000)
    (h : ∀ v' w', Sl w' B v' (L ++ X) → w.grownBy w' v.ownBlock → wpList Ybad.prog ops Q rest (a.put o.dst v') w') : wpList Ybad.prog ops Q (o :: rest) a w := by
  obtain ⟨i0, hi, hz0, hz1, hz2⟩ := info_parts infoByte
  rcases Nat.eq_zero_or_pos n with h0 | h0
  · obtain rfl : X = [] := List.eq_nil_of_length_eq_zero (by omega)
    subst h0
    refine wpList_plain hgd fun K hK => ?_
    have hsrc : Src Ybad.prog i0.size 25 (.slice ao 0 cap) 0 [] w := by
      cases ao with
      | none => exact Src.ofNil w Ybad.underlying25 cap
      | some ad => exact Src.ofSlice w Ybad.underlying25 ad 0 cap [] (by simp) (by simp) (by simp)
    obtain ⟨av, cv, rfl, hcv, _⟩ := hS.form
    have hrun := run_append_nothing (P := Ybad.prog) w 25 25 o.type 5 i0 Ybad.underlying25 hi av L.length cv hcv _ hsrc
    unfold Oper.wp execOp
    simp only [ho, resolve, invoke, builtin, Sem.run_bind, Sem.run_pure, Result.andThen_ok, List.map_toArray, List.map_cons, List.map_nil, hs, hx, hrun]
    exact hK _ _ (h _ w (by rw [List.append_nil]; exact hS) (gb_refl _ _))
  · obtain ⟨b, of, rfl, hbl, hc⟩ := hI (by omega)
    refine wpList_append_lies w hgd s x 25 ho B 5 i0 (.int .u8 0) 1 1 Ybad.underlying25 hi hz0 hz1 hz2 rfl (by omega) v L.length (L.map (Value.int .u8)) hs hS.own ⟨b, of, none⟩ n cap (X.map (Value.int .u8)) hx (by simp [hX]) (fun j u hu => ?_) (fun u hu => ?_) h0 (by unfold maxLen; omega) (by omega) hB w.heap.size rfl fun g cp w' hO hg _ hlt => ?_
    · rw [List.getElem?_map] at hu
      cases he : X[j]? with
      | none => rw [he] at hu; simp at hu
      | some y =>
        rw [he] at hu
        simp at hu
        subst hu
        have hj := (List.getElem?_eq_some_iff.1 he).1
        have := hc j hj
        rw [List.getD_eq_getElem?_getD, he] at this
        rw [show (⟨b, of, none⟩ : Addr).add j = ⟨b, of + j, none⟩ by by_cases q : j = 0 <;> simp [Addr.add, q]]
        exact this
    · simp at hu
      obtain ⟨y, _, rfl⟩ := hu
      rfl
    · rw [← List.map_append] at hO
      have hl : (L ++ X).length = L.length + n := by rw [List.length_append, hX]
      refine h _ w' ⟨by rw [hl]; exact hO, fun y hy => ?_⟩ hg
      rcases List.mem_append.1 hy with h1 | h1
      · exact hS.bytes y h1
      · exact hb y h1

set_option maxRecDepth 100000 in
theorem put_own (g o n c cp : Nat) (C : List Int) (v : Int) (w : World) (h0 : 0 ≤ v) (h1 : v < 4294967296) (hn : 4 ≤ n) (hR : Pr w g cp C) (ho : o + 4 ≤ C.length) :
    Calls Ybad.prog 6 #[.slice (some ⟨g, o, none⟩) n c, .int .u32 v] w fun e w' => e = .returned (.tuple #[]) ∧ Pr w' g cp (splice C o (msB v)) ∧ w.grownBy w' (some g) := by
  have k0 := hR.cellD o (by omega)
  have k1 := hR.cellD (o + 1) (by omega)
  have k2 := hR.cellD (o + 2) (by omega)
  have k3 := hR.cellD (o + 3) (by omega)
  have z0 := hR.frozen o
  have z1 := hR.frozen (o + 1)
  have z2 := hR.frozen (o + 2)
  have z3 := hR.frozen (o + 3)
  have R4 := (((hR.set o (by omega) (v / 16777216) (by omega) (by omega)).set (o + 1) (by simp; omega) (v / 65536 % 256) (by omega) (by omega)).set (o + 2) (by simp; omega) (v / 256 % 256) (by omega) (by omega)).set (o + 3) (by simp; omega) (v % 256) (by omega) (by omega)
  rw [splice4 _ _ _ _ _ _ ho] at R4
  go_enter Ybad.func6, Ybad.ntmps6
  go_wp2
  go_end0
  exact ⟨rfl, R4, gb_trans (gb_trans (gb_trans (gb_set _ _ _ _) (gb_set _ _ _ _)) (gb_set _ _ _ _)) (gb_set _ _ _ _)⟩
end Go.Proofs.YbulkblgyDoor
