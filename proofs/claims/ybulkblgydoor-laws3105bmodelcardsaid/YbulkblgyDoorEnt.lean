/- LawS3105B*: As4, nextEntry, nextIPv4Option. -/
import Derived.Test.YbulkblgyDoorLeaf
import Derived.BigQuiet
namespace Go.Proofs.YbulkblgyDoor
open Go.RowKit

theorem hide {p : Prop} (h : p) : Hid p := h
theorem Hid.out {p : Prop} (h : Hid p) : p := h
/-- Bytes that may be read in a block, from its head on. -/
structure Rd (w : World) (g : Nat) (L : List Int) : Prop where
  lt : g < w.heap.size
  cellD : ∀ i, i < L.length → w.cell? ⟨g, i, none⟩ = some (.int .u8 (L.getD i 0))
  bytes : ∀ x ∈ L, 0 ≤ x ∧ x < 256
theorem Rd.byte {w : World} {g : Nat} {L : List Int} (h : Rd w g L) (i : Nat) : 0 ≤ L.getD i 0 ∧ L.getD i 0 < 256 := getD_byte h.bytes i
theorem Rd.kept {w w' : World} {g : Nat} {L : List Int} {r : Option Nat} (h : Rd w g L) (hg : w.grownBy w' r) (hne : some g ≠ r) : Rd w' g L :=
  ⟨Nat.lt_of_lt_of_le h.lt hg.size, fun i hi => (World.cell?_of_block (a := ⟨g, i, none⟩) (hg.block g h.lt hne)).trans (h.cellD i hi), h.bytes⟩
theorem eq39 (a : Addr) (w : World) : (Op.equalIn 9999 39 (.pointer (some a)) (.pointer (some a))).run Ybad.prog w = .ok true w := by
  obtain ⟨j, hj⟩ := Option.isSome_iff_exists.1 info84
  exact run_equalIn_ptr Ybad.prog w 9998 a Ybad.underlying39 hj
theorem gb_new {w w1 w2 : World} {g : Nat} {r : Option Nat} (h : w.grownBy w1 r) (k : w1.grownBy w2 (some g)) (hg : w.heap.size ≤ g) : w.grownBy w2 r :=
  ⟨k.os.trans h.os, k.tape.trans h.tape, k.output.trans h.output, Nat.le_trans h.size k.size, fun i hi hn => (k.block i (Nat.lt_of_lt_of_le hi h.size) (by intro e; simp at e; omega)).trans (h.block i hi hn)⟩
set_option maxRecDepth 100000 in
theorem as4 (a b c d : Int) (za : Addr) (w : World) (h2 : w.cell? ⟨2, 0, none⟩ = some (.pointer (some za))) (hz : 2 < w.heap.size) (a0 : 0 ≤ a) (a1 : a < 256) (b0 : 0 ≤ b) (b1 : b < 256) (c0 : 0 ≤ c) (c1 : c < 256) (d0 : 0 ≤ d) (d1 : d < 256) :
    Calls Ybad.prog 15 #[adr za (num4 a b c d)] w fun e w' => e = .returned (q4 a b c d) ∧ w.grownBy w' none := by
  have e1 : IntKind.u32.wrap (num4 a b c d) = a * 16777216 + b * 65536 + c * 256 + d := by rw [IntKind.wrap_u32]; unfold num4; omega
  have e2 := eq39 za
  have hsp : splice [0, 0, 0, 0] 0 (msB (a * 16777216 + b * 65536 + c * 256 + d)) = [a, b, c, d] := by
    simp only [splice, msB, List.take_zero, List.nil_append, List.length_cons, List.length_nil]
    simp
    refine ⟨by omega, by omega, by omega, by omega⟩
  have hR0 : Row ((w.alloc (.cells #[.int .u64 0, .int .u64 (num4 a b c d), .pointer (some za)] 43)).alloc (.cells #[.int .u8 0, .int .u8 0, .int .u8 0, .int .u8 0] 22)) (w.heap.size + 1) 22 [0, 0, 0, 0] := by
    refine ⟨?_, by simp⟩
    have := heap_alloc_new (w.alloc (.cells #[.int .u64 0, .int .u64 (num4 a b c d), .pointer (some za)] 43)) (.cells #[.int .u8 0, .int .u8 0, .int .u8 0, .int .u8 0] 22)
    simpa using this
  have hR := hR0.kept (gb_drew _ none) (by simp)
  go_enter Ybad.func15, Ybad.ntmps15
  go_wp2
  go_region_with (go_at_call 19; refine (be32_put (w.heap.size + 1) 22 0 4 4 [0, 0, 0, 0] _ _ (by omega) (by omega) (by omega) hR (by simp)).mono ?_; rintro e w1 ⟨rfl, hR1, hg1⟩)
  all_goals
    rw [hsp] at hR1
    have k0 : w1.cell? ⟨w.heap.size + 1, 0, none⟩ = some (.int .u8 a) := hR1.cell 0 (by simp)
    have k1 : w1.cell? ⟨w.heap.size + 1, 1, none⟩ = some (.int .u8 b) := hR1.cell 1 (by simp)
    have k2 : w1.cell? ⟨w.heap.size + 1, 2, none⟩ = some (.int .u8 c) := hR1.cell 2 (by simp)
    have k3 : w1.cell? ⟨w.heap.size + 1, 3, none⟩ = some (.int .u8 d) := hR1.cell 3 (by simp)
    have z0 := hR1.frozen 0
    have z1 := hR1.frozen 1
    have z2 := hR1.frozen 2
    have z3 := hR1.frozen 3
    clear e2 hR0 hR
    go_wp2
    simp [bodyPost, results, Ybad.results15, go_sem, k0, k1, k2, k3]
    exact gb_new (gb_trans (gb_trans (gb_alloc _ _ _) (gb_alloc _ _ _)) (gb_drew _ _)) (gb_trans hg1 (gb_trans (gb_trans (gb_trans (gb_set _ _ _ _) (gb_set _ _ _ _)) (gb_set _ _ _ _)) (gb_set _ _ _ _))) (by omega)

/-- Where an option list goes on: the slice that holds what lies from p on. -/
def SAt (v : Value) (g : Nat) (L : List Int) (p : Nat) : Prop := ∃ a c, v = .slice a (L.length - p) c ∧ L.length - p ≤ c ∧ p ≤ L.length ∧ (p < L.length → a = some ⟨g, p, none⟩)

set_option maxRecDepth 100000 in
theorem next_done (g p : Nat) (L : List Int) (v : Value) (w : World) (hR : Rd w g L) (hv : SAt v g L p) (hx : nx L p = .done) :
    Calls Ybad.prog 14 #[v] w fun e w' => e = .returned (.tuple #[.slice none 0 0, .slice none 0 0, .nilIface]) ∧ w.grownBy w' none := by
  obtain ⟨a, c, rfl, hc, hp, ha⟩ := hv
  go_enter Ybad.func14, Ybad.ntmps14
  by_cases h1 : p < L.length
  · obtain rfl := ha h1
    have k0 := hR.cellD p h1
    have hb := hR.byte p
    have h0 : L.getD p 0 = 0 := by
      unfold nx at hx
      rw [if_neg (by omega)] at hx
      by_cases h : L.getD p 0 = 0
      · exact h
      · rw [if_neg h] at hx
        split at hx
        · simp at hx
        · split at hx <;> simp at hx
    rw [h0] at k0
    have hn : ((((L.length - p : Nat) : Int)) == 0) = false := beq_eq_false_iff_ne.2 (by omega)
    go_wp2
    go_ret3
    exact ⟨rfl, gb_refl _ _⟩
  · have hl : L.length - p = 0 := by omega
    rw [hl]
    go_wp2
    go_ret3
    exact ⟨rfl, gb_refl _ _⟩

theorem nx_bad {L : List Int} {p : Nat} (h : nx L p = .bad) : p < L.length ∧ L.getD p 0 ≠ 0 ∧ L.getD p 0 ≠ 1 ∧ (L.length < p + 2 ∨ L.getD (p + 1) 0 < 2 ∨ (L.length : Int) < p + L.getD (p + 1) 0) := by
  unfold nx at h
  split at h
  · simp at h
  · split at h
    · simp at h
    · split at h
      · simp at h
      · split at h
        · rename_i h1 h2 h3 h4
          exact ⟨by omega, h2, h3, h4⟩
        · simp at h
theorem nx_opt2 {L : List Int} {p l : Nat} (h : nx L p = .opt l) : p < L.length ∧ L.getD p 0 ≠ 0 ∧ ((L.getD p 0 = 1 ∧ l = 1) ∨ (L.getD p 0 ≠ 1 ∧ p + 2 ≤ L.length ∧ 2 ≤ l ∧ p + l ≤ L.length ∧ L.getD (p + 1) 0 = l)) := by
  unfold nx at h
  split at h
  · simp at h
  · split at h
    · simp at h
    · split at h
      · rename_i h1 h2 h3
        simp at h
        exact ⟨by omega, h2, .inl ⟨h3, h.symm⟩⟩
      · split at h
        · simp at h
        · rename_i h1 h2 h3 h4
          simp only [not_or] at h4
          simp only [Nx.opt.injEq] at h
          exact ⟨by omega, h2, .inr ⟨h3, by omega, by omega, by omega, by omega⟩⟩

set_option maxRecDepth 100000 in
set_option maxHeartbeats 1000000 in
theorem next_opt (g p l : Nat) (L : List Int) (v : Value) (w : World) (hR : Rd w g L) (hv : SAt v g L p) (hx : nx L p = .opt l) :
    Calls Ybad.prog 14 #[v] w fun e w' => (∃ c r, e = .returned (.tuple #[.slice (some ⟨g, p, none⟩) l c, r, .nilIface]) ∧ l ≤ c ∧ SAt r g L (p + l)) ∧ w.grownBy w' none := by
  obtain ⟨a, c, rfl, hc, hp, ha⟩ := hv
  obtain ⟨h1, h0, hcase⟩ := nx_opt2 hx
  obtain rfl := ha h1
  have k0 := hR.cellD p h1
  have hb := hR.byte p
  have n0 : (L.getD p 0 == 0) = false := beq_eq_false_iff_ne.2 h0
  obtain ⟨m, hm, hmp⟩ : ∃ m, L.length - p = m ∧ L.length = p + m := ⟨_, rfl, by omega⟩
  rw [hm] at hc ⊢
  have Hm := hide hmp
  have hm0 : ((m : Int) == 0) = false := beq_eq_false_iff_ne.2 (by omega)
  have hmp' : 0 < m := by omega
  go_enter Ybad.func14, Ybad.ntmps14
  rcases hcase with ⟨e1, rfl⟩ | ⟨e1, h2, hl2, hpl, e2⟩
  · rw [e1] at k0
    clear hmp hm hx hp h1 ha n0 hb h0 e1
    go_wp2
    go_region
    all_goals go_wp2
    all_goals
      go_ret3
      refine ⟨⟨_, _, rfl, by omega, ?_⟩, gb_drew _ _⟩
      have := Hm.out
      have e : L.length - (p + 1) = m - 1 := by omega
      unfold SAt
      rw [e]
      exact ⟨_, _, rfl, by omega, by omega, fun h => by first | rfl | omega⟩
  · have n1 : (L.getD p 0 == 1) = false := beq_eq_false_iff_ne.2 e1
    have k1 := hR.cellD (p + 1) (by omega)
    have hb1 := (hR.byte (p + 1)).2
    rw [e2] at k1 hb1
    have hw := IntWalk.i64_in (l : Int) (by omega)
    have hlm : l ≤ m := by omega
    have hm2 : 2 ≤ m := by omega
    generalize L.getD p 0 = x at *
    clear hmp hm hx hp h1 ha h2 hpl e2
    go_wp2
    go_region
    all_goals go_wp2
    all_goals
      go_ret3
      refine ⟨⟨_, _, rfl, by omega, ?_⟩, gb_drew _ _⟩
      have := Hm.out
      have e : L.length - (p + l) = m - l := by omega
      unfold SAt
      rw [e]
      exact ⟨_, _, rfl, by omega, by omega, fun h => by first | rfl | omega⟩

set_option maxRecDepth 100000 in
set_option maxHeartbeats 1000000 in
theorem next_bad (g p : Nat) (L : List Int) (v : Value) (eb : Value) (w : World) (hR : Rd w g L) (hv : SAt v g L p) (hx : nx L p = .bad) (h1 : w.cell? ⟨1, 0, none⟩ = some (.iface 67 eb)) :
    Calls Ybad.prog 14 #[v] w fun e w' => e = .returned (.tuple #[.slice none 0 0, .slice none 0 0, .iface 67 eb]) ∧ w.grownBy w' none := by
  obtain ⟨a, c, rfl, hc, hp, ha⟩ := hv
  obtain ⟨hlt, h0, h01, hcase⟩ := nx_bad hx
  obtain rfl := ha hlt
  have k0 := hR.cellD p hlt
  have hb := hR.byte p
  have n0 : (L.getD p 0 == 0) = false := beq_eq_false_iff_ne.2 h0
  have n1 : (L.getD p 0 == 1) = false := beq_eq_false_iff_ne.2 h01
  obtain ⟨m, hm, hmp⟩ : ∃ m, L.length - p = m ∧ L.length = p + m := ⟨_, rfl, by omega⟩
  rw [hm] at hc ⊢
  have hm0 : ((m : Int) == 0) = false := beq_eq_false_iff_ne.2 (by omega)
  have hmp' : 0 < m := by omega
  generalize L.getD p 0 = x at *
  go_enter Ybad.func14, Ybad.ntmps14
  by_cases hm1 : m = 1
  · subst hm1
    clear hmp hm hx hp hlt ha hcase
    go_wp2
    go_region
    all_goals (go_wp2; go_ret3; exact ⟨rfl, gb_drew _ _⟩)
  · have k1 := hR.cellD (p + 1) (by omega)
    have hb1 := hR.byte (p + 1)
    have hm2 : 2 ≤ m := by omega
    obtain ⟨y, hy⟩ : ∃ y, L.getD (p + 1) 0 = y := ⟨_, rfl⟩
    rw [hy] at k1 hb1 hcase
    have hw := IntWalk.i64_in y (by omega)
    by_cases hy2 : y < 2
    · clear hmp hm hx hp hlt ha hcase hy
      go_wp2
      go_region
      all_goals (go_wp2; go_ret3; exact ⟨rfl, gb_drew _ _⟩)
    · have hgt : (m : Int) < y := by omega
      clear hmp hm hx hp hlt ha hcase hy
      go_wp2
      go_region
      all_goals (go_wp2; go_ret3; exact ⟨rfl, gb_drew _ _⟩)

set_option maxRecDepth 100000 in
set_option maxHeartbeats 1000000 in
/-- nextEntry: an option of bytes R in a block, at offset o. -/
theorem entry_any (g o n c first size : Nat) (C R Z A : List Int) (eb : Value) (w : World) (hC : C = A ++ (R ++ Z)) (hR : Row w g 5 C) (hA : A.length = o) (hn : R.length = n) (h3 : 3 ≤ n) (hc : n ≤ c) (hf : 1 ≤ first) (hf1 : first ≤ 100) (hs : size ≤ 100) (hs1 : 1 ≤ size) (h1 : w.cell? ⟨1, 0, none⟩ = some (.iface 67 eb)) :
    Calls Ybad.prog 16 #[.slice (some ⟨g, o, none⟩) n c, .int .i64 first, .int .i64 size] w fun e w' => (match entry R first size with
      | .bad => e = .returned (.tuple #[.slice none 0 0, .iface 67 eb])
      | .full => e = .returned (.tuple #[.slice none 0 0, .nilIface])
      | .room a => ∃ c', e = .returned (.tuple #[.slice (some ⟨g, o + a, none⟩) size c', .nilIface]) ∧ size ≤ c') ∧ w.grownBy w' none := by
  have k2 := hR.cellD (o + 2) (by rw [hC]; simp; omega)
  have hb := hR.byte (o + 2)
  have hg2 : C.getD (o + 2) 0 = R.getD 2 0 := by
    rw [hC, List.getD_eq_getElem?_getD, List.getElem?_append_right (by omega), List.getElem?_append_left (by omega), List.getD_eq_getElem?_getD]
    congr 2
    omega
  rw [hg2] at k2 hb
  obtain ⟨x, hx⟩ : ∃ x, R.getD 2 0 = x := ⟨_, rfl⟩
  unfold entry
  rw [hx] at k2 hb ⊢
  rw [hn]
  clear hx hg2 hR hC hA hn
  have w1 := IntWalk.i64_in x (by omega)
  have w2 := IntWalk.i64_in (x - 1) (by omega)
  have w3 := IntWalk.i64_in (x - 1 + size) (by omega)
  go_enter Ybad.func16, Ybad.ntmps16
  by_cases c1 : x < first
  · rw [if_pos c1]
    go_wp2
    go_region
    all_goals (go_wp2; go_ret2; exact ⟨rfl, gb_drew _ _⟩)
  · rw [if_neg c1]
    by_cases c2 : (n : Int) < x
    · rw [if_pos c2]
      go_wp2
      go_ret2
      exact ⟨rfl, gb_refl _ _⟩
    · rw [if_neg c2]
      by_cases c3 : (n : Int) < x - 1 + size
      · rw [if_pos c3]
        go_wp2
        go_region
        all_goals (go_wp2; go_ret2; exact ⟨rfl, gb_drew _ _⟩)
      · rw [if_neg c3]
        obtain ⟨y, rfl⟩ : ∃ y : Nat, x = y + 1 := ⟨(x - 1).toNat, by omega⟩
        have e1 : ((y : Int) + 1 - 1) = y := by omega
        rw [e1] at w2 w3 c3
        rw [show ((y : Int) + 1).toNat - 1 = y by omega]
        go_wp2
        go_ret2
        exact ⟨⟨_, rfl, by omega⟩, gb_refl _ _⟩
end Go.Proofs.YbulkblgyDoor
