/- LawS3105B*: timestamp. -/
import Derived.Test.YbulkblgyDoorRec
import Derived.Deep.DeepCutAuto
import Derived.BigQuiet
import Derived.Deep.QuietTactic
namespace Go.Proofs.YbulkblgyDoor
open Go.RowKit

theorem stamp_flag {T self : List Int} {ms f : Int} {size : Nat} (h4 : 4 ≤ T.length) (hf : T.getD 3 0 % 16 = f) (hs : (f = 0 ∧ size = 4) ∨ (f = 1 ∧ size = 8) ∨ (f = 3 ∧ size = 8)) :
    stamp T self ms = (match entry T 5 size with
      | .bad => none
      | .full => if T.getD 3 0 / 16 = 15 then none else some (T.set 3 ((T.getD 3 0 + 16) % 256))
      | .room a => if f = 3 ∧ (T.drop a).take 4 ≠ self then some T else some ((splice (if f = 1 then splice T a self else T) (a + size - 4) (msB ms)).set 2 ((T.getD 2 0 + size) % 256))) := by
  unfold stamp
  rw [if_neg (by omega)]
  simp only [hf]
  rw [if_pos (by omega)]
  rcases hs with ⟨rfl, rfl⟩ | ⟨rfl, rfl⟩ | ⟨rfl, rfl⟩
  · simp; cases entry T 5 4 <;> rfl
  · simp; cases entry T 5 8 <;> rfl
  · simp; cases entry T 5 8 <;> rfl
theorem stamp_room0 {T self : List Int} {ms : Int} {p : Nat} (h4 : 4 ≤ T.length) (hf : T.getD 3 0 % 16 = 0) (he : entry T 5 4 = .room p) : stamp T self ms = some ((splice T p (msB ms)).set 2 ((T.getD 2 0 + 4) % 256)) := by
  rw [stamp_flag h4 hf (by omega : ((0 : Int) = 0 ∧ 4 = 4) ∨ ((0 : Int) = 1 ∧ 4 = 8) ∨ ((0 : Int) = 3 ∧ 4 = 8)), he]
  simp
theorem stamp_room1 {T self : List Int} {ms : Int} {p : Nat} (h4 : 4 ≤ T.length) (hf : T.getD 3 0 % 16 = 1) (he : entry T 5 8 = .room p) : stamp T self ms = some ((splice (splice T p self) (p + 4) (msB ms)).set 2 ((T.getD 2 0 + 8) % 256)) := by
  rw [stamp_flag h4 hf (by omega : ((1 : Int) = 0 ∧ 8 = 4) ∨ ((1 : Int) = 1 ∧ 8 = 8) ∨ ((1 : Int) = 3 ∧ 8 = 8)), he]
  simp
theorem stamp_room3 {T self : List Int} {ms : Int} {p : Nat} (h4 : 4 ≤ T.length) (hf : T.getD 3 0 % 16 = 3) (he : entry T 5 8 = .room p) (hq : (T.drop p).take 4 = self) : stamp T self ms = some ((splice T (p + 4) (msB ms)).set 2 ((T.getD 2 0 + 8) % 256)) := by
  rw [stamp_flag h4 hf (by omega : ((3 : Int) = 0 ∧ 8 = 4) ∨ ((3 : Int) = 1 ∧ 8 = 8) ∨ ((3 : Int) = 3 ∧ 8 = 8)), he]
  simp [hq]
theorem stamp_other {T self : List Int} {ms : Int} {p : Nat} (h4 : 4 ≤ T.length) (hf : T.getD 3 0 % 16 = 3) (he : entry T 5 8 = .room p) (hq : (T.drop p).take 4 ≠ self) : stamp T self ms = some T := by
  rw [stamp_flag h4 hf (by omega : ((3 : Int) = 0 ∧ 8 = 4) ∨ ((3 : Int) = 1 ∧ 8 = 8) ∨ ((3 : Int) = 3 ∧ 8 = 8)), he]
  simp [hq]
theorem stamp_none {T self : List Int} {ms : Int} (hf : T.length < 4 ∨ ¬ (T.getD 3 0 % 16 = 0 ∨ T.getD 3 0 % 16 = 1 ∨ T.getD 3 0 % 16 = 3)) : stamp T self ms = none := by
  unfold stamp
  split
  · rfl
  · simp only
    rw [if_neg (by omega)]
theorem num4_inj {a b c d a' b' c' d' : Int} (h : num4 a b c d = num4 a' b' c' d') (_a0 : 0 ≤ a ∧ a < 256) (b0 : 0 ≤ b ∧ b < 256) (c0 : 0 ≤ c ∧ c < 256) (d0 : 0 ≤ d ∧ d < 256) (_a1 : 0 ≤ a' ∧ a' < 256) (b1 : 0 ≤ b' ∧ b' < 256) (c1 : 0 ≤ c' ∧ c' < 256) (d1 : 0 ≤ d' ∧ d' < 256) : a = a' ∧ b = b' ∧ c = c' ∧ d = d' := by
  unfold num4 at h
  omega
theorem take4 (T : List Int) (p : Nat) (h : p + 4 ≤ T.length) : (T.drop p).take 4 = [T.getD p 0, T.getD (p + 1) 0, T.getD (p + 2) 0, T.getD (p + 3) 0] := by
  apply List.ext_getElem?
  intro j
  simp only [List.getD_eq_getElem?_getD]
  by_cases hj : j < 4
  · rw [List.getElem?_take_of_lt hj, List.getElem?_drop]
    have : j = 0 ∨ j = 1 ∨ j = 2 ∨ j = 3 := by omega
    rcases this with rfl | rfl | rfl | rfl
    · show T[p + 0]? = some (T[p + 0]?.getD 0); rw [List.getElem?_eq_getElem (show p + 0 < T.length by omega)]; rfl
    · show T[p + 1]? = some (T[p + 1]?.getD 0); rw [List.getElem?_eq_getElem (show p + 1 < T.length by omega)]; rfl
    · show T[p + 2]? = some (T[p + 2]?.getD 0); rw [List.getElem?_eq_getElem (show p + 2 < T.length by omega)]; rfl
    · show T[p + 3]? = some (T[p + 3]?.getD 0); rw [List.getElem?_eq_getElem (show p + 3 < T.length by omega)]; rfl
  · rw [List.getElem?_eq_none (by simp; omega), List.getElem?_eq_none (by simp; omega)]

theorem gb_drewN (w : World) (n : Nat) (r : Option Nat) : w.grownBy (w.drewN n) r := ⟨rfl, rfl, rfl, Nat.le_refl _, fun _ _ _ => rfl⟩
@[go_sem] theorem arr22 (w : World) (a : Addr) (c : Nat) : (Instr.arrayAt 22 (.slice (some a) 4 c)).run Ybad.prog w = .ok (.pointer (some a)) w := by
  simp [Instr.arrayAt, run_underlying Ybad.underlying22]
set_option maxRecDepth 100000 in
/-- (bigEndian).PutUint32 into four cells of a block. -/
theorem put32 (g t o n c : Nat) (C : List Int) (v : Int) (w : World) (h0 : 0 ≤ v) (h1 : v < 4294967296) (hn : 4 ≤ n) (hR : Row w g t C) (ho : o + 4 ≤ C.length) :
    Calls Ybad.prog 17 #[.agg #[], .slice (some ⟨g, o, none⟩) n c, .int .u32 v] w fun e w' => e = .returned (.tuple #[]) ∧ Row w' g t (splice C o (msB v)) ∧ w.grownBy w' (some g) := by
  have hR := hR.kept (gb_alloc w (.cells #[] 65) none) (by simp)
  have k0 := hR.cell o (by omega)
  have k1 := hR.cell (o + 1) (by omega)
  have k2 := hR.cell (o + 2) (by omega)
  have k3 := hR.cell (o + 3) (by omega)
  have z0 := hR.frozen o
  have z1 := hR.frozen (o + 1)
  have z2 := hR.frozen (o + 2)
  have z3 := hR.frozen (o + 3)
  have R4 := (((hR.set o (by omega) (v / 16777216) (by omega) (by omega)).set (o + 1) (by simp; omega) (v / 65536 % 256) (by omega) (by omega)).set (o + 2) (by simp; omega) (v / 256 % 256) (by omega) (by omega)).set (o + 3) (by simp; omega) (v % 256) (by omega) (by omega)
  rw [splice4 _ _ _ _ _ _ ho] at R4
  go_enter Ybad.func17, Ybad.ntmps17
  go_wp2
  go_end0
  exact ⟨rfl, R4, gb_trans (gb_some _ (gb_alloc w (.cells #[] 65) none)) (gb_trans (gb_trans (gb_trans (gb_set _ _ _ _) (gb_set _ _ _ _)) (gb_set _ _ _ _)) (gb_set _ _ _ _))⟩

set_option maxRecDepth 100000 in
set_option maxHeartbeats 4000000 in
theorem stamp_any (g n c : Nat) (A T Z : List Int) (a b q d ms : Int) (za : Addr) (eb : Value) (w : World) (hR : Row w g 5 (A ++ (T ++ Z))) (hn : T.length = n) (hc : n ≤ c) (hg2 : 2 < g) (h1 : w.cell? ⟨1, 0, none⟩ = some (.iface 67 eb)) (h2 : w.cell? ⟨2, 0, none⟩ = some (.pointer (some za)))
    (a0 : 0 ≤ a) (a1 : a < 256) (b0 : 0 ≤ b) (b1 : b < 256) (q0 : 0 ≤ q) (q1 : q < 256) (d0 : 0 ≤ d) (d1 : d < 256) (m0 : 0 ≤ ms) (m1 : ms < 4294967296) :
    Calls Ybad.prog 13 #[.slice (some ⟨g, A.length, none⟩) n c, adr za (num4 a b q d), .int .u32 ms] w fun e w' => InPost g 5 A Z eb e w' (stamp T [a, b, q, d] ms) ∧ w.grownBy w' (some g) := by
  have hlt := hR.lt
  have hz1 : 1 < w.heap.size := by omega
  have hz2 : 2 < w.heap.size := by omega
  have gA : w.grownBy (w.alloc (.cells #[.int .u64 0, .int .u64 (num4 a b q d), .pointer (some za)] 43)) none := gb_alloc _ _ _
  have hRa := hR.kept gA (by simp)
  have k1 := (gA.cell_far ⟨1, 0, none⟩ hz1 (by simp)).trans h1
  have k2 := (gA.cell_far ⟨2, 0, none⟩ hz2 (by simp)).trans h2
  have s0 : (w.alloc (.cells #[.int .u64 0, .int .u64 (num4 a b q d), .pointer (some za)] 43)).cell? ⟨w.heap.size, 0, none⟩ = some (.int .u64 0) := by simp
  have s1 : (w.alloc (.cells #[.int .u64 0, .int .u64 (num4 a b q d), .pointer (some za)] 43)).cell? ⟨w.heap.size, 1, none⟩ = some (.int .u64 (num4 a b q d)) := by simp
  have s2 : (w.alloc (.cells #[.int .u64 0, .int .u64 (num4 a b q d), .pointer (some za)] 43)).cell? ⟨w.heap.size, 2, none⟩ = some (.pointer (some za)) := by simp
  have hza : w.heap.size < (w.alloc (.cells #[.int .u64 0, .int .u64 (num4 a b q d), .pointer (some za)] 43)).heap.size := by simp
  go_enter Ybad.func13, Ybad.ntmps13
  by_cases h4 : n < 4
  · have hst : stamp T [a, b, q, d] ms = none := stamp_none (by omega)
    have h4i : (n : Int) < 4 := by omega
    go_wp2
    go_ret
    rw [hst]
    exact ⟨rfl, gb_some _ gA⟩
  · have h4i : 4 ≤ (n : Int) := by omega
    have y3 := hRa.cellD (A.length + 3) (by simp; omega)
    have hy := hRa.byte (A.length + 3)
    rw [getD_mid A T Z 3 (by omega)] at y3 hy
    obtain ⟨y, hyy⟩ : ∃ y, T.getD 3 0 = y := ⟨_, rfl⟩
    rw [hyy] at y3 hy
    have hand : bits .and .u8 y 15 = y % 16 := bits_mask .u8 8 (by decide) wraps_u8 4 (by decide) y hy.1 hy.2
    obtain ⟨f, hf⟩ : ∃ f, y % 16 = f := ⟨_, rfl⟩
    rw [hf] at hand
    by_cases hfx : ¬ (f = 0 ∨ f = 1 ∨ f = 3)
    · have hst : stamp T [a, b, q, d] ms = none := stamp_none (by rw [hyy]; omega)
      have e0 : (f == 0) = false := beq_eq_false_iff_ne.2 (by omega)
      have e1 : (f == 1) = false := beq_eq_false_iff_ne.2 (by omega)
      have e3 : (f == 3) = false := beq_eq_false_iff_ne.2 (by omega)
      clear hf
      go_wp2
      go_ret
      rw [hst]
      exact ⟨rfl, gb_some _ gA⟩
    · have hfx : f = 0 ∨ f = 1 ∨ f = 3 := by omega
      have h3i : 3 < (n : Int) := by omega
      rcases hfx with rfl | rfl | rfl
      · have hst := stamp_flag (T := T) (self := [a, b, q, d]) (ms := ms) (size := 4) (by omega) (by rw [hyy]; exact hf) (by omega : (0 : Int) = 0 ∧ 4 = 4 ∨ (0 : Int) = 1 ∧ 4 = 8 ∨ (0 : Int) = 3 ∧ 4 = 8)
        rw [hyy] at hst
        have Hf := hide hf
        clear hf
        go_wp2_with fail
        generalize w.alloc (.cells #[.int .u64 0, .int .u64 (num4 a b q d), .pointer (some za)] 43) = wa at *
        cases he : entry T 5 4 with
        | bad =>
          rw [he] at hst
          go_wp2_with (go_at_call 16; refine (entry_any g A.length n c 5 4 _ T Z A eb _ rfl hRa rfl hn (by omega) hc (by omega) (by omega) (by omega) (by omega) k1).mono ?_; rintro e w1 ⟨hm, hg1⟩; rw [he] at hm; obtain rfl := hm)
          go_ret
          rw [hst]
          exact ⟨rfl, gb_some _ (gb_trans gA hg1)⟩
        | full =>
          rw [he] at hst
          by_cases h15 : y / 16 = 15
          · simp only [h15, if_true] at hst
            have e15 : (y / 16 == 15) = true := beq_iff_eq.2 h15
            have Hst := hide hst
            clear hst
            go_wp2_with (go_at_call 16; refine (entry_any g A.length n c 5 4 _ T Z A eb _ rfl hRa rfl hn (by omega) hc (by omega) (by omega) (by omega) (by omega) k1).mono ?_; rintro e w1 ⟨hm, hg1⟩; rw [he] at hm; obtain rfl := hm; have t1 := (hg1.cell_far ⟨1, 0, none⟩ (Nat.lt_of_lt_of_le hz1 gA.size) (by simp)).trans k1; have t3 := (hg1.cell_far ⟨g, A.length + 3, none⟩ hRa.lt (by simp)).trans y3)
            go_ret
            rw [Hst.out]
            exact ⟨rfl, gb_some _ (gb_trans gA hg1)⟩
          · simp only [h15, if_false] at hst
            have e15 : (y / 16 == 15) = false := beq_eq_false_iff_ne.2 h15
            have wy : IntKind.u8.wrap (y + 16) = (y + 16) % 256 := IntKind.wrap_u8 _
            have Hst := hide hst
            clear hst
            go_wp2_with (go_at_call 16; refine (entry_any g A.length n c 5 4 _ T Z A eb _ rfl hRa rfl hn (by omega) hc (by omega) (by omega) (by omega) (by omega) k1).mono ?_; rintro e w1 ⟨hm, hg1⟩; rw [he] at hm; obtain rfl := hm; have t1 := (hg1.cell_far ⟨1, 0, none⟩ (Nat.lt_of_lt_of_le hz1 gA.size) (by simp)).trans k1; have t3 := (hg1.cell_far ⟨g, A.length + 3, none⟩ hRa.lt (by simp)).trans y3; have hRb := hRa.kept hg1 (by simp); have tz := hRb.frozen (A.length + 3))
            go_ret
            rw [Hst.out]
            refine ⟨⟨rfl, ?_⟩, gb_trans (gb_some _ (gb_trans gA hg1)) (gb_set _ _ _ _)⟩
            have h := hRb.set (A.length + 3) (by simp; omega) ((y + 16) % 256) (by omega) (by omega)
            rw [set_mid _ _ _ _ _ (by omega)] at h
            exact h
        | room p =>
          obtain ⟨p1, p2, p3⟩ := entry_room (by omega) he
          clear hst
          have hx := hRa.byte (A.length + 2)
          rw [getD_mid A T Z 2 (by omega)] at hx
          obtain ⟨x, hx2⟩ : ∃ x, T.getD 2 0 = x := ⟨_, rfl⟩
          rw [hx2] at hx p3
          have Hx2 := hide hx2
          clear hx2
          go_wp2_with (go_at_call 16; refine (entry_any g A.length n c 5 4 _ T Z A eb _ rfl hRa rfl hn (by omega) hc (by omega) (by omega) (by omega) (by omega) k1).mono ?_; rintro e w1 ⟨hm, hg1⟩; rw [he] at hm; obtain ⟨c1, rfl, hc1⟩ := hm; have t0 := (hg1.cell_far ⟨w.heap.size, 0, none⟩ hza (by simp)).trans s0; have t1 := (hg1.cell_far ⟨w.heap.size, 1, none⟩ hza (by simp)).trans s1; have t2 := (hg1.cell_far ⟨w.heap.size, 2, none⟩ hza (by simp)).trans s2; have z2 := (hg1.cell_far ⟨2, 0, none⟩ (Nat.lt_of_lt_of_le hz2 gA.size) (by simp)).trans k2; have hRb := hRa.kept hg1 (by simp))
          have hx1 := Hx2.out
          have hRd : ∀ n, Row (w1.drewN n) g 5 (A ++ (T ++ Z)) := fun n => hRb.kept (gb_drewN w1 n none) (by simp)
          have gD : ∀ n, w.grownBy (w1.drewN n) (some g) := fun n => gb_some _ (gb_trans (gb_trans gA hg1) (gb_drewN w1 n none))
          go_quiet (fail)
          go_wp2_with fail
          replace hRd := hRd nq
          replace gD := gD nq
          generalize w1.drewN nq = wd at *
          go_cut [76] (fun _ wk => Row wk g 5 (A ++ (splice T p (msB ms) ++ Z)) ∧ w.grownBy wk (some g))
          case first =>
            go_region_with (go_at_call 17; refine (put32 g 5 (A.length + p) 4 _ _ ms _ m0 m1 (by omega) (hRd.kept (gb_drew _ none) (by simp)) (by have := (rfl : T.length = T.length); simp; omega)).mono ?_; rintro e w2 ⟨rfl, hR2, hg3⟩)
            all_goals
              go_wp2_with fail
              go_meet
              refine ⟨?_, gb_trans gD (gb_trans (gb_drew _ _) hg3)⟩
              first | rw [splice_mid _ _ _ _ _ (by rw [(rfl : T.length = T.length)]; simp [msB]; omega)] at hR2 | rw [Nat.add_assoc, splice_mid _ _ _ _ _ (by rw [(rfl : T.length = T.length)]; simp [msB]; omega)] at hR2
              exact hR2
          case rest =>
            obtain ⟨hR4, g4⟩ := hcut
            have hsl : (splice T p (msB ms)).length = T.length := (splice_len _ _ _ (by rw [(rfl : T.length = T.length)]; simp [msB]; omega)).trans (rfl : T.length = T.length)
            have hs2 := (splice_getD T p (msB ms) 2 (by omega) (by have := (rfl : T.length = T.length); omega)).trans hx1
            have y2 := hR4.cellD (A.length + 2) (by simp; omega)
            rw [getD_mid _ _ _ 2 (by rw [hsl]; omega), hs2] at y2
            have yz := hR4.frozen (A.length + 2)
            have wx : IntKind.u8.wrap (x + 4) = (x + 4) % 256 := IntKind.wrap_u8 _
            have h := hR4.set (A.length + 2) (by simp; omega) ((x + 4) % 256) (by omega) (by omega)
            rw [set_mid _ _ _ _ _ (by rw [hsl]; omega)] at h
            have Hh := hide h
            clear h hs2
            go_wp2
            go_ret
            rw [stamp_room0 (by omega) (by rw [hyy]; exact Hf.out) he, Hx2.out]
            exact ⟨⟨rfl, Hh.out⟩, gb_trans g4 (gb_set _ _ _ _)⟩
      · have hst := stamp_flag (T := T) (self := [a, b, q, d]) (ms := ms) (size := 8) (by omega) (by rw [hyy]; exact hf) (by omega : (1 : Int) = 0 ∧ 8 = 4 ∨ (1 : Int) = 1 ∧ 8 = 8 ∨ (1 : Int) = 3 ∧ 8 = 8)
        rw [hyy] at hst
        have Hf := hide hf
        clear hf
        go_wp2_with fail
        generalize w.alloc (.cells #[.int .u64 0, .int .u64 (num4 a b q d), .pointer (some za)] 43) = wa at *
        cases he : entry T 5 8 with
        | bad =>
          rw [he] at hst
          go_wp2_with (go_at_call 16; refine (entry_any g A.length n c 5 8 _ T Z A eb _ rfl hRa rfl hn (by omega) hc (by omega) (by omega) (by omega) (by omega) k1).mono ?_; rintro e w1 ⟨hm, hg1⟩; rw [he] at hm; obtain rfl := hm)
          go_ret
          rw [hst]
          exact ⟨rfl, gb_some _ (gb_trans gA hg1)⟩
        | full =>
          rw [he] at hst
          by_cases h15 : y / 16 = 15
          · simp only [h15, if_true] at hst
            have e15 : (y / 16 == 15) = true := beq_iff_eq.2 h15
            have Hst := hide hst
            clear hst
            go_wp2_with (go_at_call 16; refine (entry_any g A.length n c 5 8 _ T Z A eb _ rfl hRa rfl hn (by omega) hc (by omega) (by omega) (by omega) (by omega) k1).mono ?_; rintro e w1 ⟨hm, hg1⟩; rw [he] at hm; obtain rfl := hm; have t1 := (hg1.cell_far ⟨1, 0, none⟩ (Nat.lt_of_lt_of_le hz1 gA.size) (by simp)).trans k1; have t3 := (hg1.cell_far ⟨g, A.length + 3, none⟩ hRa.lt (by simp)).trans y3)
            go_ret
            rw [Hst.out]
            exact ⟨rfl, gb_some _ (gb_trans gA hg1)⟩
          · simp only [h15, if_false] at hst
            have e15 : (y / 16 == 15) = false := beq_eq_false_iff_ne.2 h15
            have wy : IntKind.u8.wrap (y + 16) = (y + 16) % 256 := IntKind.wrap_u8 _
            have Hst := hide hst
            clear hst
            go_wp2_with (go_at_call 16; refine (entry_any g A.length n c 5 8 _ T Z A eb _ rfl hRa rfl hn (by omega) hc (by omega) (by omega) (by omega) (by omega) k1).mono ?_; rintro e w1 ⟨hm, hg1⟩; rw [he] at hm; obtain rfl := hm; have t1 := (hg1.cell_far ⟨1, 0, none⟩ (Nat.lt_of_lt_of_le hz1 gA.size) (by simp)).trans k1; have t3 := (hg1.cell_far ⟨g, A.length + 3, none⟩ hRa.lt (by simp)).trans y3; have hRb := hRa.kept hg1 (by simp); have tz := hRb.frozen (A.length + 3))
            go_ret
            rw [Hst.out]
            refine ⟨⟨rfl, ?_⟩, gb_trans (gb_some _ (gb_trans gA hg1)) (gb_set _ _ _ _)⟩
            have h := hRb.set (A.length + 3) (by simp; omega) ((y + 16) % 256) (by omega) (by omega)
            rw [set_mid _ _ _ _ _ (by omega)] at h
            exact h
        | room p =>
          obtain ⟨p1, p2, p3⟩ := entry_room (by omega) he
          clear hst
          have hx := hRa.byte (A.length + 2)
          rw [getD_mid A T Z 2 (by omega)] at hx
          obtain ⟨x, hx2⟩ : ∃ x, T.getD 2 0 = x := ⟨_, rfl⟩
          rw [hx2] at hx p3
          have Hx2 := hide hx2
          clear hx2
          go_wp2_with (go_at_call 16; refine (entry_any g A.length n c 5 8 _ T Z A eb _ rfl hRa rfl hn (by omega) hc (by omega) (by omega) (by omega) (by omega) k1).mono ?_; rintro e w1 ⟨hm, hg1⟩; rw [he] at hm; obtain ⟨c1, rfl, hc1⟩ := hm; have t0 := (hg1.cell_far ⟨w.heap.size, 0, none⟩ hza (by simp)).trans s0; have t1 := (hg1.cell_far ⟨w.heap.size, 1, none⟩ hza (by simp)).trans s1; have t2 := (hg1.cell_far ⟨w.heap.size, 2, none⟩ hza (by simp)).trans s2; have z2 := (hg1.cell_far ⟨2, 0, none⟩ (Nat.lt_of_lt_of_le hz2 gA.size) (by simp)).trans k2; have hRb := hRa.kept hg1 (by simp))
          have hx1 := (splice_getD T p [a, b, q, d] 2 (by omega) (by omega)).trans Hx2.out
          have hRd : ∀ n, Row (w1.drewN n) g 5 (A ++ (T ++ Z)) := fun n => hRb.kept (gb_drewN w1 n none) (by simp)
          have gD : ∀ n, w.grownBy (w1.drewN n) (some g) := fun n => gb_some _ (gb_trans (gb_trans gA hg1) (gb_drewN w1 n none))
          have hz9 : 2 < w1.heap.size := Nat.lt_of_lt_of_le hz2 (gb_trans gA hg1).size
          have hbs : ∀ y ∈ [a, b, q, d], 0 ≤ y ∧ y < 256 := by intro y hy; simp at hy; omega
          go_quiet (fail)
          replace hRd := hRd nq
          replace gD := gD nq
          replace t0 : (w1.drewN nq).cell? ⟨w.heap.size, 0, none⟩ = _ := t0
          replace t1 : (w1.drewN nq).cell? ⟨w.heap.size, 1, none⟩ = _ := t1
          replace t2 : (w1.drewN nq).cell? ⟨w.heap.size, 2, none⟩ = _ := t2
          replace z2 : (w1.drewN nq).cell? ⟨2, 0, none⟩ = _ := z2
          replace hz9 : 2 < (w1.drewN nq).heap.size := hz9
          generalize w1.drewN nq = wd at *
          go_wp2_with (first
            | (go_at_call 15; refine (as4 a b q d za _ z2 hz9 a0 a1 b0 b1 q0 q1 d0 d1).mono ?_; rintro e w2 ⟨rfl, hg2⟩; have hRc := (hRd.kept hg2 (by simp)).kept (gb_alloc w2 (.cells #[.int .u8 a, .int .u8 b, .int .u8 q, .int .u8 d] 22) none) (by simp))
            | (refine wpList_cp rfl _ _ rfl g 5 (A.length + p) 8 c1 ⟨w2.heap.size, 0, none⟩ 4 4 rfl rfl (A ++ (T ++ Z)) [a, b, q, d] hRc rfl (src4 w2 a b q d) (by simp; omega) hbs ?_; intro w3 hR3 hg3; rw [splice_mid _ _ _ _ _ (by simp; omega)] at hR3))
          simp [Act.put, goInt]
          replace gD := gb_trans (gb_trans gD (gb_some _ (gb_trans hg2 (gb_alloc _ _ _)))) hg3
          replace hRd := hR3
          go_cut [76] (fun _ wk => Row wk g 5 (A ++ (splice (splice T p [a, b, q, d]) (p + 4) (msB ms) ++ Z)) ∧ w.grownBy wk (some g))
          case first =>
            go_region_with (go_at_call 17; refine (put32 g 5 (A.length + p + 4) 4 _ _ ms _ m0 m1 (by omega) (hRd.kept (gb_drew _ none) (by simp)) (by have := (splice_len T p [a, b, q, d] (by simp; omega)); simp; omega)).mono ?_; rintro e w2 ⟨rfl, hR2, hg3⟩)
            all_goals
              go_wp2_with fail
              go_meet
              refine ⟨?_, gb_trans gD (gb_trans (gb_drew _ _) hg3)⟩
              first | rw [splice_mid _ _ _ _ _ (by rw [(splice_len T p [a, b, q, d] (by simp; omega))]; simp [msB]; omega)] at hR2 | rw [Nat.add_assoc, splice_mid _ _ _ _ _ (by rw [(splice_len T p [a, b, q, d] (by simp; omega))]; simp [msB]; omega)] at hR2
              exact hR2
          case rest =>
            obtain ⟨hR4, g4⟩ := hcut
            have hsl : (splice (splice T p [a, b, q, d]) (p + 4) (msB ms)).length = T.length := (splice_len _ _ _ (by rw [(splice_len T p [a, b, q, d] (by simp; omega))]; simp [msB]; omega)).trans (splice_len T p [a, b, q, d] (by simp; omega))
            have hs2 := (splice_getD (splice T p [a, b, q, d]) (p + 4) (msB ms) 2 (by omega) (by have := (splice_len T p [a, b, q, d] (by simp; omega)); omega)).trans hx1
            have y2 := hR4.cellD (A.length + 2) (by simp; omega)
            rw [getD_mid _ _ _ 2 (by rw [hsl]; omega), hs2] at y2
            have yz := hR4.frozen (A.length + 2)
            have wx : IntKind.u8.wrap (x + 8) = (x + 8) % 256 := IntKind.wrap_u8 _
            have h := hR4.set (A.length + 2) (by simp; omega) ((x + 8) % 256) (by omega) (by omega)
            rw [set_mid _ _ _ _ _ (by rw [hsl]; omega)] at h
            have Hh := hide h
            clear h hs2
            go_wp2
            go_ret
            rw [stamp_room1 (by omega) (by rw [hyy]; exact Hf.out) he, Hx2.out]
            exact ⟨⟨rfl, Hh.out⟩, gb_trans g4 (gb_set _ _ _ _)⟩
      · have hst := stamp_flag (T := T) (self := [a, b, q, d]) (ms := ms) (size := 8) (by omega) (by rw [hyy]; exact hf) (by omega : (3 : Int) = 0 ∧ 8 = 4 ∨ (3 : Int) = 1 ∧ 8 = 8 ∨ (3 : Int) = 3 ∧ 8 = 8)
        rw [hyy] at hst
        have Hf := hide hf
        clear hf
        go_wp2_with fail
        generalize w.alloc (.cells #[.int .u64 0, .int .u64 (num4 a b q d), .pointer (some za)] 43) = wa at *
        cases he : entry T 5 8 with
        | bad =>
          rw [he] at hst
          go_wp2_with (go_at_call 16; refine (entry_any g A.length n c 5 8 _ T Z A eb _ rfl hRa rfl hn (by omega) hc (by omega) (by omega) (by omega) (by omega) k1).mono ?_; rintro e w1 ⟨hm, hg1⟩; rw [he] at hm; obtain rfl := hm)
          go_ret
          rw [hst]
          exact ⟨rfl, gb_some _ (gb_trans gA hg1)⟩
        | full =>
          rw [he] at hst
          by_cases h15 : y / 16 = 15
          · simp only [h15, if_true] at hst
            have e15 : (y / 16 == 15) = true := beq_iff_eq.2 h15
            have Hst := hide hst
            clear hst
            go_wp2_with (go_at_call 16; refine (entry_any g A.length n c 5 8 _ T Z A eb _ rfl hRa rfl hn (by omega) hc (by omega) (by omega) (by omega) (by omega) k1).mono ?_; rintro e w1 ⟨hm, hg1⟩; rw [he] at hm; obtain rfl := hm; have t1 := (hg1.cell_far ⟨1, 0, none⟩ (Nat.lt_of_lt_of_le hz1 gA.size) (by simp)).trans k1; have t3 := (hg1.cell_far ⟨g, A.length + 3, none⟩ hRa.lt (by simp)).trans y3)
            go_ret
            rw [Hst.out]
            exact ⟨rfl, gb_some _ (gb_trans gA hg1)⟩
          · simp only [h15, if_false] at hst
            have e15 : (y / 16 == 15) = false := beq_eq_false_iff_ne.2 h15
            have wy : IntKind.u8.wrap (y + 16) = (y + 16) % 256 := IntKind.wrap_u8 _
            have Hst := hide hst
            clear hst
            go_wp2_with (go_at_call 16; refine (entry_any g A.length n c 5 8 _ T Z A eb _ rfl hRa rfl hn (by omega) hc (by omega) (by omega) (by omega) (by omega) k1).mono ?_; rintro e w1 ⟨hm, hg1⟩; rw [he] at hm; obtain rfl := hm; have t1 := (hg1.cell_far ⟨1, 0, none⟩ (Nat.lt_of_lt_of_le hz1 gA.size) (by simp)).trans k1; have t3 := (hg1.cell_far ⟨g, A.length + 3, none⟩ hRa.lt (by simp)).trans y3; have hRb := hRa.kept hg1 (by simp); have tz := hRb.frozen (A.length + 3))
            go_ret
            rw [Hst.out]
            refine ⟨⟨rfl, ?_⟩, gb_trans (gb_some _ (gb_trans gA hg1)) (gb_set _ _ _ _)⟩
            have h := hRb.set (A.length + 3) (by simp; omega) ((y + 16) % 256) (by omega) (by omega)
            rw [set_mid _ _ _ _ _ (by omega)] at h
            exact h
        | room p =>
          obtain ⟨p1, p2, p3⟩ := entry_room (by omega) he
          clear hst
          have hx := hRa.byte (A.length + 2)
          rw [getD_mid A T Z 2 (by omega)] at hx
          obtain ⟨x, hx2⟩ : ∃ x, T.getD 2 0 = x := ⟨_, rfl⟩
          rw [hx2] at hx p3
          have Hx2 := hide hx2
          clear hx2
          go_wp2_with (go_at_call 16; refine (entry_any g A.length n c 5 8 _ T Z A eb _ rfl hRa rfl hn (by omega) hc (by omega) (by omega) (by omega) (by omega) k1).mono ?_; rintro e w1 ⟨hm, hg1⟩; rw [he] at hm; obtain ⟨c1, rfl, hc1⟩ := hm; have t0 := (hg1.cell_far ⟨w.heap.size, 0, none⟩ hza (by simp)).trans s0; have t1 := (hg1.cell_far ⟨w.heap.size, 1, none⟩ hza (by simp)).trans s1; have t2 := (hg1.cell_far ⟨w.heap.size, 2, none⟩ hza (by simp)).trans s2; have z2 := (hg1.cell_far ⟨2, 0, none⟩ (Nat.lt_of_lt_of_le hz2 gA.size) (by simp)).trans k2; have hRb := hRa.kept hg1 (by simp))
          have hb0 := hRa.byte (A.length + p)
          have hb1 := hRa.byte (A.length + (p + 1))
          have hb2 := hRa.byte (A.length + (p + 2))
          have hb3 := hRa.byte (A.length + (p + 3))
          have e0 := hRb.cellD (A.length + p) (by simp; omega)
          have e1 := hRb.cellD (A.length + (p + 1)) (by simp; omega)
          have e2 := hRb.cellD (A.length + (p + 2)) (by simp; omega)
          have e3 := hRb.cellD (A.length + (p + 3)) (by simp; omega)
          rw [getD_mid A T Z _ (by omega)] at hb0 hb1 hb2 hb3 e0 e1 e2 e3
          obtain ⟨x0, hy0⟩ : ∃ x0, T.getD p 0 = x0 := ⟨_, rfl⟩
          rw [hy0] at hb0 e0
          have Hy0 := hide hy0
          clear hy0
          obtain ⟨x1, hy1⟩ : ∃ x1, T.getD (p + 1) 0 = x1 := ⟨_, rfl⟩
          rw [hy1] at hb1 e1
          have Hy1 := hide hy1
          clear hy1
          obtain ⟨x2, hy2⟩ : ∃ x2, T.getD (p + 2) 0 = x2 := ⟨_, rfl⟩
          rw [hy2] at hb2 e2
          have Hy2 := hide hy2
          clear hy2
          obtain ⟨x3, hy3⟩ : ∃ x3, T.getD (p + 3) 0 = x3 := ⟨_, rfl⟩
          rw [hy3] at hb3 e3
          have Hy3 := hide hy3
          clear hy3
          rw [← Nat.add_assoc] at e1 e2 e3
          have hz9 : 2 < w1.heap.size := Nat.lt_of_lt_of_le hz2 (gb_trans gA hg1).size
          have hza1 : w.heap.size < w1.heap.size := Nat.lt_of_lt_of_le hza hg1.size
          have e38 : ∀ u, (Op.equalIn 9999 38 (.agg #[.int .u64 0, .int .u64 (num4 x0 x1 x2 x3)]) (.agg #[.int .u64 0, .int .u64 (num4 a b q d)])).run Ybad.prog u = .ok (num4 x0 x1 x2 x3 == num4 a b q d) u := fun u => equalIn38 u 9997 _ _
          have e41 : ∀ u, (Op.equalIn 9999 41 (.agg #[.pointer (some za)]) (.agg #[.pointer (some za)])).run Ybad.prog u = .ok true u := fun u => equalIn41 u 9997 za
          go_cut [51] (fun s51 wk => s51 = .bool (num4 x0 x1 x2 x3 != num4 a b q d) ∧ w1.grownBy wk none)
          case first =>
            cases hq : (num4 x0 x1 x2 x3 == num4 a b q d)
            · rw [hq] at e38
              go_region_with (go_at_call 9; refine (from4 x0 x1 x2 x3 za w1.drew z2 hz9 hb0.1 hb0.2 hb1.1 hb1.2 hb2.1 hb2.2 hb3.1 hb3.2).mono ?_; rintro e w2 ⟨rfl, hg2⟩; have u0 := (hg2.cell_far ⟨w.heap.size, 0, none⟩ hza1 (by simp)).trans (show w1.drew.cell? _ = _ from t0); have u1 := (hg2.cell_far ⟨w.heap.size, 1, none⟩ hza1 (by simp)).trans (show w1.drew.cell? _ = _ from t1); have u2 := (hg2.cell_far ⟨w.heap.size, 2, none⟩ hza1 (by simp)).trans (show w1.drew.cell? _ = _ from t2))
              all_goals (go_wp2_with fail; go_meet; exact ⟨by simp [bne, hq], gb_trans (gb_drew _ _) hg2⟩)
            · rw [hq] at e38
              go_region_with (go_at_call 9; refine (from4 x0 x1 x2 x3 za w1.drew z2 hz9 hb0.1 hb0.2 hb1.1 hb1.2 hb2.1 hb2.2 hb3.1 hb3.2).mono ?_; rintro e w2 ⟨rfl, hg2⟩; have u0 := (hg2.cell_far ⟨w.heap.size, 0, none⟩ hza1 (by simp)).trans (show w1.drew.cell? _ = _ from t0); have u1 := (hg2.cell_far ⟨w.heap.size, 1, none⟩ hza1 (by simp)).trans (show w1.drew.cell? _ = _ from t1); have u2 := (hg2.cell_far ⟨w.heap.size, 2, none⟩ hza1 (by simp)).trans (show w1.drew.cell? _ = _ from t2))
              all_goals (go_wp2_with fail; go_meet; exact ⟨by simp [bne, hq], gb_trans (gb_drew _ _) hg2⟩)
          case rest =>
          obtain ⟨hs51, gC⟩ := hcut
          have hRd := hRb.kept gC (by simp)
          have gD := gb_some (some g) (gb_trans (gb_trans gA hg1) gC)
          clear e38 e41 e0 e1 e2 e3 t0 t1 t2
          by_cases hq : num4 x0 x1 x2 x3 = num4 a b q d
          · obtain ⟨q0e, q1e, q2e, q3e⟩ := num4_inj hq hb0 hb1 hb2 hb3 ⟨a0, a1⟩ ⟨b0, b1⟩ ⟨q0, q1⟩ ⟨d0, d1⟩
            have hsv : (num4 x0 x1 x2 x3 != num4 a b q d) = false := by simp [bne, hq]
            rw [hsv] at hs51
            subst hs51
            have hx1 := Hx2.out
            clear hq hsv
            go_wp2_with fail
            go_cut [76] (fun _ wk => Row wk g 5 (A ++ (splice T (p + 4) (msB ms) ++ Z)) ∧ w.grownBy wk (some g))
            case first =>
              go_region_with (go_at_call 17; refine (put32 g 5 (A.length + p + 4) 4 _ _ ms _ m0 m1 (by omega) (hRd.kept (gb_drew _ none) (by simp)) (by have := (rfl : T.length = T.length); simp; omega)).mono ?_; rintro e w2 ⟨rfl, hR2, hg3⟩)
              all_goals
                go_wp2_with fail
                go_meet
                refine ⟨?_, gb_trans gD (gb_trans (gb_drew _ _) hg3)⟩
                first | rw [splice_mid _ _ _ _ _ (by rw [(rfl : T.length = T.length)]; simp [msB]; omega)] at hR2 | rw [Nat.add_assoc, splice_mid _ _ _ _ _ (by rw [(rfl : T.length = T.length)]; simp [msB]; omega)] at hR2
                exact hR2
            case rest =>
              obtain ⟨hR4, g4⟩ := hcut
              have hsl : (splice T (p + 4) (msB ms)).length = T.length := (splice_len _ _ _ (by rw [(rfl : T.length = T.length)]; simp [msB]; omega)).trans (rfl : T.length = T.length)
              have hs2 := (splice_getD T (p + 4) (msB ms) 2 (by omega) (by have := (rfl : T.length = T.length); omega)).trans hx1
              have y2 := hR4.cellD (A.length + 2) (by simp; omega)
              rw [getD_mid _ _ _ 2 (by rw [hsl]; omega), hs2] at y2
              have yz := hR4.frozen (A.length + 2)
              have wx : IntKind.u8.wrap (x + 8) = (x + 8) % 256 := IntKind.wrap_u8 _
              have h := hR4.set (A.length + 2) (by simp; omega) ((x + 8) % 256) (by omega) (by omega)
              rw [set_mid _ _ _ _ _ (by rw [hsl]; omega)] at h
              have Hh := hide h
              clear h hs2
              go_wp2
              go_ret
              rw [stamp_room3 (by omega) (by rw [hyy]; exact Hf.out) he (by rw [take4 T p (by omega), Hy0.out, Hy1.out, Hy2.out, Hy3.out, q0e, q1e, q2e, q3e]), Hx2.out]
              exact ⟨⟨rfl, Hh.out⟩, gb_trans g4 (gb_set _ _ _ _)⟩
          · have hsv : (num4 x0 x1 x2 x3 != num4 a b q d) = true := by simp [bne, hq]
            rw [hsv] at hs51
            subst hs51
            go_wp2
            go_ret
            rw [stamp_other (by omega) (by rw [hyy]; exact Hf.out) he (by rw [take4 T p (by omega), Hy0.out, Hy1.out, Hy2.out, Hy3.out]; intro hh; simp only [List.cons.injEq, and_true] at hh; obtain ⟨rfl, rfl, rfl, rfl⟩ := hh; exact hq rfl)]
            exact ⟨⟨rfl, hRd⟩, gD⟩
end Go.Proofs.YbulkblgyDoor
