/- LawS3101B*: NewTemplate (8) of fields of the law, no scope fields. -/
import Derived.Test.YbulkbleuFmtGrp2
import Derived.Test.YbulkbleuFmtTpl
import Derived.Test.YbulkbleuFmtNew
namespace Go.Proofs.YbulkbleuFmt.B
open Go.RowKit
/-- The template while it is made: block w.heap.size. -/
structure T8 (w wr : World) (tid : Int) (fv : Value) (S : Int) : Prop where
  below : Below w.heap.size w wr
  size : w.heap.size < wr.heap.size
  c0 : wr.cell? ⟨w.heap.size, 0, none⟩ = some (.int .u16 tid)
  c1 : wr.cell? ⟨w.heap.size, 1, none⟩ = some fv
  c2 : wr.cell? ⟨w.heap.size, 2, none⟩ = some (.int .i64 0)
  c3 : wr.cell? ⟨w.heap.size, 3, none⟩ = some (.int .i64 S)
  r4 : ∃ u, wr.cell? ⟨w.heap.size, 4, none⟩ = some u
  r5 : ∃ u, wr.cell? ⟨w.heap.size, 5, none⟩ = some u
  fz : ∀ j, wr.frozen? ⟨w.heap.size, j, none⟩ = false
theorem T8.kept {w wr wr' : World} {tid : Int} {fv : Value} {S : Int} (h : T8 w wr tid fv S) (hb : Below (w.heap.size + 1) wr wr') : T8 w wr' tid fv S := by
  have hc : ∀ j, wr'.cell? ⟨w.heap.size, j, none⟩ = wr.cell? ⟨w.heap.size, j, none⟩ := fun j => hb.cell (p := ⟨w.heap.size, j, none⟩) (Nat.lt_succ_self _)
  exact ⟨h.below.trans (hb.mono (by omega)), Nat.lt_of_lt_of_le h.size hb.size, (hc 0).trans h.c0, (hc 1).trans h.c1, (hc 2).trans h.c2, (hc 3).trans h.c3, by rw [hc]; exact h.r4, by rw [hc]; exact h.r5, fun j => (hb.frozen (p := ⟨w.heap.size, j, none⟩) (Nat.lt_succ_self _)).trans (h.fz j)⟩
theorem T8.set3 {w wr : World} {tid : Int} {fv : Value} {S : Int} (h : T8 w wr tid fv S) (S' : Int) : T8 w (wr.setCell ⟨w.heap.size, 3, none⟩ (.int .i64 S')) tid fv S' := by
  have hc : ∀ j, j ≠ 3 → (wr.setCell ⟨w.heap.size, 3, none⟩ (.int .i64 S')).cell? ⟨w.heap.size, j, none⟩ = wr.cell? ⟨w.heap.size, j, none⟩ := fun j hj => World.cell?_setCell_other _ _ _ _ (by intro e; simp only [Addr.mk.injEq] at e; omega)
  exact ⟨h.below.setCell (Nat.le_refl _) _, by simpa using h.size, (hc 0 (by omega)).trans h.c0, (hc 1 (by omega)).trans h.c1, (hc 2 (by omega)).trans h.c2, World.cell?_setCell_same _ _ _ h.c3, by rw [hc 4 (by omega)]; exact h.r4, by rw [hc 5 (by omega)]; exact h.r5, fun j => by rw [World.frozen?_setCell]; exact h.fz j⟩
theorem T8.setOver {w wr : World} {tid : Int} {fv : Value} {S : Int} (h : T8 w wr tid fv S) (j : Nat) (hj : 3 < j) (v : Value) : T8 w (wr.setCell ⟨w.heap.size, j, none⟩ v) tid fv S := by
  have hc : ∀ i, i ≤ 3 → (wr.setCell ⟨w.heap.size, j, none⟩ v).cell? ⟨w.heap.size, i, none⟩ = wr.cell? ⟨w.heap.size, i, none⟩ := fun i hi => World.cell?_setCell_other _ _ _ _ (by intro e; simp only [Addr.mk.injEq] at e; omega)
  obtain ⟨u4, h4⟩ := h.r4
  obtain ⟨u5, h5⟩ := h.r5
  exact ⟨h.below.setCell (Nat.le_refl _) _, by simpa using h.size, (hc 0 (by omega)).trans h.c0, (hc 1 (by omega)).trans h.c1, (hc 2 (by omega)).trans h.c2, (hc 3 (by omega)).trans h.c3, cell?_setCell_some h4, cell?_setCell_some h5, fun j => by rw [World.frozen?_setCell]; exact h.fz j⟩
theorem T8.drew {w wr : World} {tid : Int} {fv : Value} {S : Int} (h : T8 w wr tid fv S) : T8 w wr.drew tid fv S := ⟨h.below.drew, h.size, h.c0, h.c1, h.c2, h.c3, h.r4, h.r5, h.fz⟩
theorem made8 (w : World) (tid : Int) (fv : Value) (more : List Value) : T8 w (w.alloc (.cells (Value.int .u16 tid :: fv :: .int .i64 0 :: .int .i64 0 :: .slice none 0 0 :: .pointer none :: more).toArray 85)) tid fv 0 := by
  refine ⟨(Below.refl _ w).alloc (Nat.le_refl _) _, by simp, ?_, ?_, ?_, ?_, ⟨.slice none 0 0, ?_⟩, ⟨.pointer none, ?_⟩, fun j => ?_⟩
  iterate 6 (rw [cell_of_row _ _ _ _ 85 (0, 0) (heap_alloc_new w _)]; rfl)
  rw [frozen?_alloc_cells]; simp [World.frozen?]

set_option maxRecDepth 100000 in
set_option maxHeartbeats 1000000 in
theorem template_any (fb : Nat) (tid : Int) (fs : List (Int × Int)) (w : World) (hF : Hid (FsAt w fb fs)) (hwf : Hid (FsWf fs)) (hk1 : 1 ≤ fs.length) (hk : fs.length ≤ 4) (hfb : fb < w.heap.size) :
    Calls Ybaf.prog 8 #[.int .u16 tid, .int .i64 0, .slice (some ⟨fb, 0, none⟩) fs.length fs.length] w fun e w' => e = .returned (.tuple #[.pointer (some ⟨w.heap.size, 0, none⟩), .nilIface]) ∧ Below w.heap.size w w' ∧ w.heap.size < w'.heap.size ∧ Tpl w' w.heap.size fb tid fs := by
  have hT := made8 w tid (.slice (some ⟨fb, 0, none⟩) fs.length fs.length) [.slice none 0 0, .int .u64 0, .int .u64 0, .int .i64 0, .pointer none]
  go_enter Ybaf.func8, Ybaf.ntmps8
  go_wp2
  generalize (w.alloc _) = w1 at *
  go_loopw [36] (fun s36 wr => ∃ i : Nat, i ≤ fs.length ∧ s36 = .int .i64 i ∧ T8 w wr tid (.slice (some ⟨fb, 0, none⟩) fs.length fs.length) (sumL (fs.take i))) (fun s36 _ => fs.length - (intOf s36).toNat)
  case atStart => exact ⟨0, by omega, rfl, hT⟩
  case round =>
    obtain ⟨i, hi, rfl, h1⟩ := hrel
    clear hT
    have hbd := sumL_bd (fs.take i) (hwf.out.take i)
    rw [List.length_take] at hbd
    by_cases hlt : i < fs.length
    · obtain ⟨p0, p1, p2⟩ := (hF.out.below hfb h1.below) i hlt
      have hw1 := hwf.out _ (List.getElem_mem hlt)
      have Hs : Hid (sumL (fs.take (i + 1)) = sumL (fs.take i) + (fs[i]).2) := by
        show _ = _
        rw [List.take_succ_eq_append_getElem hlt, sumL_snoc]
      generalize fs[i] = f at *
      generalize sumL (fs.take i) = S at *
      obtain ⟨_, _, f0, f1⟩ := hw1
      have hz := h1.size
      have h2 := h1.kept ((Below.refl _ wr).alloc (by omega) (.cells #[.int .u32 0, .int .u16 f.1, .int .u16 f.2] 76))
      have c3 := h2.c3
      have z3 := h2.fz 3
      have hil : (i : Int) < (fs.length : Int) := by omega
      have hne : (f.2 == 65535) = false := beq_eq_false_iff_ne.2 (by omega)
      generalize hw2 : (wr.alloc (.cells #[.int .u32 0, .int .u16 f.1, .int .u16 f.2] 76)) = w2 at *
      have d3 : w2.drew.cell? ⟨w.heap.size, 3, none⟩ = some (.int .i64 S) := c3
      have e3 : w2.drew.frozen? ⟨w.heap.size, 3, none⟩ = false := z3
      have n2 : w2.drew.cell? ⟨wr.heap.size, 2, none⟩ = some (.int .u16 f.2) := by rw [← hw2]; simp
      rw [← hw2] at c3 z3 d3 e3 n2
      clear hw2 h2
      have h4 := ((h1.set3 (S + f.2)).kept ((Below.refl _ _).alloc (by simp; omega) (.cells #[.int .u32 0, .int .u16 f.1, .int .u16 f.2] 76))).drew
      go_wp2
      go_region
      all_goals go_wp2
      all_goals exact ⟨⟨i + 1, by omega, by go_num, by rw [Hs.out]; exact h4⟩, by simp [intOf]; omega⟩
    · obtain rfl : fs.length = i := by omega
      rw [List.take_length] at h1 hbd
      have c3 := h1.c3
      have hz := h1.size
      have hb0 := h1.below.size
      have hF1 : Hid (FsAt wr fb fs) := hide (hF.out.below hfb h1.below)
      have hil : ¬ (fs.length : Int) < (fs.length : Int) := by omega
      have hne : (sumL fs == 0) = false := beq_eq_false_iff_ne.2 (by omega)
      have hgt : ¬ sumL fs > 65515 := by omega
      have hgt2 : ¬ 65515 < sumL fs := by omega
      generalize hS : sumL fs = S at *
      clear hS
      go_wp2_with (first
        | (go_at_call 25; go_must (refine (group_any fb fs.length fs _ hF1 hwf hk1 hk (Nat.lt_of_lt_of_le hfb hb0)).mono ?_); rintro e w2 ⟨A, n, rfl, hb2⟩; have h2 := h1.kept (hb2.mono (by omega)); obtain ⟨u4, c4⟩ := h2.r4; have z4 := h2.fz 4; have h3 := h2.setOver 4 (by omega) (.slice (some ⟨A, 0, none⟩) n n); obtain ⟨u5, c5⟩ := h3.r5; have z5 := h3.fz 5; have h4 := h3.setOver 5 (by omega) (.pointer none); have h5 := hide h4; clear h4)
        | (go_at_call 26; go_must (refine (layout_none _ _).mono ?_); rintro e w3 ⟨rfl, rfl⟩))
      go_ret2
      have h6 := h5.out
      exact ⟨rfl, h6.below, h6.size, h6.c0, h6.c1, h6.c2, hF.out.below hfb h6.below⟩
end Go.Proofs.YbulkbleuFmt.B
