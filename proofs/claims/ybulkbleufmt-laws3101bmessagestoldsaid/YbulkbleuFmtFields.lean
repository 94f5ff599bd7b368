/- LawS3101B*: the fields of the template: zzs3101bfields, zzs3101bsizes. -/
import Derived.Test.YbulkbleuFmtBuf
import Derived.WalkLawsBesides
import Derived.OpenShut
import Derived.BigQuiet
import Derived.Deep.QuietTactic
import Derived.Deep.DeepCutAuto
namespace Go.Proofs.YbulkbleuFmt.B
open Go.RowKit

def Hid (p : Prop) : Prop := p
theorem hide {p : Prop} (h : p) : Hid p := h
theorem Hid.out {p : Prop} (h : Hid p) : p := h

/-- The fields as plain data: element id and length. -/
def FsWf (fs : List (Int × Int)) : Prop := ∀ f ∈ fs, 0 ≤ f.1 ∧ f.1 < 65536 ∧ 1 ≤ f.2 ∧ f.2 ≤ 8
/-- The fields as they lie in block fb. -/
def FsAt (w : World) (fb : Nat) (fs : List (Int × Int)) : Prop := ∀ i (h : i < fs.length), w.cell? ⟨fb, i * 3, none⟩ = some (.int .u32 0) ∧ w.cell? ⟨fb, i * 3 + 1, none⟩ = some (.int .u16 (fs[i]).1) ∧ w.cell? ⟨fb, i * 3 + 2, none⟩ = some (.int .u16 (fs[i]).2)
def sumL : List (Int × Int) → Int
  | [] => 0
  | f :: fs => f.2 + sumL fs
theorem sumL_snoc (f : Int × Int) : ∀ fs, sumL (fs ++ [f]) = sumL fs + f.2
  | [] => by simp [sumL]
  | g :: fs => by simp only [List.cons_append, sumL, sumL_snoc f fs]; omega
theorem sumL_bd : ∀ fs, FsWf fs → (fs.length : Int) ≤ sumL fs ∧ sumL fs ≤ 8 * fs.length
  | [], _ => by simp [sumL]
  | f :: fs, h => by
    have h1 := h f (by simp)
    have h2 := sumL_bd fs (fun g hg => h g (by simp [hg]))
    simp only [sumL, List.length_cons]; omega
theorem FsWf.take {fs : List (Int × Int)} (h : FsWf fs) (i : Nat) : FsWf (fs.take i) := fun f hf => h f (List.mem_of_mem_take hf)
theorem FsAt.below {w w' : World} {fb N : Nat} {fs : List (Int × Int)} (h : FsAt w fb fs) (hN : fb < N) (hb : Below N w w') : FsAt w' fb fs := fun i hi => by
  obtain ⟨a, b, c⟩ := h i hi
  exact ⟨(hb.cell (p := ⟨fb, i * 3, none⟩) hN).trans a, (hb.cell (p := ⟨fb, i * 3 + 1, none⟩) hN).trans b, (hb.cell (p := ⟨fb, i * 3 + 2, none⟩) hN).trans c⟩

set_option maxRecDepth 100000 in
theorem sizes_any (fb c : Nat) (fs : List (Int × Int)) (w : World) (hF : Hid (FsAt w fb fs)) (hwf : Hid (FsWf fs)) (hk : fs.length ≤ 4) :
    Calls Ybaf.prog 9 #[.slice (some ⟨fb, 0, none⟩) fs.length c] w fun e w' => e = .returned (.tuple #[.int .i64 (sumL fs), .int .i64 (4 + 4 * fs.length)]) ∧ w = w' := by
  go_enter Ybaf.func9, Ybaf.ntmps9
  go_wp2
  go_loopw [4, 5] (fun s4 s5 wr => ∃ i : Nat, i ≤ fs.length ∧ s5 = .int .i64 i ∧ s4 = .int .i64 (sumL (fs.take i)) ∧ w = wr) (fun _ s5 _ => fs.length - (intOf s5).toNat)
  case atStart => exact ⟨0, by omega, rfl, rfl, rfl⟩
  case round =>
    obtain ⟨i, hi, rfl, rfl, rfl⟩ := hrel
    have hbd := sumL_bd (fs.take i) (hwf.out.take i)
    rw [List.length_take] at hbd
    by_cases hlt : i < fs.length
    · obtain ⟨_, _, p2⟩ := hF.out i hlt
      have hw1 := hwf.out _ (List.getElem_mem hlt)
      have Hs : Hid (sumL (fs.take (i + 1)) = sumL (fs.take i) + (fs[i]).2) := by
        show _ = _
        rw [List.take_succ_eq_append_getElem hlt, sumL_snoc]
      generalize fs[i] = f at *
      generalize sumL (fs.take i) = S at *
      obtain ⟨_, _, f0, f1⟩ := hw1
      go_wp2
      exact ⟨⟨i + 1, by omega, by go_num, by rw [Hs.out], by first | rfl | trivial⟩, by simp [intOf]; omega⟩
    · obtain rfl : fs.length = i := by omega
      rw [List.take_length] at hbd ⊢
      go_wp2
      go_ret2
      exact ⟨rfl, rfl⟩
theorem info76 : (Ybaf.prog.info? 76).map (fun i => (i.zero, i.size, i.bytes)) = some (some (.agg #[.int .u32 0, .int .u16 0, .int .u16 0]), 3, 8) := by kernel_rfl
theorem run_fields (w : World) (n : Nat) (hn : n ≤ 100) :
    (Instr.makeSlice 26 (.int .i64 n) (.int .i64 n)).run Ybaf.prog w = .ok (.slice (some ⟨w.heap.size, 0, none⟩) n n) (w.alloc (.cells (madeCells #[.int .u32 0, .int .u16 0, .int .u16 0] (n * 3)) 76)) := by
  obtain ⟨i, hi, hz, hs, hb⟩ := info_parts info76
  have := run_make (P := Ybaf.prog) w 26 76 i _ Ybaf.underlying26 hi hz .i64 .i64 n n (by omega) (Int.le_refl _) (by rw [hb]; omega) (by omega)
  simpa [hs, Value.cells] using this

/-- What is told of a slice of uint16 that came in. -/
def IsWords (w : World) (a : Option Addr) (n : Nat) : Prop := n = 0 ∨ ∃ (g o : Nat) (f : Nat → Int), a = some ⟨g, o, none⟩ ∧ g < w.heap.size ∧ ∀ i, i < n → (0 ≤ f i ∧ f i < 65536) ∧ w.cell? ⟨g, o + i, none⟩ = some (.int .u16 (f i))
def IsOctets (w : World) (a : Option Addr) (n : Nat) : Prop := n = 0 ∨ ∃ (g o : Nat) (f : Nat → Int), a = some ⟨g, o, none⟩ ∧ g < w.heap.size ∧ ∀ i, i < n → (0 ≤ f i ∧ f i < 256) ∧ w.cell? ⟨g, o + i, none⟩ = some (.int .u8 (f i))

/-- The block of fields while it is filled: the first of them are laid. -/
structure Filling (w wr : World) (fb k : Nat) (fs : List (Int × Int)) : Prop where
  below : Below w.heap.size w wr
  ge : w.heap.size ≤ fb
  at_ : FsAt wr fb fs
  wf : FsWf fs
  room : ∀ j, j < k * 3 → ∃ u, wr.cell? ⟨fb, j, none⟩ = some u
  frz : ∀ j, wr.frozen? ⟨fb, j, none⟩ = false

theorem Filling.store {w wr : World} {fb k : Nat} {fs : List (Int × Int)} (h : Filling w wr fb k fs) (hk : fs.length < k) (x y : Int) (hx : 0 ≤ x ∧ x < 65536) (hy : 1 ≤ y ∧ y ≤ 8) :
    Filling w (((wr.setCell ⟨fb, fs.length * 3, none⟩ (.int .u32 0)).setCell ⟨fb, fs.length * 3 + 1, none⟩ (.int .u16 x)).setCell ⟨fb, fs.length * 3 + 2, none⟩ (.int .u16 y)) fb k (fs ++ [(x, y)]) := by
  obtain ⟨u0, c0⟩ := h.room (fs.length * 3) (by omega)
  obtain ⟨u1, c1⟩ := h.room (fs.length * 3 + 1) (by omega)
  obtain ⟨u2, c2⟩ := h.room (fs.length * 3 + 2) (by omega)
  have far : ∀ j, j < fs.length * 3 ∨ fs.length * 3 + 2 < j → (((wr.setCell ⟨fb, fs.length * 3, none⟩ (.int .u32 0)).setCell ⟨fb, fs.length * 3 + 1, none⟩ (.int .u16 x)).setCell ⟨fb, fs.length * 3 + 2, none⟩ (.int .u16 y)).cell? ⟨fb, j, none⟩ = wr.cell? ⟨fb, j, none⟩ := by
    intro j hj
    rw [World.cell?_setCell_other _ _ _ _ (by intro e; simp only [Addr.mk.injEq] at e; omega), World.cell?_setCell_other _ _ _ _ (by intro e; simp only [Addr.mk.injEq] at e; omega), World.cell?_setCell_other _ _ _ _ (by intro e; simp only [Addr.mk.injEq] at e; omega)]
  have n0 : (((wr.setCell ⟨fb, fs.length * 3, none⟩ (.int .u32 0)).setCell ⟨fb, fs.length * 3 + 1, none⟩ (.int .u16 x)).setCell ⟨fb, fs.length * 3 + 2, none⟩ (.int .u16 y)).cell? ⟨fb, fs.length * 3, none⟩ = some (.int .u32 0) := by
    rw [World.cell?_setCell_other _ _ _ _ (by simp), World.cell?_setCell_other _ _ _ _ (by simp), World.cell?_setCell_same _ _ _ c0]
  have n1 : (((wr.setCell ⟨fb, fs.length * 3, none⟩ (.int .u32 0)).setCell ⟨fb, fs.length * 3 + 1, none⟩ (.int .u16 x)).setCell ⟨fb, fs.length * 3 + 2, none⟩ (.int .u16 y)).cell? ⟨fb, fs.length * 3 + 1, none⟩ = some (.int .u16 x) := by
    rw [World.cell?_setCell_other _ _ _ _ (by simp), World.cell?_setCell_same (u := u1)]
    rw [World.cell?_setCell_other _ _ _ _ (by simp)]; exact c1
  have n2 : (((wr.setCell ⟨fb, fs.length * 3, none⟩ (.int .u32 0)).setCell ⟨fb, fs.length * 3 + 1, none⟩ (.int .u16 x)).setCell ⟨fb, fs.length * 3 + 2, none⟩ (.int .u16 y)).cell? ⟨fb, fs.length * 3 + 2, none⟩ = some (.int .u16 y) := by
    rw [World.cell?_setCell_same (u := u2)]
    rw [World.cell?_setCell_other _ _ _ _ (by simp), World.cell?_setCell_other _ _ _ _ (by simp)]; exact c2
  refine ⟨((h.below.setCell h.ge _).setCell h.ge _).setCell h.ge _, h.ge, fun i hi => ?_, fun f hf => ?_, fun j hj => ?_, fun j => by rw [World.frozen?_setCell, World.frozen?_setCell, World.frozen?_setCell]; exact h.frz j⟩
  · rw [List.length_append] at hi
    by_cases hlt : i < fs.length
    · rw [List.getElem_append_left hlt, far _ (by omega), far _ (by omega), far _ (by omega)]
      exact h.at_ i hlt
    · obtain rfl : fs.length = i := by simp at hi; omega
      simp only [List.getElem_concat_length]
      exact ⟨n0, n1, n2⟩
  · rcases List.mem_append.1 hf with e | e
    · exact h.wf f e
    · simp at e; subst e; exact ⟨hx.1, hx.2, hy.1, hy.2⟩
  · by_cases e0 : j < fs.length * 3
    · rw [far j (.inl e0)]; exact h.room j hj
    by_cases e1 : j = fs.length * 3
    · subst e1; exact ⟨_, n0⟩
    by_cases e2 : j = fs.length * 3 + 1
    · subst e2; exact ⟨_, n1⟩
    by_cases e3 : j = fs.length * 3 + 2
    · subst e3; exact ⟨_, n2⟩
    · rw [far j (by omega)]; exact h.room j hj

set_option maxRecDepth 100000 in
set_option maxHeartbeats 1000000 in
theorem fields_any (a b : Option Addr) (n ca m cb : Nat) (w : World) (ha : Hid (IsWords w a n)) (hb : Hid (IsOctets w b m)) :
    Calls Ybaf.prog 7 #[.slice a n ca, .slice b m cb] w fun e w' => ∃ fs, FsWf fs ∧ 1 ≤ fs.length ∧ fs.length ≤ 4 ∧ e = .returned (.slice (some ⟨w.heap.size, 0, none⟩) fs.length fs.length) ∧ Below w.heap.size w w' ∧ w.heap.size < w'.heap.size ∧ FsAt w' w.heap.size fs := by
  obtain ⟨j, hj4, hj⟩ : ∃ j : Nat, j ≤ 4 ∧ ((4 < n ∧ j = 4) ∨ (n ≤ 4 ∧ j = n)) := by
    by_cases h4 : 4 < n
    · exact ⟨4, by omega, .inl ⟨h4, rfl⟩⟩
    · exact ⟨n, by omega, .inr ⟨by omega, rfl⟩⟩
  obtain ⟨k, hk1, hk4, hk⟩ : ∃ k : Nat, 1 ≤ k ∧ k ≤ 4 ∧ ((j = 0 ∧ k = 1) ∨ (1 ≤ j ∧ k = j)) := by
    by_cases h0 : j = 0
    · exact ⟨1, by omega, by omega, .inl ⟨h0, rfl⟩⟩
    · exact ⟨j, by omega, by omega, .inr ⟨by omega, rfl⟩⟩
  have hkn : k ≤ n ∨ (n = 0 ∧ k = 1) := by omega
  have Hkn := hide hkn
  have hmk := run_fields w k (by omega)
  go_enter Ybaf.func7, Ybaf.ntmps7
  go_upto_if 13 with fail
  go_cut [5] (fun s5 wk => s5 = .int .i64 j ∧ w = wk)
  case first =>
    rcases hj with ⟨h1, rfl⟩ | ⟨h1, rfl⟩
    · have z : (4 : Int) < (n : Int) := by omega
      go_wp2
      go_meet; exact ⟨rfl, rfl⟩
    · have z : ¬ (4 : Int) < (j : Int) := by omega
      go_wp2
      go_meet; exact ⟨rfl, rfl⟩
  case rest =>
    obtain ⟨rfl, rfl⟩ := hcut
    go_upto_if 15 with fail
    go_cut [5] (fun s5 wk => s5 = .int .i64 k ∧ w = wk)
    case first =>
      rcases hk with ⟨rfl, rfl⟩ | ⟨h1, rfl⟩
      · go_wp2
        go_meet; exact ⟨rfl, rfl⟩
      · have z : ((k : Int) == 0) = false := beq_eq_false_iff_ne.2 (by omega)
        go_wp2
        go_meet; exact ⟨rfl, rfl⟩
    case rest =>
      obtain ⟨rfl, rfl⟩ := hcut
      clear hj hk hkn
      go_wp2
      have hF0 : Filling w (w.alloc (.cells (madeCells #[.int .u32 0, .int .u16 0, .int .u16 0] (k * 3)) 76)) w.heap.size k [] := by
        refine ⟨(Below.refl _ w).alloc (Nat.le_refl _) _, Nat.le_refl _, fun i h => by simp at h, fun f hf => by simp at hf, fun j hj => ?_, fun j => ?_⟩
        · have hblk := heap_alloc_new w (.cells (madeCells #[.int .u32 0, .int .u16 0, .int .u16 0] (k * 3)) 76)
          rw [cell_of_row _ _ j _ 76 (0, 0) hblk]
          have hs : j < (madeCells #[Value.int .u32 0, .int .u16 0, .int .u16 0] (k * 3)).size := by rw [size_madeCells]; exact hj
          exact ⟨_, Array.getElem?_eq_getElem hs⟩
        · rw [frozen?_alloc_cells]; simp [World.frozen?]
      clear hmk
      have hlt0 : w.heap.size < (w.alloc (.cells (madeCells #[.int .u32 0, .int .u16 0, .int .u16 0] (k * 3)) 76)).heap.size := by simp
      generalize (w.alloc (.cells (madeCells #[.int .u32 0, .int .u16 0, .int .u16 0] (k * 3)) 76)) = w1 at *
      go_loopw [7] (fun s7 wr => ∃ fs, fs.length ≤ k ∧ s7 = .int .i64 fs.length ∧ Filling w wr w.heap.size k fs) (fun s7 _ => k - (intOf s7).toNat)
      case atStart => exact ⟨[], by simp, rfl, hF0⟩
      case round =>
        obtain ⟨fs, hi, rfl, hF⟩ := hrel
        clear hF0
        by_cases hlt : fs.length < k
        · obtain ⟨u0, c0⟩ := hF.room (fs.length * 3) (by omega)
          obtain ⟨u1, c1⟩ := hF.room (fs.length * 3 + 1) (by omega)
          obtain ⟨u2, c2⟩ := hF.room (fs.length * 3 + 2) (by omega)
          have z0 := hF.frz (fs.length * 3)
          have z1 := hF.frz (fs.length * 3 + 1)
          have z2 := hF.frz (fs.length * 3 + 2)
          have HS := hide fun x y hx hy => hF.store hlt x y hx hy
          generalize hl : fs.length = i at *
          have key1 : (∃ (g o : Nat) (x : Int), a = some ⟨g, o, none⟩ ∧ i < n ∧ (0 ≤ x ∧ x < 65536) ∧ wr.cell? ⟨g, o + i, none⟩ = some (.int .u16 x)) ∨ ¬ i < n := by
            by_cases hin : i < n
            · left
              rcases ha.out with h0 | ⟨g, o, f, rfl, hg, hc⟩
              · omega
              · exact ⟨g, o, f i, rfl, hin, (hc i hin).1, (hF.below.cell (p := ⟨g, o + i, none⟩) hg).trans (hc i hin).2⟩
            · exact .inr hin
          have key2 : (∃ (g o q : Nat) (x : Nat) (y : Int), b = some ⟨g, o, none⟩ ∧ 0 < m ∧ (i : Int) % (m : Int) = q ∧ q < m ∧ 0 ≤ y ∧ y < 256 ∧ y % 8 = x ∧ x < 8 ∧ wr.cell? ⟨g, o + q, none⟩ = some (.int .u8 y)) ∨ ¬ 0 < m := by
            by_cases hm : 0 < m
            · left
              rcases hb.out with h0 | ⟨g, o, f, rfl, hg, hc⟩
              · omega
              · have hq := Nat.mod_lt i hm
                have hb := (hc (i % m) hq).1
                exact ⟨g, o, i % m, (f (i % m) % 8).toNat, f (i % m), rfl, hm, by omega, hq, hb.1, hb.2, by omega, by omega, (hF.below.cell (p := ⟨g, o + i % m, none⟩) hg).trans (hc (i % m) hq).2⟩
            · exact .inr hm
          clear hF ha hb
          have hik : (i : Int) < (k : Int) := by omega
          rcases key1 with ⟨g, o, x, rfl, hin, hx, hc⟩ | hin
          · have z3 : (i : Int) < (n : Int) := by omega
            rcases key2 with ⟨g', o', q, y', y, rfl, hm, hq, hqm, hy0, hy1, hy, hy8, hc'⟩ | hm
            · have z4 : (0 : Int) < (m : Int) := by omega
              have z5 : (q : Int) < (m : Int) := by omega
              have z6 : ¬ (m : Int) = 0 := by omega
              have HQ := HS.out x (1 + y') hx (by omega)
              go_wp2
              exact ⟨⟨fs ++ [(x, 1 + (y' : Int))], by rw [List.length_append, hl]; exact hlt, by simp [hl], HQ⟩, by simp [intOf]; omega⟩
            · have z4 : ¬ (0 : Int) < (m : Int) := by omega
              have HQ := HS.out x 4 hx (by omega)
              go_wp2
              exact ⟨⟨fs ++ [(x, 4)], by rw [List.length_append, hl]; exact hlt, by simp [hl], HQ⟩, by simp [intOf]; omega⟩
          · have z3 : ¬ (i : Int) < (n : Int) := by omega
            rcases key2 with ⟨g', o', q, y', y, rfl, hm, hq, hqm, hy0, hy1, hy, hy8, hc'⟩ | hm
            · have z4 : (0 : Int) < (m : Int) := by omega
              have z5 : (q : Int) < (m : Int) := by omega
              have z6 : ¬ (m : Int) = 0 := by omega
              have HQ := HS.out 0 (1 + y') (by omega) (by omega)
              go_wp2
              exact ⟨⟨fs ++ [(0, 1 + (y' : Int))], by rw [List.length_append, hl]; exact hlt, by simp [hl], HQ⟩, by simp [intOf]; omega⟩
            · have z4 : ¬ (0 : Int) < (m : Int) := by omega
              have HQ := HS.out 0 4 (by omega) (by omega)
              go_wp2
              exact ⟨⟨fs ++ [(0, 4)], by rw [List.length_append, hl]; exact hlt, by simp [hl], HQ⟩, by simp [intOf]; omega⟩
        · have hik : ¬ (fs.length : Int) < (k : Int) := by omega
          go_wp2
          go_ret
          obtain rfl : fs.length = k := by omega
          exact ⟨fs, hF.wf, hk1, hk4, rfl, hF.below, by obtain ⟨u, hu⟩ := hF.room 0 (by omega); exact World.block_lt_of_cell? _ _ hu, hF.at_⟩
end Go.Proofs.YbulkbleuFmt.B
