/- LawS3101B*: (*Template).AppendRecord. -/
import Derived.Test.YbulkbleuFmtTpl
namespace Go.Proofs.YbulkbleuFmt.B
open Go.RowKit

/-- The rows fit the fields. -/
def Fits (fs : List (Int × Int)) (rows : List (List Int)) : Prop := rows.length = fs.length ∧ ∀ i (h : i < fs.length) (h' : i < rows.length), (fs[i]).2 = (rows[i]).length
theorem ValsAt.ext {w w' : World} {B vb : Nat} {v v' : Value} {L L' : List Int} {rows : List (List Int)} (h : ValsAt (vb + 1) w vb rows) (hv : vb < w.heap.size) (hE : Ext w B v L w' v' L') (hn : ∀ k, v.ownBlock = some k → k < vb) : ValsAt (vb + 1) w' vb rows := fun i hi => by
  obtain ⟨g, a, b, c, d⟩ := h i hi
  have hne : ∀ k, vb ≤ k → some k ≠ v.ownBlock := fun k hk e => by have := hn k e.symm; omega
  exact ⟨g, a, Nat.lt_of_lt_of_le b hE.grown.size, (hE.grown.cell_far ⟨vb, i, none⟩ hv (hne vb (Nat.le_refl _))).trans c, fun q hq => (hE.grown.cell_far ⟨g, q, none⟩ b (hne g (by omega))).trans (d q hq)⟩

theorem flat_len : ∀ rows : List (List Int), (∀ r ∈ rows, r.length ≤ 8) → rows.flatten.length ≤ 8 * rows.length
  | [], _ => by simp
  | r :: rows, h => by
    have h1 := h r (by simp)
    have h2 := flat_len rows (fun x hx => h x (by simp [hx]))
    simp only [List.flatten_cons, List.length_append, List.length_cons]; omega
theorem Fits.small {fs : List (Int × Int)} {rows : List (List Int)} (h : Fits fs rows) (hw : FsWf fs) : ∀ r ∈ rows, r.length ≤ 8 := fun r hr => by
  obtain ⟨i, hi, rfl⟩ := List.getElem_of_mem hr
  have hi' : i < fs.length := by rw [← h.1]; exact hi
  have := h.2 i hi' hi
  have := hw _ (List.getElem_mem hi')
  omega
theorem fits_flat : ∀ (fs : List (Int × Int)) (rows : List (List Int)), Fits fs rows → FsWf fs → (rows.flatten.length : Int) = sumL fs
  | [], rows, h, _ => by
    have : rows = [] := List.eq_nil_of_length_eq_zero h.1
    subst this; simp [sumL]
  | f :: fs, [], h, _ => by have := h.1; simp at this
  | f :: fs, r :: rows, h, hw => by
    have h0 := h.2 0 (by simp) (by simp)
    simp at h0
    have ih := fits_flat fs rows ⟨by have := h.1; simpa using this, fun i hi hi' => by have := h.2 (i + 1) (by simp; omega) (by simp; omega); simpa using this⟩ (fun g hg => hw g (by simp [hg]))
    simp only [List.flatten_cons, List.length_append, sumL]; omega

set_option maxRecDepth 100000 in
set_option maxHeartbeats 1000000 in
theorem record_any (B : Nat) (v : Value) (L : List Int) (tb fb vb c : Nat) (tid : Int) (fs : List (Int × Int)) (rows : List (List Int)) (w : World) (hb : Buf w B v L) (hT : Tpl w tb fb tid fs) (hwf : Hid (FsWf fs)) (hk : fs.length ≤ 4) (htb : tb < B) (hfb : fb < B) (hlen : L.length ≤ 10000) (hB : B ≤ w.heap.size)
    (hV : ValsAt (vb + 1) w vb rows) (hvb : vb < w.heap.size) (hn : Hid (∀ k, v.ownBlock = some k → k < vb)) (hfit : Hid (Fits fs rows)) :
    Calls Ybaf.prog 42 #[.pointer (some ⟨tb, 0, none⟩), v, .slice (some ⟨vb, 0, none⟩) fs.length c] w fun e w' => ∃ v', e = .returned (.tuple #[v', .nilIface]) ∧ Ext w B v L w' v' (L ++ rows.flatten) := by
  have c1 := hT.c1
  have hlv : ∃ n cc a, v = .slice a n cc := by obtain ⟨g, cap, cur, rfl, _⟩ := hb; exact ⟨_, _, _, rfl⟩
  obtain ⟨n, cc, a, hv⟩ := hlv
  go_enter Ybaf.func42, Ybaf.ntmps42
  subst hv
  go_wp2
  go_loopw [1, 44] (fun s1 s44 wr => ∃ i : Nat, i ≤ fs.length ∧ s44 = .int .i64 i ∧ Ext w B (.slice a n cc) L wr s1 (L ++ (rows.take i).flatten)) (fun _ s44 _ => fs.length - (intOf s44).toNat)
  case atStart => exact ⟨0, by omega, rfl, by simpa using Ext.refl hb⟩
  case round =>
    obtain ⟨i, hi, rfl, hE⟩ := hrel
    by_cases hlt : i < fs.length
    · obtain ⟨p0, p1, p2⟩ := (hT.below htb hfb (hE.below hB)).fs i hlt
      have hir : i < rows.length := by rw [hfit.out.1]; exact hlt
      obtain ⟨g, a1, a2, a3, a4⟩ := hV i hir
      have hf2 := hfit.out.2 i hlt hir
      have hw1 := hwf.out _ (List.getElem_mem hlt)
      have Hsp : Hid ((rows.take (i + 1)).flatten = (rows.take i).flatten ++ rows[i]) := by
        show _ = _
        rw [List.take_succ_eq_append_getElem hir, List.flatten_append, List.flatten_cons, List.flatten_nil, List.append_nil]
      have hll : (L ++ (rows.take i).flatten).length ≤ 20000 := by
        have h1 := flat_len (rows.take i) (fun r hr => hfit.out.small hwf.out r (List.mem_of_mem_take hr))
        rw [List.length_take] at h1
        rw [List.length_append]; omega
      generalize fs[i] = f at *
      generalize rows[i] = M at *
      obtain ⟨x, y⟩ := f
      obtain ⟨_, _, f2, f3⟩ := hw1
      simp only at p1 p2 hf2 f2 f3
      subst hf2
      have hS := Nat.le_trans hB hE.grown.size
      have hX := (Ext.alloc hE.body (.cells #[.int .u32 0, .int .u16 x, .int .u16 (M.length : Int)] 76))
      have hX2 := hX.trans (Ext.drew hX.body)
      have hXd := Ext.drew hX.body
      have hXa := hE.trans (hX.trans hXd)
      have hne : ∀ k, vb ≤ k → some k ≠ (Value.slice a n cc).ownBlock := fun k hk e => by have := hn.out k e.symm; omega
      have hM : Hid (∀ q (hq : q < M.length), (wr.alloc (.cells #[.int .u32 0, .int .u16 x, .int .u16 (M.length : Int)] 76)).drew.cell? ⟨g, q, none⟩ = some (.int .u8 M[q])) := fun q hq => (hXa.grown.cell_far ⟨g, q, none⟩ a2 (hne g (by omega))).trans (a4 q hq)
      have k3 := (hXa.grown.cell_far ⟨vb, i, none⟩ hvb (hne vb (Nat.le_refl _))).trans a3
      have k3a := (hE.grown.cell_far ⟨vb, i, none⟩ hvb (hne vb (Nat.le_refl _))).trans a3
      have k3b := ((hE.trans hX).grown.cell_far ⟨vb, i, none⟩ hvb (hne vb (Nat.le_refl _))).trans a3
      have hSd : B ≤ (wr.alloc (.cells #[.int .u32 0, .int .u16 x, .int .u16 (M.length : Int)] 76)).drew.heap.size := by show B ≤ (wr.alloc _).heap.size; simp; omega
      have hil : (i : Int) < (fs.length : Int) := by omega
      clear hX2
      go_wp2
      go_cut [1, 11] (fun s1 s11 wk => s11 = .bool true ∧ Ext w B (.slice a n cc) L wk s1 (L ++ (rows.take (i + 1)).flatten))
      case first =>
        go_region_with (go_at_call 46; refine (value_any B _ _ g _ M _ _ hXd.body rfl (by omega) (by omega) hM (by omega) hSd).mono ?_; rintro e w4 ⟨v4, rfl, hE4⟩)
        all_goals (go_wp2_with fail; go_meet; refine ⟨rfl, ?_⟩; rw [Hsp.out, ← List.append_assoc]; exact hE.trans (hX.trans (hXd.trans hE4)))
      case rest =>
        obtain ⟨rfl, hE4⟩ := hcut
        go_wp2
        exact ⟨⟨i + 1, by omega, by go_num, hE4⟩, by simp [intOf]; omega⟩
    · obtain rfl : fs.length = i := by omega
      rw [List.take_of_length_le (by rw [hfit.out.1]; omega)] at hE
      go_wp2
      go_ret2
      exact ⟨_, rfl, hE⟩
end Go.Proofs.YbulkbleuFmt.B
