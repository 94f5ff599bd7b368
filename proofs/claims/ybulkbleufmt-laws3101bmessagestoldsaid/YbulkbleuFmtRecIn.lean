/- LawS3101B*: (*Template).AppendRecord, the buffer in whatever block the values do not lie in. -/
import Derived.Test.YbulkbleuFmtRec
namespace Go.Proofs.YbulkbleuFmt.B
open Go.RowKit

/-- The values, in blocks from vb on and below N. -/
def ValsIn (N : Nat) (w : World) (vb : Nat) (rows : List (List Int)) : Prop := ∀ i (h : i < rows.length), ∃ g, vb + 1 ≤ g ∧ g < N ∧ w.cell? ⟨vb, i, none⟩ = some (.slice (some ⟨g, 0, none⟩) (rows[i]).length (rows[i]).length) ∧ ∀ q (hq : q < (rows[i]).length), w.cell? ⟨g, q, none⟩ = some (.int .u8 (rows[i])[q])
theorem ValsAt.inside {w : World} {vb : Nat} {rows : List (List Int)} (h : ValsAt (vb + 1) w vb rows) : ValsIn w.heap.size w vb rows := h
theorem ValsIn.kept {N : Nat} {w w' : World} {vb : Nat} {rows : List (List Int)} {r : Option Nat} (h : ValsIn N w vb rows) (hN : N ≤ w.heap.size) (hv : vb < N) (hg : w.grownBy w' r) (hr : ∀ k, r = some k → k < vb ∨ N ≤ k) : ValsIn N w' vb rows := fun i hi => by
  obtain ⟨g, a, b, c, d⟩ := h i hi
  have hne : ∀ k, vb ≤ k → k < N → some k ≠ r := fun k h1 h2 e => by have := hr k e.symm; omega
  exact ⟨g, a, b, (hg.cell_far ⟨vb, i, none⟩ (Nat.lt_of_lt_of_le hv hN) (hne vb (Nat.le_refl _) hv)).trans c, fun q hq => (hg.cell_far ⟨g, q, none⟩ (Nat.lt_of_lt_of_le b hN) (hne g (by omega) b)).trans (d q hq)⟩

set_option maxRecDepth 100000 in
set_option maxHeartbeats 1000000 in
theorem record_in (B : Nat) (v : Value) (L : List Int) (tb fb vb c : Nat) (tid : Int) (fs : List (Int × Int)) (rows : List (List Int)) (w : World) (hb : Buf w B v L) (hT : Tpl w tb fb tid fs) (hwf : Hid (FsWf fs)) (hk : fs.length ≤ 4) (htb : tb < B) (hfb : fb < B) (hlen : L.length ≤ 10000) (hB : B ≤ w.heap.size)
    (N : Nat) (hV : ValsIn N w vb rows) (hN : N ≤ w.heap.size) (hvb0 : vb < N) (hn : Hid (∀ k, v.ownBlock = some k → k < vb ∨ N ≤ k)) (hfit : Hid (Fits fs rows)) :
    Calls Ybaf.prog 42 #[.pointer (some ⟨tb, 0, none⟩), v, .slice (some ⟨vb, 0, none⟩) fs.length c] w fun e w' => ∃ v', e = .returned (.tuple #[v', .nilIface]) ∧ Ext w B v L w' v' (L ++ rows.flatten) := by
  have hvb : vb < w.heap.size := Nat.lt_of_lt_of_le hvb0 hN
  have c1 := hT.c1
  have hlv : ∃ n cc a, v = .slice a n cc := by obtain ⟨g, cap, cur, rfl, _⟩ := hb; exact ⟨_, _, _, rfl⟩
  obtain ⟨n, cc, a, hv⟩ := hlv
  go_enter Ybaf.func42, Ybaf.ntmps42
  subst hv
  go_wp2
  go_loopw [1, 44] (fun s1 s44 wr => ∃ i : Nat, i ≤ fs.length ∧ s44 = .int .i64 i ∧ Ext w B (.slice a n cc) L wr s1 (L ++ (rows.take i).flatten)) (fun _ s44 _ => fs.length - (intOf s44).toNat)
  case atStart => exact ⟨0, by omega, rfl, by simpa using Ext.refl hb⟩
  case round =>
    obtain ⟨i, hi, rfl, hE⟩ := hrel
    by_cases hlt : i < fs.length
    · obtain ⟨p0, p1, p2⟩ := (hT.below htb hfb (hE.below hB)).fs i hlt
      have hir : i < rows.length := by rw [hfit.out.1]; exact hlt
      obtain ⟨g, a1, a20, a3, a4⟩ := hV i hir
      have a2 : g < w.heap.size := Nat.lt_of_lt_of_le a20 hN
      have hf2 := hfit.out.2 i hlt hir
      have hw1 := hwf.out _ (List.getElem_mem hlt)
      have Hsp : Hid ((rows.take (i + 1)).flatten = (rows.take i).flatten ++ rows[i]) := by
        show _ = _
        rw [List.take_succ_eq_append_getElem hir, List.flatten_append, List.flatten_cons, List.flatten_nil, List.append_nil]
      have hll : (L ++ (rows.take i).flatten).length ≤ 20000 := by
        have h1 := flat_len (rows.take i) (fun r hr => hfit.out.small hwf.out r (List.mem_of_mem_take hr))
        rw [List.length_take] at h1
        rw [List.length_append]; omega
      generalize fs[i] = f at *
      generalize rows[i] = M at *
      obtain ⟨x, y⟩ := f
      obtain ⟨_, _, f2, f3⟩ := hw1
      simp only at p1 p2 hf2 f2 f3
      subst hf2
      have hS := Nat.le_trans hB hE.grown.size
      have hX := (Ext.alloc hE.body (.cells #[.int .u32 0, .int .u16 x, .int .u16 (M.length : Int)] 76))
      have hX2 := hX.trans (Ext.drew hX.body)
      have hXd := Ext.drew hX.body
      have hXa := hE.trans (hX.trans hXd)
      have hne : ∀ k, vb ≤ k → k < N → some k ≠ (Value.slice a n cc).ownBlock := fun k hk hk2 e => by have := hn.out k e.symm; omega
      have hM : Hid (∀ q (hq : q < M.length), (wr.alloc (.cells #[.int .u32 0, .int .u16 x, .int .u16 (M.length : Int)] 76)).drew.cell? ⟨g, q, none⟩ = some (.int .u8 M[q])) := fun q hq => (hXa.grown.cell_far ⟨g, q, none⟩ a2 (hne g (by omega) a20)).trans (a4 q hq)
      have k3 := (hXa.grown.cell_far ⟨vb, i, none⟩ hvb (hne vb (Nat.le_refl _) hvb0)).trans a3
      have k3a := (hE.grown.cell_far ⟨vb, i, none⟩ hvb (hne vb (Nat.le_refl _) hvb0)).trans a3
      have k3b := ((hE.trans hX).grown.cell_far ⟨vb, i, none⟩ hvb (hne vb (Nat.le_refl _) hvb0)).trans a3
      have hSd : B ≤ (wr.alloc (.cells #[.int .u32 0, .int .u16 x, .int .u16 (M.length : Int)] 76)).drew.heap.size := by show B ≤ (wr.alloc _).heap.size; simp; omega
      have hil : (i : Int) < (fs.length : Int) := by omega
      clear hX2
      go_wp2
      go_cut [1, 11] (fun s1 s11 wk => s11 = .bool true ∧ Ext w B (.slice a n cc) L wk s1 (L ++ (rows.take (i + 1)).flatten))
      case first =>
        go_region_with (go_at_call 46; refine (value_any B _ _ g _ M _ _ hXd.body rfl (by omega) (by omega) hM (by omega) hSd).mono ?_; rintro e w4 ⟨v4, rfl, hE4⟩)
        all_goals (go_wp2_with fail; go_meet; refine ⟨rfl, ?_⟩; rw [Hsp.out, ← List.append_assoc]; exact hE.trans (hX.trans (hXd.trans hE4)))
      case rest =>
        obtain ⟨rfl, hE4⟩ := hcut
        go_wp2
        exact ⟨⟨i + 1, by omega, by go_num, hE4⟩, by simp [intOf]; omega⟩
    · obtain rfl : fs.length = i := by omega
      rw [List.take_of_length_le (by rw [hfit.out.1]; omega)] at hE
      go_wp2
      go_ret2
      exact ⟨_, rfl, hE⟩
end Go.Proofs.YbulkbleuFmt.B
