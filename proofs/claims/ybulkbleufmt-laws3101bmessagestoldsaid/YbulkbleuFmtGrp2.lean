/- LawS3101B*: groupElements (25): it returns, and leaves what was there alone. -/
import Derived.Test.YbulkbleuFmtGrp1
import Derived.Carry
import Derived.Deep.DeepMust
namespace Go.Proofs.YbulkbleuFmt.B
open Go.RowKit Go.Maps Go.ChangeMaps
/-- 'append(sizes, 0)'. -/
theorem wpList_zero {ops : Array Oper} {rest : List Oper} {o : Oper} {a : Act} {Q : Exit → Act → World → Prop} (w0 : World) (hgd : o.guard = none) (s x : Operand)
    (ho : o.op = .call { callee := .builtin .append, args := #[s, x], argTypes := #[121, 121] }) (B : Nat) (v : Value) (m : Nat) (gs : List Nat) (hs : a.eval s = v) (hown : w0.ownsRow B 3 1 v m (cnt gs m)) (blk : Nat) (hblk : w0.heap.size = blk) (l c : Nat) (hl : l = 1) (hx : a.eval x = .slice (some ⟨blk, 0, none⟩) l c)
    (hm : m ≤ 100) (hB : B ≤ w0.heap.size)
    (h : ∀ sb cap w', w0.grownBy w' v.ownBlock → w'.ownsRow B 3 1 (.slice (some ⟨sb, 0, none⟩) (m + 1) cap) (m + 1) (cnt gs m ++ [.int .i64 0]) → wpList Ybaf.prog ops Q rest (a.put o.dst (.slice (some ⟨sb, 0, none⟩) (m + 1) cap)) w') :
    wpList Ybaf.prog ops Q (o :: rest) a (w0.alloc (.cells #[.int .i64 0] 3)) := by
  subst hl hblk
  obtain ⟨i0, hi, hz0, hz1, hz2⟩ := info_parts info3
  refine wpList_append_own_at _ hgd s x 121 ho B 3 i0 (.int .i64 0) 1 8 Ybaf.underlying121 hi hz0 hz1 hz2 rfl (by omega) v m (cnt gs m) hs (hown.alloc _) ⟨w0.heap.size, 0, none⟩ 1 c [.int .i64 0] hx rfl (cell_one_new _ _ _) (fun u hu => by simp at hu; subst hu; rfl) (by unfold maxLen; omega) (by omega) (by simp; omega) fun v' w' hown' hg _ _ => ?_
  rcases hown'.2 with ⟨_, e⟩ | ⟨g, cap, cur, rfl, _⟩
  · omega
  · exact h g cap w' ((World.grownBy_alloc w0 _ _).trans hg) hown'
theorem made1 (w : World) (k : Nat) : G1 w ((w.alloc (.map #[] 0)).alloc (.cells (madeCells #[.int .i64 0] k) 3)) k (.slice none 0 0) [] 0 := by
  have hs1 : (w.alloc (.map #[] 0)).heap.size = w.heap.size + 1 := by simp
  have r1 := made_room (w.alloc (.map #[] 0)) (.int .i64 0) k 3
  rw [hs1] at r1
  refine ⟨((Below.refl _ w).alloc (Nat.le_refl _) _).alloc (by rw [hs1]; omega) _, by simp, ⟨#[], 0, ?_, by intro e he; simp at he⟩, r1.1, fun j hj => by simp at hj, r1.2, World.ownsRow_nil _ _ _ _, by simp⟩
  rw [heap_alloc_old _ _ (by rw [hs1]; omega)]
  exact heap_alloc_new _ _
theorem G1.pre {w wr : World} {k sb cap : Nat} {gs : List Nat} {m : Nat} (h : G1 w wr k (.slice (some ⟨sb, 0, none⟩) m cap) gs m) (hk : gs.length < k) {g : Nat} (hg : g < m) :
    (∃ u, wr.cell? ⟨w.heap.size + 1, gs.length, none⟩ = some u) ∧ wr.frozen? ⟨w.heap.size + 1, gs.length, none⟩ = false ∧ (wr.setCell ⟨w.heap.size + 1, gs.length, none⟩ (.int .i64 g)).cell? ⟨sb, g, none⟩ = some (.int .i64 (gs.count g : Nat)) ∧ (wr.setCell ⟨w.heap.size + 1, gs.length, none⟩ (.int .i64 g)).frozen? ⟨sb, g, none⟩ = false := by
  have hsb := (h.sz.lt sb rfl).1
  refine ⟨h.room _ hk, h.frz _, ?_, by rw [World.frozen?_setCell]; exact h.sz.frozenAt g⟩
  rw [World.cell?_setCell_other _ _ _ _ (by intro e; simp only [Addr.mk.injEq] at e; omega)]
  have := h.sz.cells (g := sb) rfl g _ (cnt_get gs m g hg)
  simpa [Addr.add_lit] using this
theorem G1.shape {w wr : World} {k : Nat} {sa : Option Addr} {sc : Nat} {gs : List Nat} {m : Nat} (h : G1 w wr k (.slice sa m sc) gs m) (hm : 0 < m) : ∃ sb, sa = some ⟨sb, 0, none⟩ := by
  rcases h.sz.2 with ⟨_, e⟩ | ⟨g, cap, cur, e, _⟩
  · omega
  · simp only [Value.slice.injEq] at e
    exact ⟨g, e.1⟩
set_option maxRecDepth 100000 in
set_option maxHeartbeats 1000000 in
theorem group_any (fb c : Nat) (fs : List (Int × Int)) (w : World) (hF : Hid (FsAt w fb fs)) (hwf : Hid (FsWf fs)) (hk1 : 1 ≤ fs.length) (hk : fs.length ≤ 4) (hfb : fb < w.heap.size) :
    Calls Ybaf.prog 25 #[.slice (some ⟨fb, 0, none⟩) fs.length c] w fun e w' => ∃ A n : Nat, e = .returned (.slice (some ⟨A, 0, none⟩) n n) ∧ Below w.heap.size w w' := by
  have hmm : (Instr.makeMap 120 (some (.int .i64 fs.length))).run Ybaf.prog w = .ok (.map (some w.heap.size)) (w.alloc (.map #[] 0)) := by
    simp [Instr.makeMap, asInt, asIntOf]
  have hm1 := run_ints (w.alloc (.map #[] 0)) fs.length fs.length (Nat.le_refl _) (by omega)
  rw [show (w.alloc (.map #[] 0)).heap.size = w.heap.size + 1 by simp] at hm1
  have hG := made1 w fs.length
  go_enter Ybaf.func25, Ybaf.ntmps25
  go_wp2
  clear hmm hm1
  generalize ((w.alloc (.map #[] 0)).alloc (.cells (madeCells #[.int .i64 0] fs.length) 3)) = w1 at *
  go_loopw [5, 25] (fun s5 s25 wr => ∃ gs m, gs.length ≤ fs.length ∧ s25 = .int .i64 gs.length ∧ m ≤ gs.length ∧ (1 ≤ gs.length → 1 ≤ m) ∧ (∀ g, g < m → g ∈ gs) ∧ (∃ a c, s5 = .slice a m c) ∧ G1 w wr fs.length s5 gs m) (fun _ s25 _ => fs.length - (intOf s25).toNat)
  case atStart => exact ⟨[], 0, by simp, rfl, by simp, by simp, fun g hg => by omega, ⟨_, _, rfl⟩, hG⟩
  case round =>
    obtain ⟨gs, m, hl, rfl, hm, hm2, hin, ⟨sa, sc, rfl⟩, h1⟩ := hrel
    have HIN := hide hin
    clear hin
    clear hG
    by_cases hlt : gs.length < fs.length
    · obtain ⟨p0, p1, p2⟩ := (hF.out.below hfb h1.below) gs.length hlt
      have hw1 := hwf.out _ (List.getElem_mem hlt)
      generalize fs[gs.length] = f at *
      obtain ⟨i0, i1, f0, f1⟩ := hw1
      have h2 := (h1.alloc (.cells #[.int .u32 0, .int .u16 f.1, .int .u16 f.2] 76)).alloc (.cells #[.int .u32 0, .int .u16 f.1] 123)
      obtain ⟨es, clk, hb, hmp⟩ := h2.mp
      have hil : (gs.length : Int) < (fs.length : Int) := by omega
      rcases look123 hb hmp i0 i1 with ⟨v, hv, hrun⟩ | ⟨hrun, hupd⟩
      · unfold kv at hrun
        clear hb
        obtain ⟨sb, rfl⟩ := h1.shape (by omega)
        obtain ⟨⟨u0, c0⟩, z0, d1, z1⟩ := h2.pre hlt hv
        have h3 := h2.store hlt hv
        have hcl := List.count_le_length (a := v) (l := gs)
        have HC : Hid (h3 = h3) := rfl
        go_wp2
        exact ⟨⟨gs ++ [v], m, by simp; omega, by simp, by simp; omega, fun _ => by omega, fun g hg => List.mem_append_left _ (HIN.out g hg), ⟨_, _, rfl⟩, h3⟩, by simp [intOf]; omega⟩
      · unfold kv at hrun hupd
        obtain ⟨u1, u2, u3, u4⟩ := h2.upd hb (hmp.push i0 i1 clk) (clk' := clk + 1)
        unfold kv at u1 u2 u3 u4
        generalize setBlock ((wr.alloc (.cells #[.int .u32 0, .int .u16 f.1, .int .u16 f.2] 76)).alloc (.cells #[.int .u32 0, .int .u16 f.1] 123)) w.heap.size (.map (es.push ⟨.agg #[.int .u32 0, .int .u16 f.1], .int .i64 m, clk⟩) (clk + 1)) = w3 at *
        have hw3 : w.heap.size + 2 ≤ w3.heap.size := by have := h2.size; omega
        clear u2 u1
        have hcl := List.count_le_length (a := m) (l := gs)
        go_wp2_with (at_builtin; go_must (refine wpList_zero w3 rfl _ _ rfl (w.heap.size + 2) _ m gs rfl u3 _ (by first | rfl | simp) _ _ rfl rfl (by omega) hw3 ?_); intro sb cap w4 g4 o4; have h4 := u4 _ _ g4 o4; obtain ⟨⟨u0, c0⟩, z0, d1, z1⟩ := h4.pre hlt (Nat.lt_succ_self m); have h5 := h4.store hlt (Nat.lt_succ_self m))
        exact ⟨⟨gs ++ [m], m + 1, by simp; omega, by simp, by simp; omega, fun _ => by omega, fun g hg => (by by_cases e : g = m; exact e ▸ (by simp); exact List.mem_append_left _ (HIN.out g (by omega))), ⟨_, _, rfl⟩, h5⟩, by simp [intOf]; omega⟩
    · obtain hlen : gs.length = fs.length := by omega
      obtain ⟨sb, rfl⟩ := h1.shape (by omega)
      have h2 := h1.made hlen
      have HLT := hide h1.lt
      have hma : (Instr.makeSlice 121 (.int .i64 0) (.int .i64 fs.length)).run Ybaf.prog wr = .ok (.slice (some ⟨wr.heap.size, 0, none⟩) 0 fs.length) (wr.alloc (.cells (madeCells #[.int .i64 0] fs.length) 3)) := run_ints wr 0 fs.length (by omega) (by omega)
      have hm3 := run_groups (wr.alloc (.cells (madeCells #[.int .i64 0] fs.length) 3)) m (by omega)
      rw [show (wr.alloc (.cells (madeCells #[.int .i64 0] fs.length) 3)).heap.size = wr.heap.size + 1 by simp] at hm3
      have hA : wr.heap.size + 1 < ((wr.alloc (.cells (madeCells #[.int .i64 0] fs.length) 3)).alloc (.cells (madeCells #[.slice none 0 0] m) 121)).heap.size := by simp
      have hil : ¬ (gs.length : Int) < (fs.length : Int) := by omega
      have hm0 : 0 < m := hm2 (by omega)
      clear hlt hl hm2
      go_wp2
      clear hma hm3
      generalize ((wr.alloc (.cells (madeCells #[.int .i64 0] fs.length) 3)).alloc (.cells (madeCells #[.slice none 0 0] m) 121)) = w2 at *
      generalize wr.heap.size = A at *
      clear h1
      go_loopw [11, 70] (fun s11 s70 wx => ∃ g : Nat, g ≤ m ∧ s70 = .int .i64 g ∧ s11 = .slice (some ⟨A, 0, none⟩) (ltc gs g) fs.length ∧ A + 1 < wx.heap.size ∧ G2 w wx sb A m gs [] g) (fun _ s70 _ => m - (intOf s70).toNat)
      case atStart => exact ⟨0, by omega, rfl, by rw [ltc_zero], hA, h2⟩
      case round =>
        obtain ⟨g, hg, rfl, rfl, hA2, hG⟩ := hrel
        clear h2 hA
        by_cases hgm : g < m
        · have p1 := hG.sz g hgm
          obtain ⟨u1, p2⟩ := hG.gr g hgm
          have p3 := hG.gf g
          have hro := ltc_room gs g
          have hpos := List.count_pos_iff.2 (HIN.out g hgm)
          have HL := hide (ltc_succ g gs)
          have h3 := hG.set (us' := []) (n' := g + 1) hgm (fun j hj hne => ⟨by omega, rfl⟩)
          rw [List.count_nil] at h3
          rw [hlen] at hro
          generalize ltc gs g = l at *
          generalize List.count g gs = n at *
          have hil : (g : Int) < (m : Int) := by omega
          have hnz : ¬ n = 0 := by omega
          go_wp2
          refine ⟨⟨g + 1, by omega, by go_num, by rw [HL.out], by simpa using hA2, h3⟩, by simp [intOf]; omega⟩
        · obtain rfl : m = g := by omega
          have hil : ¬ (m : Int) < (m : Int) := by omega
          go_wp2
          go_loopw [97] (fun s97 wx => ∃ i : Nat, i ≤ gs.length ∧ s97 = .int .i64 i ∧ A + 1 < wx.heap.size ∧ G2 w wx sb A m gs (gs.take i) m) (fun s97 _ => gs.length - (intOf s97).toNat)
          case atStart => exact ⟨0, by omega, rfl, hA2, by simpa using hG⟩
          case round =>
            obtain ⟨i, hi, rfl, hA3, hG3⟩ := hrel
            clear hG hA2
            by_cases hig : i < gs.length
            · have p1 := hG3.of_ i hig
              have hgm := HLT.out _ (List.getElem_mem hig)
              have htk := List.take_succ_eq_append_getElem hig
              have hc0 : (gs.take i ++ [gs[i]]).count gs[i] = (gs.take i).count gs[i] + 1 := by rw [List.count_append]; simp
              have hc1 : (gs.take i).count gs[i] + 1 ≤ gs.count gs[i] := by
                rw [← hc0, ← htk]
                exact (List.take_sublist _ _).count_le _
              have hcj : ∀ j, j ≠ gs[i] → (gs.take i ++ [gs[i]]).count j = (gs.take i).count j := fun j hj => by
                rw [List.count_append, (List.count_eq_zero.2 (by simpa using hj) : List.count j [gs[i]] = 0), Nat.add_zero]
              generalize gs[i] = g at *
              have HT := hide htk
              clear htk
              have p2 := hG3.gc g hgm
              have p3 := hG3.gf g
              have hro := ltc_room gs g
              obtain ⟨u1, p4⟩ := hG3.ar (ltc gs g + (gs.take i).count g) (by omega)
              have p5 := hG3.af (ltc gs g + (gs.take i).count g)
              have hG4 := (hG3.kept hA3 ((Below.refl _ wr).alloc (Nat.le_refl _) (.cells #[.int .i64 i] 3))).put (ltc gs g + (gs.take i).count g) (.int .i64 i)
              have q2 := hG4.gc g hgm
              have q3 := hG4.gf g
              have hG5 := (hG3.put (ltc gs g + (gs.take i).count g) (.int .i64 i)).set (us' := gs.take i ++ [g]) (n' := m) hgm (fun j hj hne => ⟨hj, hcj j hne⟩)
              rw [hc0] at hG5
              have hG6 := hG5.kept (by simpa using hA3) ((Below.refl _ _).alloc (Nat.le_refl _) (.cells #[.int .i64 i] 3))
              clear hG5
              have hil : (i : Int) < (fs.length : Int) := by omega
              have hA4 : A < wr.heap.size := by omega
              clear hc0
              generalize ltc gs g = l at *
              generalize List.count g gs = n at *
              generalize List.count g (gs.take i) = q at *
              go_wp2_with (at_builtin; go_must (refine wpList_one wr (.int .i64 i) rfl _ _ rfl A l q n rfl _ (by first | rfl | simp) _ _ rfl rfl rfl u1 hc1 hA4 p4 p5 ?_))
              refine ⟨⟨i + 1, by omega, by go_num, by simpa using Nat.lt_succ_of_lt hA3, by rw [HT.out]; exact hG6⟩, by simp [intOf]; omega⟩
            · have hil : ¬ (i : Int) < (fs.length : Int) := by omega
              go_wp2
              go_ret
              exact ⟨⟨_, _, rfl⟩, hG3.below⟩
end Go.Proofs.YbulkbleuFmt.B
