/- LawS3101BMessages: the law's writer takes a message. -/
import Derived.Test.YbulkbleuFmtMsgs
import Derived.Test.YbulkbleuFmtOpen
import Derived.Deep.RegionLaw
import Derived.Deep.DeepMust
namespace Go.Proofs.YbulkbleuFmt.B
open Go.RowKit

/-- 'append([]byte(nil), p...)' in a region that draws. -/
theorem step_copy {ops : Array Oper} {o : Oper} {a : Act} {K : Act → World → Prop} {Q : Exit → Act → World → Prop} {E : Prop} (w : World) (hgd : o.guard = none) (x : Operand) (ho : o.op = .call { callee := .builtin .append, args := #[.const (.slice none 0 0), x], argTypes := #[24, 24] })
    (B : Nat) (L : List Int) (ad : Addr) (c : Nat) (hx : a.eval x = .slice (some ad) L.length c) (hnews : ∀ j u, (L.map (Value.int .u8))[j]? = some u → w.cell? (ad.add j) = some u) (hL0 : 0 < L.length) (hL1 : L.length ≤ 10000) (hB : B ≤ w.heap.size)
    (h : ∀ cb ccap w', Buf w' B (.slice (some ⟨cb, 0, none⟩) L.length ccap) L → w.grownBy w' none → w.heap.size ≤ cb → cb < w'.heap.size → K (a.put o.dst (.slice (some ⟨cb, 0, none⟩) L.length ccap)) w') :
    if Region.wanted o (yielded ops a.tmps) = true then Oper.wp Ybaf.prog o a w K Q else E := by
  obtain ⟨i0, hi, hz0, hz1, hz2⟩ := info_parts infoByte
  refine step_append_lies w hgd (.const (.slice none 0 0)) x 24 ho w.heap.size 5 i0 (.int .u8 0) 1 1 Ybaf.underlying24 hi hz0 hz1 hz2 rfl (by omega) (.slice none 0 0) 0 [] rfl (World.ownsRow_nil _ _ _ _) ad L.length c (L.map (Value.int .u8)) hx (by simp) hnews (fun u hu => by simp at hu; obtain ⟨y, _, rfl⟩ := hu; rfl) hL0 (by unfold maxLen; omega) (by omega) (Nat.le_refl _) w.heap.size rfl ?_
  intro cb ccap w' hown hg hat hlt
  rw [Nat.zero_add] at hown ⊢
  rcases hown.2 with ⟨e, _⟩ | ⟨g, cap, cur, e, h1, h2, h3, h4, h5, h6⟩
  · cases e
  · simp only [Value.slice.injEq, Option.some.injEq, Addr.mk.injEq, and_true, true_and] at e
    obtain ⟨rfl, rfl⟩ := e
    exact h cb ccap w' ⟨cb, ccap, cur, rfl, by omega, h2, h3, h4, by omega, by simpa using h6⟩ hg h1 hlt
/-- 'append(msgs, m)': the new element lies in a block made just now. -/
theorem run_msg (w0 : World) (ty : TypeId) (B : Nat) (mv u0 : Value) (h1 : u0.oneCell' = true) (k : Nat) (vs : List Value) (hown : w0.ownsRow B 24 1 mv k vs) (c : Nat) (hk : k ≤ 1000) (hB : B ≤ w0.heap.size) :
    ∃ g cap w', (Builtin.append_ #[36, 36] ty #[mv, .slice (some ⟨w0.heap.size, 0, none⟩) 1 c]).run Ybaf.prog (w0.alloc (.cells #[u0] 24)) = .ok (.slice (some ⟨g, 0, none⟩) (k + 1) cap) w' ∧
      w'.ownsRow B 24 1 (.slice (some ⟨g, 0, none⟩) (k + 1) cap) (k + 1) (vs ++ [u0]) ∧ (w0.alloc (.cells #[u0] 24)).grownBy w' mv.ownBlock ∧ (mv.ownBlock = some g ∨ g = w0.heap.size + 1) := by
  obtain ⟨i0, hi, hz0, hz1, hz2⟩ := info_parts info24
  obtain ⟨g, cap, w', a, b, c, d, _⟩ := run_append_lies (P := Ybaf.prog) (w0.alloc (.cells #[u0] 24)) 36 ty B 24 i0 (.slice none 0 0) 1 24 Ybaf.underlying36 hi hz0 hz1 hz2 rfl (by omega) mv k vs (hown.alloc _) ⟨w0.heap.size, 0, none⟩ 1 c [u0] rfl (cell_one_new _ _ _) (fun u hu => by simp at hu; subst hu; exact h1) (by omega) (by unfold maxLen; omega) (by omega) (by simp; omega) (w0.heap.size + 1) (by simp)
  exact ⟨g, cap, w', a, b, c, d⟩
theorem step_msg {ops : Array Oper} {o : Oper} {a : Act} {K : Act → World → Prop} {Q : Exit → Act → World → Prop} {E : Prop} (w0 : World) (hgd : o.guard = none) (s x : Operand) (ho : o.op = .call { callee := .builtin .append, args := #[s, x], argTypes := #[36, 36] })
    (B : Nat) (mv u0 : Value) (h1 : u0.oneCell' = true) (k : Nat) (vs : List Value) (hs : a.eval s = mv) (hown : w0.ownsRow B 24 1 mv k vs) (blk l c : Nat) (hblk : w0.heap.size = blk) (hl : l = 1) (hx : a.eval x = .slice (some ⟨blk, 0, none⟩) l c) (hk : k ≤ 1000) (hB : B ≤ w0.heap.size)
    (h : ∀ g cap w', w'.ownsRow B 24 1 (.slice (some ⟨g, 0, none⟩) (k + 1) cap) (k + 1) (vs ++ [u0]) → (w0.alloc (.cells #[u0] 24)).grownBy w' mv.ownBlock → (mv.ownBlock = some g ∨ g = w0.heap.size + 1) → K (a.put o.dst (.slice (some ⟨g, 0, none⟩) (k + 1) cap)) w') :
    if Region.wanted o (yielded ops a.tmps) = true then Oper.wp Ybaf.prog o a (w0.alloc (.cells #[u0] 24)) K Q else E := by
  subst hblk hl
  have hw : Region.wanted o (yielded ops a.tmps) = true := by simp [Region.wanted, hgd]
  rw [if_pos hw]
  obtain ⟨g, cap, w', hr, p, q, r⟩ := run_msg w0 o.type B mv u0 h1 k vs hown c hk hB
  unfold Oper.wp execOp
  simp only [ho, resolve, invoke, builtin, Sem.run_bind, Sem.run_pure, Result.andThen_ok, List.map_toArray, List.map_cons, List.map_nil, hs, hx, hr]
  exact h g cap w' p q r
theorem wpList_msg {ops : Array Oper} {rest : List Oper} {o : Oper} {a : Act} {Q : Exit → Act → World → Prop} (w0 : World) (hgd : o.guard = none) (s x : Operand) (ho : o.op = .call { callee := .builtin .append, args := #[s, x], argTypes := #[36, 36] })
    (B : Nat) (mv u0 : Value) (h1 : u0.oneCell' = true) (k : Nat) (vs : List Value) (hs : a.eval s = mv) (hown : w0.ownsRow B 24 1 mv k vs) (blk l c : Nat) (hblk : w0.heap.size = blk) (hl : l = 1) (hx : a.eval x = .slice (some ⟨blk, 0, none⟩) l c) (hk : k ≤ 1000) (hB : B ≤ w0.heap.size)
    (h : ∀ g cap w', w'.ownsRow B 24 1 (.slice (some ⟨g, 0, none⟩) (k + 1) cap) (k + 1) (vs ++ [u0]) → (w0.alloc (.cells #[u0] 24)).grownBy w' mv.ownBlock → (mv.ownBlock = some g ∨ g = w0.heap.size + 1) → wpList Ybaf.prog ops Q rest (a.put o.dst (.slice (some ⟨g, 0, none⟩) (k + 1) cap)) w') :
    wpList Ybaf.prog ops Q (o :: rest) a (w0.alloc (.cells #[u0] 24)) := by
  subst hblk hl
  refine wpList_plain hgd fun K hK => ?_
  obtain ⟨g, cap, w', hr, p, q, r⟩ := run_msg w0 o.type B mv u0 h1 k vs hown c hk hB
  unfold Oper.wp execOp
  simp only [ho, resolve, invoke, builtin, Sem.run_bind, Sem.run_pure, Result.andThen_ok, List.map_toArray, List.map_cons, List.map_nil, hs, hx, hr]
  exact hK _ _ (h g cap w' p q r)

/-- What a Write that is taken leaves. -/
structure Wrote (w w' : World) (B zb g : Nat) (L : List Int) (mv : Value) (out : List (List Int)) (n : Nat) : Prop where
  msgs : ∃ mv' vs', w'.cell? ⟨zb, 0, none⟩ = some mv' ∧ Msgs w' B g mv' vs' (out ++ [L])
  calls : w'.cell? ⟨zb, 1, none⟩ = some (.int .i64 ((n + 1 : Nat) : Int))
  z2 : w'.cell? ⟨zb, 2, none⟩ = w.cell? ⟨zb, 2, none⟩
  zf : ∀ j, w'.frozen? ⟨zb, j, none⟩ = w.frozen? ⟨zb, j, none⟩
  size : w.heap.size ≤ w'.heap.size
  block : ∀ k, k < w.heap.size → k ≠ zb → some k ≠ mv.ownBlock → w'.heap[k]? = w.heap[k]?
  os : w'.os = w.os
  tape : w'.tape = w.tape
  output : w'.output = w.output

set_option maxRecDepth 100000 in
set_option maxHeartbeats 2000000 in
theorem write_ok (B zb g cap : Nat) (L : List Int) (mv : Value) (vs : List Value) (out : List (List Int)) (n : Nat) (w : World) (hn : n ≤ 100000) (ho : out.length ≤ 1000) (hb : Buf w B (.slice (some ⟨g, 0, none⟩) L.length cap) L) (hL0 : 0 < L.length) (hL1 : L.length ≤ 10000) (hm : Msgs w B g mv vs out) (c0 : w.cell? ⟨zb, 0, none⟩ = some mv) (c1 : w.cell? ⟨zb, 1, none⟩ = some (.int .i64 n)) (c2 : w.cell? ⟨zb, 2, none⟩ = some .nilIface) (zf : ∀ j, w.frozen? ⟨zb, j, none⟩ = false) (hzb : zb < B) (hB : B ≤ w.heap.size) :
    Calls Ybaf.prog 64 #[.pointer (some ⟨zb, 0, none⟩), .slice (some ⟨g, 0, none⟩) L.length cap] w fun e w' => e = .returned (.tuple #[.int .i64 L.length, .nilIface]) ∧ Wrote w w' B zb g L mv out n := by
  obtain ⟨ma, mn, mc, rfl⟩ : ∃ ma mn mc, mv = .slice ma mn mc := by
    rcases hm.own.2 with ⟨rfl, _⟩ | ⟨_, _, _, rfl, _⟩
    · exact ⟨_, _, _, rfl⟩
    · exact ⟨_, _, _, rfl⟩
  have z1 := zf 1
  go_enter Ybaf.func64, Ybaf.ntmps64
  go_upto_region 4 with fail
  have hs1 : (w.setCell ⟨zb, 1, none⟩ (.int .i64 ((n : Int) + 1))).heap.size = w.heap.size := World.size_setCell _ _ _
  have hk1 : ∀ k, k ≠ zb → (w.setCell ⟨zb, 1, none⟩ (.int .i64 ((n : Int) + 1))).heap[k]? = w.heap[k]? := fun k hk => Below.heap_setCell _ _ _ _ hk
  have hb1 : Buf (w.setCell ⟨zb, 1, none⟩ (.int .i64 ((n : Int) + 1))) B (.slice (some ⟨g, 0, none⟩) L.length cap) L := hb.setFar hzb _
  have d0 : (w.setCell ⟨zb, 1, none⟩ (.int .i64 ((n : Int) + 1))).cell? ⟨zb, 0, none⟩ = some (.slice ma mn mc) := (World.cell?_setCell_other _ _ _ _ (by simp)).trans c0
  have d1 : (w.setCell ⟨zb, 1, none⟩ (.int .i64 ((n : Int) + 1))).cell? ⟨zb, 1, none⟩ = some (.int .i64 ((n : Int) + 1)) := World.cell?_setCell_same _ _ _ c1
  have d2 : (w.setCell ⟨zb, 1, none⟩ (.int .i64 ((n : Int) + 1))).cell? ⟨zb, 2, none⟩ = w.cell? ⟨zb, 2, none⟩ := World.cell?_setCell_other _ _ _ _ (by simp)
  have df : ∀ j, (w.setCell ⟨zb, 1, none⟩ (.int .i64 ((n : Int) + 1))).frozen? ⟨zb, j, none⟩ = w.frozen? ⟨zb, j, none⟩ := fun j => World.frozen?_setCell _ _ _ _
  have hos : (w.setCell ⟨zb, 1, none⟩ (.int .i64 ((n : Int) + 1))).os = w.os := rfl
  have htp : (w.setCell ⟨zb, 1, none⟩ (.int .i64 ((n : Int) + 1))).tape = w.tape := rfl
  have hop : (w.setCell ⟨zb, 1, none⟩ (.int .i64 ((n : Int) + 1))).output = w.output := rfl
  have hm1 : Msgs (w.setCell ⟨zb, 1, none⟩ (.int .i64 ((n : Int) + 1))) B g (.slice ma mn mc) vs out := hm.keep (fun k h1 h2 h3 => hk1 k (by omega)) (.inl rfl)
  generalize hw1 : (w.setCell ⟨zb, 1, none⟩ (.int .i64 ((n : Int) + 1))) = w1 at *
  have HS := hide (And.intro hs1 (And.intro hk1 (And.intro d2 (And.intro df (And.intro hos (And.intro htp (And.intro hop hw1)))))))
  have hzl : zb < w1.heap.size := by omega
  have hB1 : B ≤ w1.heap.size := by omega
  have hgl : g < w1.heap.size := (hb1.lt g rfl).2
  have f0 : w1.frozen? ⟨zb, 0, none⟩ = false := (df 0).trans (zf 0)
  have e0 : w1.drew.cell? ⟨zb, 0, none⟩ = some (.slice ma mn mc) := d0
  have e3 : w1.drew.frozen? ⟨zb, 0, none⟩ = false := f0
  have hnews : Hid (∀ j u, (L.map (Value.int .u8))[j]? = some u → w1.drew.cell? ((⟨g, 0, none⟩ : Addr).add j) = some u) := fun j u hu => by
    have hj : j < L.length := by have := (List.getElem?_eq_some_iff.1 hu).1; simpa using this
    rw [Addr.add_lit, Nat.zero_add]
    have := (hb1.cell j hj).1
    simp [List.getElem?_eq_getElem hj] at hu
    rw [← hu]
    exact this
  have hzl2 : Hid (zb < w1.drew.heap.size) := hzl
  have hB2 : Hid (B ≤ w1.drew.heap.size) := hB1
  have Hm1 := hide hm1
  have hM2 : ∀ w2, w1.drew.grownBy w2 none → Msgs w2 B g (.slice ma mn mc) vs out := fun w2 hg => hm1.keep (fun k h1 h2 h3 => hg.block k h2 (by simp)) (.inl rfl)
  have HM2 := hide hM2
  have HD : Hid (w1.cell? ⟨zb, 1, none⟩ = some (.int .i64 ((n + 1 : Nat) : Int))) := d1
  have HX : Hid (∀ (w2 w3 : World) (u : Value), w1.drew.grownBy w2 none → (w2.alloc (.cells #[u] 24)).grownBy w3 (Value.slice ma mn mc).ownBlock → w3.cell? ⟨zb, 0, none⟩ = some (.slice ma mn mc) ∧ w3.frozen? ⟨zb, 0, none⟩ = false) := by
    intro w2 w3 u g2 g3
    have hzn : some zb ≠ (Value.slice ma mn mc).ownBlock := fun e => by have := (hm1.own.lt zb e.symm).1; omega
    have hz2 : zb < w2.heap.size := Nat.lt_of_lt_of_le hzl g2.size
    have hz3 : zb < (w2.alloc (.cells #[u] 24)).heap.size := by simp; omega
    exact ⟨(g3.cell_far ⟨zb, 0, none⟩ hz3 hzn).trans ((World.cell?_alloc_past _ _ _ hz2).trans ((g2.cell_far ⟨zb, 0, none⟩ hzl (by simp)).trans e0)), (g3.frozen_far ⟨zb, 0, none⟩ hz3 hzn).trans ((frozen?_alloc_cells _ _ _ _).trans ((g2.frozen_far ⟨zb, 0, none⟩ hzl (by simp)).trans e3))⟩
  clear hs1 hk1 hb1 hos htp hop hm1 hw1 d1 d2 df hzl hB1 hM2 c0 c1 c2 zf z1 hb hm d0 f0
  go_region_law (first
    | (refine step_copy w1.drew rfl (.tmp 27) rfl B L ⟨g, 0, none⟩ cap (by first | (simp [Act.eval]; done) | (simp [Act.eval, Act.put]; done)) hnews.out hL0 hL1 hB2.out ?_; intro cb ccap w2 hb2 hg2 hc2 hl2; have y0 := (hg2.cell_far ⟨zb, 0, none⟩ hzl2.out (by simp)).trans e0; have y3 := (hg2.frozen_far ⟨zb, 0, none⟩ hzl2.out (by simp)).trans e3; have hm2 := HM2.out w2 hg2; have hz2 : zb < w2.heap.size := Nat.lt_of_lt_of_le hzl2.out hg2.size)
    | (refine step_msg w2 rfl (.tmp 26) (.tmp 29) rfl B (.slice ma mn mc) (.slice (some ⟨cb, 0, none⟩) L.length ccap) rfl out.length vs (by first | (simp [Act.eval]; done) | (simp [Act.eval, Act.put]; done)) hm2.own w2.heap.size 1 1 rfl rfl (by first | (simp [Act.eval]; done) | (simp [Act.eval, Act.put]; done)) ho (Nat.le_trans hB2.out hg2.size) ?_; intro rg rcap w3 ho3 hg3 hl3; obtain ⟨x0, x3⟩ := HX.out w2 w3 _ hg2 hg3))
  all_goals
    go_wp2
    go_ret2
    obtain ⟨hs1, hk1, d2, df, hos, htp, hop, hw1⟩ := HS.out
    have hsd : w1.drew.heap.size = w1.heap.size := rfl
    have hs2 := hg2.size
    have hs3 := hg3.size
    have hal : (w2.alloc (.cells #[.slice (some ⟨cb, 0, none⟩) L.length ccap] 24)).heap.size = w2.heap.size + 1 := by simp
    have hkk : ∀ k, k < w1.drew.heap.size → (w2.alloc (.cells #[.slice (some ⟨cb, 0, none⟩) L.length ccap] 24)).heap[k]? = w1.drew.heap[k]? := fun k hk => (heap_alloc_old w2 _ (by omega)).trans (hg2.block k hk (by simp))
    have hP : Msgs w3 B g (.slice (some ⟨rg, 0, none⟩) (out.length + 1) rcap) (vs ++ [.slice (some ⟨cb, 0, none⟩) L.length ccap]) (out ++ [L]) :=
      Msgs.push (w := w1) (w1 := w2.alloc (.cells #[.slice (some ⟨cb, 0, none⟩) L.length ccap] 24)) Hm1.out (fun k h1 h2 h3 => hkk k h2) (by omega) hgl (hb2.alloc _) cb rfl hc2 ho3 hg3 (hl3.imp (fun e => e.symm) (fun e => by rw [hal, e]; rfl))
    have hzn : some zb ≠ (Value.slice ma mn mc).ownBlock := fun e => by have := (hm2.own.lt zb e.symm).1; omega
    have hz3 : zb < (w2.alloc (.cells #[.slice (some ⟨cb, 0, none⟩) L.length ccap] 24)).heap.size := by omega
    have hzc : ∀ j, w3.cell? ⟨zb, j, none⟩ = w1.cell? ⟨zb, j, none⟩ := fun j => (hg3.cell_far ⟨zb, j, none⟩ hz3 hzn).trans ((World.cell?_alloc_past _ _ _ hz2).trans (hg2.cell_far ⟨zb, j, none⟩ hzl2.out (by simp)))
    have hzf : ∀ j, w3.frozen? ⟨zb, j, none⟩ = w1.frozen? ⟨zb, j, none⟩ := fun j => (hg3.frozen_far ⟨zb, j, none⟩ hz3 hzn).trans ((frozen?_alloc_cells _ _ _ _).trans (hg2.frozen_far ⟨zb, j, none⟩ hzl2.out (by simp)))
    have hk3 : ∀ k, k < w1.heap.size → k ≠ zb → some k ≠ (Value.slice ma mn mc).ownBlock → (w3.setCell ⟨zb, 0, none⟩ (.slice (some ⟨rg, 0, none⟩) (out.length + 1) rcap)).heap[k]? = w1.heap[k]? := fun k h1 h2 h3 => (Below.heap_setCell _ _ _ _ h2).trans ((hg3.block k (by omega) h3).trans (hkk k h1))
    refine ⟨rfl, ⟨_, _, World.cell?_setCell_same _ _ _ x0, hP.keep (fun k h1 h2 h3 => Below.heap_setCell _ _ _ _ (by show k ≠ zb; omega)) (.inl rfl)⟩, ?_, ?_, fun j => ?_, ?_, fun k h1 h2 h3 => ?_, ?_, ?_, ?_⟩
    · exact (World.cell?_setCell_other _ _ _ _ (by simp)).trans ((hzc 1).trans HD.out)
    · exact (World.cell?_setCell_other _ _ _ _ (by simp)).trans ((hzc 2).trans d2)
    · exact (World.frozen?_setCell _ _ _ _).trans ((hzf j).trans (df j))
    · rw [World.size_setCell]; omega
    · exact (hk3 k (by omega) h2 h3).trans (hk1 k h2)
    · exact hg3.os.trans (hg2.os.trans hos)
    · exact hg3.tape.trans (hg2.tape.trans htp)
    · exact hg3.output.trans (hg2.output.trans hop)
end Go.Proofs.YbulkbleuFmt.B
