/- LawS3101B*: (*MessageWriter).add: the first record: the template's record before it. -/
import Derived.Test.YbulkbleuFmtAdd
namespace Go.Proofs.YbulkbleuFmt.B
open Go.RowKit Go.Maps

theorem MsgAt.mc {w w' : World} {mb s B : Nat} {v v0 v1 tv : Value} {sid0 id rec : Int} {s0 : Nat} {L L1 : List Int} (h : MsgAt w w' mb v s id) (hM : MC w mb v0 s0 sid0 rec tv) (hS : Step w w' B mb v1 v L L1) : MC w' mb v s id rec tv :=
  ⟨h.c7, h.c8, h.c9, (h.rest 10 (by omega)).trans hM.c10, (h.rest 11 (by omega)).trans hM.c11, hM.c12.imp fun _ hd => (h.rest 12 (by omega)).trans hd, fun j => (hS.frz j).trans (hM.fz j)⟩

theorem info28 : (Ybaf.prog.info? 28).map (fun i => (i.zero, i.size, i.bytes)) = some (some (.pointer none), 1, 8) := by kernel_rfl

/-- 'append(templates, t)', templates nil. -/
theorem wpList_tpls {ops : Array Oper} {rest : List Oper} {o : Oper} {a : Act} {Q : Exit → Act → World → Prop} (w0 : World) (tb : Nat) (hgd : o.guard = none) (s x : Operand)
    (ho : o.op = .call { callee := .builtin .append, args := #[s, x], argTypes := #[45, 45] }) (hs : a.eval s = .slice none 0 0) (blk : Nat) (hblk : w0.heap.size = blk) (m c : Nat) (hm : m = 1) (hx : a.eval x = .slice (some ⟨blk, 0, none⟩) m c)
    (h : ∀ pb pc w', w0.grownBy w' none → w'.cell? ⟨pb, 0, none⟩ = some (.pointer (some ⟨tb, 0, none⟩)) → w0.heap.size ≤ pb → pb < w'.heap.size → wpList Ybaf.prog ops Q rest (a.put o.dst (.slice (some ⟨pb, 0, none⟩) 1 pc)) w') :
    wpList Ybaf.prog ops Q (o :: rest) a (w0.alloc (.cells #[.pointer (some ⟨tb, 0, none⟩)] 28)) := by
  subst hm hblk
  obtain ⟨i0, hi, hz0, hz1, hz2⟩ := info_parts info28
  have hown : (w0.alloc (.cells #[.pointer (some ⟨tb, 0, none⟩)] 28)).ownsRow (w0.heap.size + 1) 28 1 (.slice none 0 0) 0 [] := ⟨rfl, .inl ⟨rfl, rfl⟩⟩
  refine wpList_append_lies _ hgd s x 45 ho (w0.heap.size + 1) 28 i0 (.pointer none) 1 8 Ybaf.underlying45 hi hz0 hz1 hz2 rfl (by omega) (.slice none 0 0) 0 [] hs hown ⟨w0.heap.size, 0, none⟩ 1 c [.pointer (some ⟨tb, 0, none⟩)] hx rfl (fun j u hu => ?_) (fun u hu => ?_) (by omega) (by unfold maxLen; omega) (by omega) (by simp) (w0.heap.size + 1) (by simp) fun g cp w' hO hg _ hlt => ?_
  · have hj := (List.getElem?_eq_some_iff.1 hu).1
    simp at hj
    subst hj
    simp at hu
    subst hu
    simp [Addr.add]
  · simp at hu
    subst hu
    rfl
  · rw [Nat.zero_add] at hO ⊢
    rw [List.nil_append] at hO
    have hgb : w0.heap.size + 1 ≤ g := by
      rcases hO.2 with ⟨e, _⟩ | ⟨g', cap', cur, e, hb', _⟩
      · simp at e
      · simp only [Value.slice.injEq, Option.some.injEq, Addr.mk.injEq] at e
        omega
    have hc := hO.cells rfl 0 (.pointer (some ⟨tb, 0, none⟩)) rfl
    have hadd : (⟨g, 0, none⟩ : Addr).add 0 = ⟨g, 0, none⟩ := by simp [Addr.add]
    rw [hadd] at hc
    refine h g cp w' ?_ hc (by omega) hlt
    have ga := World.grownBy_alloc w0 (.cells #[.pointer (some ⟨tb, 0, none⟩)] 28) none
    exact ⟨hg.os.trans ga.os, hg.tape.trans ga.tape, hg.output.trans ga.output, Nat.le_trans ga.size hg.size, fun k hk hn => (hg.block k (Nat.lt_of_lt_of_le hk ga.size) (by simp [Value.ownBlock])).trans (ga.block k hk hn)⟩

theorem Ext.ofGrown {w w' : World} {B : Nat} {v : Value} {L : List Int} (h : Buf w B v L) (hg : w.grownBy w' none) : Ext w B v L w' v L :=
  ⟨h, h.kept hg (by obtain ⟨g, cap, cur, rfl, _⟩ := h; simp [Value.ownBlock]), h.kept hg (by obtain ⟨g, cap, cur, rfl, _⟩ := h; simp [Value.ownBlock]), ⟨hg.os, hg.tape, hg.output, hg.size, fun k hk _ => hg.block k hk (by simp)⟩, .inl ⟨rfl, rfl⟩, [], by simp⟩

theorem Tpl.step {w w' : World} {B mb tb fb : Nat} {v v' : Value} {L L' : List Int} {tid : Int} {fs : List (Int × Int)} (h : Tpl w tb fb tid fs) (hS : Step w w' B mb v v' L L') (htb : tb < B) (hfb : fb < B) (htm : tb ≠ mb) (hfm : fb ≠ mb) (hB : B ≤ w.heap.size) : Tpl w' tb fb tid fs := by
  have hne : ∀ k, k < B → some k ≠ v.ownBlock := fun k hk => hS.start.ne hk
  have hc : ∀ j, w'.cell? ⟨tb, j, none⟩ = w.cell? ⟨tb, j, none⟩ := fun j => World.cell?_of_block (a := ⟨tb, j, none⟩) (hS.block tb (by omega) htm (hne tb htb))
  have hd : ∀ j, w'.cell? ⟨fb, j, none⟩ = w.cell? ⟨fb, j, none⟩ := fun j => World.cell?_of_block (a := ⟨fb, j, none⟩) (hS.block fb (by omega) hfm (hne fb hfb))
  exact ⟨(hc 0).trans h.c0, (hc 1).trans h.c1, (hc 2).trans h.c2, fun i hi => by
    obtain ⟨a, b, c⟩ := h.fs i hi
    exact ⟨(hd _).trans a, (hd _).trans b, (hd _).trans c⟩⟩
theorem Step.trans {w w1 w2 : World} {B mb : Nat} {v v1 v2 : Value} {L L1 L2 : List Int} (h : Step w w1 B mb v v1 L L1) (k : Step w1 w2 B mb v1 v2 L1 L2) (hmb : mb < B) : Step w w2 B mb v v2 L L2 := by
  obtain ⟨M1, e1⟩ := h.pre
  obtain ⟨M2, e2⟩ := k.pre
  refine ⟨h.start, k.body, ?_, ?_, ⟨M1 ++ M2, by rw [e2, e1, List.append_assoc]⟩, k.os.trans h.os, k.tape.trans h.tape, k.output.trans h.output, Nat.le_trans h.size k.size, fun i hi hm hn => ?_, fun j hj => (k.cells j hj).trans (h.cells j hj), fun j => (k.frz j).trans (h.frz j)⟩
  · rcases h.lies with ⟨a, b⟩ | ⟨g, a, b⟩
    · have ko := k.old
      obtain ⟨g, cap, cur, rfl, _⟩ := h.start
      obtain ⟨g1, cap1, cur1, rfl, _⟩ := h.body
      simp [Value.ownBlock] at a
      simp [capOf] at b
      subst a b
      rw [e1] at ko
      exact ko.pre
    · have hlt := h.old.lt
      have hls := h.start.lt
      obtain ⟨g', cap, cur, e, hbg, hh, rest⟩ := h.old
      refine ⟨g', cap, cur, e, hbg, ?_, rest⟩
      have ho : v.ownBlock = some g' := by rw [e]; rfl
      have h2 := (hls g' ho).2
      rw [k.block g' (hlt g' ho).2 (by omega) (by rw [a]; simp; omega)]
      exact hh
  · rcases k.lies with ⟨a, b⟩ | ⟨g, a, b⟩
    · rcases h.lies with ⟨c, d⟩ | ⟨g, c, d⟩
      · exact .inl ⟨a.trans c, b.trans d⟩
      · exact .inr ⟨g, a.trans c, d⟩
    · exact .inr ⟨g, a, Nat.le_trans h.size b⟩
  · rw [k.block i (Nat.lt_of_lt_of_le hi h.size) hm ?_, h.block i hi hm hn]
    rcases h.lies with ⟨a, _⟩ | ⟨g, a, b⟩
    · rw [a]; exact hn
    · rw [a]; simp; omega
theorem MC.grown {w w' : World} {mb s : Nat} {v tv : Value} {sid rec : Int} {r : Option Nat} (h : MC w mb v s sid rec tv) (hg : w.grownBy w' r) (hl : mb < w.heap.size) (hne : some mb ≠ r) : MC w' mb v s sid rec tv := by
  have hc : ∀ j, w'.cell? ⟨mb, j, none⟩ = w.cell? ⟨mb, j, none⟩ := fun j => hg.cell_far ⟨mb, j, none⟩ hl hne
  exact ⟨(hc 7).trans h.c7, (hc 8).trans h.c8, (hc 9).trans h.c9, (hc 10).trans h.c10, (hc 11).trans h.c11, h.c12.imp fun _ hd => (hc 12).trans hd, fun j => (hg.frozen_far ⟨mb, j, none⟩ hl hne).trans (h.fz j)⟩
theorem Step.own {w w1 : World} {B mb N vb : Nat} {v v1 : Value} {L L1 : List Int} (h : Step w w1 B mb v v1 L L1) (hn : ∀ k, v.ownBlock = some k → k < vb ∨ N ≤ k) (hN : N ≤ w.heap.size) : ∀ k, v1.ownBlock = some k → k < vb ∨ N ≤ k := fun k hk => by
  rcases h.lies with ⟨a, _⟩ | ⟨g, a, b⟩
  · exact hn k (by rw [← a]; exact hk)
  · rw [a] at hk
    simp at hk
    omega
theorem ValsIn.step {N : Nat} {w w' : World} {B mb vb : Nat} {v v' : Value} {L L' : List Int} {rows : List (List Int)} (h : ValsIn N w vb rows) (hS : Step w w' B mb v v' L L') (hN : N ≤ w.heap.size) (hv : vb < N) (hmv : mb < vb) (hn : ∀ k, v.ownBlock = some k → k < vb ∨ N ≤ k) : ValsIn N w' vb rows := fun i hi => by
  obtain ⟨g, a, b, c, d⟩ := h i hi
  have hne : ∀ k, vb ≤ k → k < N → some k ≠ v.ownBlock := fun k h1 h2 e => by have := hn k e.symm; omega
  exact ⟨g, a, b, (World.cell?_of_block (a := ⟨vb, i, none⟩) (hS.block vb (by omega) (by omega) (hne vb (Nat.le_refl _) hv))).trans c, fun q hq => (World.cell?_of_block (a := ⟨g, q, none⟩) (hS.block g (by omega) (by omega) (hne g (by omega) b))).trans (d q hq)⟩
/-- A block that holds a pointer at its head is not the buffer's. -/
theorem Buf.other {w : World} {B pb : Nat} {v : Value} {L : List Int} {a : Addr} (h : Buf w B v L) (hL : 0 < L.length) (hc : w.cell? ⟨pb, 0, none⟩ = some (.pointer (some a))) : some pb ≠ v.ownBlock := by
  obtain ⟨g, cap, n, hv⟩ := h.shape
  have hb := h
  subst hv
  obtain ⟨g', cap', cur, e, _⟩ := h
  simp only [Value.slice.injEq, Option.some.injEq, Addr.mk.injEq, and_true] at e
  obtain ⟨_, rfl, _⟩ := e
  have := (hb.cell 0 hL).1
  intro e
  simp [Value.ownBlock] at e
  subst e
  rw [this] at hc
  simp at hc
def tplB (tid : Int) (fs : List (Int × Int)) : List Int := be16 tid ++ (be16 fs.length ++ specB fs)

set_option maxRecDepth 100000 in
set_option maxHeartbeats 2000000 in
theorem add_first (B mb tb fb vb c sb N : Nat) (v : Value) (L : List Int) (tid sid rec : Int) (fs : List (Int × Int)) (rows : List (List Int)) (w : World) (hb : Buf w B v L) (hM : MC w mb v 0 sid rec (.slice none 0 0)) (c5 : w.cell? ⟨mb, 5, none⟩ = some (.map (some sb))) (c6 : w.cell? ⟨mb, 6, none⟩ = some (.pointer none))
    (hT : Tpl w tb fb tid fs) (hwf : Hid (FsWf fs)) (hk : fs.length ≤ 4) (htb : tb < B) (hfb : fb < B) (hmb : mb < B) (htm : tb ≠ mb) (hfm : fb ≠ mb) (hmv : mb < vb) (hlen : L.length ≤ 1000) (hL0 : 0 < L.length) (hB : B ≤ w.heap.size) (hr0 : 0 ≤ rec) (hr1 : rec < 100000) (ht0 : 256 ≤ tid) (ht1 : tid < 65536)
    (hV : ValsIn N w vb rows) (hN : N ≤ w.heap.size) (hvb : vb < N) (hn : Hid (∀ k, v.ownBlock = some k → k < vb ∨ N ≤ k)) (hfit : Hid (Fits fs rows))
    (hl : (Instr.lookup 43 (.map (some sb)) (.int .u16 tid) false).run Ybaf.prog w.drew = .ok (.pointer none) w.drew) :
    Calls Ybaf.prog 27 #[.pointer (some ⟨mb, 0, none⟩), .pointer (some ⟨tb, 0, none⟩), .slice (some ⟨vb, 0, none⟩) fs.length c] w fun e w' => ∃ v' pb pc, e = .returned .nilIface ∧ Step w w' B mb v v' L (patch (L ++ be16 2 ++ be16 0 ++ tplB tid fs) (L.length + 2) (4 + (tplB tid fs).length) ++ be16 tid ++ be16 0 ++ rows.flatten) ∧
      MC w' mb v' (L.length + 4 + (tplB tid fs).length) tid (rec + 1) (.slice (some ⟨pb, 0, none⟩) 1 pc) ∧ w'.cell? ⟨pb, 0, none⟩ = some (.pointer (some ⟨tb, 0, none⟩)) ∧ w.heap.size ≤ pb := by
  have hnq := neqNil28 w.drew ⟨tb, 0, none⟩
  have c11 := hM.c11
  have t0 := hT.c0
  go_enter Ybaf.func27, Ybaf.ntmps27
  go_wp2
  go_cut [32] (fun s32 wk => s32 = .bool true ∧ wk = w.drew)
  case first =>
    go_region_held3 (fun w' => w' = w.drew) (first | rfl | assumption) (first | (go_at_call 37; refine (contains_none none 0 tb _).mono ?_; rintro e w1 ⟨rfl, rfl⟩))
    all_goals (go_wp2_with fail; go_meet; exact ⟨rfl, rfl⟩)
  case rest =>
    obtain ⟨rfl, rfl⟩ := hcut
    have hS1 := (Step.refl (mb := mb) hb).drew
    have hM1 : MC w.drew mb v 0 sid rec (.slice none 0 0) := ⟨hM.c7, hM.c8, hM.c9, hM.c10, hM.c11, hM.c12, hM.fz⟩
    have hT1 : Tpl w.drew tb fb tid fs := ⟨hT.c0, hT.c1, hT.c2, hT.fs⟩
    have hV1 : ValsIn N w.drew vb rows := hV
    have hN1 : N ≤ w.drew.heap.size := hN
    have hB1 : B ≤ w.drew.heap.size := hB
    have c6d : w.drew.cell? ⟨mb, 6, none⟩ = some (.pointer none) := c6
    have k7 := hM1.c7
    have k8 : w.drew.cell? ⟨mb, 8, none⟩ = some (.int .i64 0) := hM1.c8
    have k9 := hM1.c9
    have hz1 : Hid (∀ j, w.drew.frozen? ⟨mb, j, none⟩ = false) := hM1.fz
    have hwd : w.drew.heap.size = w.heap.size := rfl
    have Hwd := hide hwd
    have HTw := hide hT
    have HVw := hide hV
    clear c11 c5 hM hT hV t0 hnq hl c6 hwd
    go_upto_if 32 with fail
    generalize w.drew = w1 at *
    go_cut [10] (fun _ wk => ∃ v1 pb pc, Step w wk B mb v v1 L (L ++ be16 2 ++ be16 0 ++ tplB tid fs) ∧ MC wk mb v1 L.length 2 rec (.slice (some ⟨pb, 0, none⟩) 1 pc) ∧ wk.cell? ⟨pb, 0, none⟩ = some (.pointer (some ⟨tb, 0, none⟩)) ∧ w.heap.size ≤ pb ∧ pb < wk.heap.size)
    case first =>
      go_upto_region 14 with (go_at_call 39; refine (options_any tb fb tid fs _ hT1).mono ?_; rintro e w2 ⟨rfl, rfl⟩)
      have hb1 := hS1.body
      have hl2 : (L ++ be16 2 ++ be16 0).length ≤ 10000 := by simp only [List.length_append, be16_len]; omega
      go_wp2_with (first
        | (go_at_call 40; (with_reducible refine Calls.mono (open_first B mb v L 2 sid w1 hb1 k7 k8 k9 hz1 (by omega) (by omega) (by omega) hmb hB1) ?_); rintro e w2 ⟨v2, rfl, hS2, hMA2⟩; obtain ⟨g2, cp2, n2, rfl⟩ := hS2.body.shape; have hM2 := hMA2.mc hM1 hS2; have q7 := hM2.c7; have hT2 := hT1.step hS2 htb hfb htm hfm hB1; have hB2 : B ≤ w2.heap.size := Nat.le_trans hB1 hS2.size; have hb2 := hS2.body)
        | (go_at_call 41; (with_reducible refine Calls.mono (tplrec_any B _ (L ++ be16 2 ++ be16 0) tb fb tid fs w2 hb2 hT2 hwf hk (by omega) ht1 htb hfb hl2 hB2) ?_); rintro e w3 ⟨v3, rfl, hE3⟩; obtain ⟨g3, cp3, n3, rfl⟩ := hE3.body.shape; have hM3 := hM2.ext hE3 hmb hB2; have r7 := hM3.c7; have z7 := hM3.fz 7; have r11 := hM3.c11; have z11 := hM3.fz 11; have hB3 : B ≤ w3.heap.size := Nat.le_trans hB2 hE3.grown.size; have hS3 := (hS2.ext hE3 hmb hB1).set hmb 7 (by omega) (.slice (some ⟨g3, 0, none⟩) n3 cp3); have hM4 := hM3.set7 (.slice (some ⟨g3, 0, none⟩) n3 cp3))
        | (at_builtin; refine wpList_tpls (w3.setCell ⟨mb, 7, none⟩ (.slice (some ⟨g3, 0, none⟩) n3 cp3)) tb rfl _ _ rfl rfl _ (by first | rfl | simp) 1 _ rfl rfl ?_; intro pb pc w4 hg4 hp4 hp5 hp6; have hE4 := Ext.ofGrown hS3.body hg4; have hM5 := hM4.ext hE4 hmb (by rw [World.size_setCell]; exact hB3); have u11 := hM5.c11; have y11 := hM5.fz 11))
      go_meet
      have hsz := hS3.size
      have hwz := Hwd.out
      refine ⟨_, pb, pc, hS1.trans ((hS3.ext hE4 hmb hB1).set hmb 11 (by omega) _) hmb, hM5.set11 _, ?_, by omega, by rw [World.size_setCell]; exact hp6⟩
      rw [World.cell?_setCell_other _ _ _ _ (by intro e; simp only [Addr.mk.injEq] at e; omega)]
      exact hp4
    case rest =>
      obtain ⟨v2, pb, pc, hS2, hM2, hpc, hpb, hpb2⟩ := hcut
      have hwz := Hwd.out
      have hsz2 := hS2.size
      have hB2 : B ≤ wc.drew.heap.size := by show B ≤ wc.heap.size; omega
      have hTw : Tpl w tb fb tid fs := HTw.out
      have hT2 : Tpl wc.drew tb fb tid fs := by have h := hTw.step hS2 htb hfb htm hfm hB; exact ⟨h.c0, h.c1, h.c2, h.fs⟩
      have hVw : ValsIn N w vb rows := HVw.out
      have hV2 : ValsIn N wc vb rows := hVw.step hS2 hN hvb hmv hn.out
      have hn2 := hS2.own hn.out hN
      have hb2 : Buf wc.drew B v2 (L ++ be16 2 ++ be16 0 ++ tplB tid fs) := hS2.body
      have hMd : MC wc.drew mb v2 L.length 2 rec (.slice (some ⟨pb, 0, none⟩) 1 pc) := ⟨hM2.c7, hM2.c8, hM2.c9, hM2.c10, hM2.c11, hM2.c12, hM2.fz⟩
      have t0 := hT2.c0
      have k7' := hMd.c7
      have k8' := hMd.c8
      have k9' := hMd.c9
      have hzd : Hid (∀ j, wc.drew.frozen? ⟨mb, j, none⟩ = false) := hMd.fz
      have hlt : (tplB tid fs).length = 4 + 4 * fs.length := by simp [tplB, be16_len, specB_len]; omega
      have hLL : (L ++ be16 2 ++ be16 0 ++ tplB tid fs).length = L.length + 4 + (tplB tid fs).length := by simp only [List.length_append, be16_len]
      have hpn := hb2.other (a := ⟨tb, 0, none⟩) (by omega) hpc
      have hsid : ((2 : Int) == tid) = false := beq_eq_false_iff_ne.2 (by omega)
      have hL4 : L.length + 4 ≤ (L ++ be16 2 ++ be16 0 ++ tplB tid fs).length := by omega
      have hL9 : (L ++ be16 2 ++ be16 0 ++ tplB tid fs).length ≤ 10000 := by omega
      have hx : (((L ++ be16 2 ++ be16 0 ++ tplB tid fs).length : Int) - (L.length : Int)) = 4 + ((tplB tid fs).length : Int) := by omega
      have hpl : pb < wc.drew.heap.size := hpb2
      have hpm : pb ≠ mb := by omega
      have hml : mb < wc.drew.heap.size := by omega
      have hmn := hb2.ne hmb
      clear hS1 hM1 hT1 hV1 hN1 hB1 c6d k7 k8 k9 hz1 HTw HVw
      go_upto_region 17 with fail
      go_cut [121] (fun _ wk => ∃ v3, Step w wk B mb v v3 L (patch (L ++ be16 2 ++ be16 0 ++ tplB tid fs) (L.length + 2) (4 + (tplB tid fs).length) ++ be16 tid ++ be16 0) ∧ MC wk mb v3 (L.length + 4 + (tplB tid fs).length) tid rec (.slice (some ⟨pb, 0, none⟩) 1 pc) ∧ wk.cell? ⟨pb, 0, none⟩ = some (.pointer (some ⟨tb, 0, none⟩)))
      case first =>
        go_region_with (go_at_call 40; (with_reducible refine Calls.mono (open_next B mb L.length v2 (L ++ be16 2 ++ be16 0 ++ tplB tid fs) tid 2 wc.drew hb2 k7' k8' k9' hzd hL0 hL4 hsid (by omega) ht1 hL9 hmb hB2) ?_); rintro e w3 ⟨v3, wq, rfl, hbq, hgq, hSq, hMAq⟩)
        all_goals
          go_wp2_with fail
          go_meet
          have hP := (hS2.drew.patch (L.length + 2) _ hbq hgq (by omega) hmb hB).trans hSq hmb
          have hMq := hMAq.mc (hMd.grown hgq hml hmn) hSq
          rw [hx] at hP
          rw [hLL] at hMq
          refine ⟨v3, hP, hMq, ?_⟩
          have e1 := (hgq.cell_far ⟨pb, 0, none⟩ hpl hpn).trans hpc
          exact (World.cell?_of_block (a := ⟨pb, 0, none⟩) (hSq.block pb (Nat.lt_of_lt_of_le hpl hgq.size) hpm hpn)).trans e1
      case rest =>
        obtain ⟨v3, hS3, hM3, hpc3⟩ := hcut
        have hT3 := hTw.step hS3 htb hfb htm hfm hB
        have hV3 := hVw.step hS3 hN hvb hmv hn.out
        have hn3 : Hid (∀ k, v3.ownBlock = some k → k < vb ∨ N ≤ k) := hS3.own hn.out hN
        have hB3 : B ≤ wc.heap.size := Nat.le_trans hB hS3.size
        have hN3 : N ≤ wc.heap.size := Nat.le_trans hN hS3.size
        have hb3 := hS3.body
        have hl3 : (patch (L ++ be16 2 ++ be16 0 ++ tplB tid fs) (L.length + 2) (4 + (tplB tid fs).length) ++ be16 tid ++ be16 0).length ≤ 10000 := by
          simp only [List.length_append, patch_len, be16_len]
          omega
        have hl0 : 0 < (patch (L ++ be16 2 ++ be16 0 ++ tplB tid fs) (L.length + 2) (4 + (tplB tid fs).length) ++ be16 tid ++ be16 0).length := by
          simp only [List.length_append, be16_len]
          omega
        have hpn3 := hb3.other (a := ⟨tb, 0, none⟩) hl0 hpc3
        have hpl3 : pb < wc.heap.size := World.block_lt_of_cell? _ _ hpc3
        clear hS2 hM2 hpc hT2 hV2 hn2 hb2 hMd t0 k7' k8' k9' hzd hlt hLL hpn hsid hL4 hL9 hx hpl hml hmn hTw hVw hB2 hwz hsz2
        generalize hLLe : patch (L ++ be16 2 ++ be16 0 ++ tplB tid fs) (L.length + 2) (4 + (tplB tid fs).length) ++ be16 tid ++ be16 0 = LL at *
        generalize hsse : L.length + 4 + (tplB tid fs).length = ss at *
        have HLLe := hide hLLe
        have Hsse := hide hsse
        clear hLLe hsse
        have c7 := hM3.c7
        obtain ⟨g0, cp0, n0, hv⟩ := hb3.shape
        subst hv
        go_wp2_with (go_at_call 42; (with_reducible refine Calls.mono (record_in B _ LL tb fb vb c tid fs rows wc hb3 hT3 hwf hk htb hfb hl3 hB3 N hV3 hN3 hvb hn3 hfit) ?_); rintro e w4 ⟨v4, rfl, hE⟩; obtain ⟨g4, cp4, n4, rfl⟩ := hE.body.shape; have hM4 := hM3.ext hE hmb hB3; have k7 := hM4.c7; have k10 := hM4.c10; have z7 := hM4.fz 7; have z10 := hM4.fz 10)
        go_ret
        obtain rfl := HLLe.out
        obtain rfl := Hsse.out
        refine ⟨_, pb, pc, rfl, ((hS3.ext hE hmb hB).set hmb 7 (by omega) _).set hmb 10 (by omega) _, (hM4.set7 _).set10 _, ?_, hpb⟩
        rw [World.cell?_setCell_other _ _ _ _ (by intro e; simp only [Addr.mk.injEq] at e; omega), World.cell?_setCell_other _ _ _ _ (by intro e; simp only [Addr.mk.injEq] at e; omega)]
        exact (hE.grown.cell_far ⟨pb, 0, none⟩ hpl3 hpn3).trans hpc3
end Go.Proofs.YbulkbleuFmt.B
