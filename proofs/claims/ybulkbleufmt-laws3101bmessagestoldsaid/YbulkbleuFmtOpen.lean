/- LawS3101B*: (*outgoing).open beginning a new set. -/
import Derived.Test.YbulkbleuFmtMsg
namespace Go.Proofs.YbulkbleuFmt.B
open Go.RowKit

/-- What a piece of work on the message leaves: the buffer, and the older blocks but for the message's own cells. -/
structure Step (w w' : World) (B mb : Nat) (v v' : Value) (L L' : List Int) : Prop where
  start : Buf w B v L
  body : Buf w' B v' L'
  old : Buf w' B v L
  lies : (v'.ownBlock = v.ownBlock ∧ capOf v' = capOf v) ∨ ∃ g, v'.ownBlock = some g ∧ w.heap.size ≤ g
  pre : ∃ M, L' = L ++ M
  os : w'.os = w.os
  tape : w'.tape = w.tape
  output : w'.output = w.output
  size : w.heap.size ≤ w'.heap.size
  block : ∀ k, k < w.heap.size → k ≠ mb → some k ≠ v.ownBlock → w'.heap[k]? = w.heap[k]?
  cells : ∀ j, j < 7 ∨ 12 < j → w'.cell? ⟨mb, j, none⟩ = w.cell? ⟨mb, j, none⟩
  frz : ∀ j, w'.frozen? ⟨mb, j, none⟩ = w.frozen? ⟨mb, j, none⟩

theorem Buf.ne {w : World} {B mb : Nat} {v : Value} {L : List Int} (h : Buf w B v L) (hmb : mb < B) : some mb ≠ v.ownBlock := fun e => by have := (h.lt mb e.symm).1; omega
theorem Buf.setFar {w : World} {B mb j : Nat} {v : Value} {L : List Int} (h : Buf w B v L) (hmb : mb < B) (u : Value) : Buf (w.setCell ⟨mb, j, none⟩ u) B v L := by
  obtain ⟨g, cap, cur, rfl, hb, hh, rest⟩ := h
  exact ⟨g, cap, cur, rfl, hb, by rw [Below.heap_setCell _ _ _ _ (by simp; omega)]; exact hh, rest⟩
theorem Step.refl {w : World} {B mb : Nat} {v : Value} {L : List Int} (h : Buf w B v L) : Step w w B mb v v L L :=
  ⟨h, h, h, .inl ⟨rfl, rfl⟩, ⟨[], by simp⟩, rfl, rfl, rfl, Nat.le_refl _, fun _ _ _ _ => rfl, fun _ _ => rfl, fun _ => rfl⟩
theorem Step.ext {w w1 w2 : World} {B mb : Nat} {v v1 v2 : Value} {L L1 L2 : List Int} (h : Step w w1 B mb v v1 L L1) (k : Ext w1 B v1 L1 w2 v2 L2) (hmb : mb < B) (hB : B ≤ w.heap.size) : Step w w2 B mb v v2 L L2 := by
  obtain ⟨M1, e1⟩ := h.pre
  obtain ⟨M2, e2⟩ := k.pre
  have hlm : mb < w1.heap.size := by have := h.size; omega
  have hne := h.body.ne hmb
  refine ⟨h.start, k.body, ?_, ?_, ⟨M1 ++ M2, by rw [e2, e1, List.append_assoc]⟩, k.grown.os.trans h.os, k.grown.tape.trans h.tape, k.grown.output.trans h.output, Nat.le_trans h.size k.grown.size, fun i hi hm hn => ?_, fun j hj => (k.grown.cell_far ⟨mb, j, none⟩ hlm hne).trans (h.cells j hj), fun j => (k.grown.frozen_far ⟨mb, j, none⟩ hlm hne).trans (h.frz j)⟩
  · rcases h.lies with ⟨a, b⟩ | ⟨g, a, b⟩
    · have ko := k.old
      obtain ⟨g, cap, cur, rfl, _⟩ := h.start
      obtain ⟨g1, cap1, cur1, rfl, _⟩ := h.body
      simp [Value.ownBlock] at a
      simp [capOf] at b
      subst a b
      rw [e1] at ko
      exact ko.pre
    · refine h.old.kept k.grown ?_
      rw [a]
      intro e
      have := (h.start.lt g e).2
      omega
  · rcases k.lies with ⟨a, b⟩ | ⟨g, a, b⟩
    · rcases h.lies with ⟨c, d⟩ | ⟨g, c, d⟩
      · exact .inl ⟨a.trans c, b.trans d⟩
      · exact .inr ⟨g, a.trans c, d⟩
    · exact .inr ⟨g, a, Nat.le_trans h.size b⟩
  · rw [k.grown.block i (Nat.lt_of_lt_of_le hi h.size) ?_, h.block i hi hm hn]
    rcases h.lies with ⟨a, _⟩ | ⟨g, a, b⟩
    · rw [a]; exact hn
    · rw [a]; simp; omega
theorem Step.set {w w1 : World} {B mb : Nat} {v v1 : Value} {L L1 : List Int} (h : Step w w1 B mb v v1 L L1) (hmb : mb < B) (j : Nat) (hj : 7 ≤ j ∧ j ≤ 12) (u : Value) : Step w (w1.setCell ⟨mb, j, none⟩ u) B mb v v1 L L1 := by
  refine ⟨h.start, h.body.setFar hmb u, h.old.setFar hmb u, h.lies, h.pre, h.os, h.tape, h.output, by rw [World.size_setCell]; exact h.size, fun i hi hm hn => ?_, fun q hq => ?_, fun q => ?_⟩
  · rw [Below.heap_setCell _ _ _ _ hm]; exact h.block i hi hm hn
  · rw [World.cell?_setCell_other _ _ _ _ (by intro e; simp only [Addr.mk.injEq] at e; omega)]; exact h.cells q hq
  · rw [World.frozen?_setCell]; exact h.frz q
theorem Buf.shape {w : World} {B : Nat} {v : Value} {L : List Int} (h : Buf w B v L) : ∃ g cap n, v = .slice (some ⟨g, 0, none⟩) n cap := by
  obtain ⟨g, cap, cur, rfl, _⟩ := h; exact ⟨_, _, _, rfl⟩

/-- The message's cells: the buffer, the set's offset, its id; what else lies there as in w. -/
structure MsgAt (w w' : World) (mb : Nat) (v : Value) (s : Nat) (id : Int) : Prop where
  c7 : w'.cell? ⟨mb, 7, none⟩ = some v
  c8 : w'.cell? ⟨mb, 8, none⟩ = some (.int .i64 s)
  c9 : w'.cell? ⟨mb, 9, none⟩ = some (.int .u16 id)
  rest : ∀ j, 9 < j → w'.cell? ⟨mb, j, none⟩ = w.cell? ⟨mb, j, none⟩

/-- The two appends at the end of 'open'. -/
theorem MsgAt.ext {w w1 w2 : World} {B mb s : Nat} {id : Int} {v v1 v2 : Value} {L1 L2 : List Int} (h : MsgAt w w1 mb v s id) (k : Ext w1 B v1 L1 w2 v2 L2) (hmb : mb < B) (hB : B ≤ w1.heap.size) : MsgAt w w2 mb v s id := by
  have hne := k.start.ne hmb
  have hc : ∀ j, w2.cell? ⟨mb, j, none⟩ = w1.cell? ⟨mb, j, none⟩ := fun j => k.grown.cell_far ⟨mb, j, none⟩ (by show mb < _; omega) hne
  exact ⟨(hc 7).trans h.c7, (hc 8).trans h.c8, (hc 9).trans h.c9, fun j hj => (hc j).trans (h.rest j hj)⟩
theorem MsgAt.set7 {w w1 : World} {mb s : Nat} {id : Int} {v : Value} (h : MsgAt w w1 mb v s id) (v' : Value) : MsgAt w (w1.setCell ⟨mb, 7, none⟩ v') mb v' s id := by
  refine ⟨World.cell?_setCell_same _ _ _ h.c7, ?_, ?_, fun j hj => ?_⟩
  · rw [World.cell?_setCell_other _ _ _ _ (by simp)]; exact h.c8
  · rw [World.cell?_setCell_other _ _ _ _ (by simp)]; exact h.c9
  · rw [World.cell?_setCell_other _ _ _ _ (by intro e; simp only [Addr.mk.injEq] at e; omega)]; exact h.rest j hj

set_option maxRecDepth 100000 in
set_option maxHeartbeats 1000000 in
theorem open_first (B mb : Nat) (v : Value) (L : List Int) (id sid : Int) (w : World) (hb : Buf w B v L) (c7 : w.cell? ⟨mb, 7, none⟩ = some v) (c8 : w.cell? ⟨mb, 8, none⟩ = some (.int .i64 0)) (c9 : w.cell? ⟨mb, 9, none⟩ = some (.int .u16 sid)) (hz : Hid (∀ j, w.frozen? ⟨mb, j, none⟩ = false)) (h0 : 0 ≤ id) (h1 : id < 65536) (hlen : L.length ≤ 10000) (hmb : mb < B) (hB : B ≤ w.heap.size) :
    Calls Ybaf.prog 40 #[.pointer (some ⟨mb, 7, none⟩), .int .u16 id] w fun e w' => ∃ v', e = .returned (.tuple #[]) ∧ Step w w' B mb v v' L (L ++ be16 id ++ be16 0) ∧ MsgAt w w' mb v' L.length id := by
  have hlv : ∃ n cc a, v = .slice a n cc ∧ n = L.length := by obtain ⟨g, cap, cur, rfl, _⟩ := hb; exact ⟨_, _, _, rfl, rfl⟩
  obtain ⟨n, cc, a, hv, rfl⟩ := hlv
  have z8 := hz.out 8
  have z9 := hz.out 9
  subst hv
  have hS0 := ((Step.refl (mb := mb) hb).set hmb 8 (by omega) (.int .i64 (L.length : Int))).set hmb 9 (by omega) (.int .u16 id)
  have hM0 : MsgAt w ((w.setCell ⟨mb, 8, none⟩ (.int .i64 (L.length : Int))).setCell ⟨mb, 9, none⟩ (.int .u16 id)) mb (.slice a L.length cc) L.length id := by
    refine ⟨?_, ?_, ?_, fun j hj => ?_⟩
    · rw [World.cell?_setCell_other _ _ _ _ (by simp), World.cell?_setCell_other _ _ _ _ (by simp)]; exact c7
    · rw [World.cell?_setCell_other _ _ _ _ (by simp), World.cell?_setCell_same _ _ _ c8]
    · rw [World.cell?_setCell_same (u := .int .u16 sid)]
      rw [World.cell?_setCell_other _ _ _ _ (by simp)]; exact c9
    · rw [World.cell?_setCell_other _ _ _ _ (by intro e; simp only [Addr.mk.injEq] at e; omega), World.cell?_setCell_other _ _ _ _ (by intro e; simp only [Addr.mk.injEq] at e; omega)]
  go_enter Ybaf.func40, Ybaf.ntmps40
  go_wp2_with (go_at_call 30; refine (close_none mb _ c8).mono ?_; rintro e w1 ⟨rfl, rfl⟩)
  generalize ((w.setCell ⟨mb, 8, none⟩ (.int .i64 (L.length : Int))).setCell ⟨mb, 9, none⟩ (.int .u16 id)) = wa at *
  have k7 := hM0.c7
  have hBa : B ≤ wa.heap.size := Nat.le_trans hB hS0.size
  have hEd := Ext.drew hS0.body
  have hBd : B ≤ wa.drew.heap.size := hBa
  have hz7 : wa.frozen? ⟨mb, 7, none⟩ = false := (hS0.frz 7).trans (hz.out 7)
  clear c7 c8 c9 z8 z9
  go_cut [38] (fun s38 wk => Step w wk B mb (.slice a L.length cc) s38 L (L ++ be16 id) ∧ MsgAt w wk mb s38 L.length id)
  case first =>
    go_region_with (go_at_call 32; (with_reducible refine Calls.mono (app16 B _ _ id _ hEd.body h0 h1 (by omega) hBd) ?_); rintro e w1 ⟨v1, rfl, hE1⟩; obtain ⟨g1, cp1, n1, rfl⟩ := hE1.body.shape; have hX := hEd.trans hE1; have hM1 := hM0.ext hX hmb hBa; have q7 := hM1.c7; have hS1 := hS0.ext hX hmb hB; have qz := (hS1.frz 7).trans (hz.out 7))
    all_goals (go_wp2_with fail; go_meet; exact ⟨hS1.set hmb 7 (by omega) _, hM1.set7 _⟩)
  case rest =>
    obtain ⟨hS2, hM2⟩ := hcut
    obtain ⟨g2, cp2, n2, hv2⟩ := hS2.body.shape
    subst hv2
    have k7b := hM2.c7
    have hBb : B ≤ wc.heap.size := Nat.le_trans hB hS2.size
    have hEb := Ext.drew hS2.body
    have hBe : B ≤ wc.drew.heap.size := hBb
    have hz7b : wc.frozen? ⟨mb, 7, none⟩ = false := (hS2.frz 7).trans (hz.out 7)
    have hl2 : (L ++ be16 id).length ≤ 10002 := by rw [List.length_append, be16_len]; omega
    clear hS0 hM0 k7 hBa hEd hBd hz7
    go_wp2
    go_region_with (go_at_call 32; (with_reducible refine Calls.mono (app16 B _ _ 0 _ hEb.body (by omega) (by omega) (by omega) hBe) ?_); rintro e w1 ⟨v1, rfl, hE1⟩; obtain ⟨g1, cp1, n1, rfl⟩ := hE1.body.shape; have hX := hEb.trans hE1; have hM1 := hM2.ext hX hmb hBb; have q7 := hM1.c7; have hS1 := hS2.ext hX hmb hB; have qz := (hS1.frz 7).trans (hz.out 7))
    all_goals (go_wp2_with fail; go_end0; exact ⟨_, rfl, hS1.set hmb 7 (by omega) _, hM1.set7 _⟩)
end Go.Proofs.YbulkbleuFmt.B
