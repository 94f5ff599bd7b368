/- LawS3101B*: (*MessageWriter).add: a later record of a template that the message defines. -/
import Derived.Test.YbulkbleuFmtSent
import Derived.Test.YbulkbleuFmtPatch
import Derived.Test.YbulkbleuFmtRecIn
import Derived.Deep.RegionHeld3
import Derived.Deep.DeepCutAuto
import Derived.Stop.IfaceNil
namespace Go.Proofs.YbulkbleuFmt.B
open Go.RowKit Go.Maps

theorem run_equalIn_nil (P : Program) (w : World) (d : Nat) {tp te : TypeId} (a : Addr) (hp : P.underlying tp = some (.pointer te)) :
    (Op.equalIn (d + 1) tp (.pointer none) (.pointer (some a))).run P w = .ok false w := by
  simp [Op.equalIn, run_underlying hp]
theorem neqNil28 (w : World) (a : Addr) : (binOp .neq 28 (.pointer none) (.pointer (some a))).run Ybaf.prog w = .ok (.bool true) w := by
  simp only [binOp]
  simp [Op.equal, Op.maxDepth, run_equalIn_nil Ybaf.prog w 9999 a Ybaf.underlying28]

theorem Step.drew {w w1 : World} {B mb : Nat} {v v1 : Value} {L L1 : List Int} (h : Step w w1 B mb v v1 L L1) : Step w w1.drew B mb v v1 L L1 :=
  ⟨h.start, h.body, h.old, h.lies, h.pre, h.os, h.tape, h.output, h.size, h.block, h.cells, h.frz⟩

/-- The message's cells. -/
structure MC (w : World) (mb : Nat) (v : Value) (s : Nat) (sid rec : Int) (tv : Value) : Prop where
  c7 : w.cell? ⟨mb, 7, none⟩ = some v
  c8 : w.cell? ⟨mb, 8, none⟩ = some (.int .i64 s)
  c9 : w.cell? ⟨mb, 9, none⟩ = some (.int .u16 sid)
  c10 : w.cell? ⟨mb, 10, none⟩ = some (.int .u32 rec)
  c11 : w.cell? ⟨mb, 11, none⟩ = some tv
  c12 : ∃ d, w.cell? ⟨mb, 12, none⟩ = some (.bool d)
  fz : ∀ j, w.frozen? ⟨mb, j, none⟩ = false
theorem MC.ext {w w' : World} {mb B s : Nat} {v v1 v2 tv : Value} {sid rec : Int} {L1 L2 : List Int} (h : MC w mb v s sid rec tv) (k : Ext w B v1 L1 w' v2 L2) (hmb : mb < B) (hB : B ≤ w.heap.size) : MC w' mb v s sid rec tv := by
  have hne := k.start.ne hmb
  have hc : ∀ j, w'.cell? ⟨mb, j, none⟩ = w.cell? ⟨mb, j, none⟩ := fun j => k.grown.cell_far ⟨mb, j, none⟩ (by show mb < _; omega) hne
  exact ⟨(hc 7).trans h.c7, (hc 8).trans h.c8, (hc 9).trans h.c9, (hc 10).trans h.c10, (hc 11).trans h.c11, h.c12.imp fun _ hd => (hc 12).trans hd, fun j => (k.grown.frozen_far ⟨mb, j, none⟩ (by show mb < _; omega) hne).trans (h.fz j)⟩

theorem MC.set7 {w : World} {mb s : Nat} {v tv : Value} {sid rec : Int} (h : MC w mb v s sid rec tv) (v' : Value) : MC (w.setCell ⟨mb, 7, none⟩ v') mb v' s sid rec tv := by
  refine ⟨World.cell?_setCell_same _ _ _ h.c7, ?_, ?_, ?_, ?_, h.c12.imp fun _ hd => (World.cell?_setCell_other _ _ _ _ (by simp)).trans hd, fun j => by rw [World.frozen?_setCell]; exact h.fz j⟩
  · rw [World.cell?_setCell_other _ _ _ _ (by simp)]; exact h.c8
  · rw [World.cell?_setCell_other _ _ _ _ (by simp)]; exact h.c9
  · rw [World.cell?_setCell_other _ _ _ _ (by simp)]; exact h.c10
  · rw [World.cell?_setCell_other _ _ _ _ (by simp)]; exact h.c11
theorem MC.set10 {w : World} {mb s : Nat} {v tv : Value} {sid rec : Int} (h : MC w mb v s sid rec tv) (r : Int) : MC (w.setCell ⟨mb, 10, none⟩ (.int .u32 r)) mb v s sid r tv := by
  refine ⟨?_, ?_, ?_, World.cell?_setCell_same _ _ _ h.c10, ?_, h.c12.imp fun _ hd => (World.cell?_setCell_other _ _ _ _ (by simp)).trans hd, fun j => by rw [World.frozen?_setCell]; exact h.fz j⟩
  · rw [World.cell?_setCell_other _ _ _ _ (by simp)]; exact h.c7
  · rw [World.cell?_setCell_other _ _ _ _ (by simp)]; exact h.c8
  · rw [World.cell?_setCell_other _ _ _ _ (by simp)]; exact h.c9
  · rw [World.cell?_setCell_other _ _ _ _ (by simp)]; exact h.c11
theorem MC.set11 {w : World} {mb s : Nat} {v tv : Value} {sid rec : Int} (h : MC w mb v s sid rec tv) (t : Value) : MC (w.setCell ⟨mb, 11, none⟩ t) mb v s sid rec t := by
  refine ⟨?_, ?_, ?_, ?_, World.cell?_setCell_same _ _ _ h.c11, h.c12.imp fun _ hd => (World.cell?_setCell_other _ _ _ _ (by simp)).trans hd, fun j => by rw [World.frozen?_setCell]; exact h.fz j⟩
  · rw [World.cell?_setCell_other _ _ _ _ (by simp)]; exact h.c7
  · rw [World.cell?_setCell_other _ _ _ _ (by simp)]; exact h.c8
  · rw [World.cell?_setCell_other _ _ _ _ (by simp)]; exact h.c9
  · rw [World.cell?_setCell_other _ _ _ _ (by simp)]; exact h.c10

set_option maxRecDepth 100000 in
set_option maxHeartbeats 1000000 in
theorem add_same (B mb tb fb vb c sb pb pc s N : Nat) (v : Value) (L : List Int) (tid rec : Int) (fs : List (Int × Int)) (rows : List (List Int)) (w : World) (hb : Buf w B v L) (hM : MC w mb v s tid rec (.slice (some ⟨pb, 0, none⟩) 1 pc)) (c5 : w.cell? ⟨mb, 5, none⟩ = some (.map (some sb)))
    (hpb : w.cell? ⟨pb, 0, none⟩ = some (.pointer (some ⟨tb, 0, none⟩))) (hT : Tpl w tb fb tid fs) (hwf : Hid (FsWf fs)) (hk : fs.length ≤ 4) (htb : tb < B) (hfb : fb < B) (hmb : mb < B) (hlen : L.length ≤ 10000) (hB : B ≤ w.heap.size) (hs0 : 0 < s) (hr0 : 0 ≤ rec) (hr1 : rec < 100000)
    (hV : ValsIn N w vb rows) (hN : N ≤ w.heap.size) (hvb : vb < N) (hn : Hid (∀ k, v.ownBlock = some k → k < vb ∨ N ≤ k)) (hfit : Hid (Fits fs rows))
    (hl : (Instr.lookup 43 (.map (some sb)) (.int .u16 tid) false).run Ybaf.prog w.drew = .ok (.pointer none) w.drew) :
    Calls Ybaf.prog 27 #[.pointer (some ⟨mb, 0, none⟩), .pointer (some ⟨tb, 0, none⟩), .slice (some ⟨vb, 0, none⟩) fs.length c] w fun e w' => ∃ v', e = .returned .nilIface ∧ Step w w' B mb v v' L (L ++ rows.flatten) ∧ MC w' mb v' s tid (rec + 1) (.slice (some ⟨pb, 0, none⟩) 1 pc) := by
  have hnq := neqNil28 w.drew ⟨tb, 0, none⟩
  have c11 := hM.c11
  have t0 := hT.c0
  have hpd : w.drew.cell? ⟨pb, 0, none⟩ = some (.pointer (some ⟨tb, 0, none⟩)) := hpb
  go_enter Ybaf.func27, Ybaf.ntmps27
  go_wp2
  go_cut [32] (fun s32 wk => s32 = .bool false ∧ wk = w.drew)
  case first =>
    go_region_held3 (fun w' => w' = w.drew) (first | rfl | assumption) (first | (go_at_call 37; refine (contains_this pb pc tb _ hpd).mono ?_; rintro e w1 ⟨rfl, rfl⟩))
    all_goals (go_wp2_with fail; go_meet; exact ⟨rfl, rfl⟩)
  case rest =>
    obtain ⟨rfl, rfl⟩ := hcut
    have hS := (Step.refl (mb := mb) hb).drew
    have hMd : MC w.drew mb v s tid rec (.slice (some ⟨pb, 0, none⟩) 1 pc) := ⟨hM.c7, hM.c8, hM.c9, hM.c10, hM.c11, hM.c12, hM.fz⟩
    clear hnq hl
    have hS2 := hS.drew
    have hM2 : MC w.drew.drew mb v s tid rec (.slice (some ⟨pb, 0, none⟩) 1 pc) := ⟨hM.c7, hM.c8, hM.c9, hM.c10, hM.c11, hM.c12, hM.fz⟩
    have hT2 : Tpl w.drew.drew tb fb tid fs := ⟨hT.c0, hT.c1, hT.c2, hT.fs⟩
    have hV2 : ValsIn N w.drew.drew vb rows := hV
    have hN2 : N ≤ w.drew.drew.heap.size := hN
    have hB2 : B ≤ w.drew.drew.heap.size := hB
    have t0d : w.drew.cell? ⟨tb, 0, none⟩ = some (.int .u16 tid) := t0
    have k8 := hM2.c8
    have k9 := hM2.c9
    clear c11 hpb hpd c5 hM hMd hT hV t0
    go_upto_region 17 with fail
    go_cut [121] (fun _ wk => wk = w.drew.drew)
    case first =>
      go_region_with (go_at_call 40; (with_reducible refine Calls.mono (open_same mb s tid w.drew.drew k8 k9 hs0) ?_); rintro e w1 ⟨rfl, rfl⟩)
      all_goals (go_wp2_with fail; go_meet; exact rfl)
    case rest =>
      obtain rfl := hcut
      generalize w.drew.drew = w2 at *
      have hb2 := hS2.body
      have c7 := hM2.c7
      obtain ⟨g0, cp0, n0, hv⟩ := hb2.shape
      subst hv
      go_wp2_with (go_at_call 42; (with_reducible refine Calls.mono (record_in B _ L tb fb vb c tid fs rows w2 hb2 hT2 hwf hk htb hfb hlen hB2 N hV2 hN2 hvb hn hfit) ?_); rintro e w3 ⟨v3, rfl, hE⟩; obtain ⟨g3, cp3, n3, rfl⟩ := hE.body.shape; have hM3 := hM2.ext hE hmb hB2; have k7 := hM3.c7; have k10 := hM3.c10; have z7 := hM3.fz 7; have z10 := hM3.fz 10)
      go_ret
      exact ⟨_, rfl, ((hS2.ext hE hmb hB).set hmb 7 (by omega) _).set hmb 10 (by omega) _, (hM3.set7 _).set10 _⟩
end Go.Proofs.YbulkbleuFmt.B
