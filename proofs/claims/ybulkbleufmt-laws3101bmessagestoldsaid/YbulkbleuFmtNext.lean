/- LawS3101B*: (*outgoing).open when another set stands open: it is closed first. -/
import Derived.Test.YbulkbleuFmtOpen
namespace Go.Proofs.YbulkbleuFmt.B
open Go.RowKit

set_option maxRecDepth 100000 in
set_option maxHeartbeats 1000000 in
theorem open_next (B mb s : Nat) (v : Value) (L0 : List Int) (id sid : Int) (w0 : World) (hb0 : Buf w0 B v L0) (c7 : w0.cell? ⟨mb, 7, none⟩ = some v) (c8 : w0.cell? ⟨mb, 8, none⟩ = some (.int .i64 s)) (c9 : w0.cell? ⟨mb, 9, none⟩ = some (.int .u16 sid)) (hz0 : Hid (∀ j, w0.frozen? ⟨mb, j, none⟩ = false)) (hs0 : 0 < s) (hs : s + 4 ≤ L0.length) (hsid : (sid == id) = false) (h0 : 0 ≤ id) (h1 : id < 65536) (hlen0 : L0.length ≤ 10000) (hmb : mb < B) (hB0 : B ≤ w0.heap.size) :
    Calls Ybaf.prog 40 #[.pointer (some ⟨mb, 7, none⟩), .int .u16 id] w0 fun e w' => ∃ v' w, e = .returned (.tuple #[]) ∧ Buf w B v (patch L0 (s + 2) (L0.length - s)) ∧ w0.grownBy w v.ownBlock ∧ Step w w' B mb v v' (patch L0 (s + 2) (L0.length - s)) (patch L0 (s + 2) (L0.length - s) ++ be16 id ++ be16 0) ∧ MsgAt w w' mb v' L0.length id := by
  have hlv : ∃ n cc a, v = .slice a n cc ∧ n = L0.length := by obtain ⟨g, cap, cur, rfl, _⟩ := hb0; exact ⟨_, _, _, rfl, rfl⟩
  obtain ⟨n, cc, a, hv, rfl⟩ := hlv
  subst hv
  have z0 : ((s : Int) == 0) = false := beq_eq_false_iff_ne.2 (by omega)
  have hneb := hb0.ne hmb
  go_enter Ybaf.func40, Ybaf.ntmps40
  go_wp2_with fail
  refine (close_any B mb s _ L0 w0 hb0 c7 c8 hs0 hs hlen0 hmb hB0).mono ?_
  rintro e w ⟨rfl, hb, hgr⟩
  have hc : ∀ j, w.cell? ⟨mb, j, none⟩ = w0.cell? ⟨mb, j, none⟩ := fun j => hgr.cell_far ⟨mb, j, none⟩ (by show mb < _; omega) hneb
  have hzz : Hid (∀ j, w.frozen? ⟨mb, j, none⟩ = false) := fun j => (hgr.frozen_far ⟨mb, j, none⟩ (by show mb < _; omega) hneb).trans (hz0.out j)
  have hB : B ≤ w.heap.size := Nat.le_trans hB0 hgr.size
  replace c7 := (hc 7).trans c7
  replace c8 := (hc 8).trans c8
  replace c9 := (hc 9).trans c9
  have hlL : (patch L0 (s + 2) (L0.length - s)).length = L0.length := patch_len _ _ _
  have HlL := hide hlL
  have hlen : (patch L0 (s + 2) (L0.length - s)).length ≤ 10000 := by omega
  clear hc hlL
  generalize hLg : patch L0 (s + 2) (L0.length - s) = L at *
  have HLg := hide hLg
  clear hLg
  have hz := hzz
  have z8 := hz.out 8
  have z9 := hz.out 9
  have hS0 := ((Step.refl (mb := mb) hb).set hmb 8 (by omega) (.int .i64 (L0.length : Int))).set hmb 9 (by omega) (.int .u16 id)
  have hM0 : MsgAt w ((w.setCell ⟨mb, 8, none⟩ (.int .i64 (L0.length : Int))).setCell ⟨mb, 9, none⟩ (.int .u16 id)) mb (.slice a L0.length cc) L0.length id := by
    refine ⟨?_, ?_, ?_, fun j hj => ?_⟩
    · rw [World.cell?_setCell_other _ _ _ _ (by simp), World.cell?_setCell_other _ _ _ _ (by simp)]; exact c7
    · rw [World.cell?_setCell_other _ _ _ _ (by simp), World.cell?_setCell_same _ _ _ c8]
    · rw [World.cell?_setCell_same (u := .int .u16 sid)]
      rw [World.cell?_setCell_other _ _ _ _ (by simp)]; exact c9
    · rw [World.cell?_setCell_other _ _ _ _ (by intro e; simp only [Addr.mk.injEq] at e; omega), World.cell?_setCell_other _ _ _ _ (by intro e; simp only [Addr.mk.injEq] at e; omega)]
  go_wp2_with fail
  generalize ((w.setCell ⟨mb, 8, none⟩ (.int .i64 (L0.length : Int))).setCell ⟨mb, 9, none⟩ (.int .u16 id)) = wa at *
  have k7 := hM0.c7
  have hBa : B ≤ wa.heap.size := Nat.le_trans hB hS0.size
  have hEd := Ext.drew hS0.body
  have hBd : B ≤ wa.drew.heap.size := hBa
  have hz7 : wa.frozen? ⟨mb, 7, none⟩ = false := (hS0.frz 7).trans (hz.out 7)
  clear c7 c8 c9 z8 z9
  go_cut [38] (fun s38 wk => Step w wk B mb (.slice a L0.length cc) s38 L (L ++ be16 id) ∧ MsgAt w wk mb s38 L0.length id)
  case first =>
    go_region_with (go_at_call 32; (with_reducible refine Calls.mono (app16 B _ _ id _ hEd.body h0 h1 (by omega) hBd) ?_); rintro e w1 ⟨v1, rfl, hE1⟩; obtain ⟨g1, cp1, n1, rfl⟩ := hE1.body.shape; have hX := hEd.trans hE1; have hM1 := hM0.ext hX hmb hBa; have q7 := hM1.c7; have hS1 := hS0.ext hX hmb hB; have qz := (hS1.frz 7).trans (hz.out 7))
    all_goals (go_wp2_with fail; go_meet; exact ⟨hS1.set hmb 7 (by omega) _, hM1.set7 _⟩)
  case rest =>
    obtain ⟨hS2, hM2⟩ := hcut
    obtain ⟨g2, cp2, n2, hv2⟩ := hS2.body.shape
    subst hv2
    have k7b := hM2.c7
    have hBb : B ≤ wc.heap.size := Nat.le_trans hB hS2.size
    have hEb := Ext.drew hS2.body
    have hBe : B ≤ wc.drew.heap.size := hBb
    have hz7b : wc.frozen? ⟨mb, 7, none⟩ = false := (hS2.frz 7).trans (hz.out 7)
    have hl2 : (L ++ be16 id).length ≤ 10002 := by rw [List.length_append, be16_len]; omega
    clear hS0 hM0 k7 hBa hEd hBd hz7
    go_wp2
    go_region_with (go_at_call 32; (with_reducible refine Calls.mono (app16 B _ _ 0 _ hEb.body (by omega) (by omega) (by omega) hBe) ?_); rintro e w1 ⟨v1, rfl, hE1⟩; obtain ⟨g1, cp1, n1, rfl⟩ := hE1.body.shape; have hX := hEb.trans hE1; have hM1 := hM2.ext hX hmb hBb; have q7 := hM1.c7; have hS1 := hS2.ext hX hmb hB; have qz := (hS1.frz 7).trans (hz.out 7))
    all_goals (go_wp2_with fail; go_end0; refine ⟨.slice (some ⟨g1, 0, none⟩) n1 cp1, w, rfl, ?_⟩; rw [HLg.out]; exact ⟨hb, hgr, hS1.set hmb 7 (by omega) _, hM1.set7 _⟩)
end Go.Proofs.YbulkbleuFmt.B
