/- LawS3101B*: (*MessageWriter).WriteRecord: the record does not fit, the message holds others: it is flushed, and the writer fails. -/
import Derived.Test.YbulkbleuFmtWrRec
namespace Go.Proofs.YbulkbleuFmt.B
open Go.RowKit

/-- The message laid back. -/
abbrev back (w : World) (mb : Nat) (v : Value) (s : Nat) (sid rec : Int) (tv : Value) (ds : Bool) : World :=
  (((((w.setCell ⟨mb, 7, none⟩ v).setCell ⟨mb, 8, none⟩ (.int .i64 s)).setCell ⟨mb, 9, none⟩ (.int .u16 sid)).setCell ⟨mb, 10, none⟩ (.int .u32 rec)).setCell ⟨mb, 11, none⟩ tv).setCell ⟨mb, 12, none⟩ (.bool ds)
theorem back_mc {w : World} {mb s1 : Nat} {v1 tv1 : Value} {sid1 rec1 : Int} (h : MC w mb v1 s1 sid1 rec1 tv1) (v : Value) (s : Nat) (sid rec : Int) (tv : Value) (ds : Bool) : MC (back w mb v s sid rec tv ds) mb v s sid rec tv ∧ (back w mb v s sid rec tv ds).cell? ⟨mb, 12, none⟩ = some (.bool ds) := by
  obtain ⟨d, h12⟩ := h.c12
  have a7 := (World.cell?_setCell_same w ⟨mb, 7, none⟩ v h.c7)
  have o : ∀ (u : World) (x : Value) (i j : Nat), i ≠ j → (u.setCell ⟨mb, i, none⟩ x).cell? ⟨mb, j, none⟩ = u.cell? ⟨mb, j, none⟩ := fun u x i j hij => World.cell?_setCell_other _ _ _ _ (by intro e; simp only [Addr.mk.injEq] at e; omega)
  unfold back
  refine ⟨⟨?_, ?_, ?_, ?_, ?_, ⟨ds, ?_⟩, fun j => ?_⟩, ?_⟩
  · rw [o _ _ 12 7 (by omega), o _ _ 11 7 (by omega), o _ _ 10 7 (by omega), o _ _ 9 7 (by omega), o _ _ 8 7 (by omega)]; exact a7
  · rw [o _ _ 12 8 (by omega), o _ _ 11 8 (by omega), o _ _ 10 8 (by omega), o _ _ 9 8 (by omega)]
    exact World.cell?_setCell_same _ ⟨mb, 8, none⟩ _ ((o _ _ 7 8 (by omega)).trans h.c8)
  · rw [o _ _ 12 9 (by omega), o _ _ 11 9 (by omega), o _ _ 10 9 (by omega)]
    exact World.cell?_setCell_same _ ⟨mb, 9, none⟩ _ ((o _ _ 8 9 (by omega)).trans ((o _ _ 7 9 (by omega)).trans h.c9))
  · rw [o _ _ 12 10 (by omega), o _ _ 11 10 (by omega)]
    exact World.cell?_setCell_same _ ⟨mb, 10, none⟩ _ ((o _ _ 9 10 (by omega)).trans ((o _ _ 8 10 (by omega)).trans ((o _ _ 7 10 (by omega)).trans h.c10)))
  · rw [o _ _ 12 11 (by omega)]
    exact World.cell?_setCell_same _ ⟨mb, 11, none⟩ _ ((o _ _ 10 11 (by omega)).trans ((o _ _ 9 11 (by omega)).trans ((o _ _ 8 11 (by omega)).trans ((o _ _ 7 11 (by omega)).trans h.c11))))
  · exact World.cell?_setCell_same _ ⟨mb, 12, none⟩ _ ((o _ _ 11 12 (by omega)).trans ((o _ _ 10 12 (by omega)).trans ((o _ _ 9 12 (by omega)).trans ((o _ _ 8 12 (by omega)).trans ((o _ _ 7 12 (by omega)).trans h12)))))
  · simp only [World.frozen?_setCell]; exact h.fz j
  · exact World.cell?_setCell_same _ ⟨mb, 12, none⟩ _ ((o _ _ 11 12 (by omega)).trans ((o _ _ 10 12 (by omega)).trans ((o _ _ 9 12 (by omega)).trans ((o _ _ 8 12 (by omega)).trans ((o _ _ 7 12 (by omega)).trans h12)))))
theorem back_block (w : World) (mb : Nat) (v : Value) (s : Nat) (sid rec : Int) (tv : Value) (ds : Bool) (k : Nat) (hk : k ≠ mb) : (back w mb v s sid rec tv ds).heap[k]? = w.heap[k]? := by
  unfold back
  rw [Below.heap_setCell _ _ _ _ hk, Below.heap_setCell _ _ _ _ hk, Below.heap_setCell _ _ _ _ hk, Below.heap_setCell _ _ _ _ hk, Below.heap_setCell _ _ _ _ hk, Below.heap_setCell _ _ _ _ hk]
theorem back_size (w : World) (mb : Nat) (v : Value) (s : Nat) (sid rec : Int) (tv : Value) (ds : Bool) : (back w mb v s sid rec tv ds).heap.size = w.heap.size := by
  unfold back
  simp only [World.size_setCell]
theorem back_low (w : World) (mb : Nat) (v : Value) (s : Nat) (sid rec : Int) (tv : Value) (ds : Bool) (j : Nat) (hj : j < 7) : (back w mb v s sid rec tv ds).cell? ⟨mb, j, none⟩ = w.cell? ⟨mb, j, none⟩ := by
  have o : ∀ (u : World) (x : Value) (i : Nat), i ≠ j → (u.setCell ⟨mb, i, none⟩ x).cell? ⟨mb, j, none⟩ = u.cell? ⟨mb, j, none⟩ := fun u x i hij => World.cell?_setCell_other _ _ _ _ (by intro e; simp only [Addr.mk.injEq] at e; omega)
  unfold back
  rw [o _ _ 12 (by omega), o _ _ 11 (by omega), o _ _ 10 (by omega), o _ _ 9 (by omega), o _ _ 8 (by omega), o _ _ 7 (by omega)]
theorem Buf.shape2 {w : World} {B : Nat} {v : Value} {L : List Int} (h : Buf w B v L) : ∃ g cap, v = .slice (some ⟨g, 0, none⟩) L.length cap := by
  obtain ⟨g, cap, cur, rfl, _⟩ := h; exact ⟨_, _, rfl⟩

set_option maxRecDepth 100000 in
set_option maxHeartbeats 2000000 in
theorem wr_back (B mb tb vb k c s mx : Nat) (g cap : Nat) (L : List Int) (ta : Option Addr) (tl tc : Nat) (sid rec : Int) (ds : Bool) (w : World) (hM : MC w mb (.slice (some ⟨g, 0, none⟩) L.length cap) s sid rec (.slice ta tl tc)) (c12 : w.cell? ⟨mb, 12, none⟩ = some (.bool ds)) (c2 : w.cell? ⟨mb, 2, none⟩ = some (.int .i64 mx)) (hlm : mb < w.heap.size) (hgl : g < w.heap.size)
    (hadd : Calls Ybaf.prog 27 #[.pointer (some ⟨mb, 0, none⟩), .pointer (some ⟨tb, 0, none⟩), .slice (some ⟨vb, 0, none⟩) k c] (w.alloc (kept (.slice (some ⟨g, 0, none⟩) L.length cap) s sid rec (.slice ta tl tc) ds)) fun e w1 => e = .returned .nilIface ∧ ∃ v1 L1 s1 sid1 rec1 tv1, Step (w.alloc (kept (.slice (some ⟨g, 0, none⟩) L.length cap) s sid rec (.slice ta tl tc) ds)) w1 B mb (.slice (some ⟨g, 0, none⟩) L.length cap) v1 L L1 ∧ MC w1 mb v1 s1 sid1 rec1 tv1 ∧ mx < L1.length)
    (R : Ending → World → Prop) (h16 : 16 < L.length) (ev : Value)
    (hfl : ∀ w1 v1 L1 s1 sid1 rec1 tv1 j, Step (w.alloc (kept (.slice (some ⟨g, 0, none⟩) L.length cap) s sid rec (.slice ta tl tc) ds)) w1 B mb (.slice (some ⟨g, 0, none⟩) L.length cap) v1 L L1 → MC w1 mb v1 s1 sid1 rec1 tv1 → Calls Ybaf.prog 14 #[.pointer (some ⟨mb, 0, none⟩)] (back (w1.drewN j) mb (.slice (some ⟨g, 0, none⟩) L.length cap) s sid rec (.slice ta tl tc) ds) fun e w' => e = .returned (.iface 102 ev) ∧ R e w') :
    Calls Ybaf.prog 11 #[.pointer (some ⟨mb, 0, none⟩), .pointer (some ⟨tb, 0, none⟩), .slice (some ⟨vb, 0, none⟩) k c] w fun e w' => e = .returned (.iface 102 ev) ∧ R e w' := by
  have c7 := hM.c7
  have c8 := hM.c8
  have c9 := hM.c9
  have c10 := hM.c10
  have c11 := hM.c11
  have n16 : ((L.length : Int) == 16) = false := beq_eq_false_iff_ne.2 (by omega)
  have hne : w.heap.size ≠ mb := by omega
  have kb := heap_alloc_new w (kept (.slice (some ⟨g, 0, none⟩) L.length cap) s sid rec (.slice ta tl tc) ds)
  have k2 : (w.alloc (kept (.slice (some ⟨g, 0, none⟩) L.length cap) s sid rec (.slice ta tl tc) ds)).cell? ⟨mb, 2, none⟩ = some (.int .i64 mx) := (World.cell?_alloc_past _ _ _ hlm).trans c2
  go_enter Ybaf.func11, Ybaf.ntmps11
  go_wp2
  refine wp_loop_rounds 1 ?_
  rw [rounds_succ]
  go_wp2_with (go_at_call 27; (with_reducible refine Calls.mono hadd ?_); rintro e w1 ⟨rfl, v1, L1, s1, sid1, rec1, tv1, hS, hM1, hgt⟩; obtain ⟨g1, cap1, rfl⟩ := hS.body.shape2; have m7 := hM1.c7; have m2 := (hS.cells 2 (by omega)).trans k2; have hle : ¬ ((L1.length : Int) ≤ (mx : Int)) := (by omega))
  have kb1 := (hS.block w.heap.size (by simp) hne (by simp [Value.ownBlock]; omega)).trans kb
  have b0 : w1.cell? ⟨w.heap.size, 0, none⟩ = some (.slice (some ⟨g, 0, none⟩) L.length cap) := by simp [World.cell?, kb1]
  have b1 : w1.cell? ⟨w.heap.size, 1, none⟩ = some (.int .i64 s) := by simp [World.cell?, kb1]
  have b2 : w1.cell? ⟨w.heap.size, 2, none⟩ = some (.int .u16 sid) := by simp [World.cell?, kb1]
  have b3 : w1.cell? ⟨w.heap.size, 3, none⟩ = some (.int .u32 rec) := by simp [World.cell?, kb1]
  have b4 : w1.cell? ⟨w.heap.size, 4, none⟩ = some (.slice ta tl tc) := by simp [World.cell?, kb1]
  have b5 : w1.cell? ⟨w.heap.size, 5, none⟩ = some (.bool ds) := by simp [World.cell?, kb1]
  have m8 := hM1.c8
  have m9 := hM1.c9
  have m10 := hM1.c10
  have m11 := hM1.c11
  obtain ⟨d12, m12⟩ := hM1.c12
  have y7 := hM1.fz 7
  have y8 := hM1.fz 8
  have y9 := hM1.fz 9
  have y10 := hM1.fz 10
  have y11 := hM1.fz 11
  have y12 := hM1.fz 12
  go_quiet (fail)
  go_wp2_with (go_at_call 14; refine Calls.mono (hfl w1 _ L1 s1 sid1 rec1 tv1 nq hS hM1) ?_; rintro e w2 ⟨rfl, hR⟩)
  go_ret
  exact ⟨rfl, hR⟩
end Go.Proofs.YbulkbleuFmt.B
