/- LawS3101BMessages: (*MessageWriter).WriteRecord: the record does not fit, the message is flushed and taken, and the record fits the next one. -/
import Derived.Test.YbulkbleuFmtWrFl
namespace Go.Proofs.YbulkbleuFmt.B
open Go.RowKit

/-- What WriteRecord finds behind the Flush: the message, and add's contract. -/
def Again (mb tb vb k c mx : Nat) (Post : World → Prop) (w2 : World) : Prop := ∃ g cap n s sid rec ta tl tc ds, MC w2 mb (.slice (some ⟨g, 0, none⟩) n cap) s sid rec (.slice ta tl tc) ∧ w2.cell? ⟨mb, 12, none⟩ = some (.bool ds) ∧
  Calls Ybaf.prog 27 #[.pointer (some ⟨mb, 0, none⟩), .pointer (some ⟨tb, 0, none⟩), .slice (some ⟨vb, 0, none⟩) k c] (w2.alloc (kept (.slice (some ⟨g, 0, none⟩) n cap) s sid rec (.slice ta tl tc) ds)) fun e w' => e = .returned .nilIface ∧ Post w' ∧ (∃ g1 cap1 n1, w'.cell? ⟨mb, 7, none⟩ = some (.slice (some ⟨g1, 0, none⟩) n1 cap1) ∧ n1 ≤ mx) ∧ w'.cell? ⟨mb, 2, none⟩ = some (.int .i64 mx)

set_option maxRecDepth 100000 in
set_option maxHeartbeats 2000000 in
theorem wr_turn (B mb tb vb k c s mx : Nat) (g cap : Nat) (L : List Int) (ta : Option Addr) (tl tc : Nat) (sid rec : Int) (ds : Bool) (Post : World → Prop) (w : World) (hM : MC w mb (.slice (some ⟨g, 0, none⟩) L.length cap) s sid rec (.slice ta tl tc)) (c12 : w.cell? ⟨mb, 12, none⟩ = some (.bool ds)) (c2 : w.cell? ⟨mb, 2, none⟩ = some (.int .i64 mx)) (hlm : mb < w.heap.size) (hgl : g < w.heap.size)
    (hadd : Calls Ybaf.prog 27 #[.pointer (some ⟨mb, 0, none⟩), .pointer (some ⟨tb, 0, none⟩), .slice (some ⟨vb, 0, none⟩) k c] (w.alloc (kept (.slice (some ⟨g, 0, none⟩) L.length cap) s sid rec (.slice ta tl tc) ds)) fun e w1 => e = .returned .nilIface ∧ ∃ v1 L1 s1 sid1 rec1 tv1, Step (w.alloc (kept (.slice (some ⟨g, 0, none⟩) L.length cap) s sid rec (.slice ta tl tc) ds)) w1 B mb (.slice (some ⟨g, 0, none⟩) L.length cap) v1 L L1 ∧ MC w1 mb v1 s1 sid1 rec1 tv1 ∧ mx < L1.length)
    (h16 : 16 < L.length)
    (hfl : ∀ w1 v1 L1 s1 sid1 rec1 tv1 j, Step (w.alloc (kept (.slice (some ⟨g, 0, none⟩) L.length cap) s sid rec (.slice ta tl tc) ds)) w1 B mb (.slice (some ⟨g, 0, none⟩) L.length cap) v1 L L1 → MC w1 mb v1 s1 sid1 rec1 tv1 → Calls Ybaf.prog 14 #[.pointer (some ⟨mb, 0, none⟩)] (back (w1.drewN j) mb (.slice (some ⟨g, 0, none⟩) L.length cap) s sid rec (.slice ta tl tc) ds) fun e w2 => e = .returned .nilIface ∧ Again mb tb vb k c mx Post w2) :
    Calls Ybaf.prog 11 #[.pointer (some ⟨mb, 0, none⟩), .pointer (some ⟨tb, 0, none⟩), .slice (some ⟨vb, 0, none⟩) k c] w fun e w' => e = .returned .nilIface ∧ ∃ w0 j, Post w0 ∧ w' = w0.drewN j := by
  have c7 := hM.c7
  have c8 := hM.c8
  have c9 := hM.c9
  have c10 := hM.c10
  have c11 := hM.c11
  have n16 : ((L.length : Int) == 16) = false := beq_eq_false_iff_ne.2 (by omega)
  have hne : w.heap.size ≠ mb := by omega
  have kb := heap_alloc_new w (kept (.slice (some ⟨g, 0, none⟩) L.length cap) s sid rec (.slice ta tl tc) ds)
  have k2 : (w.alloc (kept (.slice (some ⟨g, 0, none⟩) L.length cap) s sid rec (.slice ta tl tc) ds)).cell? ⟨mb, 2, none⟩ = some (.int .i64 mx) := (World.cell?_alloc_past _ _ _ hlm).trans c2
  go_enter Ybaf.func11, Ybaf.ntmps11
  go_wp2
  refine wp_loop_rounds 2 ?_
  rw [rounds_succ]
  go_wp2_with (go_at_call 27; (with_reducible refine Calls.mono hadd ?_); rintro e w1 ⟨rfl, v1, L1, s1, sid1, rec1, tv1, hS, hM1, hgt⟩; obtain ⟨g1, cap1, rfl⟩ := hS.body.shape2; have m7 := hM1.c7; have m2 := (hS.cells 2 (by omega)).trans k2; have hle : ¬ ((L1.length : Int) ≤ (mx : Int)) := (by omega))
  have kb1 := (hS.block w.heap.size (by simp) hne (by simp [Value.ownBlock]; omega)).trans kb
  have b0 : w1.cell? ⟨w.heap.size, 0, none⟩ = some (.slice (some ⟨g, 0, none⟩) L.length cap) := by simp [World.cell?, kb1]
  have b1 : w1.cell? ⟨w.heap.size, 1, none⟩ = some (.int .i64 s) := by simp [World.cell?, kb1]
  have b2 : w1.cell? ⟨w.heap.size, 2, none⟩ = some (.int .u16 sid) := by simp [World.cell?, kb1]
  have b3 : w1.cell? ⟨w.heap.size, 3, none⟩ = some (.int .u32 rec) := by simp [World.cell?, kb1]
  have b4 : w1.cell? ⟨w.heap.size, 4, none⟩ = some (.slice ta tl tc) := by simp [World.cell?, kb1]
  have b5 : w1.cell? ⟨w.heap.size, 5, none⟩ = some (.bool ds) := by simp [World.cell?, kb1]
  have m8 := hM1.c8
  have m9 := hM1.c9
  have m10 := hM1.c10
  have m11 := hM1.c11
  obtain ⟨d12, m12⟩ := hM1.c12
  have y7 := hM1.fz 7
  have y8 := hM1.fz 8
  have y9 := hM1.fz 9
  have y10 := hM1.fz 10
  have y11 := hM1.fz 11
  have y12 := hM1.fz 12
  go_quiet (fail)
  go_wp2_with (go_at_call 14; refine Calls.mono (hfl w1 _ L1 s1 sid1 rec1 tv1 nq hS hM1) ?_; rintro e w2 ⟨rfl, hA⟩)
  clear b0 b1 b2 b3 b4 b5 m2 m7 m8 m9 m10 m11 m12 y7 y8 y9 y10 y11 y12 kb kb1 k2 c7 c8 c9 c10 c11 c12 c2 hadd hfl hM hS hM1
  obtain ⟨g2, cap2, n2, s2, sid2, rec2, ta2, tl2, tc2, ds2, hM2, d12, hadd2⟩ := hA
  have c7 := hM2.c7
  have c8 := hM2.c8
  have c9 := hM2.c9
  have c10 := hM2.c10
  have c11 := hM2.c11
  rw [rounds_succ]
  go_wp2_with (go_at_call 27; (with_reducible refine Calls.mono hadd2 ?_); rintro e w3 ⟨rfl, hP, ⟨g3, cap3, n3, k7, hn3⟩, k2⟩; have hle2 : (n3 : Int) ≤ (mx : Int) := (by omega))
  go_quiet (fail)
  go_wp2
  go_ret
  exact ⟨rfl, _, _, hP, rfl⟩
end Go.Proofs.YbulkbleuFmt.B
