/- LawS3101B*: (*MessageWriter).WriteRecord: no message can hold the record. -/
import Derived.Test.YbulkbleuFmtWrFl
import Derived.Test.YbulkbleuFmtWrap
namespace Go.Proofs.YbulkbleuFmt.B
open Go.RowKit Go.Extern.Stop Go.Stop Go.Extern

abbrev longS : ByteArray := ⟨#[116, 101, 109, 112, 108, 97, 116, 101, 32, 37, 100, 58, 32, 37, 119, 58, 32, 110, 111, 32, 109, 101, 115, 115, 97, 103, 101, 32, 111, 102, 32, 37, 100, 32, 111, 99, 116, 101, 116, 115, 32, 99, 97, 110, 32, 104, 111, 108, 100, 32, 105, 116]⟩
theorem longP (w : World) : (FmtDoors.printed longS 3).run Ybaf.prog w = .ok [(0, 100, false), (1, 119, false), (2, 100, false)] w := by kernel_rfl
def sh22 : List UInt8 := [7, 6, 0, 0, 0, 0, 0, 0, 0, 117, 105, 110, 116, 49, 54]
def sh3 : List UInt8 := [5, 3, 0, 0, 0, 0, 0, 0, 0, 105, 110, 116]
def pl102 : List UInt8 := 14 :: FmtStop.pack "*errors.errorString".toUTF8.data.toList
theorem op22 (x : Int) (w : World) : (FmtStop.operand "fmt.errorf" true 100 false (.iface 22 (.int .u16 x))).run Ybaf.prog w = .ok (sh22, digits 8 (x % 2 ^ 64).toNat) w := by kernel_rfl
theorem op3 (x : Int) (w : World) : (FmtStop.operand "fmt.errorf" true 100 false (.iface 3 (.int .i64 x))).run Ybaf.prog w = .ok (sh3, digits 8 (x % 2 ^ 64).toNat) w := by kernel_rfl
theorem op102 (a : Addr) (s : ByteArray) (w : World) (hc : w.cell? a = some (.string s)) : (FmtStop.operand "fmt.errorf" true 119 false (.iface 102 (.pointer (some a)))).run Ybaf.prog w = .ok (pl102, s.data.toList) w := by
  have h1 : (typeStr 102).run Ybaf.prog w = .ok "*errors.errorString" w := by kernel_rfl
  have d2 : Ybaf.t102.desc = .pointer 104 := rfl
  have d3 : Ybaf.t104.desc = .named "errors.errorString" 103 := rfl
  simp [FmtStop.operand, h1, d2, d3, run_load, hc, pl102]

theorem back_tape (w : World) (mb : Nat) (v : Value) (s : Nat) (sid rec : Int) (tv : Value) (ds : Bool) : (back w mb v s sid rec tv ds).tape = w.tape := by
  have o : ∀ (u : World) (x : Addr) (y : Value), (u.setCell x y).tape = u.tape := fun _ _ _ => rfl
  unfold back
  rw [o, o, o, o, o, o]
theorem back_c7 (w : World) (mb : Nat) (v : Value) (s : Nat) (sid rec : Int) (tv : Value) (ds : Bool) (u : Value) (h : w.cell? ⟨mb, 7, none⟩ = some u) : (back w mb v s sid rec tv ds).cell? ⟨mb, 7, none⟩ = some v := by
  have o : ∀ (u : World) (x : Value) (i : Nat), i ≠ 7 → (u.setCell ⟨mb, i, none⟩ x).cell? ⟨mb, 7, none⟩ = u.cell? ⟨mb, 7, none⟩ := fun u x i hij => World.cell?_setCell_other _ _ _ _ (by intro e; simp only [Addr.mk.injEq] at e; omega)
  unfold back
  rw [o _ _ 12 (by omega), o _ _ 11 (by omega), o _ _ 10 (by omega), o _ _ 9 (by omega), o _ _ 8 (by omega)]
  exact World.cell?_setCell_same _ _ _ h

set_option maxRecDepth 100000 in
set_option maxHeartbeats 2000000 in
theorem wr_long (B mb tb vb k c s mx : Nat) (g cap : Nat) (L : List Int) (ta : Option Addr) (tl tc : Nat) (sid rec tid : Int) (ds : Bool) (F : Interp) (a : Addr) (tx : ByteArray) (w : World) (hF : F.answers w.tape) (hM : MC w mb (.slice (some ⟨g, 0, none⟩) L.length cap) s sid rec (.slice ta tl tc)) (c12 : w.cell? ⟨mb, 12, none⟩ = some (.bool ds)) (c2 : w.cell? ⟨mb, 2, none⟩ = some (.int .i64 mx)) (hlm : mb < w.heap.size) (hgl : g < w.heap.size)
    (t0 : w.cell? ⟨tb, 0, none⟩ = some (.int .u16 tid)) (htb : tb < w.heap.size) (htm : tb ≠ mb) (htg : tb ≠ g) (g0 : w.cell? ⟨0, 0, none⟩ = some (.iface 102 (.pointer (some a)))) (h0 : 0 < w.heap.size) (h0m : 0 ≠ mb) (h0g : 0 ≠ g) (ha : w.cell? a = some (.string tx)) (hal : a.block < w.heap.size) (ham : a.block ≠ mb) (hag : a.block ≠ g)
    (hadd : Calls Ybaf.prog 27 #[.pointer (some ⟨mb, 0, none⟩), .pointer (some ⟨tb, 0, none⟩), .slice (some ⟨vb, 0, none⟩) k c] (w.alloc (kept (.slice (some ⟨g, 0, none⟩) L.length cap) s sid rec (.slice ta tl tc) ds)) fun e w1 => e = .returned .nilIface ∧ ∃ v1 L1 s1 sid1 rec1 tv1, Step (w.alloc (kept (.slice (some ⟨g, 0, none⟩) L.length cap) s sid rec (.slice ta tl tc) ds)) w1 B mb (.slice (some ⟨g, 0, none⟩) L.length cap) v1 L L1 ∧ MC w1 mb v1 s1 sid1 rec1 tv1 ∧ mx < L1.length)
    (h16 : L.length = 16) :
    Calls Ybaf.prog 11 #[.pointer (some ⟨mb, 0, none⟩), .pointer (some ⟨tb, 0, none⟩), .slice (some ⟨vb, 0, none⟩) k c] w fun e w' => ∃ pb w1 v1 L1 s1 sid1 rec1 tv1 j, e = .returned (.iface 119 (.pointer (some ⟨pb, 0, none⟩))) ∧ w'.cell? ⟨pb, 1, none⟩ = some (.iface 102 (.pointer (some a))) ∧ Step (w.alloc (kept (.slice (some ⟨g, 0, none⟩) L.length cap) s sid rec (.slice ta tl tc) ds)) w1 B mb (.slice (some ⟨g, 0, none⟩) L.length cap) v1 L L1 ∧ MC w1 mb v1 s1 sid1 rec1 tv1 ∧ (back (w1.drewN j) mb (.slice (some ⟨g, 0, none⟩) L.length cap) s sid rec (.slice ta tl tc) ds).grownBy w' none := by
  have c7 := hM.c7
  have c8 := hM.c8
  have c9 := hM.c9
  have c10 := hM.c10
  have c11 := hM.c11
  have n16 : ((L.length : Int) == 16) = true := beq_iff_eq.2 (by omega)
  clear h16
  have hne : w.heap.size ≠ mb := by omega
  have kb := heap_alloc_new w (kept (.slice (some ⟨g, 0, none⟩) L.length cap) s sid rec (.slice ta tl tc) ds)
  have k2 : (w.alloc (kept (.slice (some ⟨g, 0, none⟩) L.length cap) s sid rec (.slice ta tl tc) ds)).cell? ⟨mb, 2, none⟩ = some (.int .i64 mx) := (World.cell?_alloc_past _ _ _ hlm).trans c2
  go_enter Ybaf.func11, Ybaf.ntmps11
  go_wp2
  refine wp_loop_rounds 1 ?_
  rw [rounds_succ]
  go_wp2_with (go_at_call 27; (with_reducible refine Calls.mono hadd ?_); rintro e w1 ⟨rfl, v1, L1, s1, sid1, rec1, tv1, hS, hM1, hgt⟩; obtain ⟨g1, cap1, rfl⟩ := hS.body.shape2; have m7 := hM1.c7; have m2 := (hS.cells 2 (by omega)).trans k2; have hle : ¬ ((L1.length : Int) ≤ (mx : Int)) := (by omega))
  have kb1 := (hS.block w.heap.size (by simp) hne (by simp [Value.ownBlock]; omega)).trans kb
  have b0 : w1.cell? ⟨w.heap.size, 0, none⟩ = some (.slice (some ⟨g, 0, none⟩) L.length cap) := by simp [World.cell?, kb1]
  have b1 : w1.cell? ⟨w.heap.size, 1, none⟩ = some (.int .i64 s) := by simp [World.cell?, kb1]
  have b2 : w1.cell? ⟨w.heap.size, 2, none⟩ = some (.int .u16 sid) := by simp [World.cell?, kb1]
  have b3 : w1.cell? ⟨w.heap.size, 3, none⟩ = some (.int .u32 rec) := by simp [World.cell?, kb1]
  have b4 : w1.cell? ⟨w.heap.size, 4, none⟩ = some (.slice ta tl tc) := by simp [World.cell?, kb1]
  have b5 : w1.cell? ⟨w.heap.size, 5, none⟩ = some (.bool ds) := by simp [World.cell?, kb1]
  have m8 := hM1.c8
  have m9 := hM1.c9
  have m10 := hM1.c10
  have m11 := hM1.c11
  obtain ⟨d12, m12⟩ := hM1.c12
  have y7 := hM1.fz 7
  have y8 := hM1.fz 8
  have y9 := hM1.fz 9
  have y10 := hM1.fz 10
  have y11 := hM1.fz 11
  have y12 := hM1.fz 12
  have hblk : ∀ k', k' < w.heap.size → k' ≠ mb → k' ≠ g → w1.heap[k']? = w.heap[k']? := fun k' h1 h2 h3 => (hS.block k' (by simp; omega) h2 (by simp [Value.ownBlock]; exact h3)).trans (heap_alloc_old w _ h1)
  go_quiet (fail)
  go_upto_region 5 with fail
  go_cut [36] (fun _ wk => Hid (wk = back (w1.drewN nq) mb (.slice (some ⟨g, 0, none⟩) L.length cap) s sid rec (.slice ta tl tc) ds))
  case first =>
    go_wp2_with fail
    go_meet
    exact rfl
  case rest =>
  have hx : ∀ k', k' < w.heap.size → k' ≠ mb → k' ≠ g → wc.heap[k']? = w.heap[k']? := fun k' h1 h2 h3 => by rw [hcut.out, back_block (w1.drewN nq) mb (.slice (some ⟨g, 0, none⟩) L.length cap) s sid rec (.slice ta tl tc) ds k' h2]; exact hblk k' h1 h2 h3
  have u0 : wc.cell? ⟨tb, 0, none⟩ = some (.int .u16 tid) := (World.cell?_of_block (w := w) (w' := wc) (a := ⟨tb, 0, none⟩) (hx tb htb htm htg)).trans t0
  have u1 : wc.cell? ⟨0, 0, none⟩ = some (.iface 102 (.pointer (some a))) := (World.cell?_of_block (w := w) (w' := wc) (a := ⟨0, 0, none⟩) (hx 0 h0 h0m h0g)).trans g0
  have u3 : wc.cell? a = some (.string tx) := (World.cell?_of_block (w := w) (w' := wc) (a := a) (hx a.block hal ham hag)).trans ha
  have u2 : wc.cell? ⟨mb, 2, none⟩ = some (.int .i64 mx) := by rw [hcut.out, back_low (w1.drewN nq) mb (.slice (some ⟨g, 0, none⟩) L.length cap) s sid rec (.slice ta tl tc) ds 2 (by omega)]; exact m2
  have m7' : (w1.drewN nq).cell? ⟨mb, 7, none⟩ = some (.slice (some ⟨g1, 0, none⟩) L1.length cap1) := m7
  have u7 : wc.cell? ⟨mb, 7, none⟩ = some (.slice (some ⟨g, 0, none⟩) L.length cap) := by rw [hcut.out]; exact back_c7 (w1.drewN nq) mb (.slice (some ⟨g, 0, none⟩) L.length cap) s sid rec (.slice ta tl tc) ds _ m7'
  have hst : w1.tape = w.tape := hS.tape
  have hsd : (w1.drewN nq).tape = w1.tape := rfl
  have ut : wc.tape = w.tape := by rw [hcut.out, back_tape (w1.drewN nq) mb (.slice (some ⟨g, 0, none⟩) L.length cap) s sid rec (.slice ta tl tc) ds, hsd, hst]
  have hFw : F.answers wc.tape := by rw [ut]; exact hF
  clear c7 c8 c9 c10 c11 c12 c2 t0 g0 ha b0 b1 b2 b3 b4 b5 m8 m9 m10 m11 m12 y7 y8 y9 y10 y11 y12 kb kb1 k2 m2 m7 hx hblk hadd
  go_upto_region 9 with fail
  have v0 : (wc.alloc (.cells #[.iface 22 (.int .u16 tid), .iface 102 (.pointer (some a)), .iface 3 (.int .i64 mx)] 20)).drew.cell? ⟨wc.heap.size, 0, none⟩ = some (.iface 22 (.int .u16 tid)) := by simp
  have v1 : (wc.alloc (.cells #[.iface 22 (.int .u16 tid), .iface 102 (.pointer (some a)), .iface 3 (.int .i64 mx)] 20)).drew.cell? ⟨wc.heap.size, 1, none⟩ = some (.iface 102 (.pointer (some a))) := by simp
  have v2 : (wc.alloc (.cells #[.iface 22 (.int .u16 tid), .iface 102 (.pointer (some a)), .iface 3 (.int .i64 mx)] 20)).drew.cell? ⟨wc.heap.size, 2, none⟩ = some (.iface 3 (.int .i64 mx)) := by simp
  have v3 : (wc.alloc (.cells #[.iface 22 (.int .u16 tid), .iface 102 (.pointer (some a)), .iface 3 (.int .i64 mx)] 20)).drew.cell? a = some (.string tx) := (World.cell?_alloc_some wc a (.cells #[.iface 22 (.int .u16 tid), .iface 102 (.pointer (some a)), .iface 3 (.int .i64 mx)] 20) (by rw [u3]; rfl)).trans u3
  have o1 := op102 a tx (wc.alloc (.cells #[.iface 22 (.int .u16 tid), .iface 102 (.pointer (some a)), .iface 3 (.int .i64 mx)] 20)).drew v3
  have o0 := op22 tid
  have o2 := op3 mx
  have lp := longP
  have hFx : F.answers (wc.alloc (.cells #[.iface 22 (.int .u16 tid), .iface 102 (.pointer (some a)), .iface 3 (.int .i64 mx)] 20)).drew.tape := hFw
  go_region_with (go_at_call 24; (with_reducible refine Calls.mono (errorf_wrap F longS 22 3 (.int .u16 tid) (.int .i64 mx) a _ _ _ wc.heap.size (wc.alloc (.cells #[.iface 22 (.int .u16 tid), .iface 102 (.pointer (some a)), .iface 3 (.int .i64 mx)] 20)).drew hFx lp o0 o1 o2 v0 v1 v2) ?_); rintro e w5 ⟨pb, rfl, hpb, hpl, hg5⟩)
  all_goals (go_wp2)
  all_goals
    go_ret
    refine ⟨pb, w1, _, L1, s1, sid1, rec1, tv1, nq, rfl, hpb, hS, hM1, ?_⟩
    rw [← hcut.out]
    exact ⟨hg5.os, hg5.tape, hg5.output, Nat.le_trans (by show wc.heap.size ≤ (wc.alloc _).heap.size; simp) hg5.size, fun k' h1 _ => (hg5.block k' (by show k' < (wc.alloc _).heap.size; simp; omega) (by simp)).trans (heap_alloc_old wc _ h1)⟩
end Go.Proofs.YbulkbleuFmt.B
