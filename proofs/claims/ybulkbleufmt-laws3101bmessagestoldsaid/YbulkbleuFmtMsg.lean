/- LawS3101B*: PutUint16, (*outgoing).close, (*outgoing).open. -/
import Derived.Test.YbulkbleuFmtRec
import Derived.Deep.DeepCutAuto
import Derived.Deep.RegionHeld3
namespace Go.Proofs.YbulkbleuFmt.B
open Go.RowKit

def patch (L : List Int) (o : Nat) (x : Int) : List Int := (L.set o (x / 256)).set (o + 1) (x % 256)
theorem patch_len (L : List Int) (o : Nat) (x : Int) : (patch L o x).length = L.length := by simp [patch]

theorem Buf.set {w : World} {B g cap : Nat} {L : List Int} (h : Buf w B (.slice (some ⟨g, 0, none⟩) L.length cap) L) (j : Nat) (y : Int) :
    Buf (w.setCell ⟨g, j, none⟩ (.int .u8 y)) B (.slice (some ⟨g, 0, none⟩) L.length cap) (L.set j y) ∧ w.grownBy (w.setCell ⟨g, j, none⟩ (.int .u8 y)) (some g) := by
  obtain ⟨g', cap', cur, e, hb, hg, h1, h2, h3, h4⟩ := h
  simp only [Value.slice.injEq, Option.some.injEq, Addr.mk.injEq, and_true, true_and] at e
  obtain ⟨rfl, rfl⟩ := e
  have ho : w.ownsRow B 5 1 (.slice (some ⟨g, 0, none⟩) L.length cap) L.length (L.map (Value.int .u8)) := ⟨by simp, .inr ⟨g, cap, cur, rfl, hb, hg, h1, h2, by omega, by simpa using h4⟩⟩
  obtain ⟨k1, k2⟩ := ho.stored j (.int .u8 y)
  refine ⟨?_, k2⟩
  rcases k1.2 with ⟨e, _⟩ | ⟨g', cap', cur', e, hb', hg', q1, q2, q3, q4⟩
  · simp at e
  · simp only [Value.slice.injEq, Option.some.injEq, Addr.mk.injEq, and_true, true_and] at e
    obtain ⟨rfl, rfl⟩ := e
    refine ⟨g, cap, cur', by rw [List.length_set], hb', hg', by rw [List.length_set]; exact q1, q2, by omega, ?_⟩
    rw [List.length_set, List.map_set]
    simpa using q4
theorem Buf.cell {w : World} {B g cap : Nat} {L : List Int} (h : Buf w B (.slice (some ⟨g, 0, none⟩) L.length cap) L) (j : Nat) (hj : j < L.length) : w.cell? ⟨g, j, none⟩ = some (.int .u8 L[j]) ∧ w.frozen? ⟨g, j, none⟩ = false := by
  obtain ⟨g', cap', cur, e, hb, hg, h1, h2, h3, h4⟩ := h
  simp only [Value.slice.injEq, Option.some.injEq, Addr.mk.injEq, and_true, true_and] at e
  obtain ⟨rfl, rfl⟩ := e
  have ho : w.ownsRow B 5 1 (.slice (some ⟨g, 0, none⟩) L.length cap) L.length (L.map (Value.int .u8)) := ⟨by simp, .inr ⟨g, cap, cur, rfl, hb, hg, h1, h2, by omega, by simpa using h4⟩⟩
  refine ⟨?_, ho.frozenAt j⟩
  rw [ho.cellAt j (by omega)]
  simp [hj]

set_option maxRecDepth 100000 in
theorem put16_any (B g cap o : Nat) (L : List Int) (x : Int) (w : World) (hb : Buf w B (.slice (some ⟨g, 0, none⟩) L.length cap) L) (ho : o + 2 ≤ L.length) (h0 : 0 ≤ x) (h1 : x < 65536) :
    Calls Ybaf.prog 43 #[.agg #[], .slice (some ⟨g, o, none⟩) (L.length - o) (cap - o), .int .u16 x] w fun e w' => e = .returned (.tuple #[]) ∧ Buf w' B (.slice (some ⟨g, 0, none⟩) L.length cap) (patch L o x) ∧ w.grownBy w' (some g) := by
  have hA := Ext.alloc hb (.cells #[] 99)
  have hs1 := hA.body.set o (x / 256)
  have hl : (L.set o (x / 256)).length = L.length := List.length_set
  have hs2 := (show Buf _ B (.slice (some ⟨g, 0, none⟩) (L.set o (x / 256)).length cap) (L.set o (x / 256)) by rw [hl]; exact hs1.1).set (o + 1) (x % 256)
  have a0 := hA.body.cell o (by omega)
  have a1 := hA.body.cell (o + 1) (by omega)
  have z0 := a0.1; have z1 := a0.2; have z2 := a1.1; have z3 := a1.2
  have q0 : (0 : Int) < ((L.length - o : Nat) : Int) := by omega
  have q1 : (1 : Int) < ((L.length - o : Nat) : Int) := by omega
  have HS := hide hs2
  have HS1 := hide hs1.2
  have HA := hide hA
  clear hs1 hs2 hA a0 a1
  go_enter Ybaf.func43, Ybaf.ntmps43
  go_wp2
  go_end0
  refine ⟨rfl, ?_, ?_⟩
  · have := HS.out.1
    rw [hl] at this
    exact this
  · exact (HA.out.grown.trans HS1.out).trans HS.out.2
theorem Ext.stays {w : World} {B : Nat} {v : Value} {L : List Int} (h : Ext w B v L w v L) : Ext w B v L w.drew v L := h.trans (Ext.drew h.body)

set_option maxRecDepth 100000 in
set_option maxHeartbeats 1000000 in
theorem close_any (B mb s : Nat) (v : Value) (L : List Int) (w : World) (hb : Buf w B v L) (c7 : w.cell? ⟨mb, 7, none⟩ = some v) (c8 : w.cell? ⟨mb, 8, none⟩ = some (.int .i64 s)) (hs0 : 0 < s) (hs : s + 4 ≤ L.length) (hlen : L.length ≤ 10000) (hmb : mb < B) (hB : B ≤ w.heap.size) :
    Calls Ybaf.prog 30 #[.pointer (some ⟨mb, 7, none⟩)] w fun e w' => e = .returned (.tuple #[]) ∧ Buf w' B v (patch L (s + 2) (L.length - s)) ∧ w.grownBy w' v.ownBlock := by
  have hb' := hb
  obtain ⟨g, cap, cur, rfl, hBg, _, hcap, _⟩ := hb'
  have hne : some mb ≠ some g := by simp; omega
  have hlm : mb < w.drew.heap.size := by show mb < w.heap.size; omega
  have c7d : w.drew.cell? ⟨mb, 7, none⟩ = some (.slice (some ⟨g, 0, none⟩) L.length cap) := c7
  have c8d : w.drew.cell? ⟨mb, 8, none⟩ = some (.int .i64 s) := c8
  have z0 : ((s : Int) == 0) = false := beq_eq_false_iff_ne.2 (by omega)
  have z1 : ¬ cap = s + 2 := by omega
  have z2 : (s : Int) + 2 ≤ (L.length : Int) := by omega
  have z3 : (L.length : Int) ≤ (cap : Int) := by omega
  have hwr : IntKind.u16.wrap ((L.length : Int) - (s : Int)) = (L.length : Int) - s := IntWalk.u16_in _ ⟨by omega, by omega⟩
  have hw2 : IntKind.i64.wrap ((s : Int) + 2) = (s : Int) + 2 := IntWalk.i64_in _ ⟨by omega, by omega⟩
  have hw3 : IntKind.i64.wrap ((L.length : Int) - (s : Int)) = (L.length : Int) - s := IntWalk.i64_in _ ⟨by omega, by omega⟩
  have z4 : (0 : Int) ≤ (s : Int) + 2 := by omega
  have hT2 : ((s : Int) + 2).toNat = s + 2 := by omega
  have hbd : Buf w.drew B (.slice (some ⟨g, 0, none⟩) L.length cap) L := hb
  go_enter Ybaf.func30, Ybaf.ntmps30
  go_wp2
  go_region_held3 (fun w' => w'.cell? ⟨mb, 7, none⟩ = some (.slice (some ⟨g, 0, none⟩) L.length cap) ∧ w'.cell? ⟨mb, 8, none⟩ = some (.int .i64 s)) (first | (with_reducible exact ⟨k7, k8⟩) | go_keep) (first | (go_at_call 43; (with_reducible refine Calls.mono (put16_any B g cap (s + 2) L _ _ hbd (by omega) (by omega) (by omega)) ?_); rintro e w1 ⟨rfl, hb1, hg1⟩; have k7 := (hg1.cell_far ⟨mb, 7, none⟩ hlm hne).trans c7d; have k8 := (hg1.cell_far ⟨mb, 8, none⟩ hlm hne).trans c8d))
  go_wp2
  go_end0
  exact ⟨rfl, hb1, ⟨hg1.os, hg1.tape, hg1.output, hg1.size, hg1.block⟩⟩

set_option maxRecDepth 100000 in
theorem close_none (mb : Nat) (w : World) (c8 : w.cell? ⟨mb, 8, none⟩ = some (.int .i64 0)) :
    Calls Ybaf.prog 30 #[.pointer (some ⟨mb, 7, none⟩)] w fun e w' => e = .returned (.tuple #[]) ∧ w = w' := by
  go_enter Ybaf.func30, Ybaf.ntmps30
  go_wp2
  go_end0
  exact ⟨rfl, rfl⟩

set_option maxRecDepth 100000 in
/-- open, the set being that one already. -/
theorem open_same (mb s : Nat) (id : Int) (w : World) (c8 : w.cell? ⟨mb, 8, none⟩ = some (.int .i64 s)) (c9 : w.cell? ⟨mb, 9, none⟩ = some (.int .u16 id)) (hs0 : 0 < s) :
    Calls Ybaf.prog 40 #[.pointer (some ⟨mb, 7, none⟩), .int .u16 id] w fun e w' => e = .returned (.tuple #[]) ∧ w = w' := by
  have z0 : ((s : Int) == 0) = false := beq_eq_false_iff_ne.2 (by omega)
  go_enter Ybaf.func40, Ybaf.ntmps40
  go_wp2
  (try simp only [Exit.inBlock, Exit.then])
  refine bodyPost_ret (results_none rfl _ _ _) rfl ?_
  exact ⟨rfl, rfl⟩

end Go.Proofs.YbulkbleuFmt.B
