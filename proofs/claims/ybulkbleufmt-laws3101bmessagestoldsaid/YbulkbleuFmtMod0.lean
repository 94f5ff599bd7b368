/- LawS3101BMessages: leaves of the model, and the comparison. -/
import Derived.Test.YbulkbleuFmtMPl
import Derived.Laws.CopyOwn
import Derived.BigQuiet
import Derived.Deep.QuietTactic
namespace Go.Proofs.YbulkbleuFmt.B
open Go.RowKit

/-- A buffer under way, above B; below B nothing turned since wr. -/
def Bld (wr wk : World) (B : Nat) (v : Value) (L : List Int) : Prop := Buf wk B v L ∧ Below B wr wk ∧ B ≤ wk.heap.size
theorem Bld.ext {wr wk wk' : World} {B : Nat} {v v' : Value} {L L' : List Int} (h : Bld wr wk B v L) (hE : Ext wk B v L wk' v' L') : Bld wr wk' B v' L' :=
  ⟨hE.body, h.2.1.trans (hE.below h.2.2), Nat.le_trans h.2.2 hE.grown.size⟩
theorem Bld.drew {wr wk : World} {B : Nat} {v : Value} {L : List Int} (h : Bld wr wk B v L) : Bld wr wk.drew B v L := ⟨h.1, h.2.1.drew, h.2.2⟩
theorem Bld.below {wr wk wk' : World} {B : Nat} {v : Value} {L : List Int} (h : Bld wr wk B v L) (hb : Below wk.heap.size wk wk') : Bld wr wk' B v L :=
  ⟨h.1.below (fun k hk => (h.1.lt k hk).2) hb, h.2.1.trans (hb.mono h.2.2), Nat.le_trans h.2.2 hb.size⟩
theorem buf_made (w : World) (l c : Nat) (hl : l ≤ c) (hc : c ≤ 1000) : Buf (w.alloc (.cells (madeCells #[.int .u8 0] c) 5)) w.heap.size (.slice (some ⟨w.heap.size, 0, none⟩) l c) (List.replicate l 0) := by
  refine ⟨w.heap.size, c, _, by simp, Nat.le_refl _, heap_alloc_new _ _, by simpa using hl, by unfold maxLen; omega, by rw [size_madeCells], ?_⟩
  rw [toList_madeCells_one, List.take_replicate, List.length_replicate, List.map_replicate, show min l c = l by omega]
theorem bld_made (w : World) : Bld w (w.alloc (.cells (madeCells #[.int .u8 0] 16) 5)) w.heap.size (.slice (some ⟨w.heap.size, 0, none⟩) 16 16) (List.replicate 16 0) :=
  ⟨buf_made w 16 16 (by omega) (by omega), (Below.refl _ w).alloc (Nat.le_refl _) _, by simp⟩
theorem run_b16 (w : World) (l : Nat) (hl : l ≤ 16) :
    (Instr.makeSlice 24 (.int .i64 l) (.int .i64 16)).run Ybaf.prog w = .ok (.slice (some ⟨w.heap.size, 0, none⟩) l 16) (w.alloc (.cells (madeCells #[.int .u8 0] 16) 5)) := by
  obtain ⟨i, hi, hz, hs, hb⟩ := info_parts infoByte
  have := run_make (P := Ybaf.prog) w 24 5 i _ Ybaf.underlying24 hi hz .i64 .i64 l 16 (by omega) (by omega) (by rw [hb]; omega) (by omega)
  simpa [hs, Value.cells] using this
theorem size5 : (Ybaf.prog.info? 5).map (·.size) = some 1 := by kernel_rfl

/-- 'copy(b, h)', h of 16 bytes. -/
theorem wpList_hdr {ops : Array Oper} {rest : List Oper} {o : Oper} {a : Act} {Q : Exit → Act → World → Prop} (w : World) (hgd : o.guard = none) (d s : Operand)
    (ho : o.op = .call { callee := .builtin .copy, args := #[d, s], argTypes := #[24, 24] }) (B B2 g cap hg hc : Nat) (L Hd : List Int) (hd : a.eval d = .slice (some ⟨g, 0, none⟩) L.length cap) (hs : a.eval s = .slice (some ⟨hg, 0, none⟩) Hd.length hc)
    (hb : Buf w B (.slice (some ⟨g, 0, none⟩) L.length cap) L) (hh : Buf w B2 (.slice (some ⟨hg, 0, none⟩) Hd.length hc) Hd) (h16 : Hd.length = 16) (hL : 16 ≤ L.length)
    (h : ∀ u w', Buf w' B (.slice (some ⟨g, 0, none⟩) L.length cap) (Hd ++ L.drop 16) → w.grownBy w' (some g) → wpList Ybaf.prog ops Q rest (a.put o.dst u) w') : wpList Ybaf.prog ops Q (o :: rest) a w := by
  have hb0 := hb
  obtain ⟨g', cap', cur, e, hB, hgh, h1, h2, h3, h4⟩ := hb
  simp only [Value.slice.injEq, Option.some.injEq, Addr.mk.injEq, and_true, true_and] at e
  obtain ⟨rfl, rfl⟩ := e
  have hcl : L.length ≤ cur.toList.length := by simp; omega
  refine wpList_copy_own (P := Ybaf.prog) hgd d s 24 24 ho 5 Ybaf.underlying24 size5 g 0 L.length cap ⟨hg, 0, none⟩ Hd.length hc hd hs cur 5 hgh (Hd.map (Value.int .u8)) (by rw [List.length_map, h16]; exact (Nat.min_eq_left hL).symm) (fun j v hv => ?_) (by simp; omega) (fun v hv => by simp at hv; obtain ⟨y, _, rfl⟩ := hv; rfl) ?_
  · have hj : j < Hd.length := by have := (List.getElem?_eq_some_iff.1 hv).1; simpa using this
    rw [Addr.add_lit, Nat.zero_add]
    have := (hh.cell j hj).1
    simp [List.getElem?_eq_getElem hj] at hv
    rw [← hv]
    exact this
  · refine h _ _ ⟨g, cap, _, by simp [h16]; omega, hB, setRow_heap w g cur _ 5 _ hgh, by simp [h16]; omega, h2, by simp [h16]; omega, ?_⟩ ⟨rfl, rfl, rfl, by simp, fun k _ hk => setRow_other w g k _ (fun e => hk (by rw [e]))⟩
    have hlen : (Hd ++ L.drop 16).length = L.length := by simp [h16]; omega
    rw [hlen]
    simp only [List.take_zero, List.nil_append, List.length_map, h16, Nat.zero_add, List.map_append, List.map_drop]
    rw [List.take_append, List.take_of_length_le (by simp; omega), List.length_map, h16, ← h4, List.drop_take]

set_option maxRecDepth 100000 in
theorem eq_same (B B' : Nat) (u v : Value) (L : List Int) (w : World) (hu : Buf w B u L) (hv : Buf w B' v L) (hl : L.length ≤ 10000) :
    Calls Ybaf.prog 16 #[u, v] w fun e w' => e = .returned (.bool true) ∧ Below w.heap.size w w' := by
  obtain ⟨g, cap, rfl⟩ : ∃ g cap, u = .slice (some ⟨g, 0, none⟩) L.length cap := by obtain ⟨g, cap, cur, rfl, _⟩ := hu; exact ⟨_, _, rfl⟩
  obtain ⟨g', cap', rfl⟩ : ∃ g cap, v = .slice (some ⟨g, 0, none⟩) L.length cap := by obtain ⟨g, cap, cur, rfl, _⟩ := hv; exact ⟨_, _, rfl⟩
  have hg := (hu.lt g rfl).2
  have hg' := (hv.lt g' rfl).2
  go_enter Ybaf.func16, Ybaf.ntmps16
  go_wp2
  go_loopw [5] (fun s5 wr => ∃ i : Nat, i ≤ L.length ∧ s5 = .int .i64 i ∧ Below w.heap.size w wr) (fun s5 _ => L.length - (intOf s5).toNat)
  case atStart => exact ⟨0, by omega, rfl, Below.refl _ _⟩
  case round =>
    obtain ⟨i, hi, rfl, hb⟩ := hrel
    by_cases hlt : i < L.length
    · have p1 : wr.cell? ⟨g, i, none⟩ = some (.int .u8 L[i]) := (hb.cell (p := ⟨g, i, none⟩) hg).trans (hu.cell i hlt).1
      have p2 : wr.cell? ⟨g', i, none⟩ = some (.int .u8 L[i]) := (hb.cell (p := ⟨g', i, none⟩) hg').trans (hv.cell i hlt).1
      have hil : (i : Int) < (L.length : Int) := by omega
      generalize L[i] = x at *
      go_wp2
      go_quiet (fail)
      go_wp2
      exact ⟨⟨i + 1, by omega, by go_num, hb.os, hb.tape, hb.output, hb.size, hb.block⟩, by simp [intOf]; omega⟩
    · have hil : ¬ (i : Int) < (L.length : Int) := by omega
      go_wp2
      go_ret
      exact ⟨rfl, hb⟩
end Go.Proofs.YbulkbleuFmt.B
