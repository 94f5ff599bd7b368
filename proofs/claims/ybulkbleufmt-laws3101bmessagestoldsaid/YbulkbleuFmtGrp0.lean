/- LawS3101B*: groupElements: the map of groups, the state of its first loop. -/
import Derived.Test.YbulkbleuFmtVals
import Derived.Maps.AppendAt
import Derived.Maps.OwnSet
import Derived.DeepKeys4
import Derived.Laws.OwnMore
import Derived.OneCell
namespace Go.Proofs.YbulkbleuFmt.B
open Go.RowKit Go.Maps Go.ChangeMaps
def kv (y : Int) : Value := .agg #[.int .u32 0, .int .u16 y]
theorem laid25 : laidOutB Ybaf.prog = true := by kernel_rfl
theorem at123 : Ybaf.prog.keyTypeAt 2 123 = true := by kernel_rfl
theorem row123 : (123 : Nat) < Ybaf.prog.types.size := of_decide_eq_true (by kernel_rfl)
theorem law123 : Keyed Ybaf.prog 123 := Keyed.of_law (deep_law_laid laid25 (m := 2) (by omega) row123 at123 (by rw [Ybaf.underlying123]))
theorem type123 : Ybaf.prog.keyType 123 = true := by kernel_rfl
theorem cells123 : Ybaf.prog.cellsOf 123 = 2 := by kernel_rfl
theorem cells25 : Ybaf.prog.cellsOf 25 = 1 := by kernel_rfl
theorem cells22 : Ybaf.prog.cellsOf 22 = 1 := by kernel_rfl
theorem tsz : ∃ d, Ybaf.prog.types.size + 1 = d + 1 + 1 := ⟨Ybaf.prog.types.size - 1, by have := row123; omega⟩
theorem lits25 (d : Nat) : Ybaf.prog.keyLits (d + 1) 25 [.int .u32 0] = some [.int .u32 0] := by
  simp [Program.keyLits, Ybaf.underlying25, show (Lit.int .u32 0).wf = true by decide]
theorem lits22 (d : Nat) {y : Int} (h0 : 0 ≤ y) (h1 : y < 65536) : Ybaf.prog.keyLits (d + 1) 22 [.int .u16 y] = some [.int .u16 y] := by
  have : (Lit.int .u16 y).wf = true := by simp [Lit.wf, IntKind.min, IntKind.max, IntKind.signed, IntKind.bits]; omega
  simp [Program.keyLits, Ybaf.underlying22, this]
theorem lits123 (d : Nat) {y : Int} (h0 : 0 ≤ y) (h1 : y < 65536) : Ybaf.prog.keyLits (d + 1 + 1) 123 [.int .u32 0, .int .u16 y] = some [.int .u32 0, .int .u16 y] := by
  rw [Program.keyLits.eq_def]
  simp only [Ybaf.underlying123]
  simp [cells123, cells25, cells22, lits25, lits22 d h0 h1]
theorem key123 {y : Int} (h0 : 0 ≤ y) (h1 : y < 65536) : ∃ l, keyOf Ybaf.prog 123 (kv y) = some l := by
  unfold keyOf
  have hf : (kv y).formed Ybaf.prog 123 = true := by simp [kv, Value.formed, Ybaf.underlying123, cells123]
  obtain ⟨d, hd⟩ := tsz
  have hc : (kv y).cells.toList = [.int .u32 0, .int .u16 y] := rfl
  simp only [Ybaf.underlying123, type123, hf, hd, hc, lits123 d h0 h1]
  exact ⟨_, rfl⟩

/-- The map's entries: keys of the type, values below m. -/
def Mp (es : Array MapEntry) (m : Nat) : Prop := ∀ e ∈ es.toList, (∃ l, keyOf Ybaf.prog 123 e.key = some l) ∧ ∃ v : Nat, v < m ∧ e.val = .int .i64 v
theorem Mp.push {es : Array MapEntry} {m : Nat} (h : Mp es m) {y : Int} (h0 : 0 ≤ y) (h1 : y < 65536) (c : Nat) : Mp (es.push ⟨kv y, .int .i64 m, c⟩) (m + 1) := by
  intro e he
  simp only [Array.toList_push, List.mem_append, List.mem_singleton] at he
  rcases he with he | rfl
  · obtain ⟨a, v, hv, e1⟩ := h e he
    exact ⟨a, v, by omega, e1⟩
  · exact ⟨key123 h0 h1, m, by omega, rfl⟩
/-- Either found, its number below m; or absent, and then the update pushes. -/
theorem look123 {w : World} {b : Nat} {es : Array MapEntry} {clk m : Nat} (hb : w.heap[b]? = some (.map es clk)) (hm : Mp es m) {y : Int} (h0 : 0 ≤ y) (h1 : y < 65536) :
    (∃ v : Nat, v < m ∧ (Instr.lookup 120 (.map (some b)) (kv y) true).run Ybaf.prog w = .ok (.tuple #[.int .i64 v, .bool true]) w) ∨
    ((Instr.lookup 120 (.map (some b)) (kv y) true).run Ybaf.prog w = .ok (.tuple #[.int .i64 0, .bool false]) w ∧
      (Instr.mapUpdate 120 (.map (some b)) (kv y) (.int .i64 m)).run Ybaf.prog w = .ok () (setBlock w b (.map (es.push ⟨kv y, .int .i64 m, clk⟩) (clk + 1)))) := by
  obtain ⟨l, hl⟩ := key123 h0 h1
  rcases law123.find w hl es.toList (fun e he => (hm e he).1) with ⟨f1, f2⟩ | ⟨j, e0, f1, f2, f3⟩
  · right
    constructor
    · simp [Instr.lookup, run_underlying Ybaf.underlying120, MapKept.run_getObj_map hb, law123.check w _ hl, f1, Result.andThen]
    · simp [Instr.mapUpdate, run_underlying Ybaf.underlying120, MapKept.run_getObj_map hb, law123.check w false hl, f1, MapKept.run_setObj_map _ hb, Result.andThen, setBlock]
  · left
    obtain ⟨_, v, hv, e1⟩ := hm e0 (List.mem_of_getElem? f2)
    refine ⟨v, hv, ?_⟩
    simp [Instr.lookup, run_underlying Ybaf.underlying120, MapKept.run_getObj_map hb, law123.check w _ hl, f1, Result.andThen, e1]

theorem info3 : (Ybaf.prog.info? 3).map (fun i => (i.zero, i.size, i.bytes)) = some (some (.int .i64 0), 1, 8) := by kernel_rfl
theorem info121 : (Ybaf.prog.info? 121).map (fun i => (i.zero, i.size, i.bytes)) = some (some (.slice none 0 0), 1, 24) := by kernel_rfl
theorem run_ints (w : World) (l n : Nat) (hl : l ≤ n) (hn : n ≤ 100) :
    (Instr.makeSlice 121 (.int .i64 l) (.int .i64 n)).run Ybaf.prog w = .ok (.slice (some ⟨w.heap.size, 0, none⟩) l n) (w.alloc (.cells (madeCells #[.int .i64 0] n) 3)) := by
  obtain ⟨i, hi, hz, hs, hb⟩ := info_parts info3
  have := run_make (P := Ybaf.prog) w 121 3 i _ Ybaf.underlying121 hi hz .i64 .i64 l n (by omega) (by omega) (by rw [hb]; omega) (by omega)
  simpa [hs, Value.cells] using this
theorem run_groups (w : World) (n : Nat) (hn : n ≤ 100) :
    (Instr.makeSlice 78 (.int .i64 n) (.int .i64 n)).run Ybaf.prog w = .ok (.slice (some ⟨w.heap.size, 0, none⟩) n n) (w.alloc (.cells (madeCells #[.slice none 0 0] n) 121)) := by
  obtain ⟨i, hi, hz, hs, hb⟩ := info_parts info121
  have := run_make (P := Ybaf.prog) w 78 121 i _ Ybaf.underlying78 hi hz .i64 .i64 n n (by omega) (by omega) (by rw [hb]; omega) (by omega)
  simpa [hs, Value.cells] using this

/-! ### The first loop's state -/
def cnt (gs : List Nat) (m : Nat) : List Value := (List.range m).map fun g => .int .i64 (gs.count g : Nat)
theorem cnt_len (gs : List Nat) (m : Nat) : (cnt gs m).length = m := by simp [cnt]
theorem cnt_get (gs : List Nat) (m g : Nat) (h : g < m) : (cnt gs m)[g]? = some (.int .i64 (gs.count g : Nat)) := by simp [cnt, h]
theorem cnt_grow (gs : List Nat) (m : Nat) (h : ∀ g ∈ gs, g < m) : cnt gs (m + 1) = cnt gs m ++ [.int .i64 0] := by
  have : gs.count m = 0 := List.count_eq_zero.2 fun hm => Nat.lt_irrefl _ (h m hm)
  simp [cnt, List.range_succ, this]
theorem cnt_set (gs : List Nat) (m g : Nat) (_h : g < m) : cnt (gs ++ [g]) m = (cnt gs m).set g (.int .i64 (gs.count g + 1 : Nat)) := by
  apply List.ext_getElem?
  intro j
  by_cases hj : j < m
  · rw [cnt_get _ _ _ hj, List.getElem?_set]
    by_cases e : g = j
    · subst e
      simp [cnt_len, hj]
    · have : [g].count j = 0 := List.count_eq_zero.2 (by simp; omega)
      simp only [if_neg e, cnt_get _ _ _ hj, List.count_append, this, Nat.add_zero]
  · rw [List.getElem?_eq_none (by rw [cnt_len]; omega), List.getElem?_eq_none (by rw [List.length_set, cnt_len]; omega)]

structure G1 (w wr : World) (k : Nat) (szv : Value) (gs : List Nat) (m : Nat) : Prop where
  below : Below w.heap.size w wr
  size : w.heap.size + 1 < wr.heap.size
  mp : ∃ es clk, wr.heap[w.heap.size]? = some (.map es clk) ∧ Mp es m
  room : ∀ j, j < k → ∃ u, wr.cell? ⟨w.heap.size + 1, j, none⟩ = some u
  at_ : ∀ j (h : j < gs.length), wr.cell? ⟨w.heap.size + 1, j, none⟩ = some (.int .i64 (gs[j] : Nat))
  frz : ∀ j, wr.frozen? ⟨w.heap.size + 1, j, none⟩ = false
  sz : wr.ownsRow (w.heap.size + 2) 3 1 szv m (cnt gs m)
  lt : ∀ g ∈ gs, g < m

theorem G1.turn {w wr wr' : World} {k : Nat} {szv szv' : Value} {gs : List Nat} {m m' : Nat} (h : G1 w wr k szv gs m) (hg : wr.grownBy wr' szv.ownBlock) (hm : m ≤ m') (hs : wr'.ownsRow (w.heap.size + 2) 3 1 szv' m' (cnt gs m')) : G1 w wr' k szv' gs m' := by
  have ne : ∀ i, i < w.heap.size + 2 → some i ≠ szv.ownBlock := fun i hi e => by have := (h.sz.lt i e.symm).1; omega
  have hc : ∀ j, wr'.cell? ⟨w.heap.size + 1, j, none⟩ = wr.cell? ⟨w.heap.size + 1, j, none⟩ := fun j => World.cell?_of_block (hg.block _ h.size (ne _ (by show w.heap.size + 1 < _; omega)))
  refine ⟨h.below.grown hg (Nat.le_of_lt (Nat.lt_of_succ_lt h.size)) (fun i e => by have := (h.sz.lt i e).1; omega), Nat.lt_of_lt_of_le h.size hg.size, ?_, fun j hj => ?_, fun j hj => ?_, fun j => ?_, hs, fun g hgs => Nat.lt_of_lt_of_le (h.lt g hgs) hm⟩
  · obtain ⟨es, clk, h1, h2⟩ := h.mp
    refine ⟨es, clk, (hg.block _ (Nat.lt_of_succ_lt h.size) (ne _ (by omega))).trans h1, fun e he => ?_⟩
    obtain ⟨a, v, hv, e1⟩ := h2 e he
    exact ⟨a, v, by omega, e1⟩
  · rw [hc]; exact h.room j hj
  · rw [hc]; exact h.at_ j hj
  · rw [World.frozen?_of_block (hg.block _ h.size (ne _ (by show w.heap.size + 1 < _; omega)))]; exact h.frz j
theorem G1.alloc {w wr : World} {k : Nat} {szv : Value} {gs : List Nat} {m : Nat} (h : G1 w wr k szv gs m) (o : Obj) : G1 w (wr.alloc o) k szv gs m :=
  h.turn (World.grownBy_alloc wr o _) (Nat.le_refl _) (h.sz.alloc o)
/-- A new group in the map (its size is appended behind). -/
theorem G1.upd {w wr : World} {k : Nat} {szv : Value} {gs : List Nat} {m : Nat} (h : G1 w wr k szv gs m) {es : Array MapEntry} {clk : Nat} (hb : wr.heap[w.heap.size]? = some (.map es clk)) {es' : Array MapEntry} {clk' : Nat} (hm : Mp es' (m + 1)) :
    Below w.heap.size w (setBlock wr w.heap.size (.map es' clk')) ∧ (setBlock wr w.heap.size (.map es' clk')).heap.size = wr.heap.size ∧ (setBlock wr w.heap.size (.map es' clk')).ownsRow (w.heap.size + 2) 3 1 szv m (cnt gs m) ∧
    ∀ szv' w', (setBlock wr w.heap.size (.map es' clk')).grownBy w' szv.ownBlock → w'.ownsRow (w.heap.size + 2) 3 1 szv' (m + 1) (cnt gs m ++ [.int .i64 0]) → G1 w w' k szv' gs (m + 1) := by
  have hg : wr.grownBy (setBlock wr w.heap.size (.map es' clk')) (some w.heap.size) := ⟨rfl, rfl, rfl, by simp [setBlock], fun i _ hi => heap_setBlock_other hb _ (fun e => hi (by rw [e]))⟩
  have ne : ∀ i, i < w.heap.size + 2 → some i ≠ szv.ownBlock := fun i hi e => by have := (h.sz.lt i e.symm).1; omega
  have hs : (setBlock wr w.heap.size (.map es' clk')).heap.size = wr.heap.size := by simp [setBlock]
  have hbl := h.below.grown hg (Nat.le_of_lt (Nat.lt_of_succ_lt h.size)) (fun i e => by cases e; exact Nat.le_refl _)
  refine ⟨hbl, hs, h.sz.kept hg (.inr (ne _ (by omega)).symm), fun szv' w' hg' hs' => ?_⟩
  have hc : ∀ j, w'.cell? ⟨w.heap.size + 1, j, none⟩ = wr.cell? ⟨w.heap.size + 1, j, none⟩ := fun j =>
    (World.cell?_of_block (hg'.block _ (by rw [hs]; exact h.size) (ne _ (by show w.heap.size + 1 < _; omega)))).trans (World.cell?_of_block (hg.block _ h.size (by simp)))
  have hfz : ∀ j, w'.frozen? ⟨w.heap.size + 1, j, none⟩ = wr.frozen? ⟨w.heap.size + 1, j, none⟩ := fun j =>
    (World.frozen?_of_block (hg'.block _ (by rw [hs]; exact h.size) (ne _ (by show w.heap.size + 1 < _; omega)))).trans (World.frozen?_of_block (hg.block _ h.size (by simp)))
  have hz := h.size
  refine ⟨hbl.grown hg' (by omega) (fun i e => by have := (h.sz.lt i e).1; omega), by have := hg'.size; omega, ⟨es', clk', ?_, hm⟩, fun j hj => ?_, fun j hj => ?_, fun j => ?_, by rw [cnt_grow _ _ h.lt]; exact hs', fun g hgs => Nat.lt_succ_of_lt (h.lt g hgs)⟩
  · rw [hg'.block _ (by omega) (ne _ (by omega))]
    exact heap_setBlock_same hb _
  · rw [hc]; exact h.room j hj
  · rw [hc]; exact h.at_ j hj
  · rw [hfz]; exact h.frz j
/-- groupOf[i] = g, sizes[g]++. -/
theorem G1.store {w wr : World} {k sb cap : Nat} {gs : List Nat} {m : Nat} (h : G1 w wr k (.slice (some ⟨sb, 0, none⟩) m cap) gs m) (hk : gs.length < k) {g : Nat} (hg : g < m) :
    G1 w ((wr.setCell ⟨w.heap.size + 1, gs.length, none⟩ (.int .i64 g)).setCell ⟨sb, g, none⟩ (.int .i64 (gs.count g + 1 : Nat))) k (.slice (some ⟨sb, 0, none⟩) m cap) (gs ++ [g]) m := by
  have hsb := (h.sz.lt sb rfl).1
  obtain ⟨u0, c0⟩ := h.room _ hk
  have hz := h.size
  have hs1 : (wr.setCell ⟨w.heap.size + 1, gs.length, none⟩ (.int .i64 g)).ownsRow (w.heap.size + 2) 3 1 (.slice (some ⟨sb, 0, none⟩) m cap) m (cnt gs m) := ownsRow_setCell_below h.sz (by show w.heap.size + 1 < _; omega) _
  have hs2 := hs1.stored g (.int .i64 (gs.count g + 1 : Nat))
  rw [← cnt_set _ _ _ hg] at hs2
  have far : ∀ j, (((wr.setCell ⟨w.heap.size + 1, gs.length, none⟩ (.int .i64 g)).setCell ⟨sb, g, none⟩ (.int .i64 (gs.count g + 1 : Nat)))).cell? ⟨w.heap.size + 1, j, none⟩ = (wr.setCell ⟨w.heap.size + 1, gs.length, none⟩ (.int .i64 g)).cell? ⟨w.heap.size + 1, j, none⟩ := fun j =>
    World.cell?_setCell_other _ _ _ _ (by intro e; simp only [Addr.mk.injEq] at e; omega)
  have oth : ∀ j, j ≠ gs.length → (wr.setCell ⟨w.heap.size + 1, gs.length, none⟩ (.int .i64 g)).cell? ⟨w.heap.size + 1, j, none⟩ = wr.cell? ⟨w.heap.size + 1, j, none⟩ := fun j hj =>
    World.cell?_setCell_other _ _ _ _ (by intro e; simp only [Addr.mk.injEq] at e; omega)
  refine ⟨(h.below.setCell (by show w.heap.size ≤ w.heap.size + 1; omega) _).setCell (by show w.heap.size ≤ sb; omega) _, by simp; omega, ?_, fun j hj => ?_, fun j hj => ?_, fun j => ?_, hs2.1, fun x hx => ?_⟩
  · obtain ⟨es, clk, h1, h2⟩ := h.mp
    refine ⟨es, clk, ?_, h2⟩
    rw [heap_setCell_other _ _ _ _ (by show w.heap.size ≠ sb; omega), heap_setCell_other _ _ _ _ (by show w.heap.size ≠ w.heap.size + 1; omega)]
    exact h1
  · rw [far]
    by_cases e : j = gs.length
    · subst e
      exact ⟨_, World.cell?_setCell_same _ _ _ c0⟩
    · rw [oth j e]; exact h.room j hj
  · rw [far]
    rw [List.length_append] at hj
    by_cases e : j = gs.length
    · subst e
      rw [World.cell?_setCell_same _ _ _ c0]
      simp
    · rw [oth j e, List.getElem_append_left (by simp at hj; omega)]
      exact h.at_ j _
  · rw [World.frozen?_setCell, World.frozen?_setCell]; exact h.frz j
  · rcases List.mem_append.1 hx with e | e
    · exact h.lt x e
    · simp at e; omega
end Go.Proofs.YbulkbleuFmt.B
