/- LawS3101BFailingWriter: what the loop finds at its start. -/
import Derived.Test.YbulkbleuFmtRecD
import Derived.Test.YbulkbleuFmtNmw
import Derived.Test.YbulkbleuFmtNewt
namespace Go.Proofs.YbulkbleuFmt.B
open Go.RowKit Go.Maps Go.Extern.Stop Go.Stop Go.Extern

/-- The law's writer and the message writer over it, just made. -/
def madeW (w : World) (zr : Array Value) (dm : Int) (mx : Nat) : World := newWriterW (.pointer (some ⟨w.heap.size, 0, none⟩)) dm mx (w.alloc (.cells zr 38))
structure Made (w w5 : World) (zr : Array Value) (dm : Int) (mx : Nat) : Prop where
  size : w5.heap.size = w.heap.size + 4
  old : ∀ k, k < w.heap.size → w5.heap[k]? = w.heap[k]?
  z : w5.heap[w.heap.size]? = some (.cells zr 38 (0, 0))
  s : w5.heap[w.heap.size + 1]? = some (.map #[] 0)
  m : w5.heap[w.heap.size + 2]? = some (.cells #[.iface 35 (.pointer (some ⟨w.heap.size, 0, none⟩)), .int .u32 dm, .int .i64 mx, .int .u32 0, .int .u32 0, .map (some (w.heap.size + 1)), .pointer none, .slice (some ⟨w.heap.size + 3, 0, none⟩) 16 mx, .int .i64 0, .int .u16 0, .int .u32 0, .slice none 0 0, .bool false] 49 (0, 0))
  b : w5.heap[w.heap.size + 3]? = some (.cells (madeCells #[.int .u8 0] mx) 5 (0, 0))
  os : w5.os = w.os
  tape : w5.tape = w.tape
  output : w5.output = w.output
theorem heap_new' (w : World) (o : Obj) (k : Nat) (h : w.heap.size = k) : (w.alloc o).heap[k]? = some o := by subst h; exact heap_alloc_new w o
theorem made_any (w : World) (zr : Array Value) (dm : Int) (mx : Nat) : Made w (madeW w zr dm mx) zr dm mx := by
  have s1 : (w.alloc (.cells zr 38)).heap.size = w.heap.size + 1 := by simp
  have s2 : ((w.alloc (.cells zr 38)).alloc (.map #[] 0)).heap.size = w.heap.size + 2 := by simp
  unfold madeW newWriterW
  rw [s1]
  have s3 : (((w.alloc (.cells zr 38)).alloc (.map #[] 0)).alloc (.cells #[.iface 35 (.pointer (some ⟨w.heap.size, 0, none⟩)), .int .u32 dm, .int .i64 mx, .int .u32 0, .int .u32 0, .map (some (w.heap.size + 1)), .pointer none, .slice (some ⟨w.heap.size + 1 + 1 + 1, 0, none⟩) 16 mx, .int .i64 0, .int .u16 0, .int .u32 0, .slice none 0 0, .bool false] 49)).heap.size = w.heap.size + 3 := by simp
  refine ⟨by simp, fun k hk => ?_, ?_, ?_, ?_, ?_, rfl, rfl, rfl⟩
  · rw [heap_alloc_old _ _ (by omega), heap_alloc_old _ _ (by omega), heap_alloc_old _ _ (by omega), heap_alloc_old _ _ hk]
  · rw [heap_alloc_old _ _ (by omega), heap_alloc_old _ _ (by omega), heap_alloc_old _ _ (by omega)]
    exact heap_alloc_new _ _
  · rw [heap_alloc_old _ _ (by omega), heap_alloc_old _ _ (by omega)]
    exact heap_new' _ _ _ s1
  · rw [heap_alloc_old _ _ (by omega)]
    exact heap_new' _ _ _ s2
  · exact heap_new' _ _ _ s3

theorem Made.below {w w5 : World} {zr : Array Value} {dm : Int} {mx : Nat} (h : Made w w5 zr dm mx) : Below w.heap.size w w5 := ⟨h.os, h.tape, h.output, by rw [h.size]; omega, h.old⟩
theorem Made.cell {w w5 : World} {zr : Array Value} {dm : Int} {mx : Nat} (h : Made w w5 zr dm mx) (j : Nat) : w5.cell? ⟨w.heap.size + 2, j, none⟩ = #[.iface 35 (.pointer (some ⟨w.heap.size, 0, none⟩)), .int .u32 dm, .int .i64 mx, .int .u32 0, .int .u32 0, .map (some (w.heap.size + 1)), .pointer none, .slice (some ⟨w.heap.size + 3, 0, none⟩) 16 mx, .int .i64 0, .int .u16 0, .int .u32 0, .slice none 0 0, .bool false][j]? := cell_of_row _ _ _ _ _ _ h.m
theorem Made.buf {w w5 : World} {zr : Array Value} {dm : Int} {mx : Nat} (h : Made w w5 zr dm mx) (h0 : 16 ≤ mx) (h1 : mx ≤ 1000) : Buf w5 (w.heap.size + 3) (.slice (some ⟨w.heap.size + 3, 0, none⟩) 16 mx) (List.replicate 16 0) := by
  refine ⟨w.heap.size + 3, mx, _, by simp, Nat.le_refl _, h.b, by simp; omega, by unfold maxLen; omega, by rw [size_madeCells], ?_⟩
  rw [toList_madeCells_one, List.take_replicate, List.length_replicate, List.map_replicate, show min 16 mx = 16 by omega]
theorem Made.mc {w w5 : World} {zr : Array Value} {dm : Int} {mx : Nat} (h : Made w w5 zr dm mx) : MC w5 (w.heap.size + 2) (.slice (some ⟨w.heap.size + 3, 0, none⟩) 16 mx) 0 0 0 (.slice none 0 0) :=
  ⟨(h.cell 7).trans rfl, (h.cell 8).trans rfl, (h.cell 9).trans rfl, (h.cell 10).trans rfl, (h.cell 11).trans rfl, ⟨false, (h.cell 12).trans rfl⟩, fun j => frozen_of_row _ _ j _ _ h.m⟩
theorem Made.own {w w5 : World} {zr : Array Value} {dm : Int} {mx : Nat} (h : Made w w5 zr dm mx) : w5.ownsMap Ybaf.prog 22 ptrElem (w.heap.size + 1) 0 (.map []) :=
  ⟨#[], 0, h.s, ⟨by simp, MapKept.stamped_empty 0, by simp⟩, Nat.le_refl _, rfl⟩

theorem env_made {F : Interp} {w w5 : World} {tb fb mx : Nat} {tid : Int} {fs : List (Int × Int)} {a : Addr} {tx : ByteArray} {ev : Value} (h : Made w w5 #[.slice none 0 0, .int .i64 0, .iface 102 ev] 0 mx) (hT : Tpl w tb fb tid fs) (hf : fb < tb) (htb : tb < w.heap.size) (hf0 : 0 < fb) (ha : a.block < fb)
    (g0 : w.cell? ⟨0, 0, none⟩ = some (.iface 102 (.pointer (some a)))) (hat : w.cell? a = some (.string tx)) (ht : F.answers w.tape) :
    Env F w5 (w.heap.size + 3) (w.heap.size + 2) tb fb w.heap.size (w.heap.size + 1) mx tid fs a tx ev := by
  have hc : ∀ p : Addr, p.block < w.heap.size → w5.cell? p = w.cell? p := fun p hp => World.cell?_of_block (h.old _ hp)
  have hz : ∀ j, w5.cell? ⟨w.heap.size, j, none⟩ = #[.slice none 0 0, .int .i64 0, .iface 102 ev][j]? := fun j => cell_of_row _ _ _ _ _ _ h.z
  refine ⟨(h.cell 0).trans rfl, (h.cell 1).trans rfl, (h.cell 2).trans rfl, (h.cell 3).trans rfl, (h.cell 4).trans rfl, (h.cell 5).trans rfl, (h.cell 6).trans rfl, ⟨(hc _ htb).trans hT.c0, (hc _ htb).trans hT.c1, (hc _ htb).trans hT.c2, hT.fs.below (by omega) h.below⟩, h.own, (hz 0).trans rfl, (hz 2).trans rfl, fun j => frozen_of_row _ _ j _ _ h.z, (hc _ (by show 0 < _; omega)).trans g0, (hc _ (by omega)).trans hat, by rw [h.tape]; exact ht, by rw [h.size]; omega, hf0, ha, hf, htb, by omega, by omega, by omega⟩
theorem st_made {w w5 : World} {tb mx T r c1 : Nat} {tid : Int} {ev : Value} (h : Made w w5 #[.slice none 0 0, .int .i64 0, .iface 102 ev] 0 mx) (h0 : 16 ≤ mx) (h1 : mx ≤ 1000) : St w5 (w.heap.size + 3) (w.heap.size + 2) w.heap.size tb T r tid c1 0 := by
  have hz : ∀ j, w5.cell? ⟨w.heap.size, j, none⟩ = #[.slice none 0 0, .int .i64 0, .iface 102 ev][j]? := fun j => cell_of_row _ _ _ _ _ _ h.z
  refine ⟨(hz 1).trans ?_, .inl ⟨.inr rfl, w.heap.size + 3, mx, List.replicate 16 0, 0, by simp, ?_, ?_⟩⟩
  · simp [fails]
  · simpa using h.buf h0 h1
  · simpa using h.mc
end Go.Proofs.YbulkbleuFmt.B
