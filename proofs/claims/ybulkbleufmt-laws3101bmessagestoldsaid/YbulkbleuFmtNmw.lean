/- LawS3101B*: NewMessageWriter. -/
import Derived.Test.YbulkbleuFmtSent
import Derived.Carry
namespace Go.Proofs.YbulkbleuFmt.B
open Go.RowKit Go.Maps

theorem run_buf (w : World) (c : Nat) (hc : 16 ≤ c) (hn : c ≤ 100000) :
    (Instr.makeSlice 24 (.int .i64 16) (.int .i64 c)).run Ybaf.prog w = .ok (.slice (some ⟨w.heap.size, 0, none⟩) 16 c) (w.alloc (.cells (madeCells #[.int .u8 0] c) 5)) := by
  obtain ⟨i, hi, hz, hs, hb⟩ := info_parts infoByte
  have := run_make (P := Ybaf.prog) w 24 5 i _ Ybaf.underlying24 hi hz .i64 .i64 16 c (by omega) (by omega) (by rw [hb]; omega) (by omega)
  simpa [hs, Value.cells] using this

/-- The world that NewMessageWriter leaves: the map, the writer (block w.heap.size + 1), the buffer (block w.heap.size + 2). -/
def newWriterW (zv : Value) (dm : Int) (c : Nat) (w : World) : World :=
  ((w.alloc (.map #[] 0)).alloc (.cells #[.iface 35 zv, .int .u32 dm, .int .i64 c, .int .u32 0, .int .u32 0, .map (some w.heap.size), .pointer none, .slice (some ⟨w.heap.size + 1 + 1, 0, none⟩) 16 c, .int .i64 0, .int .u16 0, .int .u32 0, .slice none 0 0, .bool false] 49)).alloc (.cells (madeCells #[.int .u8 0] c) 5)

set_option maxRecDepth 100000 in
set_option maxHeartbeats 1000000 in
theorem newWriter_any (zv : Value) (dm : Int) (c : Nat) (w : World) (hc : 40 ≤ c) (hc1 : c ≤ 1000) :
    Calls Ybaf.prog 10 #[.iface 35 zv, .int .u32 dm, .int .i64 c] w fun e w' => e = .returned (.pointer (some ⟨w.heap.size + 1, 0, none⟩)) ∧ newWriterW zv dm c w = w' := by
  have hmk := run_buf ((w.alloc (.map #[] 0)).alloc (.cells #[.iface 35 zv, .int .u32 dm, .int .i64 c, .int .u32 0, .int .u32 0, .map (some w.heap.size), .pointer none, .slice none 0 0, .int .i64 0, .int .u16 0, .int .u32 0, .slice none 0 0, .bool false] 49)) c (by omega) (by omega)
  have hmm : (Instr.makeMap 43 none).run Ybaf.prog w = .ok (.map (some w.heap.size)) (w.alloc (.map #[] 0)) := run_makeMap _ _
  go_enter Ybaf.func10, Ybaf.ntmps10
  go_wp2
  go_ret
  exact ⟨rfl, rfl⟩

end Go.Proofs.YbulkbleuFmt.B
