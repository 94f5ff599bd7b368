/- LawS3101B*: typeRecordLayoutOf of no scope fields, errors.New. -/
import Derived.Test.YbulkbleuFmtOpen
namespace Go.Proofs.YbulkbleuFmt.B
open Go.RowKit

set_option maxRecDepth 100000 in
theorem layout_none (fv : Value) (w : World) :
    Calls Ybaf.prog 26 #[fv, .int .i64 0] w fun e w' => e = .returned (.pointer none) ∧ w = w' := by
  go_enter Ybaf.func26, Ybaf.ntmps26
  go_wp2
  go_ret
  exact ⟨rfl, rfl⟩
set_option maxRecDepth 100000 in
theorem new_any (s : ByteArray) (w : World) :
    Calls Ybaf.prog 17 #[.string s] w fun e w' => e = .returned (.iface 102 (.pointer (some ⟨w.heap.size, 0, none⟩))) ∧ w.alloc (.cells #[.string s] 104) = w' := by
  go_enter Ybaf.func17, Ybaf.ntmps17
  go_wp2
  go_ret
  exact ⟨rfl, rfl⟩
end Go.Proofs.YbulkbleuFmt.B
