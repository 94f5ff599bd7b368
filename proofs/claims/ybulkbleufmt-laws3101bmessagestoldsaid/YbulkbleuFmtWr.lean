/- LawS3101B*: the failing writer's Write. -/
import Derived.Test.YbulkbleuFmtHead
namespace Go.Proofs.YbulkbleuFmt.B
open Go.RowKit

set_option maxRecDepth 100000 in
theorem write_fail (zb : Nat) (v : Value) (n : Nat) (ev : Value) (w : World) (hn : n ≤ 100000) (c1 : w.cell? ⟨zb, 1, none⟩ = some (.int .i64 n)) (c2 : w.cell? ⟨zb, 2, none⟩ = some (.iface 102 ev)) (z1 : w.frozen? ⟨zb, 1, none⟩ = false) :
    Calls Ybaf.prog 64 #[.pointer (some ⟨zb, 0, none⟩), v] w fun e w' => e = .returned (.tuple #[.int .i64 0, .iface 102 ev]) ∧ (w.setCell ⟨zb, 1, none⟩ (.int .i64 ((n + 1 : Nat) : Int))).drew = w' := by
  go_enter Ybaf.func64, Ybaf.ntmps64
  go_wp2
  go_region
  go_wp2
  go_ret2
  refine ⟨rfl, ?_⟩
  rw [Int.natCast_add]
  rfl
end Go.Proofs.YbulkbleuFmt.B
