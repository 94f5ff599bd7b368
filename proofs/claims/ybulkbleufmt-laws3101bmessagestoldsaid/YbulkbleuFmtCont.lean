/- LawS3101B*: slices.Index and slices.Contains over the message's templates: none, or this very one. -/
import Derived.Test.YbulkbleuFmtOpen
import Derived.LaidEql
namespace Go.Proofs.YbulkbleuFmt.B
open Go.RowKit

set_option maxRecDepth 100000 in
theorem index_none (a : Option Addr) (c tb : Nat) (w : World) :
    Calls Ybaf.prog 44 #[.slice a 0 c, .pointer (some ⟨tb, 0, none⟩)] w fun e w' => e = .returned (.int .i64 (-1)) ∧ w = w' := by
  go_enter Ybaf.func44, Ybaf.ntmps44
  go_wp2
  go_loopw [8] (fun s8 wr => s8 = .int .i64 0 ∧ w = wr) (fun _ _ => 0)
  case atStart => exact ⟨rfl, rfl⟩
  case round =>
    obtain ⟨rfl, rfl⟩ := hrel
    go_wp2
    go_ret
    exact ⟨rfl, rfl⟩
theorem info85 : (Ybaf.prog.info? 85).isSome = true := by kernel_rfl
theorem run_equalIn_ptr (P : Program) (w : World) (d : Nat) {tp te : TypeId} {j : TypeInfo} (a : Addr) (hp : P.underlying tp = some (.pointer te)) (hte : P.info? te = some j) :
    (Op.equalIn (d + 1) tp (.pointer (some a)) (.pointer (some a))).run P w = .ok true w := by
  simp [Op.equalIn, run_underlying hp, typeInfo, sizeOf, run_sameAddr_same, hte]
theorem eql28 (w : World) (a : Addr) : (binOp .eql 28 (.pointer (some a)) (.pointer (some a))).run Ybaf.prog w = .ok (.bool true) w := by
  obtain ⟨j, hj⟩ := Option.isSome_iff_exists.1 info85
  simp only [binOp]
  simp [Op.equal, Op.maxDepth, run_equalIn_ptr Ybaf.prog w 9999 a Ybaf.underlying28 hj]
theorem neq28 (w : World) (a : Addr) : (binOp .neq 28 (.pointer (some a)) (.pointer (some a))).run Ybaf.prog w = .ok (.bool false) w := by
  obtain ⟨j, hj⟩ := Option.isSome_iff_exists.1 info85
  simp only [binOp]
  simp [Op.equal, Op.maxDepth, run_equalIn_ptr Ybaf.prog w 9999 a Ybaf.underlying28 hj]

set_option maxRecDepth 100000 in
theorem index_this (pb c tb : Nat) (w : World) (c0 : w.cell? ⟨pb, 0, none⟩ = some (.pointer (some ⟨tb, 0, none⟩))) :
    Calls Ybaf.prog 44 #[.slice (some ⟨pb, 0, none⟩) 1 c, .pointer (some ⟨tb, 0, none⟩)] w fun e w' => e = .returned (.int .i64 0) ∧ w = w' := by
  go_enter Ybaf.func44, Ybaf.ntmps44
  go_wp2
  go_loopw [8] (fun s8 wr => s8 = .int .i64 0 ∧ w = wr) (fun _ _ => 0)
  case atStart => exact ⟨rfl, rfl⟩
  case round =>
    obtain ⟨rfl, rfl⟩ := hrel
    have he := eql28 w ⟨tb, 0, none⟩
    go_wp2
    go_ret
    exact ⟨rfl, rfl⟩

set_option maxRecDepth 100000 in
theorem contains_none (a : Option Addr) (c tb : Nat) (w : World) :
    Calls Ybaf.prog 37 #[.slice a 0 c, .pointer (some ⟨tb, 0, none⟩)] w fun e w' => e = .returned (.bool false) ∧ w = w' := by
  go_enter Ybaf.func37, Ybaf.ntmps37
  go_wp2_with (go_at_call 44; refine (index_none a c tb _).mono ?_; rintro e w1 ⟨rfl, rfl⟩)
  go_ret
  exact ⟨rfl, rfl⟩
set_option maxRecDepth 100000 in
theorem contains_this (pb c tb : Nat) (w : World) (c0 : w.cell? ⟨pb, 0, none⟩ = some (.pointer (some ⟨tb, 0, none⟩))) :
    Calls Ybaf.prog 37 #[.slice (some ⟨pb, 0, none⟩) 1 c, .pointer (some ⟨tb, 0, none⟩)] w fun e w' => e = .returned (.bool true) ∧ w = w' := by
  go_enter Ybaf.func37, Ybaf.ntmps37
  go_wp2_with (go_at_call 44; refine (index_this pb c tb _ c0).mono ?_; rintro e w1 ⟨rfl, rfl⟩)
  go_ret
  exact ⟨rfl, rfl⟩
end Go.Proofs.YbulkbleuFmt.B
