/- LawS3101B*: (*MessageWriter).WriteRecord: the record fits. -/
import Derived.Test.YbulkbleuFmtFlush
import Derived.BigQuiet
import Derived.Deep.QuietTactic
namespace Go.Proofs.YbulkbleuFmt.B
open Go.RowKit

/-- The copy of the message that WriteRecord keeps. -/
abbrev kept (v : Value) (s : Nat) (sid rec : Int) (tv : Value) (ds : Bool) : Obj := .cells #[v, .int .i64 s, .int .u16 sid, .int .u32 rec, tv, .bool ds] 47

set_option maxRecDepth 100000 in
set_option maxHeartbeats 2000000 in
theorem wr_fits (mb tb vb k c s mx : Nat) (g cap n : Nat) (ta : Option Addr) (tl tc : Nat) (sid rec : Int) (ds : Bool) (Post : World → Prop) (w : World) (hM : MC w mb (.slice (some ⟨g, 0, none⟩) n cap) s sid rec (.slice ta tl tc)) (c12 : w.cell? ⟨mb, 12, none⟩ = some (.bool ds))
    (hadd : Calls Ybaf.prog 27 #[.pointer (some ⟨mb, 0, none⟩), .pointer (some ⟨tb, 0, none⟩), .slice (some ⟨vb, 0, none⟩) k c] (w.alloc (kept (.slice (some ⟨g, 0, none⟩) n cap) s sid rec (.slice ta tl tc) ds)) fun e w' => e = .returned .nilIface ∧ Post w' ∧ (∃ g1 cap1 n1, w'.cell? ⟨mb, 7, none⟩ = some (.slice (some ⟨g1, 0, none⟩) n1 cap1) ∧ n1 ≤ mx) ∧ w'.cell? ⟨mb, 2, none⟩ = some (.int .i64 mx)) :
    Calls Ybaf.prog 11 #[.pointer (some ⟨mb, 0, none⟩), .pointer (some ⟨tb, 0, none⟩), .slice (some ⟨vb, 0, none⟩) k c] w fun e w' => e = .returned .nilIface ∧ ∃ w0 j, Post w0 ∧ w' = w0.drewN j := by
  have c7 := hM.c7
  have c8 := hM.c8
  have c9 := hM.c9
  have c10 := hM.c10
  have c11 := hM.c11
  go_enter Ybaf.func11, Ybaf.ntmps11
  go_wp2
  refine wp_loop_rounds 1 ?_
  rw [rounds_succ]
  go_wp2_with (go_at_call 27; (with_reducible refine Calls.mono hadd ?_); rintro e w1 ⟨rfl, hP, ⟨g1, cap1, n1, k7, hn1⟩, k2⟩; have hle : (n1 : Int) ≤ (mx : Int) := (by omega))
  go_quiet (fail)
  go_wp2
  go_ret
  exact ⟨rfl, _, _, hP, rfl⟩
end Go.Proofs.YbulkbleuFmt.B
