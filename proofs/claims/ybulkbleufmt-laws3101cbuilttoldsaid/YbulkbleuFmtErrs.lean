/- fmt.Errorf with one operand. -/
import Derived.Test.YbulkbleuFmtReader
import Derived.Stop.CallBack
import Derived.Stop.IfaceNil
import Derived.Stop.Texts
namespace Go.Proofs.YbulkbleuFmt
open Go.RowKit Go.Extern.Stop Go.Stop Go.Extern

theorem call36 (args : Array Value) (w : World) : (callFunc 36 args).run Ybaf.prog w = ((FmtStop.errorf #[9, 118] #[30] args).run Ybaf.prog w).andThen fun v w' => .ok (.value v) w' :=
  run_callFunc_extern Ybaf.func36 (by kernel_rfl) (by kernel_rfl) (by kernel_rfl) (by kernel_rfl) args w
theorem fguard (name : String) (w : World) : (FmtStop.guard name).run Ybaf.prog w = .ok () w := by kernel_rfl
theorem ptr102 (w : World) : (FmtStop.ptrTo "errors.errorString").run Ybaf.prog w = .ok 102 w := by kernel_rfl
theorem elem102 (w : World) : (elemOf 102).run Ybaf.prog w = .ok 104 w := by kernel_rfl

/-- fmt.Errorf with one operand that is no error: a new *errorString. -/
theorem errorf_one (F : Interp) (s : ByteArray) (T : TypeId) (x : Value) (verb : UInt8) (sharp : Bool) (rd : List UInt8 × List UInt8) (blk : Nat) (w : World) (hF : F.answers w.tape)
    (hr : ∀ w, (FmtDoors.printed s 1).run Ybaf.prog w = .ok [(0, verb, sharp)] w)
    (hop : ∀ w, (FmtStop.operand "fmt.errorf" true verb sharp (.iface T x)).run Ybaf.prog w = .ok rd w) (hv : (verb == 119) = false)
    (hc : w.cell? ⟨blk, 0, none⟩ = some (.iface T x)) :
    Calls Ybaf.prog 24 #[.string s, .slice (some ⟨blk, 0, none⟩) 1 1] w fun e w' => (∃ v, e = .returned (.iface 102 v)) ∧ Below w.heap.size w w' := by
  have hF' : ∀ i name reading k range, w.tape i (.extern (word name reading k) range) = F name reading k := hF
  have c36 := call36
  have gu := fguard
  have p1 := ptr102
  have p2 := elem102
  go_enter Ybaf.func24, Ybaf.ntmps24
  go_wp2
  go_ret
  exact ⟨⟨_, rfl⟩, ((Below.refl _ w).alloc (Nat.le_refl _) _).drew⟩
end Go.Proofs.YbulkbleuFmt
