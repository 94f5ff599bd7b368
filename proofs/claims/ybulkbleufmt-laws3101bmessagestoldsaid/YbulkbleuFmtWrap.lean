/- LawS3101B*: errors.Is over a wrapped sentinel; fmt.Errorf with a %w operand between two numbers. -/
import Derived.Test.YbulkbleuFmtChecked
import Derived.WalkKit
import Derived.LaidEql
import Derived.Stop.Asserts
import Derived.Stop.CallBack
import Derived.Stop.IfaceNil
import Derived.Stop.Texts
import Derived.RowKitTokens
namespace Go.Proofs.YbulkbleuFmt.B
open Go.RowKit Go.Extern.Stop Go.Stop Go.Extern

theorem isTypeOf (v : Value) (w : World) : (Extern.ReflectliteType.typeOf #[.iface 102 v]).run Ybaf.prog w = .ok (.iface 138 (.agg #[.pointer (some ⟨4, 102, none⟩)])) w := by kernel_rfl
def cmpM : Array Value → Sem Value := ReflectliteType.method fun t => do _root_.Go.Extern.Rtype.noPackHeld "Comparable" t; pure (.bool (← typeInfo t).comparable)
theorem call92 (args : Array Value) (w : World) : (callFunc 92 args).run Ybaf.prog w = ((cmpM args).run Ybaf.prog w).andThen fun v w' => .ok (.value v) w' :=
  run_callFunc_extern Ybaf.func92 (by kernel_rfl) (by kernel_rfl) (by kernel_rfl) (by kernel_rfl) args w
theorem isComparable (w : World) : (cmpM #[.agg #[.pointer (some ⟨4, 102, none⟩)]]).run Ybaf.prog w = .ok (.bool true) w := by kernel_rfl
theorem isComp : (Ybaf.prog.info? 102).map (·.comparable) = some true := by kernel_rfl
theorem isSize : (Ybaf.prog.info? 104).map (·.size) = some 1 := by kernel_rfl
theorem noIsW (v : Value) (xT : TypeId) (w : World) : (Instr.typeAssert (.iface 119 v) xT 140 true).run Ybaf.prog w = .ok (.tuple #[.nilIface, .bool false]) w := run_typeAssert_lacksB Ybaf.underlying140 (by kernel_rfl) (by kernel_rfl) v xT w
theorem hasUnwrapW (v : Value) (xT : TypeId) (w : World) : (Instr.typeAssert (.iface 119 v) xT 143 true).run Ybaf.prog w = .ok (.tuple #[.iface 119 v, .bool true]) w := run_typeAssert_hasB Ybaf.underlying143 (by kernel_rfl) v xT w

theorem methodUnwrap (v : Value) (w : World) : (Go.method 312 119 v "Unwrap").run Ybaf.prog w = .ok (88, v) w := by kernel_rfl
theorem methodComparable (v : Value) (w : World) : (Go.method 312 138 v "Comparable").run Ybaf.prog w = .ok (92, v) w := by kernel_rfl

set_option maxRecDepth 100000 in
theorem is29 (pb po : Nat) (b : Addr) (w : World) (h1 : w.cell? ⟨pb, po + 1, none⟩ = some (.iface 102 (.pointer (some b)))) :
    Calls Ybaf.prog 29 #[.iface 119 (.pointer (some ⟨pb, po, none⟩)), .iface 102 (.pointer (some b)), .bool true] w fun e w' => e = .returned (.bool true) ∧ w' = w := by
  obtain ⟨i, hi, hcmp⟩ := Option.map_eq_some_iff.1 isComp
  obtain ⟨j, hj, hjs⟩ := Option.map_eq_some_iff.1 isSize
  have nW := noIsW
  have uW := hasUnwrapW
  have mU := methodUnwrap
  have heq := run_eql_iface_ptr_same (P := Ybaf.prog) w b Ybaf.underlying30 Ybaf.underlying102 hi hcmp hj
  have hty := run_eql_iface_types (P := Ybaf.prog) 119 102 (.pointer (some ⟨pb, po, none⟩)) (.pointer (some b)) Ybaf.underlying30 (by decide) w
  go_enter Ybaf.func29, Ybaf.ntmps29
  go_wp2
  refine wp_loop_rounds 2 ?_
  rw [rounds_succ]
  go_wp2
  rw [rounds_succ]
  go_wp2
  go_ret
  exact ⟨rfl, rfl⟩

set_option maxRecDepth 100000 in
theorem is_wrap (pb : Nat) (b : Addr) (w : World) (h1 : w.cell? ⟨pb, 1, none⟩ = some (.iface 102 (.pointer (some b)))) :
    Calls Ybaf.prog 13 #[.iface 119 (.pointer (some ⟨pb, 0, none⟩)), .iface 102 (.pointer (some b))] w fun e w' => e = .returned (.bool true) ∧ w' = w := by
  have h28 := @run_callFunc_extern Ybaf.prog 28 _ Extern.ReflectliteType.typeOf Ybaf.func28 (by kernel_rfl) (by kernel_rfl) (by kernel_rfl) (by kernel_rfl)
  have h92 := call92
  have tT := isTypeOf
  have cT := isComparable
  have mR := methodComparable
  go_enter Ybaf.func13, Ybaf.ntmps13
  go_wp2_with (go_at_call 29; refine (is29 pb 0 b _ h1).mono ?_; rintro e w1 ⟨rfl, rfl⟩)
  go_ret
  exact ⟨rfl, rfl⟩

theorem call36 (args : Array Value) (w : World) : (callFunc 36 args).run Ybaf.prog w = ((FmtStop.errorf #[9, 118] #[30] args).run Ybaf.prog w).andThen fun v w' => .ok (.value v) w' :=
  run_callFunc_extern Ybaf.func36 (by kernel_rfl) (by kernel_rfl) (by kernel_rfl) (by kernel_rfl) args w
theorem fguard (name : String) (w : World) : (FmtStop.guard name).run Ybaf.prog w = .ok () w := by kernel_rfl
theorem ptr119 (w : World) : (FmtStop.ptrTo "fmt.wrapError").run Ybaf.prog w = .ok 119 w := by kernel_rfl
theorem elem119 (w : World) : (elemOf 119).run Ybaf.prog w = .ok 194 w := by kernel_rfl
theorem isError102 (w : World) : (FmtDoors.textMethod 102 "Error").run Ybaf.prog w = .ok true w := by kernel_rfl

/-- fmt.Errorf with three operands, the second wrapped: a new *fmt.wrapError that holds it. -/
theorem errorf_wrap (F : Interp) (s : ByteArray) (T0 T2 : TypeId) (x0 x2 : Value) (a : Addr) (rd0 rd1 rd2 : List UInt8 × List UInt8) (blk : Nat) (w : World) (hF : F.answers w.tape)
    (hr : ∀ w, (FmtDoors.printed s 3).run Ybaf.prog w = .ok [(0, 100, false), (1, 119, false), (2, 100, false)] w)
    (h0 : ∀ w, (FmtStop.operand "fmt.errorf" true 100 false (.iface T0 x0)).run Ybaf.prog w = .ok rd0 w) (h1 : (FmtStop.operand "fmt.errorf" true 119 false (.iface 102 (.pointer (some a)))).run Ybaf.prog w = .ok rd1 w) (h2 : ∀ w, (FmtStop.operand "fmt.errorf" true 100 false (.iface T2 x2)).run Ybaf.prog w = .ok rd2 w)
    (k0 : w.cell? ⟨blk, 0, none⟩ = some (.iface T0 x0)) (k1 : w.cell? ⟨blk, 1, none⟩ = some (.iface 102 (.pointer (some a)))) (k2 : w.cell? ⟨blk, 2, none⟩ = some (.iface T2 x2)) :
    Calls Ybaf.prog 24 #[.string s, .slice (some ⟨blk, 0, none⟩) 3 3] w fun e w' => ∃ pb, e = .returned (.iface 119 (.pointer (some ⟨pb, 0, none⟩))) ∧ w'.cell? ⟨pb, 1, none⟩ = some (.iface 102 (.pointer (some a))) ∧ w.heap.size ≤ pb ∧ w.grownBy w' none := by
  have hF' : ∀ i name reading k range, w.tape i (.extern (word name reading k) range) = F name reading k := hF
  have c36 := call36
  have gu := fguard
  have p1 := ptr119
  have p2 := elem119
  have p3 := isError102
  go_enter Ybaf.func24, Ybaf.ntmps24
  go_wp2
  go_ret
  refine ⟨w.heap.size, rfl, ?_, Nat.le_refl _, ?_⟩
  · simp
  · exact ⟨rfl, rfl, rfl, by show w.heap.size ≤ (w.alloc _).heap.size; simp, fun k hk _ => heap_alloc_old w _ hk⟩
end Go.Proofs.YbulkbleuFmt.B
