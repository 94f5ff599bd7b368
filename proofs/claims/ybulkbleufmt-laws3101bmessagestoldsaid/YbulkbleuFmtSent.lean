/- LawS3101B*: the map of the templates sent. -/
import Derived.Test.YbulkbleuFmtCont
import Derived.Maps.OwnSet
namespace Go.Proofs.YbulkbleuFmt.B
open Go.RowKit Go.Maps

/-- How an element of the map reads: a pointer to the head of a block. -/
def ptrElem : Value → Option (DataW Unit × List MemPlace)
  | .pointer none => some (.nil, [])
  | .pointer (some ⟨b, 0, none⟩) => some (.lit (.int .i64 b), [])
  | _ => none
theorem ptrElem_nil {v : Value} {ps : List MemPlace} (h : ptrElem v = some (.nil, ps)) : v = .pointer none := by
  unfold ptrElem at h
  split at h <;> simp_all
theorem ptrElem_lit {v : Value} {b : Nat} {ps : List MemPlace} (h : ptrElem v = some (.lit (.int .i64 b), ps)) : v = .pointer (some ⟨b, 0, none⟩) := by
  unfold ptrElem at h
  split at h <;> simp_all
  omega
theorem law22 : Keyed Ybaf.prog 22 := int_keyed Ybaf.underlying22
theorem zero28 (w : World) : (zeroValue 28).run Ybaf.prog w = .ok (.pointer none) w := by kernel_rfl
abbrev K (i : Int) : Lit := .int .u16 i
theorem look_absent {w : World} {sb n : Nat} {D : DataW Unit} {i : Int} (hown : w.ownsMap Ybaf.prog 22 ptrElem sb n D) (wi : (K i).wf = true) (hat : D.atKey (K i) .nil = .nil) :
    (Instr.lookup 43 (.map (some sb)) (.int .u16 i) false).run Ybaf.prog w = .ok (.pointer none) w := by
  obtain ⟨v, ps, hrun, hv⟩ := hown.lookup law22 Ybaf.underlying43 (zero28 w) (zd := .nil) (zp := []) rfl (keyOf_int_mk Ybaf.underlying22 wi)
  rw [hat] at hv
  rw [hrun, ptrElem_nil hv]
theorem look_there {w : World} {sb n : Nat} {D : DataW Unit} {i : Int} {b : Nat} (hown : w.ownsMap Ybaf.prog 22 ptrElem sb n D) (wi : (K i).wf = true) (hat : D.atKey (K i) .nil = .lit (.int .i64 b)) :
    (Instr.lookup 43 (.map (some sb)) (.int .u16 i) false).run Ybaf.prog w = .ok (.pointer (some ⟨b, 0, none⟩)) w := by
  obtain ⟨v, ps, hrun, hv⟩ := hown.lookup law22 Ybaf.underlying43 (zero28 w) (zd := .nil) (zp := []) rfl (keyOf_int_mk Ybaf.underlying22 wi)
  rw [hat] at hv
  rw [hrun, ptrElem_lit hv]
end Go.Proofs.YbulkbleuFmt.B
