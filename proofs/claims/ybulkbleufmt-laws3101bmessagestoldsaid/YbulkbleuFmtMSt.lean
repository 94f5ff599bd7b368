/- LawS3101BMessages: what stays through the loop, and the message's states. -/
import Derived.Test.YbulkbleuFmtMPl
import Derived.Test.YbulkbleuFmtSnt
import Derived.Test.YbulkbleuFmtWrTurn
import Derived.Test.YbulkbleuFmtRecC
namespace Go.Proofs.YbulkbleuFmt.B
open Go.RowKit Go.Maps Go.Extern.Stop Go.Stop Go.Extern

/-- Below B only the message's block (not its first seven cells but the sequence), the writer's first two cells and the map turned. -/
structure FarM (w w' : World) (B mb zb sb : Nat) : Prop where
  size : w.heap.size ≤ w'.heap.size
  block : ∀ k, k < B → k ≠ mb → k ≠ zb → k ≠ sb → w'.heap[k]? = w.heap[k]?
  cells : ∀ j, j < 7 → j ≠ 4 → w'.cell? ⟨mb, j, none⟩ = w.cell? ⟨mb, j, none⟩
  z2 : w'.cell? ⟨zb, 2, none⟩ = w.cell? ⟨zb, 2, none⟩
  zf : ∀ j, w'.frozen? ⟨zb, j, none⟩ = w.frozen? ⟨zb, j, none⟩
  os : w'.os = w.os
  tape : w'.tape = w.tape
  output : w'.output = w.output
theorem FarM.refl (w : World) (B mb zb sb : Nat) : FarM w w B mb zb sb := ⟨Nat.le_refl _, fun _ _ _ _ _ => rfl, fun _ _ _ => rfl, rfl, fun _ => rfl, rfl, rfl, rfl⟩
theorem FarM.trans {w w1 w2 : World} {B mb zb sb : Nat} (h : FarM w w1 B mb zb sb) (k : FarM w1 w2 B mb zb sb) : FarM w w2 B mb zb sb :=
  ⟨Nat.le_trans h.size k.size, fun i a b c d => (k.block i a b c d).trans (h.block i a b c d), fun j a b => (k.cells j a b).trans (h.cells j a b), k.z2.trans h.z2, fun j => (k.zf j).trans (h.zf j), k.os.trans h.os, k.tape.trans h.tape, k.output.trans h.output⟩
theorem Far.m {w w' : World} {B mb zb : Nat} (h : Far w w' B mb zb) (sb : Nat) : FarM w w' B mb zb sb :=
  ⟨h.size, fun k a b c _ => h.block k a b c, fun j a _ => h.cells j a, h.zc 2 (by omega), h.zf, h.os, h.tape, h.output⟩

structure EnvM (F : Interp) (w : World) (B mb tb fb zb sb mx : Nat) (dm ex tid : Int) (fs : List (Int × Int)) (a : Addr) (tx : ByteArray) : Prop where
  c0 : w.cell? ⟨mb, 0, none⟩ = some (.iface 35 (.pointer (some ⟨zb, 0, none⟩)))
  c1 : w.cell? ⟨mb, 1, none⟩ = some (.int .u32 dm)
  c2 : w.cell? ⟨mb, 2, none⟩ = some (.int .i64 mx)
  c3 : w.cell? ⟨mb, 3, none⟩ = some (.int .u32 ex)
  c5 : w.cell? ⟨mb, 5, none⟩ = some (.map (some sb))
  c6 : w.cell? ⟨mb, 6, none⟩ = some (.pointer none)
  tpl : Tpl w tb fb tid fs
  z2 : w.cell? ⟨zb, 2, none⟩ = some .nilIface
  zf : ∀ j, w.frozen? ⟨zb, j, none⟩ = false
  g0 : w.cell? ⟨0, 0, none⟩ = some (.iface 102 (.pointer (some a)))
  at_ : w.cell? a = some (.string tx)
  tape : F.answers w.tape
  size : B ≤ w.heap.size
  lo : 0 < fb ∧ a.block < fb ∧ fb < tb ∧ tb < zb ∧ zb < sb ∧ sb < mb ∧ mb < B
theorem EnvM.far {F : Interp} {w w' : World} {B mb tb fb zb sb mx : Nat} {dm ex tid : Int} {fs : List (Int × Int)} {a : Addr} {tx : ByteArray} (h : EnvM F w B mb tb fb zb sb mx dm ex tid fs a tx) (k : FarM w w' B mb zb sb) : EnvM F w' B mb tb fb zb sb mx dm ex tid fs a tx := by
  obtain ⟨l0, l1, l2, l3, l4, l5, l6⟩ := h.lo
  have hb : ∀ i, i < zb → w'.heap[i]? = w.heap[i]? := fun i hi => k.block i (by omega) (by omega) (by omega) (by omega)
  have hc : ∀ i j, i < zb → w'.cell? ⟨i, j, none⟩ = w.cell? ⟨i, j, none⟩ := fun i j hi => World.cell?_of_block (a := ⟨i, j, none⟩) (hb i hi)
  refine ⟨(k.cells 0 (by omega) (by omega)).trans h.c0, (k.cells 1 (by omega) (by omega)).trans h.c1, (k.cells 2 (by omega) (by omega)).trans h.c2, (k.cells 3 (by omega) (by omega)).trans h.c3, (k.cells 5 (by omega) (by omega)).trans h.c5, (k.cells 6 (by omega) (by omega)).trans h.c6, ?_, k.z2.trans h.z2, fun j => (k.zf j).trans (h.zf j), (hc 0 0 (by omega)).trans h.g0, (World.cell?_of_block (a := a) (hb a.block (by omega))).trans h.at_, by rw [k.tape]; exact h.tape, Nat.le_trans h.size k.size, h.lo⟩
  exact ⟨(hc tb 0 (by omega)).trans h.tpl.c0, (hc tb 1 (by omega)).trans h.tpl.c1, (hc tb 2 (by omega)).trans h.tpl.c2, fun i hi => by
    obtain ⟨p, q, r⟩ := h.tpl.fs i hi
    exact ⟨(hc fb _ (by omega)).trans p, (hc fb _ (by omega)).trans q, (hc fb _ (by omega)).trans r⟩⟩

/-- What else lies about the message: the writer's messages, the map of sent templates. -/
structure Sur (w : World) (B mb zb sb g : Nat) (out : List (List Int)) (j0 : Nat) (mv : Value) (vs : List Value) (n0 : Nat) (D : DataW Unit) : Prop where
  c4 : w.cell? ⟨mb, 4, none⟩ = some (.int .u32 j0)
  z0 : w.cell? ⟨zb, 0, none⟩ = some mv
  z1 : w.cell? ⟨zb, 1, none⟩ = some (.int .i64 out.length)
  ms : Msgs w B g mv vs out
  own : w.ownsMap Ybaf.prog 22 ptrElem sb n0 D
  nn : n0 ≤ 1000
/-- What the surroundings see of a step that writes no message. -/
theorem Sur.keep {w w' : World} {B mb zb sb g g' : Nat} {out : List (List Int)} {j0 : Nat} {mv : Value} {vs : List Value} {n0 : Nat} {D : DataW Unit} (h : Sur w B mb zb sb g out j0 mv vs n0 D) (hmb : mb < B) (hsb : sb < B) (hzb : zb < B) (hsm : sb ≠ mb) (hzm : zb ≠ mb) (hgB : B ≤ g) (hB : B ≤ w.heap.size) (h4 : w'.cell? ⟨mb, 4, none⟩ = w.cell? ⟨mb, 4, none⟩)
    (hk : ∀ k, k < w.heap.size → k ≠ mb → k ≠ g → w'.heap[k]? = w.heap[k]?) (hg : g' = g ∨ w.heap.size ≤ g') : Sur w' B mb zb sb g' out j0 mv vs n0 D := by
  have hz : w'.heap[zb]? = w.heap[zb]? := hk zb (by omega) hzm (by omega)
  refine ⟨h4.trans h.c4, (World.cell?_of_block (a := ⟨zb, 0, none⟩) hz).trans h.z0, (World.cell?_of_block (a := ⟨zb, 1, none⟩) hz).trans h.z1, ?_, ?_, h.nn⟩
  · exact h.ms.keep (fun k a b c => hk k b (by omega) c) hg
  · obtain ⟨es, clock, x1, x2⟩ := h.own
    exact ⟨es, clock, (hk sb (by omega) hsm (by omega)).trans x1, x2⟩
end Go.Proofs.YbulkbleuFmt.B
