/- LawS3101BFailingWriter: what stays through every WriteRecord, and the message's two states. -/
import Derived.Test.YbulkbleuFmtRecB
namespace Go.Proofs.YbulkbleuFmt.B
open Go.RowKit Go.Maps Go.Extern.Stop Go.Stop Go.Extern

/-- Below B only the message's block (not its first seven cells) and the writer's count turned. -/
structure Far (w w' : World) (B mb zb : Nat) : Prop where
  size : w.heap.size ≤ w'.heap.size
  block : ∀ k, k < B → k ≠ mb → k ≠ zb → w'.heap[k]? = w.heap[k]?
  cells : ∀ j, j < 7 → w'.cell? ⟨mb, j, none⟩ = w.cell? ⟨mb, j, none⟩
  zc : ∀ j, j ≠ 1 → w'.cell? ⟨zb, j, none⟩ = w.cell? ⟨zb, j, none⟩
  zf : ∀ j, w'.frozen? ⟨zb, j, none⟩ = w.frozen? ⟨zb, j, none⟩
  os : w'.os = w.os
  tape : w'.tape = w.tape
  output : w'.output = w.output
theorem Far.trans {w w1 w2 : World} {B mb zb : Nat} (h : Far w w1 B mb zb) (k : Far w1 w2 B mb zb) : Far w w2 B mb zb :=
  ⟨Nat.le_trans h.size k.size, fun i a b c => (k.block i a b c).trans (h.block i a b c), fun j a => (k.cells j a).trans (h.cells j a), fun j a => (k.zc j a).trans (h.zc j a), fun j => (k.zf j).trans (h.zf j), k.os.trans h.os, k.tape.trans h.tape, k.output.trans h.output⟩
theorem Far.ofBlocks {w w' : World} {B mb zb : Nat} (hs : w.heap.size ≤ w'.heap.size) (hb : ∀ k, k < B → w'.heap[k]? = w.heap[k]?) (hm : mb < B) (hz : zb < B) (ho : w'.os = w.os) (ht : w'.tape = w.tape) (hp : w'.output = w.output) : Far w w' B mb zb :=
  ⟨hs, fun k a _ _ => hb k a, fun j _ => World.cell?_of_block (a := ⟨mb, j, none⟩) (hb mb hm), fun j _ => World.cell?_of_block (a := ⟨zb, j, none⟩) (hb zb hz), fun j => World.frozen?_of_block (a := ⟨zb, j, none⟩) (hb zb hz), ho, ht, hp⟩
theorem Far.alloc (w : World) (o : Obj) {B mb zb : Nat} (hB : B ≤ w.heap.size) (hm : mb < B) (hz : zb < B) : Far w (w.alloc o) B mb zb :=
  Far.ofBlocks (by simp) (fun k hk => heap_alloc_old w o (by omega)) hm hz rfl rfl rfl
theorem Far.drewN (w : World) (j B mb zb : Nat) : Far w (w.drewN j) B mb zb := ⟨Nat.le_refl _, fun _ _ _ _ => rfl, fun _ _ => rfl, fun _ _ => rfl, fun _ => rfl, rfl, rfl, rfl⟩
theorem Far.below {w w' : World} {B mb zb : Nat} (h : Below w.heap.size w w') (hB : B ≤ w.heap.size) (hm : mb < B) (hz : zb < B) : Far w w' B mb zb :=
  Far.ofBlocks h.size (fun k hk => h.block k (by omega)) hm hz h.os h.tape h.output
theorem Far.grown {w w' : World} {B mb zb : Nat} (h : w.grownBy w' none) (hB : B ≤ w.heap.size) (hm : mb < B) (hz : zb < B) : Far w w' B mb zb :=
  Far.ofBlocks h.size (fun k hk => h.block k (by omega) (by simp)) hm hz h.os h.tape h.output
theorem Far.step {w w' : World} {B mb zb : Nat} {v v' : Value} {L L' : List Int} (h : Step w w' B mb v v' L L') (hB : B ≤ w.heap.size) (hz : zb < B) (hzm : zb ≠ mb) : Far w w' B mb zb := by
  have hb : ∀ k, k < B → k ≠ mb → w'.heap[k]? = w.heap[k]? := fun k hk hm => h.block k (by omega) hm (h.start.ne hk)
  exact ⟨h.size, fun k a b _ => hb k a b, fun j a => h.cells j (.inl a), fun j _ => World.cell?_of_block (a := ⟨zb, j, none⟩) (hb zb hz hzm), fun j => World.frozen?_of_block (a := ⟨zb, j, none⟩) (hb zb hz hzm), h.os, h.tape, h.output⟩
theorem out_setCell (w : World) (a : Addr) (v : Value) : (w.setCell a v).output = w.output := rfl
theorem back_os (w : World) (mb : Nat) (v : Value) (s : Nat) (sid rec : Int) (tv : Value) (ds : Bool) : (back w mb v s sid rec tv ds).os = w.os := by
  unfold back
  simp only [World.os_setCell]
theorem back_output (w : World) (mb : Nat) (v : Value) (s : Nat) (sid rec : Int) (tv : Value) (ds : Bool) : (back w mb v s sid rec tv ds).output = w.output := by
  unfold back
  simp only [out_setCell]
theorem Far.back (w : World) {B mb zb : Nat} (v : Value) (s : Nat) (sid rec : Int) (tv : Value) (ds : Bool) (hzm : zb ≠ mb) : Far w (back w mb v s sid rec tv ds) B mb zb :=
  ⟨by rw [back_size]; exact Nat.le_refl _, fun k _ b _ => back_block w mb v s sid rec tv ds k b, fun j a => back_low w mb v s sid rec tv ds j a, fun j _ => World.cell?_of_block (a := ⟨zb, j, none⟩) (back_block w mb v s sid rec tv ds zb hzm), fun j => World.frozen?_of_block (a := ⟨zb, j, none⟩) (back_block w mb v s sid rec tv ds zb hzm), back_os w mb v s sid rec tv ds, back_tape w mb v s sid rec tv ds, back_output w mb v s sid rec tv ds⟩
theorem Far.left {w w' : World} {B mb zb n s len : Nat} {v tv : Value} {sid rec : Int} {L : List Int} (hv : Buf w B v L) (h : Left14 w w' B mb zb v tv n s sid rec len) (hB : B ≤ w.heap.size) (hm : mb < B) (hzm : zb ≠ mb) : Far w w' B mb zb := by
  have hb : ∀ k, k < B → k ≠ zb → w'.heap[k]? = w.heap[k]? := fun k hk hz => h.block k (by omega) hz (hv.ne hk)
  exact ⟨h.size, fun k a _ c => hb k a c, fun j _ => World.cell?_of_block (a := ⟨mb, j, none⟩) (hb mb hm (by omega)), h.zc, h.zf, h.os, h.tape, h.output⟩

/-- What every WriteRecord finds. -/
structure Env (F : Interp) (w : World) (B mb tb fb zb sb mx : Nat) (tid : Int) (fs : List (Int × Int)) (a : Addr) (tx : ByteArray) (ev : Value) : Prop where
  c0 : w.cell? ⟨mb, 0, none⟩ = some (.iface 35 (.pointer (some ⟨zb, 0, none⟩)))
  c1 : w.cell? ⟨mb, 1, none⟩ = some (.int .u32 0)
  c2 : w.cell? ⟨mb, 2, none⟩ = some (.int .i64 mx)
  c3 : w.cell? ⟨mb, 3, none⟩ = some (.int .u32 0)
  c4 : w.cell? ⟨mb, 4, none⟩ = some (.int .u32 0)
  c5 : w.cell? ⟨mb, 5, none⟩ = some (.map (some sb))
  c6 : w.cell? ⟨mb, 6, none⟩ = some (.pointer none)
  tpl : Tpl w tb fb tid fs
  own : w.ownsMap Ybaf.prog 22 ptrElem sb 0 (.map [])
  z0 : w.cell? ⟨zb, 0, none⟩ = some (.slice none 0 0)
  z2 : w.cell? ⟨zb, 2, none⟩ = some (.iface 102 ev)
  zf : ∀ j, w.frozen? ⟨zb, j, none⟩ = false
  g0 : w.cell? ⟨0, 0, none⟩ = some (.iface 102 (.pointer (some a)))
  at_ : w.cell? a = some (.string tx)
  tape : F.answers w.tape
  size : B ≤ w.heap.size
  lo : 0 < fb ∧ a.block < fb ∧ fb < tb ∧ tb < zb ∧ zb < sb ∧ sb < mb ∧ mb < B
theorem Env.far {F : Interp} {w w' : World} {B mb tb fb zb sb mx : Nat} {tid : Int} {fs : List (Int × Int)} {a : Addr} {tx : ByteArray} {ev : Value} (h : Env F w B mb tb fb zb sb mx tid fs a tx ev) (k : Far w w' B mb zb) : Env F w' B mb tb fb zb sb mx tid fs a tx ev := by
  obtain ⟨l0, l1, l2, l3, l4, l5, l6⟩ := h.lo
  have hb : ∀ i, i < zb → w'.heap[i]? = w.heap[i]? := fun i hi => k.block i (by omega) (by omega) (by omega)
  have hc : ∀ i j, i < zb → w'.cell? ⟨i, j, none⟩ = w.cell? ⟨i, j, none⟩ := fun i j hi => World.cell?_of_block (a := ⟨i, j, none⟩) (hb i hi)
  refine ⟨(k.cells 0 (by omega)).trans h.c0, (k.cells 1 (by omega)).trans h.c1, (k.cells 2 (by omega)).trans h.c2, (k.cells 3 (by omega)).trans h.c3, (k.cells 4 (by omega)).trans h.c4, (k.cells 5 (by omega)).trans h.c5, (k.cells 6 (by omega)).trans h.c6, ?_, ?_, (k.zc 0 (by omega)).trans h.z0, (k.zc 2 (by omega)).trans h.z2, fun j => (k.zf j).trans (h.zf j), (hc 0 0 (by omega)).trans h.g0, (World.cell?_of_block (a := a) (hb a.block (by omega))).trans h.at_, by rw [k.tape]; exact h.tape, Nat.le_trans h.size k.size, h.lo⟩
  · exact ⟨(hc tb 0 (by omega)).trans h.tpl.c0, (hc tb 1 (by omega)).trans h.tpl.c1, (hc tb 2 (by omega)).trans h.tpl.c2, fun i hi => by
      obtain ⟨p, q, r⟩ := h.tpl.fs i hi
      exact ⟨(hc fb _ (by omega)).trans p, (hc fb _ (by omega)).trans q, (hc fb _ (by omega)).trans r⟩⟩
  · obtain ⟨es, clock, p, q, r⟩ := h.own
    exact ⟨es, clock, (k.block sb (by omega) (by omega) (by omega)).trans p, q, r⟩

/-- The message that holds its header alone. -/
def StA (w : World) (B mb : Nat) : Prop := ∃ g cap L sid, L.length = 16 ∧ Buf w B (.slice (some ⟨g, 0, none⟩) L.length cap) L ∧ MC w mb (.slice (some ⟨g, 0, none⟩) L.length cap) 0 sid 0 (.slice none 0 0)
/-- The message that holds the template and c records. -/
def StB (w : World) (B mb tb T r : Nat) (tid : Int) (c : Nat) : Prop := ∃ g cap L pb pc, L.length = 24 + T + r * c ∧ Buf w B (.slice (some ⟨g, 0, none⟩) L.length cap) L ∧ MC w mb (.slice (some ⟨g, 0, none⟩) L.length cap) (20 + T) tid c (.slice (some ⟨pb, 0, none⟩) 1 pc) ∧ w.cell? ⟨pb, 0, none⟩ = some (.pointer (some ⟨tb, 0, none⟩)) ∧ B ≤ pb

theorem StA.below {w w' : World} {B mb : Nat} (h : StA w B mb) (hb : Below w.heap.size w w') (hm : mb < w.heap.size) : StA w' B mb := by
  obtain ⟨g, cap, L, sid, h1, h2, h3⟩ := h
  have hg := (h2.lt g rfl).2
  have gr : w.grownBy w' none := ⟨hb.os, hb.tape, hb.output, hb.size, fun k hk _ => hb.block k hk⟩
  exact ⟨g, cap, L, sid, h1, h2.kept gr (by simp [Value.ownBlock]), h3.grown gr hm (by simp)⟩
theorem StB.below {w w' : World} {B mb tb T r c : Nat} {tid : Int} (h : StB w B mb tb T r tid c) (hb : Below w.heap.size w w') (hm : mb < w.heap.size) : StB w' B mb tb T r tid c := by
  obtain ⟨g, cap, L, pb, pc, h1, h2, h3, h4, h5⟩ := h
  have gr : w.grownBy w' none := ⟨hb.os, hb.tape, hb.output, hb.size, fun k hk _ => hb.block k hk⟩
  exact ⟨g, cap, L, pb, pc, h1, h2.kept gr (by simp [Value.ownBlock]), h3.grown gr hm (by simp), (World.cell?_of_block (a := ⟨pb, 0, none⟩) (hb.block pb (World.block_lt_of_cell? _ _ h4))).trans h4, h5⟩
end Go.Proofs.YbulkbleuFmt.B
