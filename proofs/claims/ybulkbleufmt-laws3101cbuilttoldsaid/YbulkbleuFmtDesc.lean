/- (*PcapngReader).describeInterface: what its walk is told. -/
import Derived.Test.YbulkbleuFmtErrs
import Derived.Deep.DeepCutAuto
import Derived.Deep.LoopGhost
import Derived.Handy
namespace Go.Proofs.YbulkbleuFmt
open Go.RowKit Go.Extern.Stop Go.Stop Go.Extern
attribute [local go_sem ↓] Go.wp_at_zero Go.wp_at_succ

theorem Bytes.below {w w' : World} {B g o n : Nat} {f : Nat → Int} (h : Bytes w g o n f) (hg : g < B) (hb : Below B w w') : Bytes w' g o n f := fun i hi => by
  rw [hb.cell (p := ⟨g, o + i, none⟩) hg]; exact h i hi
theorem Bytes.from {w : World} {g o n : Nat} {f : Nat → Int} (h : Bytes w g o n f) (a : Nat) : Bytes w g (o + a) (n - a) (fun i => f (a + i)) := fun i hi => by
  have := h (a + i) (by omega)
  rwa [← Nat.add_assoc] at this

theorem bcell {W w1 : World} (hb : Below W.heap.size W w1) : (∀ b o, b < W.heap.size → w1.cell? ⟨b, o, none⟩ = W.cell? ⟨b, o, none⟩) ∧ (∀ b o, b < W.heap.size → w1.frozen? ⟨b, o, none⟩ = W.frozen? ⟨b, o, none⟩) :=
  ⟨fun b o h => hb.cell (p := ⟨b, o, none⟩) h, fun b o h => hb.frozen (p := ⟨b, o, none⟩) h⟩
theorem keepS {w w0 w' : World} {pb : Nat} {v : Value} (h1 : w0.cell? ⟨pb, 1, none⟩ = some v) (h2 : Below w.heap.size w w0) (hlt : pb < w.heap.size) (hb : Below w0.heap.size w0 w') : w'.cell? ⟨pb, 1, none⟩ = some v ∧ Below w.heap.size w w' :=
  ⟨(hb.cell (p := ⟨pb, 1, none⟩) (Nat.lt_of_lt_of_le hlt h2.size)).trans h1, h2.trans (hb.mono h2.size)⟩
theorem keepA {w w0 : World} {pb : Nat} {v : Value} (h1 : w0.cell? ⟨pb, 1, none⟩ = some v) (h2 : Below w.heap.size w w0) (ob : Obj) : (w0.alloc ob).cell? ⟨pb, 1, none⟩ = some v ∧ Below w.heap.size w (w0.alloc ob) :=
  ⟨cell_new ob h1, h2.alloc h2.size ob⟩

theorem keep0 {w : World} {pb : Nat} {v : Value} (h : w.cell? ⟨pb, 1, none⟩ = some v) : w.cell? ⟨pb, 1, none⟩ = some v ∧ Below w.heap.size w w := ⟨h, Below.refl _ _⟩
theorem keepD {w w0 : World} {pb : Nat} {v : Value} (h : w0.cell? ⟨pb, 1, none⟩ = some v ∧ Below w.heap.size w w0) : w0.drew.cell? ⟨pb, 1, none⟩ = some v ∧ Below w.heap.size w w0.drew := ⟨h.1, h.2.drew⟩
theorem keepY {w w' : World} {pb : Nat} {v : Value} {X : Obj} (Y : Obj) (h1 : (w'.alloc X).cell? ⟨pb, 1, none⟩ = some v) (h2 : Below w.heap.size w (w'.alloc X)) (hs : w.heap.size ≤ w'.heap.size) (hlt : pb < w.heap.size) : (w'.alloc Y).cell? ⟨pb, 1, none⟩ = some v ∧ Below w.heap.size w (w'.alloc Y) := by
  refine ⟨?_, ?_⟩
  · rw [World.cell?_alloc_lt _ _ _ (by simp; omega)] at h1 ⊢; exact h1
  · exact ⟨h2.os, h2.tape, h2.output, by simp; omega, fun k hk => by rw [← h2.block k hk, Below.heap_alloc _ _ _ (by omega), Below.heap_alloc _ _ _ (by omega)]⟩
theorem keepC {w w0 : World} {pb : Nat} {v : Value} {a : Addr} {x : Value} (h : w0.cell? ⟨pb, 1, none⟩ = some v ∧ Below w.heap.size w w0) (hlt : pb < w.heap.size) (ha : w.heap.size ≤ a.block) : (w0.setCell a x).cell? ⟨pb, 1, none⟩ = some v ∧ Below w.heap.size w (w0.setCell a x) := by
  refine ⟨?_, h.2.setCell ha _⟩
  rw [World.cell?_setCell_other _ _ _ _ (fun e => by rw [e] at ha; simp at ha; omega)]; exact h.1

/-- The interface that is being described lies in block ib, which is new since w. -/
structure InAt (w wc : World) (ib : Nat) (a b c d : Int) : Prop where
  below : Below w.heap.size w wc
  ge : w.heap.size ≤ ib
  lt : ib < wc.heap.size
  c0 : wc.cell? ⟨ib, 0, none⟩ = some (.int .u16 a)
  c1 : wc.cell? ⟨ib, 1, none⟩ = some (.int .u32 b)
  c2 : wc.cell? ⟨ib, 2, none⟩ = some (.int .u64 c)
  c3 : wc.cell? ⟨ib, 3, none⟩ = some (.int .i64 d)
  frz : ∀ j, wc.frozen? ⟨ib, j, none⟩ = false

theorem inAt_new {w w2 : World} {a b c d : Int} (h : Below w.heap.size w (w2.alloc (.cells #[.int .u16 a, .int .u32 b, .int .u64 c, .int .i64 d] 61))) (hs : w.heap.size ≤ w2.heap.size) : InAt w (w2.alloc (.cells #[.int .u16 a, .int .u32 b, .int .u64 c, .int .i64 d] 61)) w2.heap.size a b c d := by
  refine ⟨h, hs, by simp, by simp, by simp, by simp, by simp, fun j => ?_⟩
  rw [frozen?_alloc_cells]; simp [World.frozen?]
theorem inAt_set {w w2 : World} {ib : Nat} {a b c d : Int} {x y z t : Value} (h : Below w.heap.size w ((((w2.setCell ⟨ib, 0, none⟩ (.int .u16 a)).setCell ⟨ib, 1, none⟩ (.int .u32 b)).setCell ⟨ib, 2, none⟩ (.int .u64 c)).setCell ⟨ib, 3, none⟩ (.int .i64 d))) (ge : w.heap.size ≤ ib) (h0 : w2.cell? ⟨ib, 0, none⟩ = some x) (h1 : w2.cell? ⟨ib, 1, none⟩ = some y) (h2 : w2.cell? ⟨ib, 2, none⟩ = some z) (h3 : w2.cell? ⟨ib, 3, none⟩ = some t) (hf : ∀ j, w2.frozen? ⟨ib, j, none⟩ = false) :
    InAt w ((((w2.setCell ⟨ib, 0, none⟩ (.int .u16 a)).setCell ⟨ib, 1, none⟩ (.int .u32 b)).setCell ⟨ib, 2, none⟩ (.int .u64 c)).setCell ⟨ib, 3, none⟩ (.int .i64 d)) ib a b c d := by
  refine ⟨h, ge, ?_, ?_, ?_, ?_, ?_, fun j => ?_⟩
  · simp only [World.size_setCell]; exact World.block_lt_of_cell? _ _ h0
  · rw [World.cell?_setCell_other _ _ _ _ (by simp), World.cell?_setCell_other _ _ _ _ (by simp), World.cell?_setCell_other _ _ _ _ (by simp), World.cell?_setCell_same _ _ _ h0]
  · rw [World.cell?_setCell_other _ _ _ _ (by simp), World.cell?_setCell_other _ _ _ _ (by simp), World.cell?_setCell_same (u := y)]
    rw [World.cell?_setCell_other _ _ _ _ (by simp)]; exact h1
  · rw [World.cell?_setCell_other _ _ _ _ (by simp), World.cell?_setCell_same (u := z)]
    rw [World.cell?_setCell_other _ _ _ _ (by simp), World.cell?_setCell_other _ _ _ _ (by simp)]; exact h2
  · rw [World.cell?_setCell_same (u := t)]
    rw [World.cell?_setCell_other _ _ _ _ (by simp), World.cell?_setCell_other _ _ _ _ (by simp), World.cell?_setCell_other _ _ _ _ (by simp)]; exact h3
  · simp only [World.frozen?_setCell]; exact hf j
theorem InAt.drew {w wc : World} {ib : Nat} {a b c d : Int} (h : InAt w wc ib a b c d) : InAt w wc.drew ib a b c d := ⟨h.below.drew, h.ge, h.lt, h.c0, h.c1, h.c2, h.c3, h.frz⟩

theorem InAt.later {w wc w2 : World} {ib : Nat} {a b c d : Int} (h : InAt w wc ib a b c d) (hb : Below wc.heap.size wc w2) : InAt w w2 ib a b c d := by
  have hc : ∀ j, w2.cell? ⟨ib, j, none⟩ = wc.cell? ⟨ib, j, none⟩ := fun j => hb.cell (p := ⟨ib, j, none⟩) h.lt
  exact ⟨h.below.trans (hb.mono h.below.size), h.ge, Nat.lt_of_lt_of_le h.lt hb.size, by rw [hc]; exact h.c0, by rw [hc]; exact h.c1, by rw [hc]; exact h.c2, by rw [hc]; exact h.c3, fun j => by rw [hb.frozen (p := ⟨ib, j, none⟩) h.lt]; exact h.frz j⟩
theorem InAt.units {w wc : World} {ib : Nat} {a b c d : Int} (h : InAt w wc ib a b c d) (u : Int) : InAt w (wc.setCell ⟨ib, 2, none⟩ (.int .u64 u)) ib a b u d := by
  refine ⟨h.below.setCell h.ge _, h.ge, by rw [World.size_setCell]; exact h.lt, ?_, ?_, World.cell?_setCell_same _ _ _ h.c2, ?_, fun j => by rw [World.frozen?_setCell]; exact h.frz j⟩
  · rw [World.cell?_setCell_other _ _ _ _ (by simp)]; exact h.c0
  · rw [World.cell?_setCell_other _ _ _ _ (by simp)]; exact h.c1
  · rw [World.cell?_setCell_other _ _ _ _ (by simp)]; exact h.c3
theorem InAt.offset {w wc : World} {ib : Nat} {a b c d : Int} (h : InAt w wc ib a b c d) (x : Int) : InAt w (wc.setCell ⟨ib, 3, none⟩ (.int .i64 x)) ib a b c x := by
  refine ⟨h.below.setCell h.ge _, h.ge, by rw [World.size_setCell]; exact h.lt, ?_, ?_, ?_, World.cell?_setCell_same _ _ _ h.c3, fun j => by rw [World.frozen?_setCell]; exact h.frz j⟩
  · rw [World.cell?_setCell_other _ _ _ _ (by simp)]; exact h.c0
  · rw [World.cell?_setCell_other _ _ _ _ (by simp)]; exact h.c1
  · rw [World.cell?_setCell_other _ _ _ _ (by simp)]; exact h.c2

/-- A reader is what it was while only new blocks are made and written. -/
theorem Reader.later {w w' : World} {pb : Nat} {T : TypeId} {m : Nat} {xs : List Value} (h : Reader w pb T m xs) (hb : Below w.heap.size w w') : Reader w' pb T m xs := by
  have hlt := h.lt
  obtain ⟨v, c2, hown⟩ := h.ifs
  refine ⟨Nat.lt_of_lt_of_le hlt hb.size, by rw [hb.cell (p := ⟨pb, 1, none⟩) hlt]; exact h.ord, ⟨v, by rw [hb.cell (p := ⟨pb, 2, none⟩) hlt]; exact c2, hown.kept (row := none) ⟨hb.os, hb.tape, hb.output, hb.size, fun k hk _ => hb.block k hk⟩ ?_⟩, by rw [hb.frozen (p := ⟨pb, 2, none⟩) hlt]; exact h.frz⟩
  cases v.ownBlock <;> simp

def lenOf : Value → Nat
  | .slice _ l _ => l
  | _ => 0

/-- What the call answers and leaves: R: what the options come to. -/
def Described (w : World) (pb : Nat) (T : TypeId) (m : Nat) (xs : List Value) (a b : Int) (R : Option (Int × Int)) (e : Ending) (w' : World) : Prop :=
  Below pb w w' ∧ match R with
    | none => (∃ v, e = .returned (.iface 102 v)) ∧ Reader w' pb T m xs
    | some (u, d) => e = .returned .nilIface ∧ Reader w' pb T (m + 1) (xs ++ [.int .u16 a, .int .u32 b, .int .u64 u, .int .i64 d])

/-- The cells of a new block. -/
theorem news1 (w : World) (cs : Array Value) (t : TypeId) : ∀ j u, cs.toList[j]? = some u → ((w.alloc (.cells cs t)).drew).cell? ((⟨w.heap.size, 0, none⟩ : Addr).add j) = some u :=
  World.news_of_block (cs := cs) (t := t) (fr := (0, 0)) (heap_alloc_new w _)
theorem wrap64_toI64 (x : Int) : wrap64 x = toI64 x := by rw [toI64, IntKind.wrap_i64, wrap64]
theorem slice_eq {a : Option Addr} {l l' c c' : Nat} (h1 : l = l') (h2 : c = c') : Value.slice a l c = .slice a l' c' := by rw [h1, h2]
def shape3 : List UInt8 := [5, 3, 0, 0, 0, 0, 0, 0, 0, 105, 110, 116]
def shape5 : List UInt8 := [6, 5, 0, 0, 0, 0, 0, 0, 0, 117, 105, 110, 116, 56]
theorem op3_100 (x : Int) (w : World) : (FmtStop.operand "fmt.errorf" true 100 false (.iface 3 (.int .i64 x))).run Ybaf.prog w = .ok (shape3, digits 8 (x % 2 ^ 64).toNat) w := by kernel_rfl
theorem op5_120 (x : Int) (w : World) : (FmtStop.operand "fmt.errorf" true 120 true (.iface 5 (.int .u8 x))).run Ybaf.prog w = .ok (shape5, digits 8 (x % 2 ^ 64).toNat) w := by kernel_rfl


end Go.Proofs.YbulkbleuFmt
