/- LawS3105BModel: her argument, and what her walk keeps. -/
import Derived.Test.YbulkblgyDoorMSl
import Derived.Test.YbulkblgyDoorMLw
namespace Go.Proofs.YbulkblgyDoor
open Go.RowKit
/-- The law's argument. -/
structure Arg where
  p0 : Int
  p1 : Int
  p2 : Int
  p3 : Int
  q0 : Int
  q1 : Int
  q2 : Int
  q3 : Int
  ms : Int
  lead : Int
  hasSR : Bool
  hasRR : Bool
  hasTS : Bool
  extra : Bool
  trail : Bool
  strict : Bool
  ha : Option Addr
  hn : Nat
  hc : Nat
  srLeft : Int
  rrSlots : Int
  rrUsed : Int
  ra : Option Addr
  rn : Nat
  rc : Nat
  tsFlag : Int
  tsSlots : Int
  tsUsed : Int
  tsOver : Int
  tsMatch : Bool
  ta : Option Addr
  tn : Nat
  tc : Nat
  order : Int
def Arg.cells (I : Arg) : Array Value := #[.int .u8 I.p0, .int .u8 I.p1, .int .u8 I.p2, .int .u8 I.p3, .int .u8 I.q0, .int .u8 I.q1, .int .u8 I.q2, .int .u8 I.q3, .int .u32 I.ms, .int .u8 I.lead, .bool I.hasSR, .bool I.hasRR, .bool I.hasTS, .bool I.extra, .bool I.trail, .bool I.strict, .slice I.ha I.hn I.hc, .int .u8 I.srLeft, .int .u8 I.rrSlots, .int .u8 I.rrUsed, .slice I.ra I.rn I.rc, .int .u8 I.tsFlag, .int .u8 I.tsSlots, .int .u8 I.tsUsed, .int .u8 I.tsOver, .bool I.tsMatch, .slice I.ta I.tn I.tc, .int .u8 I.order]

/-- The hops that came in, four bytes each. -/
def HopsAt (w : World) (ao : Option Addr) (hops : List (List Int)) : Prop := 0 < hops.length → ∃ b o, ao = some ⟨b, o, none⟩ ∧ b < w.heap.size ∧ ∀ i, i < hops.length → ∀ q, q < 4 → w.cell? ⟨b, o + i * 4 + q, none⟩ = some (.int .u8 ((hops.getD i []).getD q 0))
theorem HopsAt.kept {w w' : World} {ao : Option Addr} {hops : List (List Int)} (h : HopsAt w ao hops) (hg : w.grownBy w' none) : HopsAt w' ao hops := fun hp => by
  obtain ⟨b, o, e, hb, hc⟩ := h hp
  exact ⟨b, o, e, Nat.lt_of_lt_of_le hb hg.size, fun i hi q hq => (hg.cell_far ⟨b, o + i * 4 + q, none⟩ hb (by simp)).trans (hc i hi q hq)⟩
/-- The argument lies boxed in block ib; since w only blocks from w.heap.size on were made or turned. -/
structure Ctx (w wk : World) (ib : Nat) (I : Arg) : Prop where
  grown : w.grownBy wk none
  at_ : ib = w.heap.size
  box : wk.heap[ib]? = some (.cells I.cells 27 (0, 0))
theorem Ctx.start (w : World) (I : Arg) : Ctx w (w.alloc (.cells I.cells 27)) w.heap.size I := ⟨gb_alloc _ _ _, rfl, heap_alloc_new _ _⟩
theorem Ctx.cell {w wk : World} {ib : Nat} {I : Arg} (h : Ctx w wk ib I) (j : Nat) : wk.cell? ⟨ib, j, none⟩ = I.cells[j]? := cell_of_row _ _ _ _ _ _ h.box
theorem Ctx.lt {w wk : World} {ib : Nat} {I : Arg} (h : Ctx w wk ib I) : ib < wk.heap.size := (Array.getElem?_eq_some_iff.1 h.box).1
theorem Ctx.kept {w wk wk' : World} {ib : Nat} {I : Arg} (h : Ctx w wk ib I) (hg : wk.grownBy wk' none) : Ctx w wk' ib I := ⟨gb_trans h.grown hg, h.at_, (hg.block ib h.lt (by simp)).trans h.box⟩
/-- A turn of a block of the law's own, other than the argument's. -/
theorem Ctx.own {w wk wk' : World} {ib g : Nat} {I : Arg} (h : Ctx w wk ib I) (hg : wk.grownBy wk' (some g)) (hi : ib < g) : Ctx w wk' ib I :=
  ⟨gb_new h.grown hg (by have := h.at_; omega), h.at_, (hg.block ib h.lt (by simp; omega)).trans h.box⟩
end Go.Proofs.YbulkblgyDoor
