/- zzs3101creader: a reader with its byte order and n%4 interfaces described before. -/
import Derived.Test.YbulkbleuFmtLeaf
import Derived.Deep.RegionHeld3
import Derived.Deep.AppendLies
import Derived.Deep.DrawnRows
import Derived.Deep.RegionLaw
namespace Go.Proofs.YbulkbleuFmt
open Go.RowKit
attribute [local go_sem ↓] Go.wp_at_zero Go.wp_at_succ

theorem hide {p : Prop} (h : p) : Hid p := h
theorem unhide {p : Prop} (h : Hid p) : p := h
theorem prior_lit (k : Nat) (hk : k ≤ 3) (w : World) :
    Calls Ybaf.prog 34 #[.int .i64 k] w fun e w' => e = .returned (.agg #[.int .u16 (100 + (k : Int)), .int .u32 k, .int .u64 ((k : Int) + 1), .int .i64 (-(k : Int))]) ∧ w' = w.alloc (.cells (priorCells k) 61) := prior_any k hk w

/-- The cells of the first m interfaces that were there before. -/
def priors : Nat → List Value
  | 0 => []
  | k + 1 => priors k ++ (priorCells k).toList

/-- A reader in block pb: its byte order, and the interfaces xs (m of them) that it has described. -/
structure Reader (w : World) (pb : Nat) (T : TypeId) (m : Nat) (xs : List Value) : Prop where
  lt : pb < w.heap.size
  ord : w.cell? ⟨pb, 1, none⟩ = some (.iface T (.agg #[]))
  ifs : ∃ v, w.cell? ⟨pb, 2, none⟩ = some v ∧ w.ownsRow (pb + 1) 61 4 v m xs
  frz : w.frozen? ⟨pb, 2, none⟩ = false

theorem info61 : (Ybaf.prog.info? 61).map (fun i => (i.zero, i.size, i.bytes)) = some (some (.agg #[.int .u16 0, .int .u32 0, .int .u64 0, .int .i64 0]), 4, 24) := by kernel_rfl

/-- The cells of the last block of two new ones. -/
theorem news2 (w : World) (A : Obj) (cs : Array Value) (t : TypeId) : ∀ j u, cs.toList[j]? = some u → (((w.alloc A).alloc (.cells cs t)).drew).cell? ((⟨w.heap.size + 1, 0, none⟩ : Addr).add j) = some u := by
  refine World.news_of_block (cs := cs) (t := t) (fr := (0, 0)) ?_
  have := heap_alloc_new (w.alloc A) (.cells cs t)
  rw [World.size_alloc] at this
  exact this

theorem ownBlock_ne {w : World} {pb : Nat} {v : Value} {m : Nat} {xs : List Value} (h : w.ownsRow (pb + 1) 61 4 v m xs) : some pb ≠ v.ownBlock := by
  intro e
  have := (h.lt pb e.symm).1
  omega

theorem grownBy_drew (w : World) (row : Option Nat) : w.grownBy w.drew row := ⟨rfl, rfl, rfl, Nat.le_refl _, fun _ _ _ => rfl⟩

/-- Behind an append to the reader's interfaces and the store of the new slice into its field. -/
theorem Reader.push {wr w1 : World} {pb : Nat} {T : TypeId} {m m' : Nat} {xs xs' : List Value} {v : Value} {g cap : Nat} (hR : Reader wr pb T m xs) (hne : some pb ≠ v.ownBlock) (hg : wr.grownBy w1 v.ownBlock)
    (ho : w1.ownsRow (pb + 1) 61 4 (.slice (some ⟨g, 0, none⟩) m' cap) m' xs') : Reader (w1.setCell ⟨pb, 2, none⟩ (.slice (some ⟨g, 0, none⟩) m' cap)) pb T m' xs' := by
  have hlt := hR.lt
  obtain ⟨v0, c2, _⟩ := hR.ifs
  refine ⟨?_, ?_, ⟨_, ?_, ownsRow_setCell_below ho (by simp) _⟩, ?_⟩
  · rw [World.size_setCell]; exact Nat.lt_of_lt_of_le hlt hg.size
  · rw [World.cell?_setCell_other _ _ _ _ (by simp), hg.cell_far _ hlt hne]; exact hR.ord
  · exact World.cell?_setCell_same _ _ _ ((hg.cell_far ⟨pb, 2, none⟩ hlt hne).trans c2)
  · rw [World.frozen?_setCell, hg.frozen_far _ hlt hne]; exact hR.frz

set_option maxRecDepth 100000 in
set_option maxHeartbeats 400000 in
theorem reader_any (big : Bool) (n : Int) (h0 : 0 ≤ n) (h1 : n ≤ 255) (w : World) :
    Calls Ybaf.prog 20 #[.bool big, .int .u8 n] w fun e w' => e = .returned (.pointer (some ⟨w.heap.size, 0, none⟩)) ∧ Below w.heap.size w w' ∧ Reader w' w.heap.size (if big = true then 99 else 113) (n % 4).toNat (priors (n % 4).toNat) := by
  obtain ⟨m, hm, hm2⟩ : ∃ m : Nat, n % 4 = m ∧ m ≤ 3 := ⟨(n % 4).toNat, by omega, by omega⟩
  rw [hm, Int.toNat_natCast]
  obtain ⟨i0, hi, hz0, hz1, hz2⟩ := info_parts info61
  cases big with
  | true =>
    go_enter Ybaf.func20, Ybaf.ntmps20
    go_wp2
    go_loopw [6] (fun i wr => ∃ k : Nat, k ≤ m ∧ i = .int .i64 k ∧ Below w.heap.size w wr ∧ Reader wr w.heap.size 99 k (priors k)) (fun i _ => m - (intOf i).toNat)
    case atStart =>
      refine ⟨0, by omega, rfl, (Below.refl _ _).alloc (Nat.le_refl _) _, by simp, by simp, ⟨_, by simp, World.ownsRow_nil _ _ _ _⟩, ?_⟩
      rw [frozen?_alloc_cells]; simp [World.frozen?]
    case round =>
      obtain ⟨k, hk, rfl, hb, hR⟩ := hrel
      have hlt0 := hR.lt
      by_cases hlt : k < m
      · obtain ⟨v, c2, hown⟩ := hR.ifs
        have f2 := hR.frz
        have hne := ownBlock_ne hown
        have hown2 : Hid ((((wr.alloc (.cells (priorCells k) 61)).alloc (.cells #[.int .u16 (100 + (k : Int)), .int .u32 k, .int .u64 ((k : Int) + 1), .int .i64 (-(k : Int))] 61)).drew).ownsRow (w.heap.size + 1) 61 4 v k (priors k)) := ((hown.alloc _).alloc _).drew
        have hnews := hide (news2 wr (.cells (priorCells k) 61) #[.int .u16 (100 + (k : Int)), .int .u32 k, .int .u64 ((k : Int) + 1), .int .i64 (-(k : Int))] 61)
        have hfa := frozen?_alloc_cells
        have hkk : (k : Int) < (m : Int) := by omega
        go_wp2
        go_region_law (first | (refine step_append_lies _ (by rfl) _ _ _ (by rfl) (w.heap.size + 1) 61 i0 _ 4 24 Ybaf.underlying110 hi hz0 hz1 hz2 rfl (by omega) v k (priors k) (by rfl) hown2.out ⟨wr.heap.size + 1, 0, none⟩ 1 1 [.int .u16 (100 + (k : Int)), .int .u32 k, .int .u64 ((k : Int) + 1), .int .i64 (-(k : Int))] (by rfl) (by rfl) (unhide hnews) (by simp [Value.oneCell']) (by omega) (by unfold maxLen; omega) (by omega) (by simp; omega) (wr.heap.size + 1 + 1) (by simp) ?_; intro g cap w1 hown1 hgrow hat hltg; have z1 : w1.cell? ⟨w.heap.size, 2, none⟩ = some v := (by rw [hgrow.cell_far _ (by simp; omega) hne]; go_keep); have z2 : w1.frozen? ⟨w.heap.size, 2, none⟩ = false := (by rw [hgrow.frozen_far _ (by simp; omega) hne]; go_keep)) | (go_simp; go_at_call 34; refine (prior_lit _ (by omega) _).mono ?_; rintro e w' ⟨rfl, rfl⟩))
        all_goals
          have hgw : wr.grownBy w1 v.ownBlock := (((World.grownBy_alloc wr _ _).trans (World.grownBy_alloc _ _ _)).trans (grownBy_drew _ _)).trans hgrow
          have hR1 := hide (hR.push hne hgw hown1)
          have hb1 := hide (Below.setCell (hb.grown hgw (by omega) (fun j hj => by have := (hown.lt j hj).1; omega)) (p := ⟨w.heap.size, 2, none⟩) (Nat.le_refl _) (.slice (some ⟨g, 0, none⟩) (k + 1) cap))
          go_wp2
          exact ⟨⟨k + 1, by omega, by go_num, unhide hb1, unhide hR1⟩, by simp [intOf]; omega⟩
      · go_wp2
        go_ret
        obtain rfl : k = m := by omega
        exact ⟨rfl, hb, hR⟩
  | false =>
    go_enter Ybaf.func20, Ybaf.ntmps20
    go_wp2
    go_loopw [6] (fun i wr => ∃ k : Nat, k ≤ m ∧ i = .int .i64 k ∧ Below w.heap.size w wr ∧ Reader wr w.heap.size 113 k (priors k)) (fun i _ => m - (intOf i).toNat)
    case atStart =>
      refine ⟨0, by omega, rfl, (Below.refl _ _).alloc (Nat.le_refl _) _, by simp, by simp, ⟨_, by simp, World.ownsRow_nil _ _ _ _⟩, ?_⟩
      rw [frozen?_alloc_cells]; simp [World.frozen?]
    case round =>
      obtain ⟨k, hk, rfl, hb, hR⟩ := hrel
      have hlt0 := hR.lt
      by_cases hlt : k < m
      · obtain ⟨v, c2, hown⟩ := hR.ifs
        have f2 := hR.frz
        have hne := ownBlock_ne hown
        have hown2 : Hid ((((wr.alloc (.cells (priorCells k) 61)).alloc (.cells #[.int .u16 (100 + (k : Int)), .int .u32 k, .int .u64 ((k : Int) + 1), .int .i64 (-(k : Int))] 61)).drew).ownsRow (w.heap.size + 1) 61 4 v k (priors k)) := ((hown.alloc _).alloc _).drew
        have hnews := hide (news2 wr (.cells (priorCells k) 61) #[.int .u16 (100 + (k : Int)), .int .u32 k, .int .u64 ((k : Int) + 1), .int .i64 (-(k : Int))] 61)
        have hfa := frozen?_alloc_cells
        have hkk : (k : Int) < (m : Int) := by omega
        go_wp2
        go_region_law (first | (refine step_append_lies _ (by rfl) _ _ _ (by rfl) (w.heap.size + 1) 61 i0 _ 4 24 Ybaf.underlying110 hi hz0 hz1 hz2 rfl (by omega) v k (priors k) (by rfl) hown2.out ⟨wr.heap.size + 1, 0, none⟩ 1 1 [.int .u16 (100 + (k : Int)), .int .u32 k, .int .u64 ((k : Int) + 1), .int .i64 (-(k : Int))] (by rfl) (by rfl) (unhide hnews) (by simp [Value.oneCell']) (by omega) (by unfold maxLen; omega) (by omega) (by simp; omega) (wr.heap.size + 1 + 1) (by simp) ?_; intro g cap w1 hown1 hgrow hat hltg; have z1 : w1.cell? ⟨w.heap.size, 2, none⟩ = some v := (by rw [hgrow.cell_far _ (by simp; omega) hne]; go_keep); have z2 : w1.frozen? ⟨w.heap.size, 2, none⟩ = false := (by rw [hgrow.frozen_far _ (by simp; omega) hne]; go_keep)) | (go_simp; go_at_call 34; refine (prior_lit _ (by omega) _).mono ?_; rintro e w' ⟨rfl, rfl⟩))
        all_goals
          have hgw : wr.grownBy w1 v.ownBlock := (((World.grownBy_alloc wr _ _).trans (World.grownBy_alloc _ _ _)).trans (grownBy_drew _ _)).trans hgrow
          have hR1 := hide (hR.push hne hgw hown1)
          have hb1 := hide (Below.setCell (hb.grown hgw (by omega) (fun j hj => by have := (hown.lt j hj).1; omega)) (p := ⟨w.heap.size, 2, none⟩) (Nat.le_refl _) (.slice (some ⟨g, 0, none⟩) (k + 1) cap))
          go_wp2
          exact ⟨⟨k + 1, by omega, by go_num, unhide hb1, unhide hR1⟩, by simp [intOf]; omega⟩
      · go_wp2
        go_ret
        obtain rfl : k = m := by omega
        exact ⟨rfl, hb, hR⟩
end Go.Proofs.YbulkbleuFmt
