/- zzs3101cput, and what the rounds of LawS3101CBuilt keep. -/
import Derived.Test.YbulkbleuFmtReader
import Derived.Test.YbulkbleuFmtBuiltPlain
import Derived.Deep.AppendLies
import Derived.Test.YbulkbleuFmtDesc
import Derived.Handy
namespace Go.Proofs.YbulkbleuFmt
open Go.RowKit

/-- A slice of bytes that the law itself has made, the bytes L, lying from block B on. -/
def Body (w : World) (B : Nat) (v : Value) (L : List Int) : Prop := w.ownsRow B 5 1 v L.length (L.map (Value.int .u8))
/-- What appending to v leaves: only v's own block may have turned; the new slice lies there or in a new block. -/
structure Grew (w : World) (v : Value) (w' : World) (v' : Value) : Prop where
  grown : w.grownBy w' v.ownBlock
  lies : v'.ownBlock = v.ownBlock ∨ ∃ g, v'.ownBlock = some g ∧ w.heap.size ≤ g

theorem Grew.refl (w : World) (v : Value) : Grew w v w v := ⟨⟨rfl, rfl, rfl, Nat.le_refl _, fun _ _ _ => rfl⟩, .inl rfl⟩
theorem Grew.trans {a b c : World} {v v' v'' : Value} (h : Grew a v b v') (k : Grew b v' c v'') : Grew a v c v'' := by
  refine ⟨⟨k.grown.os.trans h.grown.os, k.grown.tape.trans h.grown.tape, k.grown.output.trans h.grown.output, Nat.le_trans h.grown.size k.grown.size, fun i hi hne => ?_⟩, ?_⟩
  · rw [k.grown.block i (Nat.lt_of_lt_of_le hi h.grown.size) ?_, h.grown.block i hi hne]
    rcases h.lies with e | ⟨g, e, hg⟩
    · rw [e]; exact hne
    · rw [e]; simp; omega
  · rcases k.lies with e | ⟨g, e, hg⟩
    · rw [e]; exact h.lies
    · exact .inr ⟨g, e, Nat.le_trans h.grown.size hg⟩
theorem Grew.alloc (w : World) (v : Value) (o : Obj) : Grew w v (w.alloc o) v := ⟨World.grownBy_alloc w o _, .inl rfl⟩

theorem infoByte : (Ybaf.prog.info? 5).map (fun i => (i.zero, i.size, i.bytes)) = some (some (.int .u8 0), 1, 1) := by kernel_rfl

theorem Body.alloc {w : World} {B : Nat} {v : Value} {L : List Int} (h : Body w B v L) (o : Obj) : Body (w.alloc o) B v L := World.ownsRow.alloc h o

/-- 'append(body, ..)' of bytes that lie in a block of their own. -/
theorem wpList_app {ops : Array Oper} {rest : List Oper} {o : Oper} {a : Act} {Q : Exit → Act → World → Prop} (w : World) (hgd : o.guard = none) (s x : Operand)
    (ho : o.op = .call { callee := .builtin .append, args := #[s, x], argTypes := #[24, 24] }) (B : Nat) (v : Value) (L M : List Int) (hs : a.eval s = v) (hb : Body w B v L) (blk n c : Nat)
    (hx : a.eval x = .slice (some ⟨blk, 0, none⟩) n c) (hn : M.length = n) (hblk : w.heap[blk]? = some (.cells (M.map (Value.int .u8)).toArray 5 (0, 0))) (hM : 0 < n) (hlen : L.length + n ≤ 1000000) (hB : B ≤ w.heap.size)
    (h : ∀ g cap w', Body w' B (.slice (some ⟨g, 0, none⟩) (L.length + n) cap) (L ++ M) → Grew w v w' (.slice (some ⟨g, 0, none⟩) (L.length + n) cap) → wpList Ybaf.prog ops Q rest (a.put o.dst (.slice (some ⟨g, 0, none⟩) (L.length + n) cap)) w') :
    wpList Ybaf.prog ops Q (o :: rest) a w := by
  obtain ⟨i0, hi, hz0, hz1, hz2⟩ := info_parts infoByte
  subst hn
  refine wpList_append_lies w hgd s x 24 ho B 5 i0 _ 1 1 Ybaf.underlying24 hi hz0 hz1 hz2 rfl (by omega) v L.length (L.map (Value.int .u8)) hs hb ⟨blk, 0, none⟩ M.length c (M.map (Value.int .u8)) hx (by simp) ?_ ?_ hM (by unfold maxLen; omega) (by omega) hB w.heap.size rfl ?_
  · have := World.news_of_block hblk
    simpa using this
  · intro u hu
    simp at hu
    obtain ⟨y, _, rfl⟩ := hu
    rfl
  · intro g cap w' hown hgrow hat hlt
    refine h g cap w' ?_ ⟨hgrow, ?_⟩
    · show w'.ownsRow B 5 1 _ (L ++ M).length ((L ++ M).map (Value.int .u8))
      rw [List.length_append, List.map_append]
      exact hown
    · rcases hat with e | e
      · exact .inl e.symm
      · exact .inr ⟨g, rfl, by omega⟩

theorem row_new (w : World) (cs : Array Value) (t : TypeId) : (w.alloc (.cells cs t)).heap[w.heap.size]? = some (.cells cs t (0, 0)) := heap_alloc_new w _

theorem putB_take (x : Int) (m : Nat) (big : Bool) (k : Nat) (h : k < m) : (putB x m big).take (k + 1) = (putB x m big).take k ++ [putAt x m big k] := by
  rw [List.take_succ_eq_append_getElem (by rw [putB_len]; exact h)]
  simp [putB]

set_option maxRecDepth 100000 in
set_option maxHeartbeats 400000 in
theorem put_any (B : Nat) (v : Value) (L : List Int) (x : Int) (m : Nat) (big : Bool) (w : World) (hown : Body w B v L) (_hx0 : 0 ≤ x) (_hx1 : x < 18446744073709551616) (hm : m ≤ 8) (hL : L.length ≤ 100000) (hB : B ≤ w.heap.size) :
    Calls Ybaf.prog 23 #[v, .int .u64 x, .int .i64 m, .bool big] w fun e w' => ∃ v', e = .returned v' ∧ Body w' B v' (L ++ putB x m big) ∧ Grew w v w' v' := by
  go_enter Ybaf.func23, Ybaf.ntmps23
  go_wp2
  go_loopw [0, 9] (fun s0 s9 wr => ∃ k : Nat, k ≤ m ∧ s9 = .int .i64 k ∧ Body wr B s0 (L ++ (putB x m big).take k) ∧ Grew w v wr s0) (fun _ s9 _ => m - (intOf s9).toNat)
  case atStart => exact ⟨0, by omega, rfl, by simpa using hown, Grew.refl _ _⟩
  case round =>
    obtain ⟨k, hk, rfl, hb, hG⟩ := hrel
    by_cases hlt : k < m
    · have Hp := hide (putB_take x m big k hlt)
      obtain ⟨y, hy⟩ : ∃ y, putAt x m big k = y := ⟨_, rfl⟩
      rw [hy] at Hp
      have hBr : B ≤ wr.heap.size := Nat.le_trans hB hG.grown.size
      have hlen : (L ++ (putB x m big).take k).length ≤ 100008 := by rw [List.length_append, List.length_take]; omega
      generalize hLk : L ++ (putB x m big).take k = Lk at *
      have HLk := hide hLk
      clear hLk
      cases big with
      | true =>
        have hy2 : x / 2 ^ (8 * (m - 1 - k)) % 256 = y := by rw [← hy]; simp [putAt]
        clear hy
        go_wp2_with (at_builtin; refine wpList_app _ rfl _ _ rfl B u0 Lk [y] rfl (hb.alloc _) wr.heap.size 1 1 rfl rfl (row_new _ _ _) (by omega) (by omega) (by simp; omega) ?_; intro g cap w1 hb1 hG1)
        exact ⟨⟨k + 1, by omega, by go_num, by rw [Hp.out, ← List.append_assoc, HLk.out]; exact hb1, hG.trans ((Grew.alloc _ _ _).trans hG1)⟩, by simp [intOf]; omega⟩
      | false =>
        have hy2 : x / 2 ^ (8 * k) % 256 = y := by rw [← hy]; simp [putAt]
        clear hy
        go_wp2_with (at_builtin; refine wpList_app _ rfl _ _ rfl B u0 Lk [y] rfl (hb.alloc _) wr.heap.size 1 1 rfl rfl (row_new _ _ _) (by omega) (by omega) (by simp; omega) ?_; intro g cap w1 hb1 hG1)
        exact ⟨⟨k + 1, by omega, by go_num, by rw [Hp.out, ← List.append_assoc, HLk.out]; exact hb1, hG.trans ((Grew.alloc _ _ _).trans hG1)⟩, by simp [intOf]; omega⟩
    · go_wp2
      go_ret
      obtain rfl : k = m := by omega
      exact ⟨_, rfl, by rw [List.take_of_length_le (by rw [putB_len]; omega)] at hb; exact hb, hG⟩

/-- zzs3101cput, its numbers as they come. -/
theorem put_int (B : Nat) (v : Value) (L : List Int) (x m : Int) (big : Bool) (w : World) (hown : Body w B v L) (hx0 : 0 ≤ x) (hx1 : x < 18446744073709551616) (hm0 : 0 ≤ m) (hm : m ≤ 8) (hL : L.length ≤ 100000) (hB : B ≤ w.heap.size) :
    Calls Ybaf.prog 23 #[v, .int .u64 x, .int .i64 m, .bool big] w fun e w' => ∃ v', e = .returned v' ∧ Body w' B v' (L ++ putB x m.toNat big) ∧ Grew w v w' v' := by
  obtain ⟨m', rfl⟩ := Int.eq_ofNat_of_zero_le hm0
  exact put_any B v L x m' big w hown hx0 hx1 (by omega) hL hB

theorem Body.lt {w : World} {B : Nat} {v : Value} {L : List Int} (h : Body w B v L) : ∀ k, v.ownBlock = some k → B ≤ k ∧ k < w.heap.size := World.ownsRow.lt h

theorem InAt.grew {w wr w' : World} {wb : Nat} {a b c d : Int} {v v' : Value} {L : List Int} (h : InAt w wr wb a b c d) (hb : Body wr w.heap.size v L) (hG : Grew wr v w' v') (hne : v.ownBlock ≠ some wb) : InAt w w' wb a b c d ∧ v'.ownBlock ≠ some wb := by
  have hc : ∀ j, w'.cell? ⟨wb, j, none⟩ = wr.cell? ⟨wb, j, none⟩ := fun j => hG.grown.cell_far ⟨wb, j, none⟩ h.lt (Ne.symm hne)
  refine ⟨⟨?_, h.ge, Nat.lt_of_lt_of_le h.lt hG.grown.size, by rw [hc]; exact h.c0, by rw [hc]; exact h.c1, by rw [hc]; exact h.c2, by rw [hc]; exact h.c3, fun j => ?_⟩, ?_⟩
  · exact h.below.grown hG.grown h.below.size (fun k hk => (hb.lt k hk).1)
  · rw [hG.grown.frozen_far ⟨wb, j, none⟩ h.lt (Ne.symm hne)]; exact h.frz j
  · rcases hG.lies with e | ⟨g, e, hg⟩
    · rw [e]; exact hne
    · rw [e]; have := h.lt; simp; omega

/-- What a round of the law's loop keeps: 'want' (block wb), the option (block ob), the body (v, the bytes L). -/
structure Ctx (w wr : World) (wb ob : Nat) (v : Value) (L : List Int) (a b c d : Int) (op : Opt) : Prop where
  inn : InAt w wr wb a b c d
  body : Body wr w.heap.size v L
  nwb : v.ownBlock ≠ some wb
  obl : ob < wr.heap.size
  obw : ob ≠ wb
  nob : v.ownBlock ≠ some ob
  o0 : wr.cell? ⟨ob, 0, none⟩ = some (.int .u8 op.kind)
  o1 : wr.cell? ⟨ob, 1, none⟩ = some (.int .u8 op.a)
  o2 : wr.cell? ⟨ob, 2, none⟩ = some (.int .u64 op.b)
  o3 : wr.cell? ⟨ob, 3, none⟩ = some (.int .u8 op.l)

theorem Ctx.grew {w wr w' : World} {wb ob : Nat} {v v' : Value} {L L' : List Int} {a b c d : Int} {op : Opt} (h : Ctx w wr wb ob v L a b c d op) (hb : Body w' w.heap.size v' L') (hG : Grew wr v w' v') : Ctx w w' wb ob v' L' a b c d op := by
  have hi := h.inn.grew h.body hG h.nwb
  have hc : ∀ j, w'.cell? ⟨ob, j, none⟩ = wr.cell? ⟨ob, j, none⟩ := fun j => hG.grown.cell_far ⟨ob, j, none⟩ h.obl (Ne.symm h.nob)
  refine ⟨hi.1, hb, hi.2, Nat.lt_of_lt_of_le h.obl hG.grown.size, h.obw, ?_, by rw [hc]; exact h.o0, by rw [hc]; exact h.o1, by rw [hc]; exact h.o2, by rw [hc]; exact h.o3⟩
  rcases hG.lies with e | ⟨g, e, hg⟩
  · rw [e]; exact h.nob
  · rw [e]; have := h.obl; simp; omega
theorem Ctx.alloc {w wr : World} {wb ob : Nat} {v : Value} {L : List Int} {a b c d : Int} {op : Opt} (h : Ctx w wr wb ob v L a b c d op) (o : Obj) : Ctx w (wr.alloc o) wb ob v L a b c d op :=
  h.grew (h.body.alloc o) (Grew.alloc _ _ _)
theorem Ctx.big {w wr : World} {wb ob : Nat} {v : Value} {L : List Int} {a b c d : Int} {op : Opt} (h : Ctx w wr wb ob v L a b c d op) : w.heap.size ≤ wr.heap.size := h.inn.below.size
theorem Ctx.units {w wr : World} {wb ob : Nat} {v : Value} {L : List Int} {a b c d : Int} {op : Opt} (h : Ctx w wr wb ob v L a b c d op) (u : Int) : Ctx w (wr.setCell ⟨wb, 2, none⟩ (.int .u64 u)) wb ob v L a b u d op := by
  have hc : ∀ j, (wr.setCell ⟨wb, 2, none⟩ (.int .u64 u)).cell? ⟨ob, j, none⟩ = wr.cell? ⟨ob, j, none⟩ := fun j => World.cell?_setCell_other _ _ _ _ (fun e => h.obw (congrArg Addr.block e).symm)
  refine ⟨h.inn.units u, ?_, h.nwb, by rw [World.size_setCell]; exact h.obl, h.obw, h.nob, by rw [hc]; exact h.o0, by rw [hc]; exact h.o1, by rw [hc]; exact h.o2, by rw [hc]; exact h.o3⟩
  refine World.ownsRow.kept h.body (row := some wb) ⟨rfl, rfl, rfl, by simp, fun k _ hk => Below.heap_setCell _ _ _ _ (fun e => hk (by rw [e]))⟩ (.inr h.nwb)
theorem Ctx.offset {w wr : World} {wb ob : Nat} {v : Value} {L : List Int} {a b c d : Int} {op : Opt} (h : Ctx w wr wb ob v L a b c d op) (x : Int) : Ctx w (wr.setCell ⟨wb, 3, none⟩ (.int .i64 x)) wb ob v L a b c x op := by
  have hc : ∀ j, (wr.setCell ⟨wb, 3, none⟩ (.int .i64 x)).cell? ⟨ob, j, none⟩ = wr.cell? ⟨ob, j, none⟩ := fun j => World.cell?_setCell_other _ _ _ _ (fun e => h.obw (congrArg Addr.block e).symm)
  refine ⟨h.inn.offset x, ?_, h.nwb, by rw [World.size_setCell]; exact h.obl, h.obw, h.nob, by rw [hc]; exact h.o0, by rw [hc]; exact h.o1, by rw [hc]; exact h.o2, by rw [hc]; exact h.o3⟩
  refine World.ownsRow.kept h.body (row := some wb) ⟨rfl, rfl, rfl, by simp, fun k _ hk => Below.heap_setCell _ _ _ _ (fun e => hk (by rw [e]))⟩ (.inr h.nwb)

end Go.Proofs.YbulkbleuFmt
