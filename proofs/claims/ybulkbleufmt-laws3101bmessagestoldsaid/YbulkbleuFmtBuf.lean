/- LawS3101B*: buffers of bytes that the law itself has made, and what appending to them leaves. -/
import Derived.Test.YbulkbleuFmtChecked
import Derived.WalkKit
import Derived.ProofKit
import Derived.Deep.AppendLies
import Derived.Handy
namespace Go.Proofs.YbulkbleuFmt.B
open Go.RowKit

/-- A buffer of bytes that the law itself has made, in a block from B on: the bytes L; what lies behind them in the block is left open. -/
def Buf (w : World) (B : Nat) (v : Value) (L : List Int) : Prop := ∃ g cap cur, v = .slice (some ⟨g, 0, none⟩) L.length cap ∧ B ≤ g ∧ w.heap[g]? = some (.cells cur 5 (0, 0)) ∧ L.length ≤ cap ∧ cap ≤ maxLen ∧ cur.size = cap ∧ cur.toList.take L.length = L.map (Value.int .u8)
def capOf : Value → Nat
  | .slice _ _ c => c
  | _ => 0

theorem Buf.lt {w : World} {B : Nat} {v : Value} {L : List Int} (h : Buf w B v L) : ∀ k, v.ownBlock = some k → B ≤ k ∧ k < w.heap.size := by
  obtain ⟨g, cap, cur, rfl, hb, hg, _⟩ := h
  intro k hk
  simp [Value.ownBlock] at hk
  subst hk
  exact ⟨hb, (Array.getElem?_eq_some_iff.1 hg).1⟩
theorem Buf.kept {w w' : World} {B : Nat} {v : Value} {L : List Int} {row : Option Nat} (h : Buf w B v L) (hg : w.grownBy w' row) (hne : v.ownBlock ≠ row) : Buf w' B v L := by
  have hlt := h.lt
  obtain ⟨g, cap, cur, rfl, hb, hh, rest⟩ := h
  exact ⟨g, cap, cur, rfl, hb, by rw [hg.block g (hlt g rfl).2 (by simpa [Value.ownBlock] using hne)]; exact hh, rest⟩
theorem Buf.alloc {w : World} {B : Nat} {v : Value} {L : List Int} (h : Buf w B v L) (o : Obj) : Buf (w.alloc o) B v L := by
  have hlt := h.lt
  obtain ⟨g, cap, cur, rfl, hb, hh, rest⟩ := h
  exact ⟨g, cap, cur, rfl, hb, by rw [heap_alloc_old w _ (hlt g rfl).2]; exact hh, rest⟩
theorem Buf.below {w w' : World} {B N : Nat} {v : Value} {L : List Int} (h : Buf w B v L) (hN : ∀ k, v.ownBlock = some k → k < N) (hb : Below N w w') : Buf w' B v L := by
  obtain ⟨g, cap, cur, rfl, hbg, hh, rest⟩ := h
  exact ⟨g, cap, cur, rfl, hbg, by rw [hb.block g (hN g rfl)]; exact hh, rest⟩
/-- A shorter piece of the same buffer. -/
theorem Buf.pre {w : World} {B g cap n : Nat} {L M : List Int} (h : Buf w B (.slice (some ⟨g, 0, none⟩) n cap) (L ++ M)) : Buf w B (.slice (some ⟨g, 0, none⟩) L.length cap) L := by
  obtain ⟨g', cap', cur, e, hb, hh, h1, h2, h3, h4⟩ := h
  simp only [Value.slice.injEq, Option.some.injEq, Addr.mk.injEq, and_true] at e
  obtain ⟨rfl, _, rfl⟩ := e
  rw [List.length_append] at h1 h4
  refine ⟨g, cap, cur, rfl, hb, hh, by omega, h2, h3, ?_⟩
  have := congrArg (List.take L.length) h4
  rw [List.take_take, Nat.min_eq_left (by omega)] at this
  rw [this, List.map_append, List.take_left' (by simp)]

structure Ext (w : World) (B : Nat) (v : Value) (L : List Int) (w' : World) (v' : Value) (L' : List Int) : Prop where
  start : Buf w B v L
  body : Buf w' B v' L'
  old : Buf w' B v L
  grown : w.grownBy w' v.ownBlock
  lies : (v'.ownBlock = v.ownBlock ∧ capOf v' = capOf v) ∨ ∃ g, v'.ownBlock = some g ∧ w.heap.size ≤ g
  pre : ∃ M, L' = L ++ M

theorem Ext.refl {w : World} {B : Nat} {v : Value} {L : List Int} (h : Buf w B v L) : Ext w B v L w v L := ⟨h, h, h, ⟨rfl, rfl, rfl, Nat.le_refl _, fun _ _ _ => rfl⟩, .inl ⟨rfl, rfl⟩, [], by simp⟩
theorem Ext.trans {w w1 w2 : World} {B : Nat} {v v1 v2 : Value} {L L1 L2 : List Int} (h : Ext w B v L w1 v1 L1) (k : Ext w1 B v1 L1 w2 v2 L2) : Ext w B v L w2 v2 L2 := by
  obtain ⟨M1, e1⟩ := h.pre
  obtain ⟨M2, e2⟩ := k.pre
  refine ⟨h.start, k.body, ?_, ?_, ?_, M1 ++ M2, by rw [e2, e1, List.append_assoc]⟩
  · rcases h.lies with ⟨a, b⟩ | ⟨g, a, b⟩
    · have ko := k.old
      obtain ⟨g, cap, cur, rfl, _⟩ := h.start
      obtain ⟨g1, cap1, cur1, rfl, _⟩ := h.body
      simp [Value.ownBlock] at a
      simp [capOf] at b
      subst a b
      rw [e1] at ko
      exact ko.pre
    · refine h.old.kept k.grown ?_
      rw [a]
      intro e
      have := (h.start.lt g e).2
      omega
  · refine ⟨k.grown.os.trans h.grown.os, k.grown.tape.trans h.grown.tape, k.grown.output.trans h.grown.output, Nat.le_trans h.grown.size k.grown.size, fun i hi hne => ?_⟩
    rw [k.grown.block i (Nat.lt_of_lt_of_le hi h.grown.size) ?_, h.grown.block i hi hne]
    rcases h.lies with ⟨a, _⟩ | ⟨g, a, b⟩
    · rw [a]; exact hne
    · rw [a]; simp; omega
  · rcases k.lies with ⟨a, b⟩ | ⟨g, a, b⟩
    · rcases h.lies with ⟨c, d⟩ | ⟨g, c, d⟩
      · exact .inl ⟨a.trans c, b.trans d⟩
      · exact .inr ⟨g, a.trans c, d⟩
    · exact .inr ⟨g, a, Nat.le_trans h.grown.size b⟩
theorem Ext.alloc {w : World} {B : Nat} {v : Value} {L : List Int} (h : Buf w B v L) (o : Obj) : Ext w B v L (w.alloc o) v L := ⟨h, h.alloc o, h.alloc o, World.grownBy_alloc w o _, .inl ⟨rfl, rfl⟩, [], by simp⟩

theorem infoByte : (Ybaf.prog.info? 5).map (fun i => (i.zero, i.size, i.bytes)) = some (some (.int .u8 0), 1, 1) := by kernel_rfl

theorem run_app (w : World) (ty : TypeId) (B : Nat) (v : Value) (L M : List Int) (hb : Buf w B v L) (ad : Addr) (m c : Nat) (hm : M.length = m) (hnews : ∀ j u, (M.map (Value.int .u8))[j]? = some u → w.cell? (ad.add j) = some u) (hlen : L.length + m ≤ 1000000) (hB : B ≤ w.heap.size) :
    ∃ v' w', (Builtin.append_ #[24, 24] ty #[v, .slice (some ad) m c]).run Ybaf.prog w = .ok v' w' ∧ Ext w B v L w' v' (L ++ M) := by
  obtain ⟨i0, hi, hz0, hz1, hz2⟩ := info_parts infoByte
  have hb0 := hb
  obtain ⟨g, cap, cur, rfl, hbg, hg, hnc, hcm, hcs, htake⟩ := hb
  subst hm
  have h1 : ∀ u ∈ M.map (Value.int .u8), u.oneCell' = true := by
    intro u hu
    simp at hu
    obtain ⟨y, _, rfl⟩ := hu
    rfl
  have hML : (M.map (Value.int .u8)).length = M.length * i0.size := by rw [hz1]; simp
  by_cases hroom : L.length + M.length ≤ cap
  · have hr := run_append_room (P := Ybaf.prog) w 24 ty 5 i0 Ybaf.underlying24 hi g L.length cap cur hg ad M.length c _ hML hnews h1 hroom (by rw [hML, hz1]; omega)
    rw [hz1] at hr
    simp only [Nat.mul_one, List.length_map, htake] at hr
    have hnew : (w.setRow g (L.map (Value.int .u8) ++ M.map (Value.int .u8) ++ cur.toList.drop (L.length + M.length)).toArray).heap[g]? = some (.cells (L.map (Value.int .u8) ++ M.map (Value.int .u8) ++ cur.toList.drop (L.length + M.length)).toArray 5 (0, 0)) := setRow_heap w g cur _ 5 _ hg
    have hsz : (L.map (Value.int .u8) ++ M.map (Value.int .u8) ++ cur.toList.drop (L.length + M.length)).toArray.size = cap := by
      simp only [List.size_toArray, List.length_append, List.length_map, List.length_drop, Array.length_toList]; omega
    refine ⟨_, _, hr, hb0, ⟨g, cap, _, by rw [List.length_append], hbg, hnew, by rw [List.length_append]; exact hroom, hcm, hsz, ?_⟩, ⟨g, cap, _, rfl, hbg, hnew, hnc, hcm, hsz, ?_⟩, ⟨rfl, rfl, rfl, by simp, fun k _ hk => setRow_other w g k _ (fun e => hk (by simp [Value.ownBlock, e]))⟩, .inl ⟨rfl, rfl⟩, M, rfl⟩
    · simp only [← List.map_append]
      rw [List.take_left' (by simp)]
    · simp only [List.append_assoc]
      rw [List.take_left' (by simp)]
  · have holds : ∀ j u, (L.map (Value.int .u8))[j]? = some u → w.cell? ((⟨g, 0, none⟩ : Addr).add j) = some u := by
      have : w.ownsRow B 5 1 (.slice (some ⟨g, 0, none⟩) L.length cap) L.length (L.map (Value.int .u8)) := ⟨by simp, .inr ⟨g, cap, cur, rfl, hbg, hg, hnc, hcm, by omega, by simpa using htake⟩⟩
      exact this.cells rfl
    have hr := run_append_grow (P := Ybaf.prog) w 24 ty 5 i0 _ Ybaf.underlying24 hi hz0 ⟨g, 0, none⟩ L.length cap _ (by rw [hz1]; simp) holds ad M.length c _ hML hnews (by omega) (by omega) (growslice_fits (by omega) (by rw [hz2]; omega))
    have hge := grownCap_ge w (L.length + M.length) cap 5
    refine ⟨_, _, hr, hb0, ⟨w.heap.size, _, _, by rw [List.length_append], hB, heap_alloc_new w.drew _, by rw [List.length_append]; exact hge, grownCap_le_maxLen w _ _ _ (by unfold maxLen; omega), ?_, ?_⟩, ?_, ⟨rfl, rfl, rfl, by simp, fun k hk _ => heap_alloc_old w.drew _ hk⟩, .inr ⟨w.heap.size, rfl, Nat.le_refl _⟩, M, rfl⟩
    · simp only [Array.size_append, List.size_toArray, size_zeroCells, List.length_map, Value.cells]
      simp; omega
    · simp only [Array.toList_append, ← List.map_append]
      rw [List.take_left' (by simp)]
    · exact ⟨g, cap, cur, rfl, hbg, by rw [heap_alloc_old w.drew _ (r := g) (hb0.lt g rfl).2]; exact hg, hnc, hcm, hcs, htake⟩

/-- 'append(buf, ..)' at a plain region's list. -/
theorem wpList_app {ops : Array Oper} {rest : List Oper} {o : Oper} {a : Act} {Q : Exit → Act → World → Prop} (w : World) (hgd : o.guard = none) (s x : Operand)
    (ho : o.op = .call { callee := .builtin .append, args := #[s, x], argTypes := #[24, 24] }) (B : Nat) (v : Value) (L M : List Int) (hs : a.eval s = v) (hb : Buf w B v L) (ad : Addr) (m c : Nat)
    (hx : a.eval x = .slice (some ad) m c) (hm : M.length = m) (hnews : ∀ j u, (M.map (Value.int .u8))[j]? = some u → w.cell? (ad.add j) = some u) (hlen : L.length + m ≤ 1000000) (hB : B ≤ w.heap.size)
    (h : ∀ v' w', Ext w B v L w' v' (L ++ M) → wpList Ybaf.prog ops Q rest (a.put o.dst v') w') :
    wpList Ybaf.prog ops Q (o :: rest) a w := by
  refine wpList_plain hgd fun _ hK => ?_
  obtain ⟨v', w', hr, hE⟩ := run_app w o.type B v L M hb ad m c hm hnews hlen hB
  unfold Oper.wp execOp
  simp only [ho, resolve, invoke, builtin, Sem.run_bind, Sem.run_pure, Result.andThen_ok, List.map_toArray, List.map_cons, List.map_nil, hs, hx, hr]
  exact hK _ _ (h v' w' hE)

theorem news (w : World) (M : List Int) : ∀ j u, (M.map (Value.int .u8))[j]? = some u → (w.alloc (.cells (M.map (Value.int .u8)).toArray 5)).cell? ((⟨w.heap.size, 0, none⟩ : Addr).add j) = some u := by
  have := World.news_of_block (heap_alloc_new w (.cells (M.map (Value.int .u8)).toArray 5))
  simpa using this

/-- 'append(buf, x, y, ..)': the new bytes lie in a block made just now. -/
theorem wpList_app_lit {ops : Array Oper} {rest : List Oper} {o : Oper} {a : Act} {Q : Exit → Act → World → Prop} (w0 : World) (M : List Int) (hgd : o.guard = none) (s x : Operand)
    (ho : o.op = .call { callee := .builtin .append, args := #[s, x], argTypes := #[24, 24] }) (B : Nat) (v : Value) (L : List Int) (hs : a.eval s = v) (hb : Buf w0 B v L) (blk m c : Nat) (hblk : w0.heap.size = blk)
    (hx : a.eval x = .slice (some ⟨blk, 0, none⟩) m c) (hm : M.length = m) (hlen : L.length + m ≤ 1000000) (hB : B ≤ w0.heap.size)
    (h : ∀ v' w', Ext w0 B v L w' v' (L ++ M) → wpList Ybaf.prog ops Q rest (a.put o.dst v') w') :
    wpList Ybaf.prog ops Q (o :: rest) a (w0.alloc (.cells (M.map (Value.int .u8)).toArray 5)) := by
  subst hblk
  refine wpList_app _ hgd s x ho B v L M hs (hb.alloc _) _ m c hx hm (news w0 M) hlen (by simp; omega) fun v' w' hE => h v' w' ((Ext.alloc hb _).trans hE)

def be16 (x : Int) : List Int := [x / 256, x % 256]
def be32 (x : Int) : List Int := [x / 16777216, x / 65536 % 256, x / 256 % 256, x % 256]
theorem be16_len (x : Int) : (be16 x).length = 2 := rfl
theorem be32_len (x : Int) : (be32 x).length = 4 := rfl


set_option maxRecDepth 100000 in
theorem app16 (B : Nat) (v : Value) (L : List Int) (x : Int) (w : World) (hb : Buf w B v L) (h0 : 0 ≤ x) (h1 : x < 65536) (hlen : L.length ≤ 900000) (hB : B ≤ w.heap.size) :
    Calls Ybaf.prog 32 #[.agg #[], v, .int .u16 x] w fun e w' => ∃ v', e = .returned v' ∧ Ext w B v L w' v' (L ++ be16 x) := by
  go_enter Ybaf.func32, Ybaf.ntmps32
  go_wp2_with (at_builtin; refine wpList_app_lit (w.alloc (.cells #[] 99)) (be16 x) rfl _ _ rfl B v L rfl (hb.alloc _) (w.heap.size + 1) 2 2 (by simp) rfl rfl (by omega) (by simp; omega) ?_; intro v' w1 hE)
  go_ret
  exact ⟨_, rfl, (Ext.alloc hb _).trans hE⟩
set_option maxRecDepth 100000 in
theorem app32 (B : Nat) (v : Value) (L : List Int) (x : Int) (w : World) (hb : Buf w B v L) (h0 : 0 ≤ x) (h1 : x < 4294967296) (hlen : L.length ≤ 900000) (hB : B ≤ w.heap.size) :
    Calls Ybaf.prog 33 #[.agg #[], v, .int .u32 x] w fun e w' => ∃ v', e = .returned v' ∧ Ext w B v L w' v' (L ++ be32 x) := by
  go_enter Ybaf.func33, Ybaf.ntmps33
  go_wp2_with (at_builtin; refine wpList_app_lit (w.alloc (.cells #[] 99)) (be32 x) rfl _ _ rfl B v L rfl (hb.alloc _) (w.heap.size + 1) 4 4 (by simp) rfl rfl (by omega) (by simp; omega) ?_; intro v' w1 hE)
  go_ret
  exact ⟨_, rfl, (Ext.alloc hb _).trans hE⟩
end Go.Proofs.YbulkbleuFmt.B
