/- LawS3105B*: ReplyIPv4Options. -/
import Derived.Test.YbulkblgyDoorRev
namespace Go.Proofs.YbulkblgyDoor
open Go.RowKit

set_option maxRecDepth 100000 in
theorem next_nil (w : World) :
    Calls Ybad.prog 14 #[.slice none 0 0] w fun e w' => e = .returned (.tuple #[.slice none 0 0, .slice none 0 0, .nilIface]) ∧ w' = w := by
  go_enter Ybad.func14, Ybad.ntmps14
  go_wp2
  go_ret3
  exact ⟨rfl, rfl⟩
set_option maxRecDepth 100000 in
theorem parse_nil (w : World) :
    Calls Ybad.prog 10 #[.slice none 0 0] w fun e w' => e = .returned (.tuple #[.agg #[.slice none 0 0, .slice none 0 0, .slice none 0 0], .nilIface]) ∧ w.grownBy w' none := by
  have hb : ((w.alloc (.cells #[.slice none 0 0, .slice none 0 0, .slice none 0 0] 52)).alloc (.cells #[.slice none 0 0, .slice none 0 0, .slice none 0 0] 52)).heap[w.heap.size + 1]? = some (.cells #[.slice none 0 0, .slice none 0 0, .slice none 0 0] 52 (0, 0)) := by
    have := heap_alloc_new (w.alloc (.cells #[.slice none 0 0, .slice none 0 0, .slice none 0 0] 52)) (.cells #[.slice none 0 0, .slice none 0 0, .slice none 0 0] 52)
    simpa using this
  have hr : ((w.alloc (.cells #[.slice none 0 0, .slice none 0 0, .slice none 0 0] 52)).alloc (.cells #[.slice none 0 0, .slice none 0 0, .slice none 0 0] 52)).heap[w.heap.size]? = some (.cells #[.slice none 0 0, .slice none 0 0, .slice none 0 0] 52 (0, 0)) := by
    rw [heap_alloc_old _ _ (by simp)]
    exact heap_alloc_new w _
  obtain ⟨b0, b1, b2, y0, y1, y2⟩ := cell3 hb
  obtain ⟨r0, r1, r2, z0, z1, z2⟩ := cell3 hr
  go_enter Ybad.func10, Ybad.ntmps10
  go_wp2
  refine wp_loop_rounds 1 ?_
  rw [rounds_succ]
  go_wp2_with (go_at_call 14; refine (next_nil _).mono ?_; rintro e w1 ⟨rfl, rfl⟩)
  simp [bodyPost, results, Ybad.results10, go_sem, r0, r1, r2]
  exact gb_trans (gb_alloc _ _ _) (gb_alloc _ _ _)

def partA (L src : List Int) (o : Os) : Rt := match o.sr with
  | none => .ok [] src
  | some x => route (cut L x) src
def partB (L self : List Int) (o : Os) : Option (List Int) := match o.rr with
  | none => some []
  | some x => record (cut L x) self
def partC (L self : List Int) (ms : Int) (o : Os) : Option (List Int) := match o.ts with
  | none => some []
  | some x => stamp (cut L x) self ms
theorem reply_eq {L src self : List Int} {ms : Int} {o : Os} (h : parse L 0 {} = some o) : reply L src self ms = (match partA L src o with
    | .bad => .bad
    | .skip => .skip
    | .ok a dst => match partB L self o with
      | none => .bad
      | some b => match partC L self ms o with
        | none => .bad
        | some c => .ok (a ++ b ++ c ++ pad (a ++ b ++ c).length 3) dst) := by
  unfold reply
  rw [h]
  rfl
theorem globals {w wr : World} {bb : Nat} {za : Addr} {eb em : Value} (hg : w.grownBy wr (some bb)) (hbb : 2 < bb) (hz : 2 < w.heap.size) (h0 : w.cell? ⟨0, 0, none⟩ = some (.iface 67 em)) (h1 : w.cell? ⟨1, 0, none⟩ = some (.iface 67 eb)) (h2 : w.cell? ⟨2, 0, none⟩ = some (.pointer (some za))) :
    wr.cell? ⟨0, 0, none⟩ = some (.iface 67 em) ∧ wr.cell? ⟨1, 0, none⟩ = some (.iface 67 eb) ∧ wr.cell? ⟨2, 0, none⟩ = some (.pointer (some za)) :=
  ⟨(hg.cell_far ⟨0, 0, none⟩ (by show 0 < _; omega) (by simp; omega)).trans h0, (hg.cell_far ⟨1, 0, none⟩ (by show 1 < _; omega) (by simp; omega)).trans h1, (hg.cell_far ⟨2, 0, none⟩ hz (by simp; omega)).trans h2⟩

theorem splice0_mid (Cb a X : List Int) : splice Cb 0 (a ++ X) = a ++ (X ++ Cb.drop (a.length + X.length)) := by
  simp [splice]
theorem set_splice0 (Cb F : List Int) (x : Int) (h : F.length < Cb.length) : (splice Cb 0 F).set F.length x = splice Cb 0 (F ++ [x]) := by
  simp only [splice, List.take_zero, List.nil_append, Nat.zero_add, List.length_append, List.length_cons, List.length_nil]
  have e : Cb.drop F.length = Cb[F.length] :: Cb.drop (F.length + 1) := List.drop_eq_getElem_cons h
  rw [List.set_append_right _ _ (by omega), Nat.sub_self, e, List.set_cons_zero, List.append_assoc]
  rfl
theorem partA_len {L src a d : List Int} {o : Os} {q : Nat} (hs : src.length = 4) (hok : o.ok L q) (h : partA L src o = .ok a d) : a.length ≤ lenOf o.sr := by
  unfold partA at h
  cases hx : o.sr with
  | none => rw [hx] at h; simp at h; simp [h.1]
  | some x =>
    obtain ⟨p, l⟩ := x
    rw [hx] at h
    obtain ⟨k1, _, _⟩ := hok.sr p l hx
    rcases route_ok hs h with ⟨rfl, _⟩ | ⟨k, _⟩
    · simp
    · rw [k, cut_len k1]; simp [lenOf]
theorem partB_len {L self b : List Int} {o : Os} {q : Nat} (hs : self.length = 4) (hok : o.ok L q) (h : partB L self o = some b) : b.length ≤ lenOf o.rr := by
  unfold partB at h
  cases hx : o.rr with
  | none => rw [hx] at h; simp at h; simp [h]
  | some x =>
    obtain ⟨p, l⟩ := x
    rw [hx] at h
    obtain ⟨k1, _, _⟩ := hok.rr p l hx
    rw [(record_len hs h).1, cut_len k1]; simp [lenOf]
theorem partC_len {L self b : List Int} {ms : Int} {o : Os} {q : Nat} (hs : self.length = 4) (hok : o.ok L q) (h : partC L self ms o = some b) : b.length ≤ lenOf o.ts := by
  unfold partC at h
  cases hx : o.ts with
  | none => rw [hx] at h; simp at h; simp [h]
  | some x =>
    obtain ⟨p, l⟩ := x
    rw [hx] at h
    obtain ⟨k1, _, _⟩ := hok.ts p l hx
    rw [(stamp_len hs h).1, cut_len k1]; simp [lenOf]
theorem SV.neq {v : Value} {g : Nat} {x : Option (Nat × Nat)} (h : SV v g x) (w : World) : (binOp .neq 25 v (.slice none 0 0)).run Ybad.prog w = .ok (.bool x.isSome) w := by
  cases x with
  | none => obtain rfl : v = _ := h; exact neq25n w
  | some x => obtain ⟨c, rfl, _⟩ := h; exact neq25s w _ _ _

structure RS (w wr : World) (bb B0 B1 B2 B3 B4 : Nat) (C : List Int) (za : Addr) (xp xs xd : Int) (v0 v1 v2 : Value) : Prop where
  grown : w.grownBy wr (some bb)
  row : Row wr bb 5 C
  src : wr.heap[B0]? = some (.cells #[.int .u64 0, .int .u64 xp, .pointer (some za)] 43 (0, 0))
  self : wr.heap[B1]? = some (.cells #[.int .u64 0, .int .u64 xs, .pointer (some za)] 43 (0, 0))
  res : wr.heap[B2]? = some (.cells #[.int .u64 0, .int .u64 0, .pointer none] 43 (0, 0))
  opt : wr.heap[B3]? = some (.cells #[v0, v1, v2] 52 (0, 0))
  dst : wr.heap[B4]? = some (.cells #[.int .u64 0, .int .u64 xd, .pointer (some za)] 43 (0, 0))
structure Far (bb B0 B1 B2 B3 B4 : Nat) : Prop where
  h0 : bb < B0
  h1 : B0 < B1
  h2 : B1 < B2
  h3 : B2 < B3
  h4 : B3 < B4
theorem heap_lt {w : World} {b : Nat} {o : Obj} (h : w.heap[b]? = some o) : b < w.heap.size := (Array.getElem?_eq_some_iff.1 h).1
theorem RS.step {w wr wq : World} {bb B0 B1 B2 B3 B4 : Nat} {C C' : List Int} {za : Addr} {xp xs xd : Int} {v0 v1 v2 : Value} (h : RS w wr bb B0 B1 B2 B3 B4 C za xp xs xd v0 v1 v2) (hf : Far bb B0 B1 B2 B3 B4) (hg : wr.grownBy wq (some bb)) (hrow : Row wq bb 5 C') : RS w wq bb B0 B1 B2 B3 B4 C' za xp xs xd v0 v1 v2 := by
  obtain ⟨h0, h1, h2, h3, h4⟩ := hf
  exact ⟨gb_trans h.grown hg, hrow, by rw [hg.block _ (heap_lt h.src) (by simp; omega)]; exact h.src, by rw [hg.block _ (heap_lt h.self) (by simp; omega)]; exact h.self, by rw [hg.block _ (heap_lt h.res) (by simp; omega)]; exact h.res, by rw [hg.block _ (heap_lt h.opt) (by simp; omega)]; exact h.opt, by rw [hg.block _ (heap_lt h.dst) (by simp; omega)]; exact h.dst⟩

theorem RS.after {w wr wq : World} {bb B0 B1 B2 B3 B4 : Nat} {C : List Int} {za : Addr} {xp xs xd : Int} {v0 v1 v2 : Value} (h : RS w wr bb B0 B1 B2 B3 B4 C za xp xs xd v0 v1 v2) (hf : Far bb B0 B1 B2 B3 B4) (hg : wr.grownBy wq (some bb)) : wq.heap[B4]? = some (.cells #[.int .u64 0, .int .u64 xd, .pointer (some za)] 43 (0, 0)) ∧ wq.heap[B2]? = some (.cells #[.int .u64 0, .int .u64 0, .pointer none] 43 (0, 0)) := by
  obtain ⟨h0, h1, h2, h3, h4⟩ := hf
  exact ⟨by rw [hg.block _ (heap_lt h.dst) (by simp; omega)]; exact h.dst, by rw [hg.block _ (heap_lt h.res) (by simp; omega)]; exact h.res⟩
theorem set3_heap {w : World} {b : Nat} {t : TypeId} {u0 u1 u2 : Value} (h : w.heap[b]? = some (.cells #[u0, u1, u2] t (0, 0))) (a0 a1 a2 : Value) : (((w.setCell ⟨b, 0, none⟩ a0).setCell ⟨b, 1, none⟩ a1).setCell ⟨b, 2, none⟩ a2).heap[b]? = some (.cells #[a0, a1, a2] t (0, 0)) := by
  have e1 := heap_setCell_same w b 0 _ t a0 h
  have e2 := heap_setCell_same _ b 1 _ t a1 e1
  have e3 := heap_setCell_same _ b 2 _ t a2 e2
  rw [e3]
  rfl
theorem RS.setDst {w wr : World} {bb B0 B1 B2 B3 B4 : Nat} {C : List Int} {za : Addr} {xp xs xd : Int} {v0 v1 v2 : Value} (h : RS w wr bb B0 B1 B2 B3 B4 C za xp xs xd v0 v1 v2) (hf : Far bb B0 B1 B2 B3 B4) (hw : w.heap.size ≤ B4) (x : Int) : RS w (((wr.setCell ⟨B4, 0, none⟩ (.int .u64 0)).setCell ⟨B4, 1, none⟩ (.int .u64 x)).setCell ⟨B4, 2, none⟩ (.pointer (some za))) bb B0 B1 B2 B3 B4 C za xp xs x v0 v1 v2 := by
  obtain ⟨h0, h1, h2, h3, h4⟩ := hf
  have hg : wr.grownBy (((wr.setCell ⟨B4, 0, none⟩ (.int .u64 0)).setCell ⟨B4, 1, none⟩ (.int .u64 x)).setCell ⟨B4, 2, none⟩ (.pointer (some za))) (some B4) := gb_trans (gb_trans (gb_set _ _ _ _) (gb_set _ _ _ _)) (gb_set _ _ _ _)
  exact ⟨gb_new h.grown hg hw, h.row.kept hg (by simp; omega), by rw [hg.block _ (heap_lt h.src) (by simp; omega)]; exact h.src, by rw [hg.block _ (heap_lt h.self) (by simp; omega)]; exact h.self, by rw [hg.block _ (heap_lt h.res) (by simp; omega)]; exact h.res, by rw [hg.block _ (heap_lt h.opt) (by simp; omega)]; exact h.opt, set3_heap h.dst _ _ _⟩

set_option maxRecDepth 100000 in
set_option maxHeartbeats 4000000 in
theorem reply_any (g bb N : Nat) (L Cb : List Int) (v : Value) (p0 p1 p2 p3 q0 q1 q2 q3 ms : Int) (za : Addr) (eb em : Value) (w : World) (hR : Rd w g L) (hv : SAt v g L 0) (hRb : Row w bb 5 Cb) (hgb : g ≠ bb) (hg : 2 < g) (hbb : 2 < bb) (hN : Cb.length = N) (hLN : L.length + 3 ≤ N) (hN9 : N ≤ 10000) (h0 : w.cell? ⟨0, 0, none⟩ = some (.iface 67 em)) (h1 : w.cell? ⟨1, 0, none⟩ = some (.iface 67 eb)) (h2 : w.cell? ⟨2, 0, none⟩ = some (.pointer (some za)))
    (hp : ∀ x ∈ [p0, p1, p2, p3], 0 ≤ x ∧ x < 256) (hq : ∀ x ∈ [q0, q1, q2, q3], 0 ≤ x ∧ x < 256) (m0 : 0 ≤ ms) (m1 : ms < 4294967296) :
    Calls Ybad.prog 8 #[.slice (some ⟨bb, 0, none⟩) N N, v, adr za (num4 p0 p1 p2 p3), adr za (num4 q0 q1 q2 q3), .int .u32 ms] w fun e w' => RvPost bb Cb za eb em e w' (reply L [p0, p1, p2, p3] [q0, q1, q2, q3] ms) ∧ w.grownBy w' (some bb) := by
  have hlt := hR.lt
  have hlb := hRb.lt
  obtain ⟨W, hW⟩ : ∃ W, W = ((w.alloc (.cells #[.int .u64 0, .int .u64 (num4 p0 p1 p2 p3), .pointer (some za)] 43)).alloc (.cells #[.int .u64 0, .int .u64 (num4 q0 q1 q2 q3), .pointer (some za)] 43)).alloc (.cells #[.int .u64 0, .int .u64 0, .pointer none] 43) := ⟨_, rfl⟩
  have gA : w.grownBy W none := by rw [hW]; exact gb_trans (gb_trans (gb_alloc _ _ _) (gb_alloc _ _ _)) (gb_alloc _ _ _)
  have kg := hR.kept gA (by simp)
  have kb := hRb.kept gA (by simp)
  have k0 := (gA.cell_far ⟨0, 0, none⟩ (by show 0 < _; omega) (by simp)).trans h0
  have k1 := (gA.cell_far ⟨1, 0, none⟩ (by show 1 < _; omega) (by simp)).trans h1
  have k2 := (gA.cell_far ⟨2, 0, none⟩ (by show 2 < _; omega) (by simp)).trans h2
  have hz : 1 < W.heap.size := by have := gA.size; omega
  have rs0 : W.heap[w.heap.size]? = some (.cells #[.int .u64 0, .int .u64 (num4 p0 p1 p2 p3), .pointer (some za)] 43 (0, 0)) := by
    rw [hW, heap_alloc_old _ _ (by simp; omega), heap_alloc_old _ _ (by simp)]
    exact heap_alloc_new w _
  have rs1 : W.heap[w.heap.size + 1]? = some (.cells #[.int .u64 0, .int .u64 (num4 q0 q1 q2 q3), .pointer (some za)] 43 (0, 0)) := by
    rw [hW, heap_alloc_old _ _ (by simp)]
    have := heap_alloc_new (w.alloc (.cells #[.int .u64 0, .int .u64 (num4 p0 p1 p2 p3), .pointer (some za)] 43)) (.cells #[.int .u64 0, .int .u64 (num4 q0 q1 q2 q3), .pointer (some za)] 43)
    simpa using this
  have rs2 : W.heap[w.heap.size + 1 + 1]? = some (.cells #[.int .u64 0, .int .u64 0, .pointer none] 43 (0, 0)) := by
    have := heap_alloc_new ((w.alloc (.cells #[.int .u64 0, .int .u64 (num4 p0 p1 p2 p3), .pointer (some za)] 43)).alloc (.cells #[.int .u64 0, .int .u64 (num4 q0 q1 q2 q3), .pointer (some za)] 43)) (.cells #[.int .u64 0, .int .u64 0, .pointer none] 43)
    rw [hW]
    simpa using this
  go_enter Ybad.func8, Ybad.ntmps8
  go_wp2_with fail
  rw [← hW]
  clear hW
  generalize hB2 : w.heap.size + 1 + 1 = B2 at *
  generalize hB1 : w.heap.size + 1 = B1 at *
  obtain ⟨B0, hB0⟩ : ∃ B0, w.heap.size = B0 := ⟨_, rfl⟩
  rw [hB0] at hlt hlb rs0 hB1 ⊢
  obtain ⟨r0, r1, r2, z0, z1, z2⟩ := cell3 rs2
  refine (parse_any g L v eb W kg hv k1 hz).mono ?_
  rintro e w1 ⟨hm, hg1⟩
  have hrl : B2 < W.heap.size := heap_lt rs2
  have rs0' : w1.heap[B0]? = _ := (hg1.block _ (heap_lt rs0) (by simp)).trans rs0
  have rs1' : w1.heap[B1]? = _ := (hg1.block _ (heap_lt rs1) (by simp)).trans rs1
  have rs2' : w1.heap[B2]? = _ := (hg1.block _ hrl (by simp)).trans rs2
  cases hpr : parse L 0 {} with
  | none =>
    rw [hpr] at hm
    obtain rfl : e = _ := hm
    have hrep : reply L [p0, p1, p2, p3] [q0, q1, q2, q3] ms = .bad := by unfold reply; rw [hpr]
    obtain ⟨r0, r1, r2, z0, z1, z2⟩ := cell3 rs2'
    have hlw : B2 < w1.heap.size := heap_lt rs2'
    have hne : ¬ B2 = w1.heap.size := by omega
    have hne2 : ¬ w1.heap.size = B2 := by omega
    go_wp2
    simp [bodyPost, results, Ybad.results8, go_sem, r0, r1, r2, hrep, RvPost, hlw]
    have hBw : w.heap.size ≤ B2 := by omega
    exact gb_trans (gb_store3' _ _ _ _ hBw (gb_some _ (gb_trans gA hg1)) _ _ _) (gb_alloc _ _ _)
  | some o =>
    rw [hpr] at hm
    obtain ⟨v0, v1, v2, rfl, hv0, hv1, hv2⟩ := hm
    obtain ⟨x0, y0, d0, rfl⟩ := hv0.shape
    obtain ⟨x1, y1, d1, rfl⟩ := hv1.shape
    obtain ⟨x2, y2, d2, rfl⟩ := hv2.shape
    go_wp2_with fail
    obtain ⟨B3, hB3⟩ : ∃ B3, w1.heap.size = B3 := ⟨_, rfl⟩
    have hlw : B2 < B3 := by have := heap_lt rs2'; omega
    have gW : w1.grownBy (w1.alloc (.cells #[.slice x0 y0 d0, .slice x1 y1 d1, .slice x2 y2 d2] 52)) none := gb_alloc _ _ _
    have ro := heap_alloc_new w1 (.cells #[.slice x0 y0 d0, .slice x1 y1 d1, .slice x2 y2 d2] 52)
    have rs0'' := (gW.block _ (heap_lt rs0') (by simp)).trans rs0'
    have rs1'' := (gW.block _ (heap_lt rs1') (by simp)).trans rs1'
    have rs2'' := (gW.block _ (heap_lt rs2') (by simp)).trans rs2'
    rw [hB3] at ro ⊢
    generalize w1.alloc (.cells #[.slice x0 y0 d0, .slice x1 y1 d1, .slice x2 y2 d2] 52) = w2 at *
    obtain ⟨t0, t1, t2, _, _, _⟩ := cell3 rs0''
    have hB0w : B0 < w2.heap.size := heap_lt rs0''
    have kb2 := (kb.kept hg1 (by simp)).kept gW (by simp)
    go_cut [15, 16] (fun s15 s16 wk => s15 = .int .i64 0 ∧ ∃ B4, s16 = .pointer (some ⟨B4, 0, none⟩) ∧ Far bb B0 B1 B2 B3 B4 ∧ RS w wk bb B0 B1 B2 B3 B4 Cb za (num4 p0 p1 p2 p3) (num4 q0 q1 q2 q3) (num4 p0 p1 p2 p3) (.slice x0 y0 d0) (.slice x1 y1 d1) (.slice x2 y2 d2))
    case first =>
      go_region
      all_goals
        go_wp2_with fail
        go_meet
        have gN : w2.grownBy (w2.alloc (.cells #[.int .u64 0, .int .u64 (num4 p0 p1 p2 p3), .pointer (some za)] 43)).drew none := gb_trans (gb_alloc _ _ _) (gb_drew _ _)
        refine ⟨rfl, w2.heap.size, rfl, ⟨by omega, by omega, by omega, hlw, heap_lt ro⟩, ⟨gb_some _ (gb_trans (gb_trans gA hg1) (gb_trans gW gN)), kb2.kept gN (by simp), (gN.block _ (heap_lt rs0'') (by simp)).trans rs0'', (gN.block _ (heap_lt rs1'') (by simp)).trans rs1'', (gN.block _ (heap_lt rs2'') (by simp)).trans rs2'', (gN.block _ (heap_lt ro) (by simp)).trans ro, heap_alloc_new w2 _⟩⟩
    case rest =>
      obtain ⟨rfl, B4, rfl, hF, hS⟩ := hcut
      have hre := reply_eq (src := [p0, p1, p2, p3]) (self := [q0, q1, q2, q3]) (ms := ms) hpr
      obtain ⟨qq, hokq⟩ := parse_ok L _ 0 {} o rfl (Os.ok_none L) hpr
      have hz2 : 2 < w.heap.size := by omega
      clear k0 k1 k2 kg kb rs0 rs1 rs2 rs0' rs1' rs2' rs0'' rs1'' rs2'' ro gW hg1 gA kb2 t0 t1 t2 hB0w r0 r1 r2 z0 z1 z2 hrl hz hv
      have HF := hide hF
      obtain ⟨f0, f1, f2, f3, f4⟩ := hF
      have fB2 : w.heap.size ≤ B2 := by omega
      clear hB0 hB1 hB2 hB3
      have e0 := hv0.neq
      have e1 := hv1.neq
      have e2 := hv2.neq
      obtain ⟨b0, hb0⟩ : ∃ b0, o.sr.isSome = b0 := ⟨_, rfl⟩
      obtain ⟨b1, hb1⟩ : ∃ b1, o.rr.isSome = b1 := ⟨_, rfl⟩
      obtain ⟨b2, hb2⟩ : ∃ b2, o.ts.isSome = b2 := ⟨_, rfl⟩
      rw [hb0] at e0
      rw [hb1] at e1
      rw [hb2] at e2
      obtain ⟨o0, o1, o2, _, _, _⟩ := cell3 hS.opt
      have fB4 : w.heap.size ≤ B4 := by omega
      have pb0 := hp p0 (by simp)
      have pb1 := hp p1 (by simp)
      have pb2 := hp p2 (by simp)
      have pb3 := hp p3 (by simp)
      have qb0 := hq q0 (by simp)
      have qb1 := hq q1 (by simp)
      have qb2 := hq q2 (by simp)
      have qb3 := hq q3 (by simp)
      clear hp hq
      go_upto_if 33 with fail
      go_cut [14, 15] (fun _ s15 wk => ∃ a dst, partA L [p0, p1, p2, p3] o = .ok a dst ∧ s15 = .int .i64 a.length ∧ RS w wk bb B0 B1 B2 B3 B4 (splice Cb 0 a) za (num4 p0 p1 p2 p3) (num4 q0 q1 q2 q3) (numL dst) (.slice x0 y0 d0) (.slice x1 y1 d1) (.slice x2 y2 d2))
      case first =>
        cases hsr : o.sr with
        | none =>
          obtain rfl : b0 = false := by rw [← hb0, hsr]; rfl
          go_wp2_with fail
          go_meet
          refine ⟨[], [p0, p1, p2, p3], by unfold partA; rw [hsr], rfl, ?_⟩
          rw [show splice Cb 0 [] = Cb by simp [splice]]
          exact hS
        | some x =>
          obtain rfl : b0 = true := by rw [← hb0, hsr]; rfl
          obtain ⟨xa, xl⟩ := x
          have hSV := hv0
          rw [hsr] at hSV
          obtain ⟨c, hsl, hcl⟩ := hSV
          simp only [Value.slice.injEq] at hsl
          obtain ⟨rfl, rfl, rfl⟩ := hsl
          obtain ⟨l1, l2, l3⟩ := hokq.sr _ _ hsr
          obtain ⟨g0, g1, g2⟩ := globals hS.grown hbb hz2 h0 h1 h2
          have hRg := hR.kept hS.grown (by simpa using hgb)
          obtain ⟨s0, s1, s2, _, _, _⟩ := cell3 hS.src
          have n42 : ¬ B4 = B2 := by omega
          have n24 : ¬ B2 = B4 := by omega
          cases hrt : route (cut L (xa, y0)) [p0, p1, p2, p3] with
          | bad =>
            have hpa : partA L [p0, p1, p2, p3] o = .bad := by unfold partA; rw [hsr]; exact hrt
            have hrep : reply L [p0, p1, p2, p3] [q0, q1, q2, q3] ms = .bad := by rw [hre, hpa]
            have Hrep := hide hrep
            clear hrep hre
            go_wp2_with (go_at_call 11; refine (rev_any g bb xa y0 d0 N N L Cb p0 p1 p2 p3 za eb em _ hRg hS.row hgb l1 l2 hcl (by omega) hg hbb hN (by omega) (Nat.le_refl _) g0 g1 g2 pb0.1 pb0.2 pb1.1 pb1.2 pb2.1 pb2.2 pb3.1 pb3.2).mono ?_; rintro e wq ⟨hm, hgq⟩; rw [hrt] at hm; obtain rfl : e = _ := hm; obtain ⟨u0, u1, u2, uz0, uz1, uz2⟩ := cell3 (hS.after HF.out hgq).1; obtain ⟨r0, r1, r2, z0, z1, z2⟩ := cell3 (hS.after HF.out hgq).2)
            simp [bodyPost, results, Ybad.results8, go_sem, r0, r1, r2, Hrep.out, RvPost]
            exact gb_store3' _ _ _ _ fB2 (gb_store3' _ _ _ _ fB4 (gb_trans hS.grown hgq) _ _ _) _ _ _
          | skip =>
            have hpa : partA L [p0, p1, p2, p3] o = .skip := by unfold partA; rw [hsr]; exact hrt
            have hrep : reply L [p0, p1, p2, p3] [q0, q1, q2, q3] ms = .skip := by rw [hre, hpa]
            have Hrep := hide hrep
            clear hrep hre
            go_wp2_with (go_at_call 11; refine (rev_any g bb xa y0 d0 N N L Cb p0 p1 p2 p3 za eb em _ hRg hS.row hgb l1 l2 hcl (by omega) hg hbb hN (by omega) (Nat.le_refl _) g0 g1 g2 pb0.1 pb0.2 pb1.1 pb1.2 pb2.1 pb2.2 pb3.1 pb3.2).mono ?_; rintro e wq ⟨hm, hgq⟩; rw [hrt] at hm; obtain rfl : e = _ := hm; obtain ⟨u0, u1, u2, uz0, uz1, uz2⟩ := cell3 (hS.after HF.out hgq).1; obtain ⟨r0, r1, r2, z0, z1, z2⟩ := cell3 (hS.after HF.out hgq).2)
            simp [bodyPost, results, Ybad.results8, go_sem, r0, r1, r2, Hrep.out, RvPost]
            exact gb_store3' _ _ _ _ fB2 (gb_store3' _ _ _ _ fB4 (gb_trans hS.grown hgq) _ _ _) _ _ _
          | ok out dst =>
            have hpa : partA L [p0, p1, p2, p3] o = .ok out dst := by unfold partA; rw [hsr]; exact hrt
            go_wp2_with (go_at_call 11; refine (rev_any g bb xa y0 d0 N N L Cb p0 p1 p2 p3 za eb em _ hRg hS.row hgb l1 l2 hcl (by omega) hg hbb hN (by omega) (Nat.le_refl _) g0 g1 g2 pb0.1 pb0.2 pb1.1 pb1.2 pb2.1 pb2.2 pb3.1 pb3.2).mono ?_; rintro e wq ⟨hm, hgq⟩; rw [hrt] at hm; obtain ⟨rfl, hRq⟩ := hm; obtain ⟨u0, u1, u2, uz0, uz1, uz2⟩ := cell3 (hS.after HF.out hgq).1)
            go_meet
            exact ⟨out, dst, hpa, rfl, (hS.step HF.out hgq hRq).setDst HF.out fB4 _⟩
      case rest =>
      obtain ⟨a, dst, hpa, rfl, hS1⟩ := hcut
      have hal := partA_len rfl hokq hpa
      rw [hpa] at hre
      clear hS o0 o1 o2
      obtain ⟨o0, o1, o2, _, _, _⟩ := cell3 hS1.opt
      obtain ⟨g0, g1, g2⟩ := globals hS1.grown hbb hz2 h0 h1 h2
      go_upto_if 49 with fail
      go_cut [15] (fun s15 wk => ∃ bl, partB L [q0, q1, q2, q3] o = some bl ∧ s15 = .int .i64 ((a ++ bl).length : Nat) ∧ RS w wk bb B0 B1 B2 B3 B4 (splice Cb 0 (a ++ bl)) za (num4 p0 p1 p2 p3) (num4 q0 q1 q2 q3) (numL dst) (.slice x0 y0 d0) (.slice x1 y1 d1) (.slice x2 y2 d2))
      case first =>
        cases hsr : o.rr with
        | none =>
          obtain rfl : b1 = false := by rw [← hb1, hsr]; rfl
          go_wp2_with fail
          go_meet
          refine ⟨[], by unfold partB; rw [hsr], by rw [List.append_nil], ?_⟩
          rw [List.append_nil]
          exact hS1
        | some x =>
          obtain rfl : b1 = true := by rw [← hb1, hsr]; rfl
          obtain ⟨xa, xl⟩ := x
          have hSV := hv1
          rw [hsr] at hSV
          obtain ⟨c, hsl, hcl⟩ := hSV
          simp only [Value.slice.injEq] at hsl
          obtain ⟨rfl, rfl, rfl⟩ := hsl
          obtain ⟨l1, l2, l3⟩ := hokq.rr _ _ hsr
          have hll : lenOf o.rr = y1 := by simp [lenOf, hsr]
          have hRg := hR.kept hS1.grown (by simpa using hgb)
          obtain ⟨s0, s1, s2, _, _, _⟩ := cell3 hS1.self
          have hcut : (cut L (xa, y1)).length = y1 := cut_len l1
          have hcb : ∀ y ∈ cut L (xa, y1), 0 ≤ y ∧ y < 256 := fun y hy => hR.bytes y (List.mem_of_mem_drop (List.mem_of_mem_take hy))
          have hacc : (a).length + y1 ≤ L.length := by have := hokq.sum; have := hokq.le; omega
          have hrow := hS1.row
          have hlC : (splice Cb 0 (a)).length = Cb.length := splice_len _ _ _ (by omega)
          have hsp : splice (splice Cb 0 (a)) (a).length (cut L (xa, y1)) = splice Cb 0 (a ++ cut L (xa, y1)) := by
            have := splice_snoc Cb (a) (cut L (xa, y1)) 0 (by omega)
            rwa [Nat.zero_add] at this
          obtain ⟨n, hn⟩ : ∃ n, (a).length = n := ⟨_, rfl⟩
          rw [hn] at hsp hacc ⊢
          obtain ⟨X, hX⟩ : ∃ X, cut L (xa, y1) = X := ⟨_, rfl⟩
          have hmin : X.length = Nat.min y1 (N - n) := by rw [← hX, hcut]; exact (Nat.min_eq_left (by omega)).symm
          rw [hX] at hcut hcb hsp
          have hfit : n + X.length ≤ (splice Cb 0 (a)).length := by omega
          have hsrc : ∀ u : World, wc.grownBy u (some bb) → ∀ q x, X[q]? = some x → u.cell? ((⟨g, xa, none⟩ : Addr).add q) = some (.int .u8 x) := by
            intro u hu q x hq
            have hq2 : q < y1 := by have := (List.getElem?_eq_some_iff.1 hq).1; omega
            have := cut_cell (hRg.kept hu (by simpa using hgb)) l1 q hq2
            rw [hX, List.getD_eq_getElem?_getD, hq] at this
            rw [addr_add]
            exact this
          have Hsp := hide hsp
          have HX := hide hX
          have Hn := hide hn
          have Hsrc := hide (hsrc _ (gb_drew _ _))
          have Hcb := hide hcb
          have Hll := hide hll
          have hrowd := hrow.kept (gb_drew _ none) (by simp)
          generalize hCk : splice Cb 0 (a) = Ck at *
          have HCk := hide hCk
          clear hsp hX hn hsrc hcb hrow hCk hll
          have i1 := IntWalk.i64_in ((n : Int) + y1) (by omega)
          have i2 : ((n : Int) + y1).toNat = n + y1 := by omega
          have i3 : (n : Int) + y1 ≤ (N : Int) := by omega
          have i4 : (0 : Int) ≤ (n : Int) + y1 := by omega
          have i5 : n < N := by omega
          have i6 : (n : Int) ≤ (N : Int) := by omega
          have i7 : n + y1 - n = y1 := by omega
          go_wp2_with fail
          go_cut [17] (fun sr wk => sr = .slice (some ⟨bb, n, none⟩) y1 (N - n) ∧ RS w wk bb B0 B1 B2 B3 B4 (splice Cb 0 (a ++ X)) za (num4 p0 p1 p2 p3) (num4 q0 q1 q2 q3) (numL dst) (.slice x0 y0 d0) (.slice (some ⟨g, xa, none⟩) y1 d1) (.slice x2 y2 d2))
          case first =>
            go_region_law (refine step_cp rfl (.tmp 55) (.tmp 57) rfl bb 5 n (N - n) (N - n) ⟨g, xa, none⟩ y1 d1 (by first | (simp [Act.eval]; done) | (simp [Act.eval]; omega)) (by simp [Act.eval]) Ck X hrowd hmin Hsrc.out hfit Hcb.out ?_; intro w3 hR3 hg3)
            all_goals
              go_wp2_with fail
              go_meet
              rw [Hsp.out] at hR3
              exact ⟨rfl, hS1.step HF.out (gb_trans (gb_drew _ _) hg3) hR3⟩
          case rest =>
            obtain ⟨rfl, hT⟩ := hcut
            obtain rfl := Hn.out
            obtain ⟨s0, s1, s2, _, _, _⟩ := cell3 hT.self
            obtain ⟨g0, g1, g2⟩ := globals hT.grown hbb hz2 h0 h1 h2
            have hrow := hT.row
            rw [splice0_mid Cb (a) X] at hrow
            cases hrt : record X [q0, q1, q2, q3] with
            | none =>
              have hpb : partB L [q0, q1, q2, q3] o = none := by unfold partB; rw [hsr]; exact (congrArg (fun z => record z [q0, q1, q2, q3]) HX.out).trans hrt
              have hrep : reply L [p0, p1, p2, p3] [q0, q1, q2, q3] ms = .bad := by rw [hre, hpb]
              have Hrep := hide hrep
              clear hrep
              go_wp2_with (go_at_call 12; (with_reducible refine Calls.mono (record_any bb y1 (N - a.length) a X (Cb.drop (a.length + X.length)) q0 q1 q2 q3 za eb _ hrow hcut (by omega) hbb g1 g2 qb0.1 qb0.2 qb1.1 qb1.2 qb2.1 qb2.2 qb3.1 qb3.2) ?_); rintro e wq ⟨hm, hgq⟩; rw [hrt] at hm; obtain rfl : e = _ := hm; obtain ⟨r0, r1, r2, z0, z1, z2⟩ := cell3 (hT.after HF.out hgq).2)
              simp [bodyPost, results, Ybad.results8, go_sem, r0, r1, r2, Hrep.out, RvPost]
              exact gb_store3' _ _ _ _ fB2 (gb_trans hT.grown hgq) _ _ _
            | some R =>
              have hpb : partB L [q0, q1, q2, q3] o = some R := by unfold partB; rw [hsr]; exact (congrArg (fun z => record z [q0, q1, q2, q3]) HX.out).trans hrt
              have hlR : R.length = X.length := (record_len rfl hrt).1
              have HlR := hide hlR
              clear hlR
              go_wp2_with (go_at_call 12; (with_reducible refine Calls.mono (record_any bb y1 (N - a.length) a X (Cb.drop (a.length + X.length)) q0 q1 q2 q3 za eb _ hrow hcut (by omega) hbb g1 g2 qb0.1 qb0.2 qb1.1 qb1.2 qb2.1 qb2.2 qb3.1 qb3.2) ?_); rintro e wq ⟨hm, hgq⟩; rw [hrt] at hm; obtain ⟨rfl, hRq⟩ := hm)
              go_meet
              refine ⟨R, hpb, ?_, ?_⟩
              · congr 1
                rw [List.length_append, HlR.out, hcut]
                omega
              · refine hT.step HF.out hgq ?_
                rw [splice0_mid Cb (a) R, HlR.out]
                exact hRq
      case rest =>
      obtain ⟨bl, hpb, hs15, hS2⟩ := hcut
      subst hs15
      have hbl := partB_len rfl hokq hpb
      rw [hpb] at hre
      clear hS1 o0 o1 o2 g0 g1 g2
      obtain ⟨acc, hab⟩ : ∃ acc, a ++ bl = acc := ⟨_, rfl⟩
      rw [hab] at hS2 ⊢
      have Hab := hide hab
      have Hacl : Hid (acc.length = a.length + bl.length) := by show _ = _; rw [← hab, List.length_append]
      clear hab
      obtain ⟨o0, o1, o2, _, _, _⟩ := cell3 hS2.opt
      obtain ⟨g0, g1, g2⟩ := globals hS2.grown hbb hz2 h0 h1 h2
      go_upto_if 74 with fail
      go_cut [15] (fun s15 wk => ∃ cl, partC L [q0, q1, q2, q3] ms o = some cl ∧ s15 = .int .i64 ((acc ++ cl).length : Nat) ∧ RS w wk bb B0 B1 B2 B3 B4 (splice Cb 0 (acc ++ cl)) za (num4 p0 p1 p2 p3) (num4 q0 q1 q2 q3) (numL dst) (.slice x0 y0 d0) (.slice x1 y1 d1) (.slice x2 y2 d2))
      case first =>
        cases hsr : o.ts with
        | none =>
          obtain rfl : b2 = false := by rw [← hb2, hsr]; rfl
          go_wp2_with fail
          go_meet
          refine ⟨[], by unfold partC; rw [hsr], by rw [List.append_nil], ?_⟩
          rw [List.append_nil]
          exact hS2
        | some x =>
          obtain rfl : b2 = true := by rw [← hb2, hsr]; rfl
          obtain ⟨xa, xl⟩ := x
          have hSV := hv2
          rw [hsr] at hSV
          obtain ⟨c, hsl, hcl⟩ := hSV
          simp only [Value.slice.injEq] at hsl
          obtain ⟨rfl, rfl, rfl⟩ := hsl
          obtain ⟨l1, l2, l3⟩ := hokq.ts _ _ hsr
          have hll : lenOf o.ts = y2 := by simp [lenOf, hsr]
          have hRg := hR.kept hS2.grown (by simpa using hgb)
          obtain ⟨s0, s1, s2, _, _, _⟩ := cell3 hS2.self
          have hcut : (cut L (xa, y2)).length = y2 := cut_len l1
          have hcb : ∀ y ∈ cut L (xa, y2), 0 ≤ y ∧ y < 256 := fun y hy => hR.bytes y (List.mem_of_mem_drop (List.mem_of_mem_take hy))
          have hacc : (acc).length + y2 ≤ L.length := by have := Hacl.out; have := hokq.sum; have := hokq.le; omega
          have hrow := hS2.row
          have hlC : (splice Cb 0 (acc)).length = Cb.length := splice_len _ _ _ (by omega)
          have hsp : splice (splice Cb 0 (acc)) (acc).length (cut L (xa, y2)) = splice Cb 0 (acc ++ cut L (xa, y2)) := by
            have := splice_snoc Cb (acc) (cut L (xa, y2)) 0 (by omega)
            rwa [Nat.zero_add] at this
          obtain ⟨n, hn⟩ : ∃ n, (acc).length = n := ⟨_, rfl⟩
          rw [hn] at hsp hacc ⊢
          obtain ⟨X, hX⟩ : ∃ X, cut L (xa, y2) = X := ⟨_, rfl⟩
          have hmin : X.length = Nat.min y2 (N - n) := by rw [← hX, hcut]; exact (Nat.min_eq_left (by omega)).symm
          rw [hX] at hcut hcb hsp
          have hfit : n + X.length ≤ (splice Cb 0 (acc)).length := by omega
          have hsrc : ∀ u : World, wc.grownBy u (some bb) → ∀ q x, X[q]? = some x → u.cell? ((⟨g, xa, none⟩ : Addr).add q) = some (.int .u8 x) := by
            intro u hu q x hq
            have hq2 : q < y2 := by have := (List.getElem?_eq_some_iff.1 hq).1; omega
            have := cut_cell (hRg.kept hu (by simpa using hgb)) l1 q hq2
            rw [hX, List.getD_eq_getElem?_getD, hq] at this
            rw [addr_add]
            exact this
          have Hsp := hide hsp
          have HX := hide hX
          have Hn := hide hn
          have Hsrc := hide (hsrc _ (gb_drew _ _))
          have Hcb := hide hcb
          have Hll := hide hll
          have hrowd := hrow.kept (gb_drew _ none) (by simp)
          generalize hCk : splice Cb 0 (acc) = Ck at *
          have HCk := hide hCk
          clear hsp hX hn hsrc hcb hrow hCk hll
          have i1 := IntWalk.i64_in ((n : Int) + y2) (by omega)
          have i2 : ((n : Int) + y2).toNat = n + y2 := by omega
          have i3 : (n : Int) + y2 ≤ (N : Int) := by omega
          have i4 : (0 : Int) ≤ (n : Int) + y2 := by omega
          have i5 : n < N := by omega
          have i6 : (n : Int) ≤ (N : Int) := by omega
          have i7 : n + y2 - n = y2 := by omega
          go_wp2_with fail
          go_cut [19] (fun sr wk => sr = .slice (some ⟨bb, n, none⟩) y2 (N - n) ∧ RS w wk bb B0 B1 B2 B3 B4 (splice Cb 0 (acc ++ X)) za (num4 p0 p1 p2 p3) (num4 q0 q1 q2 q3) (numL dst) (.slice x0 y0 d0) (.slice x1 y1 d1) (.slice (some ⟨g, xa, none⟩) y2 d2))
          case first =>
            go_region_law (refine step_cp rfl (.tmp 80) (.tmp 82) rfl bb 5 n (N - n) (N - n) ⟨g, xa, none⟩ y2 d2 (by first | (simp [Act.eval]; done) | (simp [Act.eval]; omega)) (by simp [Act.eval]) Ck X hrowd hmin Hsrc.out hfit Hcb.out ?_; intro w3 hR3 hg3)
            all_goals
              go_wp2_with fail
              go_meet
              rw [Hsp.out] at hR3
              exact ⟨rfl, hS2.step HF.out (gb_trans (gb_drew _ _) hg3) hR3⟩
          case rest =>
            obtain ⟨rfl, hT⟩ := hcut
            obtain rfl := Hn.out
            obtain ⟨s0, s1, s2, _, _, _⟩ := cell3 hT.self
            obtain ⟨g0, g1, g2⟩ := globals hT.grown hbb hz2 h0 h1 h2
            have hrow := hT.row
            rw [splice0_mid Cb (acc) X] at hrow
            cases hrt : stamp X [q0, q1, q2, q3] ms with
            | none =>
              have hpb : partC L [q0, q1, q2, q3] ms o = none := by unfold partC; rw [hsr]; exact (congrArg (fun z => stamp z [q0, q1, q2, q3] ms) HX.out).trans hrt
              have hrep : reply L [p0, p1, p2, p3] [q0, q1, q2, q3] ms = .bad := by rw [hre, hpb]
              have Hrep := hide hrep
              clear hrep
              go_wp2_with (go_at_call 13; (with_reducible refine Calls.mono (stamp_any bb y2 (N - acc.length) acc X (Cb.drop (acc.length + X.length)) q0 q1 q2 q3 ms za eb _ hrow hcut (by omega) hbb g1 g2 qb0.1 qb0.2 qb1.1 qb1.2 qb2.1 qb2.2 qb3.1 qb3.2 m0 m1) ?_); rintro e wq ⟨hm, hgq⟩; rw [hrt] at hm; obtain rfl : e = _ := hm; obtain ⟨r0, r1, r2, z0, z1, z2⟩ := cell3 (hT.after HF.out hgq).2)
              simp [bodyPost, results, Ybad.results8, go_sem, r0, r1, r2, Hrep.out, RvPost]
              exact gb_store3' _ _ _ _ fB2 (gb_trans hT.grown hgq) _ _ _
            | some R =>
              have hpb : partC L [q0, q1, q2, q3] ms o = some R := by unfold partC; rw [hsr]; exact (congrArg (fun z => stamp z [q0, q1, q2, q3] ms) HX.out).trans hrt
              have hlR : R.length = X.length := (stamp_len rfl hrt).1
              have HlR := hide hlR
              clear hlR
              go_wp2_with (go_at_call 13; (with_reducible refine Calls.mono (stamp_any bb y2 (N - acc.length) acc X (Cb.drop (acc.length + X.length)) q0 q1 q2 q3 ms za eb _ hrow hcut (by omega) hbb g1 g2 qb0.1 qb0.2 qb1.1 qb1.2 qb2.1 qb2.2 qb3.1 qb3.2 m0 m1) ?_); rintro e wq ⟨hm, hgq⟩; rw [hrt] at hm; obtain ⟨rfl, hRq⟩ := hm)
              go_meet
              refine ⟨R, hpb, ?_, ?_⟩
              · congr 1
                rw [List.length_append, HlR.out, hcut]
                omega
              · refine hT.step HF.out hgq ?_
                rw [splice0_mid Cb (acc) R, HlR.out]
                exact hRq
      case rest =>
      obtain ⟨cl, hpc, hs15, hS3⟩ := hcut
      subst hs15
      have hcl := partC_len rfl hokq hpc
      have hre3 : reply L [p0, p1, p2, p3] [q0, q1, q2, q3] ms = .ok (acc ++ cl ++ pad (acc ++ cl).length 3) dst := by rw [hre, hpc]; show Rt.ok (a ++ bl ++ cl ++ pad (a ++ bl ++ cl).length 3) dst = _; rw [Hab.out]
      have hfin : (acc ++ cl).length ≤ L.length := by
        have e1 := hokq.sum
        have e2 := hokq.le
        have e3 := Hacl.out
        rw [List.length_append]
        omega
      clear hS2 o0 o1 o2 g0 g1 g2 hre
      generalize acc ++ cl = fin at *
      have Hre := hide hre3
      clear hre3 hpa hpb hpc hal hbl hcl e0 e1 e2 hpr hokq hv0 hv1 hv2
      go_wp2_with fail
      go_loopw [15] (fun s15 wr => ∃ (F : List Int) (k : Nat), s15 = .int .i64 (F.length : Nat) ∧ F ++ pad F.length k = fin ++ pad fin.length 3 ∧ 4 * ((F.length + 3) / 4) ≤ F.length + k ∧ F.length + k = fin.length + 3 ∧ RS w wr bb B0 B1 B2 B3 B4 (splice Cb 0 F) za (num4 p0 p1 p2 p3) (num4 q0 q1 q2 q3) (numL dst) (.slice x0 y0 d0) (.slice x1 y1 d1) (.slice x2 y2 d2)) (fun s15 _ => fin.length + 3 - (intOf s15).toNat)
      case atStart => exact ⟨fin, 3, rfl, rfl, by omega, rfl, hS3⟩
      case round =>
        clear hS3
        obtain ⟨F, k, rfl, hpad, hk4, hkf, hS⟩ := hrel
        have hlC : (splice Cb 0 F).length = Cb.length := splice_len _ _ _ (by omega)
        obtain ⟨n, hn⟩ : ∃ n, F.length = n := ⟨_, rfl⟩
        rw [hn] at hpad hk4 hkf ⊢
        by_cases h4 : n % 4 = 0
        · have t4 : (n : Int).tmod 4 = 0 := by rw [Int.tmod_eq_emod_of_nonneg (by omega)]; omega
          have t5 : (n : Int) % 4 = 0 := by omega
          have hpn : F = fin ++ pad fin.length 3 := by rw [← hpad, pad_nil h4, List.append_nil]
          have hre4 : reply L [p0, p1, p2, p3] [q0, q1, q2, q3] ms = .ok F dst := by rw [Hre.out, hpn]
          have Hre4 := hide hre4
          have Hn := hide hn
          obtain ⟨r0, r1, r2, z0, z1, z2⟩ := cell3 hS.res
          obtain ⟨u0, u1, u2, _, _, _⟩ := cell3 hS.dst
          have n24 : ¬ B2 = B4 := by omega
          have n42 : ¬ B4 = B2 := by omega
          have n6 : some bb ≠ some B2 := by simp; omega
          clear hre4 hpad hpn hn hk4 hkf
          go_wp2_with fail
          go_region
          all_goals go_wp2
          all_goals
            simp [bodyPost, results, Ybad.results8, go_sem, r0, r1, r2, Hre4.out, RvPost, Hn.out]
            exact ⟨hS.row.kept (r := some B2) (gb_trans (gb_trans (gb_trans (gb_set _ _ _ _) (gb_set _ _ _ _)) (gb_set _ _ _ _)) (gb_drew _ _)) n6, gb_trans (gb_store3' _ _ _ _ fB2 hS.grown _ _ _) (gb_drew _ _)⟩
        · obtain ⟨k', rfl⟩ : ∃ k', k = k' + 1 := ⟨k - 1, by omega⟩
          have hnN : n < N := by omega
          have t4 : ((n : Int).tmod 4 == 0) = false := beq_eq_false_iff_ne.2 (by rw [Int.tmod_eq_emod_of_nonneg (by omega)]; omega)
          have t5 : ((n : Int) % 4 == 0) = false := beq_eq_false_iff_ne.2 (by omega)
          have hpd : pad n (k' + 1) = 0 :: pad (n + 1) k' := by rw [pad, if_neg h4]
          have hpad2 : F ++ [0] ++ pad (n + 1) k' = fin ++ pad fin.length 3 := by rw [← hpad, hpd]; simp
          have c0 := hS.row.cell n (by omega)
          have z0 := hS.row.frozen n
          have rw2 := hS.row.set n (by omega) 0 (by omega) (by omega)
          have hset : (splice Cb 0 F).set n 0 = splice Cb 0 (F ++ [0]) := by rw [← hn]; exact set_splice0 Cb F 0 (by omega)
          rw [hset] at rw2
          have hS' := hS.step HF.out (gb_set _ _ _ _) rw2
          have i1 := IntWalk.i64_in ((n : Int) + 1) (by omega)
          have hni : (n : Int) < (N : Int) := by omega
          have Hn := hide hn
          have HS := hide hS'
          have Hp := hide hpad2
          have hk4' : 4 * ((n + 1 + 3) / 4) ≤ n + 1 + k' := by omega
          have hkf' : n + 1 + k' = fin.length + 3 := by omega
          clear hpad hpad2 hpd hn hset rw2 hS' hk4 hkf
          go_wp2
          refine ⟨⟨F ++ [0], k', ?_, ?_, ?_, ?_, HS.out⟩, ?_⟩
          · congr 1
            rw [List.length_append, Hn.out]
            simp
          · rw [List.length_append, Hn.out]
            exact Hp.out
          · rw [List.length_append, Hn.out]
            exact hk4'
          · rw [List.length_append, Hn.out]
            exact hkf'
          · simp [intOf]
            omega
end Go.Proofs.YbulkblgyDoor
