/- LawS3105BModel: what her walk leans on. -/
import Derived.Test.YbulkblgyDoorMEq
import Derived.Test.YbulkblgyDoorRep
namespace Go.Proofs.YbulkblgyDoor
open Go.RowKit

/-- The buffer while it is filled. -/
def filled (N i : Nat) : List Int := List.replicate i 170 ++ List.replicate (N - i) 0
theorem filled_set (N i : Nat) (h : i < N) : (filled N i).set i 170 = filled N (i + 1) := by
  unfold filled
  rw [List.set_append_right _ _ (by simp), List.length_replicate, Nat.sub_self]
  obtain ⟨m, hm⟩ : ∃ m, N - i = m + 1 := ⟨N - i - 1, by omega⟩
  rw [hm, show N - (i + 1) = m by omega, List.replicate_succ, List.set_cons_zero, List.replicate_succ' , List.append_assoc]
  rfl
theorem filled_len (N i : Nat) (h : i ≤ N) : (filled N i).length = N := by simp [filled]; omega
theorem filled_all (N : Nat) : filled N N = List.replicate N 170 := by simp [filled]

theorem comp67 : (Ybad.prog.info? 67).map (·.comparable) = some true := by kernel_rfl
theorem size87 : (Ybad.prog.info? 87).map (·.size) = some 1 := by kernel_rfl
theorem cell4 {w : World} {b : Nat} {t : TypeId} {v0 v1 v2 v3 : Value} (h : w.heap[b]? = some (.cells #[v0, v1, v2, v3] t (0, 0))) :
    w.cell? ⟨b, 0, none⟩ = some v0 ∧ w.cell? ⟨b, 1, none⟩ = some v1 ∧ w.cell? ⟨b, 2, none⟩ = some v2 ∧ w.cell? ⟨b, 3, none⟩ = some v3 := by
  simp [World.cell?, h]
/-- How the answer of ReplyIPv4Options reads. -/
def RForm (bb : Nat) (Cb : List Int) (za : Addr) (eb em : Value) (k x : Int) (zo : Option Addr) (s : Value) (wk : World) : Rt → Prop
  | .bad => k = 0 ∧ x = 0 ∧ zo = none ∧ s = .iface 67 eb
  | .skip => k = 0 ∧ x = 0 ∧ zo = none ∧ s = .iface 67 em
  | .ok out dst => k = out.length ∧ x = numL dst ∧ zo = some za ∧ s = .nilIface ∧ Row wk bb 5 (splice Cb 0 out)
theorem RvPost.form {bb : Nat} {Cb : List Int} {za : Addr} {eb em : Value} {e : Ending} {w' : World} {r : Rt} (h : RvPost bb Cb za eb em e w' r) :
    ∃ k x zo s, e = .returned (.tuple #[.int .i64 k, .agg #[.int .u64 0, .int .u64 x, .pointer zo], s]) ∧ RForm bb Cb za eb em k x zo s w' r := by
  cases r with
  | bad => exact ⟨0, 0, none, _, h, rfl, rfl, rfl, rfl⟩
  | skip => exact ⟨0, 0, none, _, h, rfl, rfl, rfl, rfl⟩
  | ok out dst => exact ⟨_, _, some za, _, h.1, rfl, rfl, rfl, rfl, h.2⟩
theorem RForm.kept {bb : Nat} {Cb : List Int} {za : Addr} {eb em : Value} {k x : Int} {zo : Option Addr} {s : Value} {w w' : World} {r : Rt} {q : Option Nat} (h : RForm bb Cb za eb em k x zo s w r) (hg : w.grownBy w' q) (hne : some bb ≠ q) : RForm bb Cb za eb em k x zo s w' r := by
  cases r with
  | bad => exact h
  | skip => exact h
  | ok out dst => exact ⟨h.1, h.2.1, h.2.2.1, h.2.2.2.1, h.2.2.2.2.kept hg hne⟩

theorem closeA {bb : Nat} {Cb : List Int} {za : Addr} {eb em : Value} {k x : Int} {zo : Option Addr} {s14 : Value} {wr wq : World} {r : Rt} (hwq : wr.grownBy wq (some bb)) (hfm : RForm bb Cb za eb em k x zo s14 wq r) :
    ∃ TB k' x' zo', Value.pointer (some ⟨wq.heap.size, 0, none⟩) = .pointer (some ⟨TB, 0, none⟩) ∧ wr.heap.size ≤ TB ∧ wr.grownBy (wq.alloc (.cells #[.int .u64 0, .int .u64 x, .pointer zo] 43)) (some bb) ∧ (wq.alloc (.cells #[.int .u64 0, .int .u64 x, .pointer zo] 43)).heap[TB]? = some (.cells #[.int .u64 0, .int .u64 x', .pointer zo'] 43 (0, 0)) ∧ Value.int .i64 k = .int .i64 k' ∧ RForm bb Cb za eb em k' x' zo' s14 (wq.alloc (.cells #[.int .u64 0, .int .u64 x, .pointer zo] 43)) r :=
  ⟨wq.heap.size, k, x, zo, rfl, hwq.size, gb_trans hwq (gb_alloc _ _ _), heap_alloc_new wq _, rfl, hfm.kept (gb_alloc wq _ none) (by simp)⟩
theorem closeB {bb T : Nat} {Cb : List Int} {za : Addr} {eb em : Value} {k x : Int} {zo : Option Addr} {s14 : Value} {wr wq : World} {r : Rt} (hwq : wr.grownBy wq (some bb)) (hfm : RForm bb Cb za eb em k x zo s14 wq r) (hT : wr.heap.size ≤ T) (hTq : wq.heap[T]? = some (.cells #[.int .u64 0, .int .u64 0, .pointer none] 43 (0, 0))) (hTn : some T ≠ some bb) :
    ∃ TB k' x' zo', Value.pointer (some ⟨T, 0, none⟩) = .pointer (some ⟨TB, 0, none⟩) ∧ wr.heap.size ≤ TB ∧ wr.grownBy (((wq.setCell ⟨T, 0, none⟩ (.int .u64 0)).setCell ⟨T, 1, none⟩ (.int .u64 x)).setCell ⟨T, 2, none⟩ (.pointer zo)) (some bb) ∧ (((wq.setCell ⟨T, 0, none⟩ (.int .u64 0)).setCell ⟨T, 1, none⟩ (.int .u64 x)).setCell ⟨T, 2, none⟩ (.pointer zo)).heap[TB]? = some (.cells #[.int .u64 0, .int .u64 x', .pointer zo'] 43 (0, 0)) ∧ Value.int .i64 k = .int .i64 k' ∧ RForm bb Cb za eb em k' x' zo' s14 (((wq.setCell ⟨T, 0, none⟩ (.int .u64 0)).setCell ⟨T, 1, none⟩ (.int .u64 x)).setCell ⟨T, 2, none⟩ (.pointer zo)) r :=
  ⟨T, k, x, zo, rfl, hT, gb_new hwq (gb_trans (gb_trans (gb_set _ _ _ _) (gb_set _ _ _ _)) (gb_set _ _ _ _)) hT, set3_heap hTq _ _ _, rfl, hfm.kept (gb_trans (gb_trans (gb_set _ _ _ _) (gb_set _ _ _ _)) (gb_set _ _ _ _)) (fun h => hTn h.symm)⟩

theorem Arg.srcCell (I : Arg) (q : Nat) (hq : q < 4) : I.cells[q]? = some (.int .u8 ([I.p0, I.p1, I.p2, I.p3].getD q 0)) := by
  match q, hq with
  | 0, _ => rfl
  | 1, _ => rfl
  | 2, _ => rfl
  | 3, _ => rfl
theorem Arg.selfCell (I : Arg) (q : Nat) (hq : q < 4) : I.cells[4 + q]? = some (.int .u8 ([I.q0, I.q1, I.q2, I.q3].getD q 0)) := by
  match q, hq with
  | 0, _ => rfl
  | 1, _ => rfl
  | 2, _ => rfl
  | 3, _ => rfl
theorem head3f (n : Nat) (a b c : Int) (D : List Int) (hD : D.length = n) : (((splice (List.replicate (3 + n) (0 : Int)) 3 D).set 0 a).set 1 b).set 2 c = a :: b :: c :: D := by
  rw [show 3 + n = n + 1 + 1 + 1 by omega, List.replicate_succ, List.replicate_succ, List.replicate_succ, splice3 n _ _ _ D hD]; rfl
theorem bits_or (f o : Nat) (hf : f = 0 ∨ f = 1 ∨ f = 3) (ho : o < 16) : bits BinOp.or IntKind.u8 ((o : Int) * 16) (f : Int) = ((o * 16 + f : Nat) : Int) := by
  have h : ∀ o : Fin 16, bits BinOp.or IntKind.u8 ((o.val : Int) * 16) ((0 : Nat) : Int) = ((o.val * 16 + 0 : Nat) : Int) ∧ bits BinOp.or IntKind.u8 ((o.val : Int) * 16) ((1 : Nat) : Int) = ((o.val * 16 + 1 : Nat) : Int) ∧ bits BinOp.or IntKind.u8 ((o.val : Int) * 16) ((3 : Nat) : Int) = ((o.val * 16 + 3 : Nat) : Int) := by decide
  have := h ⟨o, ho⟩
  rcases hf with rfl | rfl | rfl
  · exact this.1
  · exact this.2.1
  · exact this.2.2
theorem splice4h (n : Nat) (a b c d : Int) (G : List Int) (hG : G.length = n) : splice (a :: b :: c :: d :: List.replicate n 0) 4 G = a :: b :: c :: d :: G := by
  unfold splice
  rw [List.drop_eq_nil_of_le (by simp; omega)]
  simp
theorem head4f (n : Nat) (a b c d : Int) (D : List Int) (hD : D.length = n) : ((((splice (List.replicate (4 + n) (0 : Int)) 4 D).set 0 a).set 1 b).set 2 c).set 3 d = a :: b :: c :: d :: D := by
  rw [show 4 + n = n + 1 + 1 + 1 + 1 by omega, List.replicate_succ, List.replicate_succ, List.replicate_succ, List.replicate_succ, splice4h n _ _ _ _ D hD]; rfl
theorem tsB_splice (f o s u R : Nat) (D X : List Int) : splice (tsB f o s u D) (4 + R) X = tsB f o s u (splice D R X) := by
  unfold splice tsB
  rw [show 4 + R = R + 4 by omega, show R + 4 + X.length = (R + X.length) + 4 by omega]
  simp
theorem inB_new (w : World) (xs : List Int) : InB (w.alloc (.cells (xs.map (Value.int .u8)).toArray 5)) (some ⟨w.heap.size, 0, none⟩) xs := fun _ => ⟨w.heap.size, 0, rfl, by simp, fun i hi => by
  rw [Nat.zero_add, cell_of_row _ _ _ _ _ _ (heap_alloc_new w (.cells (xs.map (Value.int .u8)).toArray 5))]
  simp [List.getD, List.getElem?_eq_getElem hi]⟩
theorem Sl.sat {w : World} {B : Nat} {v : Value} {L : List Int} {d : Nat} (h : Sl w B v L) (hd2 : 2 < d ∧ d ≤ B) (hd : d < w.heap.size) : ∃ g, SAt v g L 0 ∧ Rd w g L ∧ 2 < g ∧ g < w.heap.size := by
  rcases h.view with ⟨rfl, rfl⟩ | ⟨g, c, rfl, hb, hP⟩
  · exact ⟨d, ⟨none, 0, rfl, by simp, by simp, by simp⟩, ⟨hd, by simp, by simp⟩, hd2.1, hd⟩
  · exact ⟨g, ⟨_, c, by simp, by have := hP.le; omega, by simp, fun _ => rfl⟩, ⟨hP.lt, fun i hi => hP.cellD i hi, hP.bytes⟩, by omega, hP.lt⟩
end Go.Proofs.YbulkblgyDoor
