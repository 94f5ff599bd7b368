/- LawS3105BRaw: the walk. -/
import Derived.Test.YbulkblgyDoorRep
import Derived.Test.YbulkblgyDoorOwn
import Derived.Deep.DeepMust
namespace Go.Proofs.YbulkblgyDoor
open Go.RowKit

/-- The buffer while it is filled. -/
def filled (N i : Nat) : List Int := List.replicate i 170 ++ List.replicate (N - i) 0
theorem filled_set (N i : Nat) (h : i < N) : (filled N i).set i 170 = filled N (i + 1) := by
  unfold filled
  rw [List.set_append_right _ _ (by simp), List.length_replicate, Nat.sub_self]
  obtain ⟨m, hm⟩ : ∃ m, N - i = m + 1 := ⟨N - i - 1, by omega⟩
  rw [hm, show N - (i + 1) = m by omega, List.replicate_succ, List.set_cons_zero, List.replicate_succ' , List.append_assoc]
  rfl
theorem filled_len (N i : Nat) (h : i ≤ N) : (filled N i).length = N := by simp [filled]; omega
theorem filled_all (N : Nat) : filled N N = List.replicate N 170 := by simp [filled]

theorem comp67 : (Ybad.prog.info? 67).map (·.comparable) = some true := by kernel_rfl
theorem size87 : (Ybad.prog.info? 87).map (·.size) = some 1 := by kernel_rfl
theorem cell4 {w : World} {b : Nat} {t : TypeId} {v0 v1 v2 v3 : Value} (h : w.heap[b]? = some (.cells #[v0, v1, v2, v3] t (0, 0))) :
    w.cell? ⟨b, 0, none⟩ = some v0 ∧ w.cell? ⟨b, 1, none⟩ = some v1 ∧ w.cell? ⟨b, 2, none⟩ = some v2 ∧ w.cell? ⟨b, 3, none⟩ = some v3 := by
  simp [World.cell?, h]
/-- How the answer of ReplyIPv4Options reads. -/
def RForm (bb : Nat) (Cb : List Int) (za : Addr) (eb em : Value) (k x : Int) (zo : Option Addr) (s : Value) (wk : World) : Rt → Prop
  | .bad => k = 0 ∧ x = 0 ∧ zo = none ∧ s = .iface 67 eb
  | .skip => k = 0 ∧ x = 0 ∧ zo = none ∧ s = .iface 67 em
  | .ok out dst => k = out.length ∧ x = numL dst ∧ zo = some za ∧ s = .nilIface ∧ Row wk bb 5 (splice Cb 0 out)
theorem RvPost.form {bb : Nat} {Cb : List Int} {za : Addr} {eb em : Value} {e : Ending} {w' : World} {r : Rt} (h : RvPost bb Cb za eb em e w' r) :
    ∃ k x zo s, e = .returned (.tuple #[.int .i64 k, .agg #[.int .u64 0, .int .u64 x, .pointer zo], s]) ∧ RForm bb Cb za eb em k x zo s w' r := by
  cases r with
  | bad => exact ⟨0, 0, none, _, h, rfl, rfl, rfl, rfl⟩
  | skip => exact ⟨0, 0, none, _, h, rfl, rfl, rfl, rfl⟩
  | ok out dst => exact ⟨_, _, some za, _, h.1, rfl, rfl, rfl, rfl, h.2⟩
theorem RForm.kept {bb : Nat} {Cb : List Int} {za : Addr} {eb em : Value} {k x : Int} {zo : Option Addr} {s : Value} {w w' : World} {r : Rt} {q : Option Nat} (h : RForm bb Cb za eb em k x zo s w r) (hg : w.grownBy w' q) (hne : some bb ≠ q) : RForm bb Cb za eb em k x zo s w' r := by
  cases r with
  | bad => exact h
  | skip => exact h
  | ok out dst => exact ⟨h.1, h.2.1, h.2.2.1, h.2.2.2.1, h.2.2.2.2.kept hg hne⟩

theorem closeA {bb : Nat} {Cb : List Int} {za : Addr} {eb em : Value} {k x : Int} {zo : Option Addr} {s14 : Value} {wr wq : World} {r : Rt} (hwq : wr.grownBy wq (some bb)) (hfm : RForm bb Cb za eb em k x zo s14 wq r) :
    ∃ TB k' x' zo', Value.pointer (some ⟨wq.heap.size, 0, none⟩) = .pointer (some ⟨TB, 0, none⟩) ∧ wr.heap.size ≤ TB ∧ wr.grownBy (wq.alloc (.cells #[.int .u64 0, .int .u64 x, .pointer zo] 43)) (some bb) ∧ (wq.alloc (.cells #[.int .u64 0, .int .u64 x, .pointer zo] 43)).heap[TB]? = some (.cells #[.int .u64 0, .int .u64 x', .pointer zo'] 43 (0, 0)) ∧ Value.int .i64 k = .int .i64 k' ∧ RForm bb Cb za eb em k' x' zo' s14 (wq.alloc (.cells #[.int .u64 0, .int .u64 x, .pointer zo] 43)) r :=
  ⟨wq.heap.size, k, x, zo, rfl, hwq.size, gb_trans hwq (gb_alloc _ _ _), heap_alloc_new wq _, rfl, hfm.kept (gb_alloc wq _ none) (by simp)⟩
theorem closeB {bb T : Nat} {Cb : List Int} {za : Addr} {eb em : Value} {k x : Int} {zo : Option Addr} {s14 : Value} {wr wq : World} {r : Rt} (hwq : wr.grownBy wq (some bb)) (hfm : RForm bb Cb za eb em k x zo s14 wq r) (hT : wr.heap.size ≤ T) (hTq : wq.heap[T]? = some (.cells #[.int .u64 0, .int .u64 0, .pointer none] 43 (0, 0))) (hTn : some T ≠ some bb) :
    ∃ TB k' x' zo', Value.pointer (some ⟨T, 0, none⟩) = .pointer (some ⟨TB, 0, none⟩) ∧ wr.heap.size ≤ TB ∧ wr.grownBy (((wq.setCell ⟨T, 0, none⟩ (.int .u64 0)).setCell ⟨T, 1, none⟩ (.int .u64 x)).setCell ⟨T, 2, none⟩ (.pointer zo)) (some bb) ∧ (((wq.setCell ⟨T, 0, none⟩ (.int .u64 0)).setCell ⟨T, 1, none⟩ (.int .u64 x)).setCell ⟨T, 2, none⟩ (.pointer zo)).heap[TB]? = some (.cells #[.int .u64 0, .int .u64 x', .pointer zo'] 43 (0, 0)) ∧ Value.int .i64 k = .int .i64 k' ∧ RForm bb Cb za eb em k' x' zo' s14 (((wq.setCell ⟨T, 0, none⟩ (.int .u64 0)).setCell ⟨T, 1, none⟩ (.int .u64 x)).setCell ⟨T, 2, none⟩ (.pointer zo)) r :=
  ⟨T, k, x, zo, rfl, hT, gb_new hwq (gb_trans (gb_trans (gb_set _ _ _ _) (gb_set _ _ _ _)) (gb_set _ _ _ _)) hT, set3_heap hTq _ _ _, rfl, hfm.kept (gb_trans (gb_trans (gb_set _ _ _ _) (gb_set _ _ _ _)) (gb_set _ _ _ _)) (fun h => hTn h.symm)⟩

set_option maxRecDepth 100000 in
set_option maxHeartbeats 80000000 in
theorem raw_short (ao : Option Addr) (n cap : Nat) (L : List Int) (p0 p1 p2 p3 q0 q1 q2 q3 ms : Int) (za ab am : Addr) (ca cm : Array Value) (ta tm : TypeId) (w : World) (hL : L.length = n) (hn : n ≤ 1024) (hLb : ∀ y ∈ L, 0 ≤ y ∧ y < 256) (hI : InB w ao L) (hw : 4 < w.heap.size)
    (h0 : w.cell? ⟨0, 0, none⟩ = some (.iface 67 (.pointer (some am)))) (h1 : w.cell? ⟨1, 0, none⟩ = some (.iface 67 (.pointer (some ab)))) (h2 : w.cell? ⟨2, 0, none⟩ = some (.pointer (some za))) (hne : ab ≠ am) (hca : w.heap[ab.block]? = some (.cells ca ta (0, 0))) (hcm : w.heap[am.block]? = some (.cells cm tm (0, 0)))
    (hp : ∀ x ∈ [p0, p1, p2, p3], 0 ≤ x ∧ x < 256) (hq : ∀ x ∈ [q0, q1, q2, q3], 0 ≤ x ∧ x < 256) (m0 : 0 ≤ ms) (m1 : ms < 4294967296) :
    Calls Ybad.prog 4 #[.slice ao n cap, q4 p0 p1 p2 p3, q4 q0 q1 q2 q3, .int .u32 ms] w fun e w' => e = .returned (.bool true) ∧ w.grownBy w' none := by
  obtain ⟨W, hW⟩ : ∃ W, W = (w.alloc (.cells #[.int .u8 p0, .int .u8 p1, .int .u8 p2, .int .u8 p3] 22)).alloc (.cells #[.int .u8 q0, .int .u8 q1, .int .u8 q2, .int .u8 q3] 22) := ⟨_, rfl⟩
  have gA : w.grownBy W none := by rw [hW]; exact gb_trans (gb_alloc _ _ _) (gb_alloc _ _ _)
  have bs : W.heap[w.heap.size]? = some (.cells #[.int .u8 p0, .int .u8 p1, .int .u8 p2, .int .u8 p3] 22 (0, 0)) := by
    rw [hW, heap_alloc_old _ _ (by simp)]
    exact heap_alloc_new w _
  have bf : W.heap[w.heap.size + 1]? = some (.cells #[.int .u8 q0, .int .u8 q1, .int .u8 q2, .int .u8 q3] 22 (0, 0)) := by
    have := heap_alloc_new (w.alloc (.cells #[.int .u8 p0, .int .u8 p1, .int .u8 p2, .int .u8 p3] 22)) (.cells #[.int .u8 q0, .int .u8 q1, .int .u8 q2, .int .u8 q3] 22)
    rw [hW]
    simpa using this
  have hni : (n : Int) ≤ 1024 := by omega
  go_enter Ybad.func4, Ybad.ntmps4
  go_upto_region 3 with fail
  rw [← hW]
  clear hW
  generalize hB1 : w.heap.size + 1 = B1 at *
  have HB1 := hide hB1
  clear hB1
  have w3 : 3 < W.heap.size := by have := gA.size; omega
  go_cut [9] (fun s9 wk => ∃ g, (∃ al c, s9 = .slice al n c) ∧ SAt s9 g L 0 ∧ Rd wk g L ∧ 2 < g ∧ g < wk.heap.size ∧ W.grownBy wk none)
  case first =>
    go_wp2_with (at_builtin; refine wpList_own W rfl _ _ rfl ao n cap L rfl rfl hL hLb (hI.kept gA) w3 (by omega) ?_; rintro v g w' ⟨al, c, rfl⟩ k1 k2 k3 k4 k5)
    go_meet
    exact ⟨g, ⟨_, _, rfl⟩, k1, k2, k3, k4, k5⟩
  case rest =>
    obtain ⟨g, ⟨al, c, rfl⟩, hA, hRd, hg2, hglt, gB⟩ := hcut
    obtain ⟨N, hN⟩ : ∃ N, N = n + 3 := ⟨_, rfl⟩
    have hNi : (n : Int) + 3 = (N : Int) := by omega
    have hNw := IntWalk.i64_in (N : Int) (by omega)
    have hmk := run_bytes wc N (by omega)
    have hrow := made_row wc N
    have gM : wc.grownBy (wc.alloc (.cells (madeCells #[.int .u8 0] N) 5)) none := gb_alloc _ _ _
    have HN := hide hN
    have hN3 : 3 ≤ N := by omega
    have hN9 : N ≤ 2000 := by omega
    clear hN
    go_wp2
    clear hmk
    obtain ⟨bb, hbb⟩ : ∃ bb, wc.heap.size = bb := ⟨_, rfl⟩
    rw [hbb] at hrow ⊢
    generalize wc.alloc (.cells (madeCells #[.int .u8 0] N) 5) = wm at *
    have Hbb := hide hbb
    clear hbb
    go_loopw [29] (fun s29 wr => ∃ i : Nat, i ≤ N ∧ s29 = .int .i64 i ∧ Row wr bb 5 (filled N i) ∧ wm.grownBy wr (some bb)) (fun s29 _ => N - (intOf s29).toNat)
    case atStart => exact ⟨0, by omega, rfl, by simpa [filled] using hrow, gb_refl _ _⟩
    case round =>
      obtain ⟨i, hi, rfl, hRi, hgi⟩ := hrel
      by_cases hlt : i < N
      · have hil : (i : Int) < (N : Int) := by omega
        have hfl := filled_len N i hi
        have c0 := hRi.cellD i (by omega)
        generalize (filled N i).getD i 0 = y0 at c0
        have z0 := hRi.frozen i
        have hR2 := hRi.set i (by omega) 170 (by omega) (by omega)
        rw [filled_set N i hlt] at hR2
        have HR2 := hide hR2
        clear hR2
        go_wp2
        exact ⟨⟨i + 1, by omega, by go_num, HR2.out, gb_trans hgi (gb_set _ _ _ _)⟩, by simp [intOf]; omega⟩
      · have hiN : N = i := by omega
        subst hiN
        rw [filled_all] at hRi
        have sA := gA.size
        have sB := gB.size
        have sM := gM.size
        have hb0 := Hbb.out
        have hBB := HB1.out
        have hbw : w.heap.size ≤ bb := by omega
        have gAll : w.grownBy wr none := gb_new (gb_trans gA (gb_trans gB gM)) hgi hbw
        have hgbb : g ≠ bb := by omega
        have hbw' : w.heap.size < bb := by have := heap_lt bs; omega
        have hRg := (hRd.kept gM (by simp)).kept hgi (by simpa using hgbb)
        have lt1 : B1 < W.heap.size := heap_lt bf
        have bs' : wr.heap[w.heap.size]? = some (.cells #[.int .u8 p0, .int .u8 p1, .int .u8 p2, .int .u8 p3] 22 (0, 0)) := by
          rw [hgi.block _ (by omega) (by simp; omega), gM.block _ (by omega) (by simp), gB.block _ (by omega) (by simp)]; exact bs
        have bf' : wr.heap[B1]? = some (.cells #[.int .u8 q0, .int .u8 q1, .int .u8 q2, .int .u8 q3] 22 (0, 0)) := by
          rw [hgi.block _ (by omega) (by simp; omega), gM.block _ (by omega) (by simp), gB.block _ (by omega) (by simp)]; exact bf
        have g0 := (gAll.cell_far ⟨0, 0, none⟩ (by show 0 < _; omega) (by simp)).trans h0
        have g1 := (gAll.cell_far ⟨1, 0, none⟩ (by show 1 < _; omega) (by simp)).trans h1
        have g2 := (gAll.cell_far ⟨2, 0, none⟩ (by show 2 < _; omega) (by simp)).trans h2
        have hIr := hI.kept gAll
        have hNL : L.length + 3 ≤ N := by have := HN.out; omega
        have hbb2 : 2 < bb := by omega
        have hlw : w.heap.size < wr.heap.size := heap_lt bs'
        have hl1 : B1 < wr.heap.size := heap_lt bf'
        have hz2 : 2 < wr.heap.size := by omega
        have hlbb : bb < wr.heap.size := hRi.lt
        have g2d : wr.drew.cell? ⟨2, 0, none⟩ = some (.pointer (some za)) := g2
        have hz2d : 2 < wr.drew.heap.size := hz2
        clear gA gB gM hgi sA sB sM bs bf hrow hglt hRd w3 hNi hNw HN Hbb HB1 hb0 hBB lt1
        have pb0 := hp p0 (by simp)
        have pb1 := hp p1 (by simp)
        have pb2 := hp p2 (by simp)
        have pb3 := hp p3 (by simp)
        have qb0 := hq q0 (by simp)
        have qb1 := hq q1 (by simp)
        have qb2 := hq q2 (by simp)
        have qb3 := hq q3 (by simp)
        obtain ⟨a0, a1, a2, a3⟩ := cell4 bs'
        obtain ⟨c0, c1, c2, c3⟩ := cell4 bf'
        go_upto_region 10 with fail
        have hG2 : ∀ u, wr.grownBy u none → u.cell? ⟨2, 0, none⟩ = some (.pointer (some za)) ∧ 2 < u.heap.size ∧ w.heap.size < u.heap.size ∧ B1 < u.heap.size := fun u hu => ⟨(hu.cell_far ⟨2, 0, none⟩ hz2 (by simp)).trans g2, Nat.lt_of_lt_of_le hz2 hu.size, Nat.lt_of_lt_of_le hlw hu.size, Nat.lt_of_lt_of_le hl1 hu.size⟩
        have hG0 : ∀ u, wr.grownBy u none → u.cell? ⟨0, 0, none⟩ = some (.iface 67 (.pointer (some am))) ∧ u.cell? ⟨1, 0, none⟩ = some (.iface 67 (.pointer (some ab))) := fun u hu => ⟨(hu.cell_far ⟨0, 0, none⟩ (by show 0 < _; omega) (by simp)).trans g0, (hu.cell_far ⟨1, 0, none⟩ (by show 1 < _; omega) (by simp)).trans g1⟩
        have hlc : (List.replicate N (170 : Int)).length = N := by simp
        have hN99 : N ≤ 10000 := by omega
        have HG2 := hide hG2
        have HG0 := hide hG0
        have gd : wr.grownBy wr.drew none := gb_drew _ _
        have gd2 := hG2 _ gd
        have ge : wr.grownBy (wr.alloc (.cells #[.int .u64 0, .int .u64 0, .pointer none] 43)).drew none := gb_trans (gb_alloc _ _ _) (gb_drew _ _)
        have ge2 := hG2 _ ge
        clear hG2 hG0
        go_cut [12, 13, 14] (fun s12 s13 s14 wk => ∃ TB k x zo, s13 = .pointer (some ⟨TB, 0, none⟩) ∧ wr.heap.size ≤ TB ∧ wr.grownBy wk (some bb) ∧ wk.heap[TB]? = some (.cells #[.int .u64 0, .int .u64 x, .pointer zo] 43 (0, 0)) ∧ s12 = .int .i64 k ∧ RForm bb (List.replicate N 170) za (.pointer (some ab)) (.pointer (some am)) k x zo s14 wk (reply L [p0, p1, p2, p3] [q0, q1, q2, q3] ms))
        case first =>
          clear h0 h1 h2 hne hca hcm hI hLb hIr hL g0 g1 g2 g2d hz2d gAll hw hbw hn
          go_region_with (first
            | (go_at_call 9; (with_reducible refine Calls.mono (from4 p0 p1 p2 p3 za wr.drew (gd2).1 (gd2).2.1 pb0.1 pb0.2 pb1.1 pb1.2 pb2.1 pb2.2 pb3.1 pb3.2) ?_); rintro e wa ⟨rfl, hga⟩; have hwa : wr.grownBy wa none := gb_trans gd hga; obtain ⟨a0', a1', a2', a3'⟩ := cell4 ((hwa.block _ hlw (by simp)).trans bs'); obtain ⟨c0', c1', c2', c3'⟩ := cell4 ((hwa.block _ hl1 (by simp)).trans bf'); have gwa : wr.grownBy (wa.alloc (.cells #[.int .u64 0, .int .u64 0, .pointer none] 43)) none := gb_trans hwa (gb_alloc _ _ _); have gwa2 := HG2.out _ gwa; have hwa2 := HG2.out _ hwa)
            | (go_at_call 9; (with_reducible refine Calls.mono (from4 p0 p1 p2 p3 za (wr.alloc (.cells #[.int .u64 0, .int .u64 0, .pointer none] 43)).drew (ge2).1 (ge2).2.1 pb0.1 pb0.2 pb1.1 pb1.2 pb2.1 pb2.2 pb3.1 pb3.2) ?_); rintro e wa ⟨rfl, hga⟩; have hwa : wr.grownBy wa none := gb_trans ge hga; obtain ⟨a0', a1', a2', a3'⟩ := cell4 ((hwa.block _ hlw (by simp)).trans bs'); obtain ⟨c0', c1', c2', c3'⟩ := cell4 ((hwa.block _ hl1 (by simp)).trans bf'); have gwa : wr.grownBy (wa.alloc (.cells #[.int .u64 0, .int .u64 0, .pointer none] 43)) none := gb_trans hwa (gb_alloc _ _ _); have gwa2 := HG2.out _ gwa; have hwa2 := HG2.out _ hwa; have hTa : wa.heap[wr.heap.size]? = some (.cells #[.int .u64 0, .int .u64 0, .pointer none] 43 (0, 0)) := (hga.block wr.heap.size (by simp) (by simp)).trans (heap_alloc_new wr (.cells #[.int .u64 0, .int .u64 0, .pointer none] 43)))
            | (go_at_call 9; (with_reducible refine Calls.mono (from4 q0 q1 q2 q3 za wa (hwa2).1 (hwa2).2.1 qb0.1 qb0.2 qb1.1 qb1.2 qb2.1 qb2.2 qb3.1 qb3.2) ?_); rintro e wb ⟨rfl, hgb⟩; have hwb : wr.grownBy wb none := gb_trans hwa hgb; have gwb : wr.grownBy (wb.alloc (.cells #[.int .u64 0, .int .u64 0, .pointer none] 43)) none := gb_trans hwb (gb_alloc _ _ _); have gwb2 := HG2.out _ gwb; have hwb2 := HG2.out _ hwb; have gwb0 := HG0.out _ gwb; have hwb0 := HG0.out _ hwb; have gR := hRg.kept gwb (by simp); have gI := hRi.kept gwb (by simp); have hR' := hRg.kept hwb (by simp); have hI' := hRi.kept hwb (by simp); have hTb := (hgb.block _ (heap_lt hTa) (by simp)).trans hTa; have hTn : some wr.heap.size ≠ some bb := (by simp; omega))
            | (go_at_call 9; (with_reducible refine Calls.mono (from4 q0 q1 q2 q3 za wa (hwa2).1 (hwa2).2.1 qb0.1 qb0.2 qb1.1 qb1.2 qb2.1 qb2.2 qb3.1 qb3.2) ?_); rintro e wb ⟨rfl, hgb⟩; have hwb : wr.grownBy wb none := gb_trans hwa hgb; have gwb : wr.grownBy (wb.alloc (.cells #[.int .u64 0, .int .u64 0, .pointer none] 43)) none := gb_trans hwb (gb_alloc _ _ _); have gwb2 := HG2.out _ gwb; have hwb2 := HG2.out _ hwb; have gwb0 := HG0.out _ gwb; have hwb0 := HG0.out _ hwb; have gR := hRg.kept gwb (by simp); have gI := hRi.kept gwb (by simp); have hR' := hRg.kept hwb (by simp); have hI' := hRi.kept hwb (by simp))
            | (go_at_call 9; (with_reducible refine Calls.mono (from4 q0 q1 q2 q3 za (wa.alloc (.cells #[.int .u64 0, .int .u64 0, .pointer none] 43)) (gwa2).1 (gwa2).2.1 qb0.1 qb0.2 qb1.1 qb1.2 qb2.1 qb2.2 qb3.1 qb3.2) ?_); rintro e wb ⟨rfl, hgb⟩; have hwb : wr.grownBy wb none := gb_trans gwa hgb; have gwb : wr.grownBy (wb.alloc (.cells #[.int .u64 0, .int .u64 0, .pointer none] 43)) none := gb_trans hwb (gb_alloc _ _ _); have gwb2 := HG2.out _ gwb; have hwb2 := HG2.out _ hwb; have gwb0 := HG0.out _ gwb; have hwb0 := HG0.out _ hwb; have gR := hRg.kept gwb (by simp); have gI := hRi.kept gwb (by simp); have hR' := hRg.kept hwb (by simp); have hI' := hRi.kept hwb (by simp); have hTb : wb.heap[wa.heap.size]? = some (.cells #[.int .u64 0, .int .u64 0, .pointer none] 43 (0, 0)) := (hgb.block wa.heap.size (by simp) (by simp)).trans (heap_alloc_new wa (.cells #[.int .u64 0, .int .u64 0, .pointer none] 43)); have hTn : some wa.heap.size ≠ some bb := (by have := hwa.size; simp; omega))
            | (go_at_call 8; (with_reducible refine Calls.mono (reply_any g bb N L (List.replicate N 170) (.slice al n c) p0 p1 p2 p3 q0 q1 q2 q3 ms za (.pointer (some ab)) (.pointer (some am)) wb hR' hA hI' hgbb hg2 hbb2 hlc hNL hN99 hwb0.1 hwb0.2 hwb2.1 hp hq m0 m1) ?_); rintro e wq ⟨hm, hgq⟩; obtain ⟨k, x, zo, s14, rfl, hfm⟩ := hm.form; have hwq : wr.grownBy wq (some bb) := gb_trans (gb_some _ hwb) hgq; have hTq := (hgq.block _ (heap_lt hTb) hTn).trans hTb; obtain ⟨t0, t1, t2, tz0, tz1, tz2⟩ := cell3 hTq)
            | (go_at_call 8; (with_reducible refine Calls.mono (reply_any g bb N L (List.replicate N 170) (.slice al n c) p0 p1 p2 p3 q0 q1 q2 q3 ms za (.pointer (some ab)) (.pointer (some am)) wb hR' hA hI' hgbb hg2 hbb2 hlc hNL hN99 hwb0.1 hwb0.2 hwb2.1 hp hq m0 m1) ?_); rintro e wq ⟨hm, hgq⟩; obtain ⟨k, x, zo, s14, rfl, hfm⟩ := hm.form; have hwq : wr.grownBy wq (some bb) := gb_trans (gb_some _ hwb) hgq)
            | (go_at_call 8; (with_reducible refine Calls.mono (reply_any g bb N L (List.replicate N 170) (.slice al n c) p0 p1 p2 p3 q0 q1 q2 q3 ms za (.pointer (some ab)) (.pointer (some am)) (wb.alloc (.cells #[.int .u64 0, .int .u64 0, .pointer none] 43)) gR hA gI hgbb hg2 hbb2 hlc hNL hN99 gwb0.1 gwb0.2 gwb2.1 hp hq m0 m1) ?_); rintro e wq ⟨hm, hgq⟩; obtain ⟨k, x, zo, s14, rfl, hfm⟩ := hm.form; have hwq : wr.grownBy wq (some bb) := gb_trans (gb_some _ gwb) hgq; have hTn : some wb.heap.size ≠ some bb := (by have := hwb.size; simp; omega); have hTq : wq.heap[wb.heap.size]? = some (.cells #[.int .u64 0, .int .u64 0, .pointer none] 43 (0, 0)) := (hgq.block wb.heap.size (by simp) hTn).trans (heap_alloc_new wb (.cells #[.int .u64 0, .int .u64 0, .pointer none] 43)); obtain ⟨t0, t1, t2, tz0, tz1, tz2⟩ := cell3 hTq))
          all_goals
            go_wp2_with fail
            first | go_meet | (simp [Act.put]; go_meet)
            first
              | exact closeA hwq hfm
              | exact closeB hwq hfm (by first | exact hwb.size | exact hwa.size | exact Nat.le_refl _) hTq hTn
        case rest =>
          obtain ⟨TB, kk, xx, zo, rfl, hTB, hgk, hto, rfl, hout⟩ := hcut
          have gK : w.grownBy wc none := gb_new gAll hgk hbw
          have hRk := hRg.kept hgk (by simpa using hgbb)
          have hOwn : InB wc al L := fun hpos => by
            obtain ⟨a', c', e1, _, _, e2⟩ := hA
            simp only [Value.slice.injEq] at e1
            obtain ⟨rfl, _, _⟩ := e1
            exact ⟨g, 0, e2 hpos, hRk.lt, fun i hi => by rw [Nat.zero_add]; exact hRk.cellD i hi⟩
          have hOpt : InB wc ao L := hI.kept gK
          have k0 := (gK.cell_far ⟨0, 0, none⟩ (by show 0 < _; omega) (by simp)).trans h0
          have k1 := (gK.cell_far ⟨1, 0, none⟩ (by show 1 < _; omega) (by simp)).trans h1
          have k2 := (gK.cell_far ⟨2, 0, none⟩ (by show 2 < _; omega) (by simp)).trans h2
          have ps : wc.heap[w.heap.size]? = some (.cells #[.int .u8 p0, .int .u8 p1, .int .u8 p2, .int .u8 p3] 22 (0, 0)) := by
            rw [hgk.block _ hlw (by simp; omega)]; exact bs'
          have zk2 : 2 < wc.heap.size := Nat.lt_of_lt_of_le hz2 hgk.size
          clear a0 a1 a2 a3 c0 c1 c2 c3 g0 g1 g2 bs' bf' hRi hRg hIr hA hRk
          obtain ⟨i67, hi67, hcmp⟩ := Option.map_eq_some_iff.1 comp67
          obtain ⟨j87, hj87, hjs⟩ := Option.map_eq_some_iff.1 size87
          have e38n : ∀ u, (Op.equalIn 9999 38 (.agg #[.int .u64 0, .int .u64 0]) (.agg #[.int .u64 0, .int .u64 0])).run Ybad.prog u = .ok true u := fun u => by simpa using equalIn38 u 9997 0 0
          have e41n : ∀ u, (Op.equalIn 9999 41 (.agg #[.pointer none]) (.agg #[.pointer none])).run Ybad.prog u = .ok true u := fun u => equalIn41nil u 9997
          have eqb : ∀ u, (binOp .eql 45 (.iface 67 (.pointer (some ab))) (.iface 67 (.pointer (some ab)))).run Ybad.prog u = .ok (.bool true) u := fun u => run_eql_iface_ptr_same (P := Ybad.prog) u ab Ybad.underlying45 Ybad.underlying67 hi67 hcmp hj87
          have eqm : ∀ u, (binOp .eql 45 (.iface 67 (.pointer (some am))) (.iface 67 (.pointer (some am)))).run Ybad.prog u = .ok (.bool true) u := fun u => run_eql_iface_ptr_same (P := Ybad.prog) u am Ybad.underlying45 Ybad.underlying67 hi67 hcmp hj87
          cases hrt : reply L [p0, p1, p2, p3] [q0, q1, q2, q3] ms with
          | bad =>
            rw [hrt] at hout
            obtain ⟨rfl, rfl, rfl, rfl⟩ := hout
            go_wp2_with (go_at_call 7; go_must (with_reducible refine Calls.mono (eq_any al ao n c cap L _ hL (by omega) hOwn hOpt) ?_); rintro e we ⟨rfl, hge⟩; have k1e := (hge.cell_far ⟨1, 0, none⟩ (by show 1 < _; omega) (by simp)).trans k1; have hlte : TB < we.heap.size := Nat.lt_of_lt_of_le (heap_lt hto) hge.size; have hlt1 : 1 < we.heap.size := Nat.lt_of_lt_of_le (Nat.lt_trans (by decide) zk2) hge.size; obtain ⟨t0, t1, t2, _, _, _⟩ := cell3 ((hge.block _ (heap_lt hto) (by simp)).trans hto))
            go_ret
            exact ⟨rfl, gb_trans gK (gb_trans hge (gb_alloc _ _ _))⟩
          | skip =>
            rw [hrt] at hout
            obtain ⟨rfl, rfl, rfl, rfl⟩ := hout
            have hba := (gK.block _ (heap_lt hca) (by simp)).trans hca
            have hbm := (gK.block _ (heap_lt hcm) (by simp)).trans hcm
            go_wp2_with (go_at_call 7; go_must (with_reducible refine Calls.mono (eq_any al ao n c cap L _ hL (by omega) hOwn hOpt) ?_); rintro e we ⟨rfl, hge⟩; have k1e := (hge.cell_far ⟨1, 0, none⟩ (by show 1 < _; omega) (by simp)).trans k1; have k0e := (hge.cell_far ⟨0, 0, none⟩ (by show 0 < _; omega) (by simp)).trans k0; have hlte : TB < we.heap.size := Nat.lt_of_lt_of_le (heap_lt hto) hge.size; have hlt1 : 1 < we.heap.size := Nat.lt_of_lt_of_le (Nat.lt_trans (by decide) zk2) hge.size; have hlt0 : 0 < we.heap.size := (by omega); obtain ⟨t0, t1, t2, _, _, _⟩ := cell3 ((hge.block _ (heap_lt hto) (by simp)).trans hto); have eqo := run_eql_iface_ptr_other (P := Ybad.prog) (we.alloc (.cells #[.int .u64 0, .int .u64 0, .pointer none] 43)) Ybad.underlying45 Ybad.underlying67 hi67 hcmp hj87 (by rw [hjs]; decide) (Ne.symm hne) (((gb_trans hge (gb_alloc we (.cells #[.int .u64 0, .int .u64 0, .pointer none] 43) none)).block _ (heap_lt hbm) (by simp)).trans hbm) (((gb_trans hge (gb_alloc we (.cells #[.int .u64 0, .int .u64 0, .pointer none] 43) none)).block _ (heap_lt hba) (by simp)).trans hba))
            go_ret
            exact ⟨rfl, gb_trans gK (gb_trans hge (gb_alloc _ _ _))⟩
          | ok out dst =>
            rw [hrt] at hout
            obtain ⟨rfl, rfl, rfl, rfl, hRo⟩ := hout
            obtain ⟨m2, m3, m4, m5⟩ := reply_raw rfl rfl hrt
            have hoN : out.length ≤ N := by omega
            have hlen : (splice (List.replicate N (170 : Int)) 0 out).length = N := by rw [splice_len _ _ _ (by simp; omega)]; simp
            have hsp : splice (List.replicate N (170 : Int)) 0 out = out ++ List.replicate (N - out.length) 170 := by simp [splice]
            have hc17 : ∀ i, out.length ≤ i → i < N → wc.cell? ⟨bb, i, none⟩ = some (.int .u8 170) := by
              intro i hi1 hi2
              have := hRo.cellD i (by omega)
              rw [this, hsp, List.getD_eq_getElem?_getD, List.getElem?_append_right hi1, List.getElem?_replicate_of_lt (by omega)]
              rfl
            have hc0 : out ≠ [] → wc.cell? ⟨bb, 0, none⟩ = some (.int .u8 (out.getD 0 0)) := by
              intro hne'
              have := hRo.cellD 0 (by omega)
              rw [this, hsp, List.getD_eq_getElem?_getD, List.getElem?_append_left (by cases out with | nil => exact absurd rfl hne' | cons => simp), ← List.getD_eq_getElem?_getD]
            have hlk : bb < wc.heap.size := hRo.lt
            obtain ⟨o, ho⟩ : ∃ o, out.length = o := ⟨_, rfl⟩
            rw [ho] at m2 m3 hoN hc17 ⊢
            have HO := hide ho
            have Hc := hide hc17
            have t4 : (o : Int).tmod 4 = 0 := by rw [Int.tmod_eq_emod_of_nonneg (by omega)]; omega
            have t5 : (o : Int) % 4 = 0 := by omega
            have t6 : (o : Int) ≤ (N : Int) := by omega
            clear ho hc17 hRo hlen hsp
            go_wp2_with (go_at_call 7; go_must (with_reducible refine Calls.mono (eq_any al ao n c cap L _ hL (by omega) hOwn hOpt) ?_); rintro e we ⟨rfl, hge⟩; have hlte : TB < we.heap.size := Nat.lt_of_lt_of_le (heap_lt hto) hge.size)
            have gZ : wc.grownBy (we.alloc (.cells #[.int .u64 0, .int .u64 0, .pointer none] 43)) none := gb_trans hge (gb_alloc _ _ _)
            generalize we.alloc (.cells #[.int .u64 0, .int .u64 0, .pointer none] 43) = wz at *
            go_loopw [16] (fun s16 wl => ∃ i : Nat, o ≤ i ∧ i ≤ N ∧ s16 = .int .i64 i ∧ wl = wz) (fun s16 _ => N - (intOf s16).toNat)
            case atStart => exact ⟨o, Nat.le_refl _, hoN, rfl, rfl⟩
            case round =>
              obtain ⟨i, hi1, hi2, rfl, rfl⟩ := hrel
              by_cases hlt : i < N
              · have hil : (i : Int) < (N : Int) := by omega
                have ci := (gZ.cell_far ⟨bb, i, none⟩ hlk (by simp)).trans (Hc.out i hi1 hlt)
                go_wp2
                exact ⟨⟨i + 1, by omega, by omega, by go_num, by first | rfl | trivial⟩, by simp [intOf]; omega⟩
              · have hiN : N = i := by omega
                subst hiN
                by_cases hemp : out = []
                · have ho0 : o = 0 := by rw [← HO.out, hemp]; rfl
                  subst ho0
                  have hd := m4 hemp
                  subst hd
                  have hnl : numL [p0, p1, p2, p3] = num4 p0 p1 p2 p3 := rfl
                  rw [hnl] at hto
                  have hto2 := (gZ.block _ (heap_lt hto) (by simp)).trans hto
                  obtain ⟨t0, t1, t2, _, _, _⟩ := cell3 hto2
                  obtain ⟨a0, a1, a2, a3⟩ := cell4 ((gZ.block _ (heap_lt ps) (by simp)).trans ps)
                  have e38 : ∀ u, (Op.equalIn 9999 38 (.agg #[.int .u64 0, .int .u64 (num4 p0 p1 p2 p3)]) (.agg #[.int .u64 0, .int .u64 (num4 p0 p1 p2 p3)])).run Ybad.prog u = .ok true u := fun u => by simpa using equalIn38 u 9997 (num4 p0 p1 p2 p3) (num4 p0 p1 p2 p3)
                  have e41 : ∀ u, (Op.equalIn 9999 41 (.agg #[.pointer (some za)]) (.agg #[.pointer (some za)])).run Ybad.prog u = .ok true u := fun u => equalIn41 u 9997 za
                  have z2 : wr.drew.cell? ⟨2, 0, none⟩ = some (.pointer (some za)) := (gZ.cell_far ⟨2, 0, none⟩ zk2 (by simp)).trans k2
                  have zz2 : 2 < wr.drew.heap.size := Nat.lt_of_lt_of_le zk2 gZ.size
                  have hTl : TB < wr.heap.size := heap_lt hto2
                  go_wp2_with fail
                  go_region_with (go_at_call 9; (with_reducible refine Calls.mono (from4 p0 p1 p2 p3 za wr.drew z2 zz2 pb0.1 pb0.2 pb1.1 pb1.2 pb2.1 pb2.2 pb3.1 pb3.2) ?_); rintro e w9 ⟨rfl, hg9⟩; obtain ⟨t0', t1', t2', _, _, _⟩ := cell3 ((hg9.block _ hTl (by simp)).trans hto2))
                  all_goals go_wp2
                  all_goals
                    go_ret
                    exact ⟨rfl, gb_trans gK (gb_trans gZ (gb_trans (gb_drew _ _) hg9))⟩
                · have ci := (gZ.cell_far ⟨bb, 0, none⟩ hlk (by simp)).trans (hc0 hemp)
                  have hx := m5 hemp
                  have ho0 : ((o : Int) == 0) = false := beq_eq_false_iff_ne.2 (by
                    have := HO.out
                    have : out.length ≠ 0 := fun h => hemp (List.eq_nil_of_length_eq_zero h)
                    omega)
                  have hN0 : (0 : Int) < (N : Int) := by omega
                  generalize out.getD 0 0 = y at *
                  rcases hx with rfl | rfl | rfl | rfl
                  · go_wp2
                    go_ret
                    exact ⟨rfl, gb_trans gK gZ⟩
                  · go_wp2
                    go_ret
                    exact ⟨rfl, gb_trans gK gZ⟩
                  · go_wp2
                    go_ret
                    exact ⟨rfl, gb_trans gK gZ⟩
                  · go_wp2
                    go_ret
                    exact ⟨rfl, gb_trans gK gZ⟩

/-- Of more than 1024 bytes the law returns at once. -/
theorem raw_long (ao : Option Addr) (n cap : Nat) (p0 p1 p2 p3 q0 q1 q2 q3 ms : Int) (w : World) (hn : 1024 < n) :
    Calls Ybad.prog 4 #[.slice ao n cap, q4 p0 p1 p2 p3, q4 q0 q1 q2 q3, .int .u32 ms] w fun e w' => e = .returned (.bool true) ∧ w.grownBy w' none := by
  have hl : (1024 : Int) < (n : Int) := by omega
  go_enter Ybad.func4, Ybad.ntmps4
  go_wp2
  go_ret
  exact ⟨rfl, gb_trans (gb_alloc _ _ _) (gb_alloc _ _ _)⟩

theorem raw_any (ao : Option Addr) (n cap : Nat) (L : List Int) (p0 p1 p2 p3 q0 q1 q2 q3 ms : Int) (za ab am : Addr) (ca cm : Array Value) (ta tm : TypeId) (w : World) (hL : L.length = n) (hLb : ∀ y ∈ L, 0 ≤ y ∧ y < 256) (hI : InB w ao L) (hw : 4 < w.heap.size)
    (h0 : w.cell? ⟨0, 0, none⟩ = some (.iface 67 (.pointer (some am)))) (h1 : w.cell? ⟨1, 0, none⟩ = some (.iface 67 (.pointer (some ab)))) (h2 : w.cell? ⟨2, 0, none⟩ = some (.pointer (some za))) (hne : ab ≠ am) (hca : w.heap[ab.block]? = some (.cells ca ta (0, 0))) (hcm : w.heap[am.block]? = some (.cells cm tm (0, 0)))
    (hp : ∀ x ∈ [p0, p1, p2, p3], 0 ≤ x ∧ x < 256) (hq : ∀ x ∈ [q0, q1, q2, q3], 0 ≤ x ∧ x < 256) (m0 : 0 ≤ ms) (m1 : ms < 4294967296) :
    Calls Ybad.prog 4 #[.slice ao n cap, q4 p0 p1 p2 p3, q4 q0 q1 q2 q3, .int .u32 ms] w fun e w' => e = .returned (.bool true) ∧ w.grownBy w' none := by
  by_cases hn : n ≤ 1024
  · exact raw_short ao n cap L p0 p1 p2 p3 q0 q1 q2 q3 ms za ab am ca cm ta tm w hL hn hLb hI hw h0 h1 h2 hne hca hcm hp hq m0 m1
  · exact raw_long ao n cap p0 p1 p2 p3 q0 q1 q2 q3 ms w (by omega)
end Go.Proofs.YbulkblgyDoor
