/- LawS3105BModel: the argument as it came in. -/
import Derived.Test.YbulkblgyDoorMStep
import Derived.ProofKit
import Derived.ChangeSlices
import Derived.ChangeSame
import Derived.ChangeArms
import Derived.OpenShut
import Derived.Laws.IdiomArrays
import Derived.Deep.Slices
namespace Go.Proofs.YbulkblgyDoor
open Go.ChangeShapes Go.WideShapes Go.ChangeAt Go.RowKit

theorem cells5' : Ybad.prog.cellsOf 5 = 1 := by kernel_rfl
theorem cells22' : Ybad.prog.cellsOf 22 = 4 := by kernel_rfl
theorem cells27' : Ybad.prog.cellsOf 27 = 28 := by kernel_rfl
theorem addE (b off i : Nat) : (⟨b, off, none⟩ : Addr).add i = ⟨b, off + i, none⟩ := by by_cases q : i = 0 <;> simp [Addr.add, q]
/-- A slice of bytes that came in. -/
theorem inB_cells {H : Type} {enc : TypeId × Value → H} {W : World} {fuel : Nat} {c : Value} {y : DataW H × List MemPlace} (hf : DataW.trod enc Ybad.prog W 0 (fun _ => true) true fuel 25 [c] = some y) : ∃ (a : Option Addr) (n cap : Nat) (L : List Int), c = .slice a n cap ∧ L.length = n ∧ (∀ y ∈ L, 0 ≤ y ∧ y < 256) ∧ InB W a L ∧ (n : Int) ≤ 9223372036854775807 := by
  rcases open_ints Ybad.underlying25 Ybad.underlying5 cells5' hf with ⟨hcs, _⟩ | ⟨x, l, cp, zs, hcs, _, hl, hm, hz, _, hcell, hwz⟩
  · simp at hcs
    exact ⟨none, 0, 0, [], hcs, rfl, by simp, fun h => by simp at h, by simp⟩
  · simp at hcs
    simp only [if_true] at hz
    unfold maxLen at hm
    refine ⟨some x, l, cp, zs.take l, hcs, by simp; omega, fun y hy => ?_, fun hp => ?_, by omega⟩
    · have := bounds_u8 (hwz y (List.mem_of_mem_take hy))
      omega
    · have hn : 0 < l := by simp at hp; omega
      obtain ⟨b, off, spot⟩ := x
      have k0 := hcell 0 (by omega)
      have hspot : spot = none := by simpa [Addr.add] using World.cell?_spot k0
      subst hspot
      refine ⟨b, off, rfl, ?_, fun i hi => ?_⟩
      · have := World.block_lt_of_cell? _ _ k0
        simpa [Addr.add] using this
      · have hi2 : i < l := by simp at hi; omega
        have := hcell i (by omega)
        rw [addE] at this
        rw [this]
        simp [List.getElem?_take_of_lt hi2, List.getD]
/-- Four bytes. -/
theorem four_cells {H : Type} {enc : TypeId × Value → H} {W : World} {fuel : Nat} {c0 c1 c2 c3 : Value} {y : DataW H × List MemPlace} (hf : DataW.trod enc Ybad.prog W 0 (fun _ => true) true fuel 22 [c0, c1, c2, c3] = some y) :
    ∃ a b c e : Int, c0 = .int .u8 a ∧ c1 = .int .u8 b ∧ c2 = .int .u8 c ∧ c3 = .int .u8 e ∧ ∀ x ∈ [a, b, c, e], 0 ≤ x ∧ x < 256 := by
  obtain ⟨y0, y1, y2, y3, n, _, h0, h1, h2, h3⟩ := trod_array4 Ybad.underlying22 cells5' hf
  obtain ⟨a, e0, _, w0⟩ := DataW.trod_int Ybad.underlying5 h0
  obtain ⟨b, e1, _, w1⟩ := DataW.trod_int Ybad.underlying5 h1
  obtain ⟨c, e2, _, w2⟩ := DataW.trod_int Ybad.underlying5 h2
  obtain ⟨e, e3, _, w3⟩ := DataW.trod_int Ybad.underlying5 h3
  simp only [List.cons.injEq, and_true] at e0 e1 e2 e3
  have b0 := bounds_u8 w0
  have b1 := bounds_u8 w1
  have b2 := bounds_u8 w2
  have b3 := bounds_u8 w3
  exact ⟨a, b, c, e, e0, e1, e2, e3, by intro x hx; simp at hx; omega⟩
theorem fourOf {W : World} {base : Nat} {a : Addr} {cs : List Value} (h : W.cells? base a 4 = some cs) : cs.length = 4 ∧ ∀ j, j < 4 → W.cell? (a.add j) = cs[j]? := by
  exact (World.cells?_some h).2
/-- The hops that came in: the first m of them. -/
theorem hops_cells {H : Type} {enc : TypeId × Value → H} {W : World} {fuel : Nat} {c : Value} {y : DataW H × List MemPlace} (hf : DataW.trod enc Ybad.prog W 0 (fun _ => true) true fuel 24 [c] = some y) :
    ∃ (a : Option Addr) (n cap : Nat) (hops : List (List Int)), c = .slice a n cap ∧ hops.length = min n 9 ∧ Fours hops ∧ (∀ x ∈ hops, ∀ y ∈ x, 0 ≤ y ∧ y < 256) ∧ HopsAt W a hops := by
  rcases Deep.open_slice Ybad.underlying24 hf with ⟨hcs, _⟩ | ⟨x, l, cp, m, nn, D, Pl, hcs, _, hl, hm, hmm, _, hel⟩
  · simp at hcs
    exact ⟨none, 0, 0, [], hcs, rfl, fun x hx => by simp at hx, by simp, fun h => by simp at h⟩
  · simp at hcs
    simp only [if_true] at hmm
    have key : ∀ i, i < l → ∃ q : List Int, q.length = 4 ∧ (∀ y ∈ q, 0 ≤ y ∧ y < 256) ∧ ∀ j, j < 4 → W.cell? ((x.add (i * 4)).add j) = some (.int .u8 (q.getD j 0)) := by
      intro i hi
      obtain ⟨cs', h1, h2⟩ := hel i (by omega)
      rw [cells22'] at h1
      obtain ⟨hlen, hc⟩ := fourOf h1
      match cs', hlen with
      | [c0, c1, c2, c3], _ =>
        obtain ⟨a, b, c, e, e0, e1, e2, e3, hb⟩ := four_cells h2
        subst e0 e1 e2 e3
        refine ⟨[a, b, c, e], rfl, hb, fun j hj => ?_⟩
        rw [hc j hj]
        match j, hj with
        | 0, _ => rfl
        | 1, _ => rfl
        | 2, _ => rfl
        | 3, _ => rfl
    obtain ⟨Q, hQ⟩ : ∃ Q : Nat → List Int, ∀ i, i < l → (Q i).length = 4 ∧ (∀ y ∈ Q i, 0 ≤ y ∧ y < 256) ∧ ∀ j, j < 4 → W.cell? ((x.add (i * 4)).add j) = some (.int .u8 ((Q i).getD j 0)) :=
      ⟨fun i => if h : i < l then Classical.choose (key i h) else [], fun i hi => by
        have := Classical.choose_spec (key i hi)
        simpa [hi] using this⟩
    refine ⟨some x, l, cp, (List.range (min l 9)).map Q, hcs, by simp, fun z hz => ?_, fun z hz => ?_, fun hp => ?_⟩
    · obtain ⟨i, hi, rfl⟩ := List.mem_map.1 hz
      exact (hQ i (by simp at hi; omega)).1
    · obtain ⟨i, hi, rfl⟩ := List.mem_map.1 hz
      exact (hQ i (by simp at hi; omega)).2.1
    · have hl0 : 0 < l := by simp at hp; omega
      obtain ⟨b, off, spot⟩ := x
      have k0 := (hQ 0 hl0).2.2 0 (by omega)
      have hspot : spot = none := by simpa [Addr.add] using World.cell?_spot k0
      subst hspot
      refine ⟨b, off, rfl, ?_, fun i hi q hq => ?_⟩
      · have := World.block_lt_of_cell? _ _ k0
        simpa [Addr.add] using this
      · have hi2 : i < min l 9 := by simpa using hi
        have := (hQ i (by omega)).2.2 q hq
        rw [addE, addE] at this
        rw [this]
        congr 2
        simp [List.getD, List.getElem?_range hi2]
theorem cells4' : Ybad.prog.cellsOf 4 = 1 := by kernel_rfl
theorem cells23' : Ybad.prog.cellsOf 23 = 1 := by kernel_rfl
theorem cells24' : Ybad.prog.cellsOf 24 = 1 := by kernel_rfl
theorem cells25' : Ybad.prog.cellsOf 25 = 1 := by kernel_rfl
set_option maxRecDepth 10000 in
set_option maxHeartbeats 4000000 in
/-- The argument, opened. -/
theorem open_arg {H : Type} {enc : TypeId × Value → H} {W : World} {base : Nat} {v : Value} {d : DataW H} {ps : List MemPlace} (hv : Value.okWide Ybad.prog W .any base 27 v) (h : DataW.Trod enc Ybad.prog W 0 (fun _ => true) true 27 v d ps) : ∃ (I : Arg) (hops : List (List Int)) (rd td : List Int), v = .agg I.cells ∧ AOk I W hops rd td := by
  obtain ⟨cs, rfl, hsz⟩ := okWide_struct Ybad.underlying27 hv
  clear hv
  rw [cells27'] at hsz
  obtain ⟨l⟩ := cs
  match l, hsz with
  | [c0, c1, c2, c3, c4, c5, c6, c7, c8, c9, c10, c11, c12, c13, c14, c15, c16, c17, c18, c19, c20, c21, c22, c23, c24, c25, c26, c27], _ =>
    obtain ⟨fuel, hf⟩ := h
    have hf' : DataW.trod enc Ybad.prog W 0 (fun _ => true) true fuel 27 [c0, c1, c2, c3, c4, c5, c6, c7, c8, c9, c10, c11, c12, c13, c14, c15, c16, c17, c18, c19, c20, c21, c22, c23, c24, c25, c26, c27] = some (d, ps) := hf
    obtain ⟨xs, n, _, _, _, hlen, hfd⟩ := DataW.trod_struct Ybad.underlying27 hf'
    clear hf hf'
    match xs, hlen with
    | [y0, y1, y2, y3, y4, y5, y6, y7, y8, y9, y10, y11, y12, y13, y14, y15, y16, y17, y18, y19, y20, y21], _ =>
      have k0 : DataW.trod enc Ybad.prog W 0 (fun _ => true) true n 22 [c0, c1, c2, c3] = some y0 := by
        have := hfd 0 _ rfl
        simpa [cells22'] using this
      have k1 : DataW.trod enc Ybad.prog W 0 (fun _ => true) true n 22 [c4, c5, c6, c7] = some y1 := by
        have := hfd 1 _ rfl
        simpa [cells22'] using this
      have k2 : DataW.trod enc Ybad.prog W 0 (fun _ => true) true n 23 [c8] = some y2 := by
        have := hfd 2 _ rfl
        simpa [cells23'] using this
      have k3 : DataW.trod enc Ybad.prog W 0 (fun _ => true) true n 5 [c9] = some y3 := by
        have := hfd 3 _ rfl
        simpa [cells5'] using this
      have k4 : DataW.trod enc Ybad.prog W 0 (fun _ => true) true n 4 [c10] = some y4 := by
        have := hfd 4 _ rfl
        simpa [cells4'] using this
      have k5 : DataW.trod enc Ybad.prog W 0 (fun _ => true) true n 4 [c11] = some y5 := by
        have := hfd 5 _ rfl
        simpa [cells4'] using this
      have k6 : DataW.trod enc Ybad.prog W 0 (fun _ => true) true n 4 [c12] = some y6 := by
        have := hfd 6 _ rfl
        simpa [cells4'] using this
      have k7 : DataW.trod enc Ybad.prog W 0 (fun _ => true) true n 4 [c13] = some y7 := by
        have := hfd 7 _ rfl
        simpa [cells4'] using this
      have k8 : DataW.trod enc Ybad.prog W 0 (fun _ => true) true n 4 [c14] = some y8 := by
        have := hfd 8 _ rfl
        simpa [cells4'] using this
      have k9 : DataW.trod enc Ybad.prog W 0 (fun _ => true) true n 4 [c15] = some y9 := by
        have := hfd 9 _ rfl
        simpa [cells4'] using this
      have k10 : DataW.trod enc Ybad.prog W 0 (fun _ => true) true n 24 [c16] = some y10 := by
        have := hfd 10 _ rfl
        simpa [cells24'] using this
      have k11 : DataW.trod enc Ybad.prog W 0 (fun _ => true) true n 5 [c17] = some y11 := by
        have := hfd 11 _ rfl
        simpa [cells5'] using this
      have k12 : DataW.trod enc Ybad.prog W 0 (fun _ => true) true n 5 [c18] = some y12 := by
        have := hfd 12 _ rfl
        simpa [cells5'] using this
      have k13 : DataW.trod enc Ybad.prog W 0 (fun _ => true) true n 5 [c19] = some y13 := by
        have := hfd 13 _ rfl
        simpa [cells5'] using this
      have k14 : DataW.trod enc Ybad.prog W 0 (fun _ => true) true n 25 [c20] = some y14 := by
        have := hfd 14 _ rfl
        simpa [cells25'] using this
      have k15 : DataW.trod enc Ybad.prog W 0 (fun _ => true) true n 5 [c21] = some y15 := by
        have := hfd 15 _ rfl
        simpa [cells5'] using this
      have k16 : DataW.trod enc Ybad.prog W 0 (fun _ => true) true n 5 [c22] = some y16 := by
        have := hfd 16 _ rfl
        simpa [cells5'] using this
      have k17 : DataW.trod enc Ybad.prog W 0 (fun _ => true) true n 5 [c23] = some y17 := by
        have := hfd 17 _ rfl
        simpa [cells5'] using this
      have k18 : DataW.trod enc Ybad.prog W 0 (fun _ => true) true n 5 [c24] = some y18 := by
        have := hfd 18 _ rfl
        simpa [cells5'] using this
      have k19 : DataW.trod enc Ybad.prog W 0 (fun _ => true) true n 4 [c25] = some y19 := by
        have := hfd 19 _ rfl
        simpa [cells4'] using this
      have k20 : DataW.trod enc Ybad.prog W 0 (fun _ => true) true n 25 [c26] = some y20 := by
        have := hfd 20 _ rfl
        simpa [cells25'] using this
      have k21 : DataW.trod enc Ybad.prog W 0 (fun _ => true) true n 5 [c27] = some y21 := by
        have := hfd 21 _ rfl
        simpa [cells5'] using this
      clear hfd
      obtain ⟨p0, p1, p2, p3, rfl, rfl, rfl, rfl, hp⟩ := four_cells k0
      obtain ⟨q0, q1, q2, q3, rfl, rfl, rfl, rfl, hq⟩ := four_cells k1
      obtain ⟨ms, e2, _, w2⟩ := DataW.trod_int Ybad.underlying23 k2
      obtain ⟨lead, e3, _, w3⟩ := DataW.trod_int Ybad.underlying5 k3
      obtain ⟨hasSR, e4, _⟩ := DataW.trod_bool Ybad.underlying4 k4
      obtain ⟨hasRR, e5, _⟩ := DataW.trod_bool Ybad.underlying4 k5
      obtain ⟨hasTS, e6, _⟩ := DataW.trod_bool Ybad.underlying4 k6
      obtain ⟨extra, e7, _⟩ := DataW.trod_bool Ybad.underlying4 k7
      obtain ⟨trail, e8, _⟩ := DataW.trod_bool Ybad.underlying4 k8
      obtain ⟨strict, e9, _⟩ := DataW.trod_bool Ybad.underlying4 k9
      obtain ⟨srLeft, e11, _, w11⟩ := DataW.trod_int Ybad.underlying5 k11
      obtain ⟨rrSlots, e12, _, w12⟩ := DataW.trod_int Ybad.underlying5 k12
      obtain ⟨rrUsed, e13, _, w13⟩ := DataW.trod_int Ybad.underlying5 k13
      obtain ⟨tsFlag, e15, _, w15⟩ := DataW.trod_int Ybad.underlying5 k15
      obtain ⟨tsSlots, e16, _, w16⟩ := DataW.trod_int Ybad.underlying5 k16
      obtain ⟨tsUsed, e17, _, w17⟩ := DataW.trod_int Ybad.underlying5 k17
      obtain ⟨tsOver, e18, _, w18⟩ := DataW.trod_int Ybad.underlying5 k18
      obtain ⟨tsMatch, e19, _⟩ := DataW.trod_bool Ybad.underlying4 k19
      obtain ⟨order, e21, _, w21⟩ := DataW.trod_int Ybad.underlying5 k21
      obtain ⟨ha, hn, hc, hops, rfl, g1, g2, g3, g4⟩ := hops_cells k10
      obtain ⟨ra, rn, rc, rd, rfl, r1, r2, r3, r4⟩ := inB_cells k14
      obtain ⟨ta, tn, tc, td, rfl, t1, t2, t3, t4⟩ := inB_cells k20
      simp only [List.cons.injEq, and_true] at e2 e3 e4 e5 e6 e7 e8 e9 e11 e12 e13 e15 e16 e17 e18 e19 e21
      subst e2 e3 e4 e5 e6 e7 e8 e9 e11 e12 e13 e15 e16 e17 e18 e19 e21
      have b3 := bounds_u8 w3
      have b11 := bounds_u8 w11
      have b12 := bounds_u8 w12
      have b13 := bounds_u8 w13
      have b15 := bounds_u8 w15
      have b16 := bounds_u8 w16
      have b17 := bounds_u8 w17
      have b18 := bounds_u8 w18
      have b21 := bounds_u8 w21
      have b2 := bounds_u32 w2
      refine ⟨⟨p0, p1, p2, p3, q0, q1, q2, q3, ms, lead, hasSR, hasRR, hasTS, extra, trail, strict, ha, hn, hc, srLeft, rrSlots, rrUsed, ra, rn, rc, tsFlag, tsSlots, tsUsed, tsOver, tsMatch, ta, tn, tc, order⟩, hops, rd, td, rfl, ?_⟩
      exact ⟨hp, hq, by constructor <;> simp only <;> omega, by constructor <;> simp only <;> omega, by constructor <;> simp only <;> omega, by constructor <;> simp only <;> omega, by constructor <;> simp only <;> omega, by constructor <;> simp only <;> omega, by constructor <;> simp only <;> omega, by constructor <;> simp only <;> omega, by constructor <;> simp only <;> omega, by constructor <;> simp only <;> omega, g1, g2, g3, g4, r1, r2, r3, r4, t1, t2, t3, t4⟩
end Go.Proofs.YbulkblgyDoor
