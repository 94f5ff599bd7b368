/- LawS3105BRaw: the row, and the tied card. -/
import Derived.Test.YbulkblgyDoorRaw
import Derived.Test.YbulkblgyDoorCards
import Derived.Test.YbulkblgyDoorTie
import Derived.ProofKit
import Derived.ChangeSlices
import Derived.ChangeSame
import Derived.ChangeVars
import Derived.ChangeOld
import Derived.JoinedOf
import Derived.Carry
import Derived.OpenVars
import Derived.OpenShut
import Derived.LaidLaws
import Derived.LaidHandle
import Derived.Laws.IdiomArrays
import Derived.Stop.LaidTwo
import Derived.SevenTiedAt
namespace Go.Proofs.YbulkblgyDoor
open Go.ChangeShapes Go.WideShapes Go.ChangeAt Go.RowKit

theorem own : ownKnob Ybad.prog.godebug = none := by kernel_rfl
theorem laidOut : laidOutB Ybad.pinned.checked.prog = true := by kernel_rfl
theorem cells5 : Ybad.prog.cellsOf 5 = 1 := by kernel_rfl
theorem cells22 : Ybad.prog.cellsOf 22 = 4 := by kernel_rfl
theorem cells41 : Ybad.prog.cellsOf 41 = 1 := by kernel_rfl
theorem cells39 : Ybad.prog.cellsOf 39 = 1 := by kernel_rfl
theorem cells87 : Ybad.prog.cellsOf 87 = 1 := by kernel_rfl
theorem cells9 : Ybad.prog.cellsOf 9 = 1 := by kernel_rfl
theorem gBad : Ybad.prog.globalNamed "example.com/tideway/tideway/internal/wire.ErrBadHeader" = some 1 := by kernel_rfl
theorem gMust : Ybad.prog.globalNamed "example.com/tideway/tideway/internal/wire.ErrMustNotSkip" = some 0 := by kernel_rfl
theorem gZ4 : Ybad.prog.globalNamed "net/netip.z4" = some 2 := by kernel_rfl
theorem gZ0 : Ybad.prog.globalNamed "net/netip.z0" = some 4 := by kernel_rfl
theorem var_lt {P : Program} {W : World} {n : String} {g : Nat} {cs : Array Value} (hg : P.globalNamed n = some g) (h : W.var? P n = some cs) : g < W.heap.size := by
  unfold World.var? at h
  rw [hg] at h
  simp only [Option.bind_some] at h
  cases hh : W.heap[g]? with
  | none => rw [hh] at h; cases h
  | some o => exact (Array.getElem?_eq_some_iff.1 hh).1
theorem gBadType : (Ybad.prog.globals[1]?).map (·.type) = some 45 := by kernel_rfl
theorem gMustType : (Ybad.prog.globals[0]?).map (·.type) = some 45 := by kernel_rfl
theorem gZ4Type : (Ybad.prog.globals[2]?).map (·.type) = some 41 := by kernel_rfl
theorem star : "*" ++ "errors.errorString" = "*errors.errorString" := by decide
theorem row67 (u : TypeId) (h : Ybad.prog.typeName? 3 u = some "*errors.errorString") : u = 67 :=
  typeName_ptr_named (nm := "errors.errorString") (by rw [star]; kernel_rfl) (by kernel_rfl) (by decide) u (by rw [star]; exact h)

/-- What follows the first of the listed variables. -/
theorem laidMet_tail {P : Program} {x : String × DataW Unit} {r : List (String × DataW Unit)} {W : World} (h : laidMet P (x :: r) W) : laidMet P r W := by
  obtain ⟨ps, ⟨g, t, cs, f, p, q, _, _, _, _, hr, e⟩, hnd, hrows⟩ := h
  subst e
  exact ⟨q, hr, (List.nodup_append.1 hnd).2.1, fun b off hm => hrows b off (by simp [hm])⟩
theorem z4_of_trod {W : World} {fuel : Nat} {cs : List Value} {d : DataW Unit} {p : List MemPlace} {sp : Nat → Bool} (h : DataW.trod (fun _ => ()) Ybad.prog W 0 sp false fuel 41 cs = some (.agg [.ptr d], p)) : ∃ a, cs = [.pointer (some a)] := by
  obtain ⟨y0, n, hx, hl, hy⟩ := trod_struct1 Ybad.underlying41 h
  rw [cells41] at hl
  simp only [cells39] at hy
  obtain ⟨c, rfl⟩ : ∃ c, cs = [c] := by
    match cs, hl with
    | [c], _ => exact ⟨c, rfl⟩
  obtain ⟨yd, yp⟩ := y0
  simp only [Prod.mk.injEq, DataW.agg.injEq, List.cons.injEq, and_true] at hx
  obtain ⟨rfl, rfl⟩ := hx
  obtain ⟨f2, a, cs', q, hv, _⟩ := ptr_of_trod Ybad.underlying39 hy
  exact ⟨a, by simpa using hv⟩
/-- What 'laid' gives. -/
theorem laid_facts {W : World} (h : laidMetH Ybad.prog Rows.lawS3105BRawRow.laid W) : ∃ (za ab am : Addr) (cb cm : Array Value) (tb tm : TypeId),
    W.cell? ⟨2, 0, none⟩ = some (.pointer (some za)) ∧ W.cell? ⟨1, 0, none⟩ = some (.iface 67 (.pointer (some ab))) ∧ W.cell? ⟨0, 0, none⟩ = some (.iface 67 (.pointer (some am))) ∧ ab ≠ am ∧ W.heap[ab.block]? = some (.cells cb tb (0, 0)) ∧ W.heap[am.block]? = some (.cells cm tm (0, 0)) ∧ 4 < W.heap.size := by
  have hL : laidMet Ybad.prog Rows.lawS3105BRawRow.laid W := h
  have hT := laidMet_tail hL
  obtain ⟨a0, a1, s0, s1, c0, c1, t0, t1, hv0, hv1, hc0, hs0, hz0, hc1, hs1, hz1, hne, hb0, hb1⟩ := laid_sentinels2 hT gBad gBadType gMust gMustType Ybad.underlying45 row67 Ybad.underlying67 Ybad.underlying87 rfl rfl Ybad.underlying9 cells87 cells9
  have hZ := laidMet_tail (laidMet_tail hT)
  obtain ⟨_, ⟨gz, _, csz, _, _, _, hgz, _, hvz, _, _, _⟩, _, _⟩ := hZ
  obtain rfl := Option.some.inj (gZ0.symm.trans hgz)
  obtain ⟨ps, ⟨g, t, cs, f, p, q, hg, ht, hv, hd, _, _⟩, _, _⟩ := hL
  obtain rfl := Option.some.inj (gZ4.symm.trans hg)
  obtain rfl := Option.some.inj (gZ4Type.symm.trans ht)
  obtain ⟨za, hcs⟩ := z4_of_trod hd
  refine ⟨za, a0, a1, c0, c1, t0, t1, ?_, ?_, ?_, hne, hb0, hb1, var_lt gZ0 hvz⟩
  · obtain rfl : cs = #[.pointer (some za)] := by cases cs; simp_all
    simpa using World.var?_cell gZ4 hv 0
  · simpa using World.var?_cell gBad hv0 0
  · simpa using World.var?_cell gMust hv1 0

/-- A slice of bytes that came in. -/
theorem inB_of {H : Type} {enc : TypeId × Value → H} {W : World} {a : Option Addr} {n cap : Nat} {d : DataW H} {ps : List MemPlace} (h : DataW.Trod enc Ybad.prog W 0 (fun _ => true) true 25 (.slice a n cap) d ps) : ∃ L : List Int, L.length = n ∧ (∀ y ∈ L, 0 ≤ y ∧ y < 256) ∧ InB W a L := by
  obtain ⟨fuel, hf⟩ := h
  rcases open_ints Ybad.underlying25 Ybad.underlying5 cells5 hf with ⟨hcs, _⟩ | ⟨x, l, c, zs, hcs, _, hl, hm, hz, _, hcell, hwz⟩
  · simp [Value.cells] at hcs
    obtain ⟨rfl, rfl, rfl⟩ := hcs
    exact ⟨[], rfl, by simp, fun h => by simp at h⟩
  · simp [Value.cells] at hcs
    obtain ⟨rfl, rfl, rfl⟩ := hcs
    simp only [if_true] at hz
    refine ⟨zs.take n, by simp; omega, fun y hy => ?_, fun hp => ?_⟩
    · have := bounds_u8 (hwz y (List.mem_of_mem_take hy))
      omega
    · have hn : 0 < n := by simp at hp; omega
      obtain ⟨b, off, spot⟩ := x
      have k0 := hcell 0 (by omega)
      have hspot : spot = none := by simpa [Addr.add] using World.cell?_spot k0
      subst hspot
      refine ⟨b, off, rfl, ?_, fun i hi => ?_⟩
      · have := World.block_lt_of_cell? _ _ k0
        simpa [Addr.add] using this
      · have hi2 : i < n := by simp at hi; omega
        have := hcell i (by omega)
        rw [addr_add] at this
        rw [this]
        simp [List.getElem?_take_of_lt hi2, List.getD]
/-- An address of four bytes that came in. -/
theorem open_q4 {H : Type} {enc : TypeId × Value → H} {W : World} {base : Nat} {v : Value} {d : DataW H} {ps : List MemPlace} (hv : Value.okWide Ybad.prog W .any base 22 v) (h : DataW.Trod enc Ybad.prog W 0 (fun _ => true) true 22 v d ps) :
    ∃ a b c e, v = q4 a b c e ∧ ∀ x ∈ [a, b, c, e], 0 ≤ x ∧ x < 256 := by
  simp only [Value.okWide, Ybad.underlying22] at hv
  obtain ⟨cs, rfl, hsz, _⟩ := hv
  rw [cells22] at hsz
  obtain ⟨l⟩ := cs
  match l, hsz with
  | [c0, c1, c2, c3], _ =>
    obtain ⟨fuel, hf⟩ := h
    have hf' : DataW.trod enc Ybad.prog W 0 (fun _ => true) true fuel 22 [c0, c1, c2, c3] = some (d, ps) := hf
    obtain ⟨y0, y1, y2, y3, n, _, h0, h1, h2, h3⟩ := trod_array4 Ybad.underlying22 cells5 hf'
    obtain ⟨a, e0, _, w0⟩ := DataW.trod_int Ybad.underlying5 h0
    obtain ⟨b, e1, _, w1⟩ := DataW.trod_int Ybad.underlying5 h1
    obtain ⟨c, e2, _, w2⟩ := DataW.trod_int Ybad.underlying5 h2
    obtain ⟨e, e3, _, w3⟩ := DataW.trod_int Ybad.underlying5 h3
    simp only [List.cons.injEq, and_true] at e0 e1 e2 e3
    subst e0 e1 e2 e3
    have b0 := bounds_u8 w0
    have b1 := bounds_u8 w1
    have b2 := bounds_u8 w2
    have b3 := bounds_u8 w3
    exact ⟨a, b, c, e, rfl, by intro x hx; simp at hx; omega⟩

abbrev mustS : ByteArray := { data := #[119, 105, 114, 101, 58, 32, 104, 101, 97, 100, 101, 114, 32, 111, 114, 32, 111, 112, 116, 105, 111, 110, 32, 110, 111, 116, 32, 112, 114, 111, 99, 101, 115, 115, 101, 100] }
abbrev badS : ByteArray := { data := #[119, 105, 114, 101, 58, 32, 109, 97, 108, 102, 111, 114, 109, 101, 100, 32, 104, 101, 97, 100, 101, 114] }
noncomputable def low : Nat := (World.holding Ybad.prog default ⟨#[], #[], []⟩).heap.size
noncomputable def laidWorld (os : Go.Os) : World :=
  let w0 := World.holding Ybad.prog os ⟨#[.cells #[.string mustS] 87, .cells #[.string badS] 87, .cells #[.bool false, .string { data := #[] }] 84], #[], []⟩
  { w0 with heap := ((w0.heap.modify 0 fun
      | .cells _ t frozen => .cells #[.iface 67 (.pointer (some ⟨low, 0, none⟩))] t frozen
      | o => o).modify 1 fun
      | .cells _ t frozen => .cells #[.iface 67 (.pointer (some ⟨low + 1, 0, none⟩))] t frozen
      | o => o).modify 2 fun
      | .cells _ t frozen => .cells #[.pointer (some ⟨low + 2, 0, none⟩)] t frozen
      | o => o }
theorem laid_met (os : Go.Os) (args : Array Value) : laidMet Ybad.prog Rows.lawS3105BRawRow.laid ((laidWorld os).forCall (fun _ _ => 0) ⟨#[], args, []⟩).memory :=
  laidMet_of_run (ps := [.cell 2 0, .cell (low + 2) 0, .cell (low + 2) 1, .cell 1 0, .cell (low + 1) 0, .cell 0 0, .cell low 0, .cell 4 0]) 8 (by kernel_rfl) (by kernel_rfl) (by kernel_rfl)

theorem below_of {w w' : World} (h : w.grownBy w' none) : Below w.heap.size w w' := ⟨h.os, h.tape, h.output, h.size, fun k hk => h.block k hk (by simp)⟩

set_option maxRecDepth 100000 in
theorem raw_lifted (os : Go.Os) (started : os.Started) (H : Type) (enc : TypeId × Value → H) :
    ReturnsInHanded {} Ybad.checked os 4 .any (fun w args => (Rows.lawS3105BRawSpec.pre enc Ybad.prog Ybad.f4 [] false w args ∧ laidMetH Ybad.prog Rows.lawS3105BRawRow.laid w) ∧ sizedMet enc Ybad.prog Ybad.f4 (OpenSpec.ofChange Rows.lawS3105BRawSpec) false w args)
      (Rows.lawS3105BRawSpec.post enc Ybad.prog Ybad.f4 false true false false) := by
  refine returnsInHanded_of_change_and (C := Ybad.checked) (X := fun w _ => laidMetH Ybad.prog Rows.lawS3105BRawRow.laid w) (fun _ _ _ hh h => h.of_heap hh) own started (by kernel_rfl) Ybad.func4
    (ChangeSpec.witness_shaped (enc := enc) (C := Ybad.checked) (os := os) (X := fun w _ => laidMetH Ybad.prog Rows.lawS3105BRawRow.laid w) false (laidWorld os) #[.slice none 0 0, q4 0 0 0 0, q4 0 0 0 0, .int .u32 0] 8 rfl (World.shaped_of_RefB (by kernel_rfl) (by kernel_rfl)) (by kernel_rfl) (by kernel_rfl) (by kernel_rfl) (laid_met os _)) ?_
  intro W base args ds gs before hval0 hW _ _ hL _
  have hval : ∀ (j : Nat) t v, Ybad.f4.params[j]? = some t → args[j]? = some v → Value.okWide Ybad.prog W .any base t v := hval0
  have hW' := hW
  obtain ⟨p, q, hA0, hV0, rfl, hfz, hnd⟩ := hW
  have hA : DataW.TrodAll enc Ybad.prog W 0 (fun _ => true) true Ybad.f4.params.toList args.toList ds p := hA0
  have hV : DataW.TrodVars enc Ybad.prog W (fun _ => true) ["example.com/tideway/tideway/internal/wire.ErrBadHeader", "example.com/tideway/tideway/internal/wire.ErrMustNotSkip"] gs q := hV0
  rw [Ybad.params4] at hA hval
  obtain ⟨v0, vs0, d0, ds0, p0, q0, hargs, rfl, rfl, h0, r0⟩ := trodAll_cons hA
  obtain ⟨v1, vs1, d1, ds1, p1, q1, rfl, rfl, rfl, h1, r1⟩ := trodAll_cons r0
  obtain ⟨v2, vs2, d2, ds2, p2, q2, rfl, rfl, rfl, h2, r2⟩ := trodAll_cons r1
  obtain ⟨v3, vs3, d3, ds3, p3, q3, rfl, rfl, rfl, h3, r3⟩ := trodAll_cons r2
  obtain ⟨rfl, rfl, rfl⟩ := trodAll_nil r3
  obtain rfl : args = #[v0, v1, v2, v3] := by cases args; simp_all
  obtain ⟨a0, len, cap, rfl⟩ := okWide_slice Ybad.underlying25 (hval 0 25 v0 rfl rfl)
  obtain ⟨s0, s1, s2, s3, rfl, hs⟩ := open_q4 (hval 1 22 v1 rfl rfl) h1
  obtain ⟨f0, f1, f2, f3, rfl, hf⟩ := open_q4 (hval 2 22 v2 rfl rfl) h2
  obtain ⟨ms, rfl, rfl, rfl, wm⟩ := open_int Ybad.underlying23 (hval 3 23 v3 rfl rfl) h3
  have lt0 : ∀ x ∈ p0, x.block < W.heap.size := by obtain ⟨m, hm⟩ := h0; exact DataW.trod_lt m _ _ _ hm
  have lt1 : ∀ x ∈ p1, x.block < W.heap.size := by obtain ⟨m, hm⟩ := h1; exact DataW.trod_lt m _ _ _ hm
  have lt2 : ∀ x ∈ p2, x.block < W.heap.size := by obtain ⟨m, hm⟩ := h2; exact DataW.trod_lt m _ _ _ hm
  obtain ⟨L, hLl, hLb, hI⟩ := inB_of h0
  obtain ⟨za, ab, am, cb, cm, tb, tm, z2, z1, z0, hne, hcb, hcm, hw⟩ := laid_facts hL
  have hbd := bounds_u32 wm
  clear hA0 hV0 hval0
  refine (raw_any a0 len cap L s0 s1 s2 s3 f0 f1 f2 f3 ms za ab am cb cm tb tm W hLl hLb hI hw z0 z1 z2 hne hcb hcm hs hf hbd.1 (by omega)).mono fun e W' ⟨he, hg⟩ => ?_
  subst he
  have bel := below_of hg
  obtain ⟨g1, g2, rfl⟩ : ∃ g1 g2, gs = [g1, g2] := by
    match gs, hV with
    | [], h => exact h.elim
    | [g1], h => obtain ⟨_, _, _, _, _, _, _, _, _, _, h, _⟩ := h; exact h.elim
    | [g1, g2], _ => exact ⟨g1, g2, rfl⟩
    | g1 :: g2 :: g3 :: r, h => obtain ⟨_, _, _, _, _, _, _, _, _, _, h, _⟩ := h; obtain ⟨_, _, _, _, _, _, _, _, _, _, h, _⟩ := h; exact h.elim
  refine ⟨_, rfl, _, _, _, [], p0 ++ (p1 ++ (p2 ++ ([] ++ []))), q, hW', trodAll_mk1 (shut_bool Ybad.underlying4 _), ?_, Below.trodVars laidOut bel (by kernel_rfl) hV, bel.frame _, fun h => by cases h⟩
  exact trodAll_cons_mk (Below.trod laidOut (by kernel_rfl) (of_decide_eq_true (by kernel_rfl)) h0 bel lt0) (trodAll_cons_mk (Below.trod laidOut (by kernel_rfl) (of_decide_eq_true (by kernel_rfl)) h1 bel lt1) (trodAll_cons_mk (Below.trod laidOut (by kernel_rfl) (of_decide_eq_true (by kernel_rfl)) h2 bel lt2) (trodAll_cons_mk (shut_int Ybad.underlying23 wm) trodAll_mk0)))

theorem raw_holds : Rows.LawS3105BRawSaid :=
  OpenClaim.holds_of_wide 4 Ybad.f4 rfl rfl rfl rfl rfl rfl rfl ⟨rfl, rfl, rfl, rfl, rfl⟩ rfl rfl rfl rfl rfl (by kernel_rfl) Ybad.func4 (by kernel_rfl)
    (of_decide_eq_true (by kernel_rfl)) (by unfold Func.isWrapper; rw [if_neg (of_decide_eq_false (by kernel_rfl))]; exact ⟨rfl, rfl⟩)
    (fun os started H enc _ => raw_lifted os started H enc)

theorem LawS3105BRaw_proved : Rows.LawS3105BRawCardSaid :=
  Claim7.holds_tied_plain_at .later [] [.called, .sentinel, .sentinel, .zero] true (true, "901d02822203e4e2962234f57b8b71e5c48b1b5d41e40c110ca4d2fbd3d1e661") true
    raw_holds (fun _ h => by cases h) (by kernel_rfl) (fun _ h => by cases h) lawS3105BRaw_row_tie rfl ⟨rfl, rfl⟩ (by kernel_rfl) rfl
    (fun f fn hf hfn => by
      obtain rfl : f = 4 := Option.some.inj ((show Ybad.prog.funcNamed "example.com/tideway/tideway/internal/wire.LawS3105BRaw" = some 4 by kernel_rfl).symm.trans hf) |>.symm
      obtain rfl : fn = Ybad.f4 := (Option.some.inj (Ybad.func4.symm.trans hfn)).symm
      exact ⟨by kernel_rfl, fun j t ht => by
        rw [Ybad.params4] at ht
        have h3 : t = 25 ∨ t = 22 ∨ t = 23 := by
          rcases j with _ | _ | _ | _ | j
          · left; simpa using ht.symm
          · right; left; simpa using ht.symm
          · right; left; simpa using ht.symm
          · right; right; simpa using ht.symm
          · simp at ht
        rcases h3 with rfl | rfl | rfl
        · exact (show Ybad.prog.wantsStandIn 25 = false by kernel_rfl)
        · exact (show Ybad.prog.wantsStandIn 22 = false by kernel_rfl)
        · exact (show Ybad.prog.wantsStandIn 23 = false by kernel_rfl)⟩)
    (by kernel_rfl)
end Go.Proofs.YbulkblgyDoor
