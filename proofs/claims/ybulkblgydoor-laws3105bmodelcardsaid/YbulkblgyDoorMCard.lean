/- LawS3105BModel: the row, and the tied card. -/
import Derived.Test.YbulkblgyDoorMWalk
import Derived.Test.YbulkblgyDoorMOpen
import Derived.Test.YbulkblgyDoorCards
import Derived.Test.YbulkblgyDoorTie
import Derived.ProofKit
import Derived.ChangeSlices
import Derived.ChangeSame
import Derived.ChangeVars
import Derived.ChangeOld
import Derived.JoinedOf
import Derived.Carry
import Derived.OpenVars
import Derived.OpenShut
import Derived.LaidLaws
import Derived.LaidHandle
import Derived.Laws.IdiomArrays
import Derived.Stop.LaidTwo
import Derived.SevenTiedAt
namespace Go.Proofs.YbulkblgyDoor
open Go.ChangeShapes Go.WideShapes Go.ChangeAt Go.RowKit

theorem own : ownKnob Ybad.prog.godebug = none := by kernel_rfl
theorem laidOut : laidOutB Ybad.pinned.checked.prog = true := by kernel_rfl
theorem cells5 : Ybad.prog.cellsOf 5 = 1 := by kernel_rfl
theorem cells22 : Ybad.prog.cellsOf 22 = 4 := by kernel_rfl
theorem cells41 : Ybad.prog.cellsOf 41 = 1 := by kernel_rfl
theorem cells39 : Ybad.prog.cellsOf 39 = 1 := by kernel_rfl
theorem cells87 : Ybad.prog.cellsOf 87 = 1 := by kernel_rfl
theorem cells9 : Ybad.prog.cellsOf 9 = 1 := by kernel_rfl
theorem gBad : Ybad.prog.globalNamed "example.com/tideway/tideway/internal/wire.ErrBadHeader" = some 1 := by kernel_rfl
theorem gMust : Ybad.prog.globalNamed "example.com/tideway/tideway/internal/wire.ErrMustNotSkip" = some 0 := by kernel_rfl
theorem gZ4 : Ybad.prog.globalNamed "net/netip.z4" = some 2 := by kernel_rfl
theorem gZ0 : Ybad.prog.globalNamed "net/netip.z0" = some 4 := by kernel_rfl
theorem var_lt {P : Program} {W : World} {n : String} {g : Nat} {cs : Array Value} (hg : P.globalNamed n = some g) (h : W.var? P n = some cs) : g < W.heap.size := by
  unfold World.var? at h
  rw [hg] at h
  simp only [Option.bind_some] at h
  cases hh : W.heap[g]? with
  | none => rw [hh] at h; cases h
  | some o => exact (Array.getElem?_eq_some_iff.1 hh).1
theorem gBadType : (Ybad.prog.globals[1]?).map (·.type) = some 45 := by kernel_rfl
theorem gMustType : (Ybad.prog.globals[0]?).map (·.type) = some 45 := by kernel_rfl
theorem gZ4Type : (Ybad.prog.globals[2]?).map (·.type) = some 41 := by kernel_rfl
theorem star : "*" ++ "errors.errorString" = "*errors.errorString" := by decide
theorem row67 (u : TypeId) (h : Ybad.prog.typeName? 3 u = some "*errors.errorString") : u = 67 :=
  typeName_ptr_named (nm := "errors.errorString") (by rw [star]; kernel_rfl) (by kernel_rfl) (by decide) u (by rw [star]; exact h)

/-- What follows the first of the listed variables. -/
theorem laidMet_tail {P : Program} {x : String × DataW Unit} {r : List (String × DataW Unit)} {W : World} (h : laidMet P (x :: r) W) : laidMet P r W := by
  obtain ⟨ps, ⟨g, t, cs, f, p, q, _, _, _, _, hr, e⟩, hnd, hrows⟩ := h
  subst e
  exact ⟨q, hr, (List.nodup_append.1 hnd).2.1, fun b off hm => hrows b off (by simp [hm])⟩
theorem z4_of_trod {W : World} {fuel : Nat} {cs : List Value} {d : DataW Unit} {p : List MemPlace} {sp : Nat → Bool} (h : DataW.trod (fun _ => ()) Ybad.prog W 0 sp false fuel 41 cs = some (.agg [.ptr d], p)) : ∃ a, cs = [.pointer (some a)] := by
  obtain ⟨y0, n, hx, hl, hy⟩ := trod_struct1 Ybad.underlying41 h
  rw [cells41] at hl
  simp only [cells39] at hy
  obtain ⟨c, rfl⟩ : ∃ c, cs = [c] := by
    match cs, hl with
    | [c], _ => exact ⟨c, rfl⟩
  obtain ⟨yd, yp⟩ := y0
  simp only [Prod.mk.injEq, DataW.agg.injEq, List.cons.injEq, and_true] at hx
  obtain ⟨rfl, rfl⟩ := hx
  obtain ⟨f2, a, cs', q, hv, _⟩ := ptr_of_trod Ybad.underlying39 hy
  exact ⟨a, by simpa using hv⟩
/-- What 'laid' gives. -/
theorem laid_facts {W : World} (h : laidMetH Ybad.prog Rows.lawS3105BModelRow.laid W) : ∃ (za ab am : Addr) (cb cm : Array Value) (tb tm : TypeId),
    W.cell? ⟨2, 0, none⟩ = some (.pointer (some za)) ∧ W.cell? ⟨1, 0, none⟩ = some (.iface 67 (.pointer (some ab))) ∧ W.cell? ⟨0, 0, none⟩ = some (.iface 67 (.pointer (some am))) ∧ ab ≠ am ∧ W.heap[ab.block]? = some (.cells cb tb (0, 0)) ∧ W.heap[am.block]? = some (.cells cm tm (0, 0)) ∧ 4 < W.heap.size := by
  have hL : laidMet Ybad.prog Rows.lawS3105BModelRow.laid W := h
  have hT := laidMet_tail hL
  obtain ⟨a0, a1, s0, s1, c0, c1, t0, t1, hv0, hv1, hc0, hs0, hz0, hc1, hs1, hz1, hne, hb0, hb1⟩ := laid_sentinels2 hT gBad gBadType gMust gMustType Ybad.underlying45 row67 Ybad.underlying67 Ybad.underlying87 rfl rfl Ybad.underlying9 cells87 cells9
  have hZ := laidMet_tail (laidMet_tail hT)
  obtain ⟨_, ⟨gz, _, csz, _, _, _, hgz, _, hvz, _, _, _⟩, _, _⟩ := hZ
  obtain rfl := Option.some.inj (gZ0.symm.trans hgz)
  obtain ⟨ps, ⟨g, t, cs, f, p, q, hg, ht, hv, hd, _, _⟩, _, _⟩ := hL
  obtain rfl := Option.some.inj (gZ4.symm.trans hg)
  obtain rfl := Option.some.inj (gZ4Type.symm.trans ht)
  obtain ⟨za, hcs⟩ := z4_of_trod hd
  refine ⟨za, a0, a1, c0, c1, t0, t1, ?_, ?_, ?_, hne, hb0, hb1, var_lt gZ0 hvz⟩
  · obtain rfl : cs = #[.pointer (some za)] := by cases cs; simp_all
    simpa using World.var?_cell gZ4 hv 0
  · simpa using World.var?_cell gBad hv0 0
  · simpa using World.var?_cell gMust hv1 0

abbrev mustS : ByteArray := { data := #[119, 105, 114, 101, 58, 32, 104, 101, 97, 100, 101, 114, 32, 111, 114, 32, 111, 112, 116, 105, 111, 110, 32, 110, 111, 116, 32, 112, 114, 111, 99, 101, 115, 115, 101, 100] }
abbrev badS : ByteArray := { data := #[119, 105, 114, 101, 58, 32, 109, 97, 108, 102, 111, 114, 109, 101, 100, 32, 104, 101, 97, 100, 101, 114] }
noncomputable def low : Nat := (World.holding Ybad.prog default ⟨#[], #[], []⟩).heap.size
noncomputable def laidWorld (os : Go.Os) : World :=
  let w0 := World.holding Ybad.prog os ⟨#[.cells #[.string mustS] 87, .cells #[.string badS] 87, .cells #[.bool false, .string { data := #[] }] 84], #[], []⟩
  { w0 with heap := ((w0.heap.modify 0 fun
      | .cells _ t frozen => .cells #[.iface 67 (.pointer (some ⟨low, 0, none⟩))] t frozen
      | o => o).modify 1 fun
      | .cells _ t frozen => .cells #[.iface 67 (.pointer (some ⟨low + 1, 0, none⟩))] t frozen
      | o => o).modify 2 fun
      | .cells _ t frozen => .cells #[.pointer (some ⟨low + 2, 0, none⟩)] t frozen
      | o => o }
theorem laid_met (os : Go.Os) (args : Array Value) : laidMet Ybad.prog Rows.lawS3105BModelRow.laid ((laidWorld os).forCall (fun _ _ => 0) ⟨#[], args, []⟩).memory :=
  laidMet_of_run (ps := [.cell 2 0, .cell (low + 2) 0, .cell (low + 2) 1, .cell 1 0, .cell (low + 1) 0, .cell 0 0, .cell low 0, .cell 4 0]) 8 (by kernel_rfl) (by kernel_rfl) (by kernel_rfl)

theorem below_of {w w' : World} (h : w.grownBy w' none) : Below w.heap.size w w' := ⟨h.os, h.tape, h.output, h.size, fun k hk => h.block k hk (by simp)⟩

set_option maxRecDepth 100000 in
theorem model_lifted (os : Go.Os) (started : os.Started) (H : Type) (enc : TypeId × Value → H) :
    ReturnsInHanded {} Ybad.checked os 3 .any (fun w args => (Rows.lawS3105BModelSpec.pre enc Ybad.prog Ybad.f3 [] false w args ∧ laidMetH Ybad.prog Rows.lawS3105BModelRow.laid w) ∧ sizedMet enc Ybad.prog Ybad.f3 (OpenSpec.ofChange Rows.lawS3105BModelSpec) false w args)
      (Rows.lawS3105BModelSpec.post enc Ybad.prog Ybad.f3 false true false false) := by
  refine returnsInHanded_of_change_and (C := Ybad.checked) (X := fun w _ => laidMetH Ybad.prog Rows.lawS3105BModelRow.laid w) (fun _ _ _ hh h => h.of_heap hh) own started (by kernel_rfl) Ybad.func3
    (ChangeSpec.witness_shaped (enc := enc) (C := Ybad.checked) (os := os) (X := fun w _ => laidMetH Ybad.prog Rows.lawS3105BModelRow.laid w) false (laidWorld os) #[.agg #[.int .u8 0, .int .u8 0, .int .u8 0, .int .u8 0, .int .u8 0, .int .u8 0, .int .u8 0, .int .u8 0, .int .u32 0, .int .u8 0, .bool false, .bool false, .bool false, .bool false, .bool false, .bool false, .slice none 0 0, .int .u8 0, .int .u8 0, .int .u8 0, .slice none 0 0, .int .u8 0, .int .u8 0, .int .u8 0, .int .u8 0, .bool false, .slice none 0 0, .int .u8 0]] 8 rfl (World.shaped_of_RefB (by kernel_rfl) (by kernel_rfl)) (by kernel_rfl) (by kernel_rfl) (by kernel_rfl) (laid_met os _)) ?_
  intro W base args ds gs before hval0 hW _ _ hL _
  have hval : ∀ (j : Nat) t v, Ybad.f3.params[j]? = some t → args[j]? = some v → Value.okWide Ybad.prog W .any base t v := hval0
  have hW' := hW
  obtain ⟨p, q, hA0, hV0, rfl, hfz, hnd⟩ := hW
  have hA : DataW.TrodAll enc Ybad.prog W 0 (fun _ => true) true Ybad.f3.params.toList args.toList ds p := hA0
  have hV : DataW.TrodVars enc Ybad.prog W (fun _ => true) ["example.com/tideway/tideway/internal/wire.ErrMustNotSkip", "example.com/tideway/tideway/internal/wire.ErrBadHeader"] gs q := hV0
  rw [Ybad.params3] at hA hval
  obtain ⟨v0, vs0, d0, ds0, p0, q0, hargs, rfl, rfl, h0, r0⟩ := trodAll_cons hA
  obtain ⟨rfl, rfl, rfl⟩ := trodAll_nil r0
  obtain rfl : args = #[v0] := by cases args; simp_all
  obtain ⟨I, hops, rd, td, rfl, hok⟩ := open_arg (hval 0 27 v0 rfl rfl) h0
  have lt0 : ∀ x ∈ p0, x.block < W.heap.size := by obtain ⟨m, hm⟩ := h0; exact DataW.trod_lt m _ _ _ hm
  obtain ⟨za, ab, am, cb, cm, tb, tm, z2, z1, z0, hne, hcb, hcm, hw⟩ := laid_facts hL
  clear hA0 hV0 hval0
  refine (model_walk I W hops rd td hok hw za ab am cb cm tb tm z0 z1 z2 hne hcb hcm).mono fun e W' ⟨he, hg⟩ => ?_
  subst he
  have bel := below_of hg
  obtain ⟨g1, g2, rfl⟩ : ∃ g1 g2, gs = [g1, g2] := by
    match gs, hV with
    | [], h => exact h.elim
    | [g1], h => obtain ⟨_, _, _, _, _, _, _, _, _, _, h, _⟩ := h; exact h.elim
    | [g1, g2], _ => exact ⟨g1, g2, rfl⟩
    | g1 :: g2 :: g3 :: r, h => obtain ⟨_, _, _, _, _, _, _, _, _, _, h, _⟩ := h; obtain ⟨_, _, _, _, _, _, _, _, _, _, h, _⟩ := h; exact h.elim
  refine ⟨_, rfl, _, _, _, [], p0 ++ [], q, hW', trodAll_mk1 (shut_bool Ybad.underlying4 _), ?_, Below.trodVars laidOut bel (by kernel_rfl) hV, bel.frame _, fun h => by cases h⟩
  exact trodAll_cons_mk (Below.trod laidOut (by kernel_rfl) (of_decide_eq_true (by kernel_rfl)) h0 bel lt0) trodAll_mk0

theorem model_holds : Rows.LawS3105BModelSaid :=
  OpenClaim.holds_of_wide 3 Ybad.f3 rfl rfl rfl rfl rfl rfl rfl ⟨rfl, rfl, rfl, rfl, rfl⟩ rfl rfl rfl rfl rfl (by kernel_rfl) Ybad.func3 (by kernel_rfl)
    (of_decide_eq_true (by kernel_rfl)) (by unfold Func.isWrapper; rw [if_neg (of_decide_eq_false (by kernel_rfl))]; exact ⟨rfl, rfl⟩)
    (fun os started H enc _ => model_lifted os started H enc)

theorem LawS3105BModel_proved : Rows.LawS3105BModelCardSaid :=
  Claim7.holds_tied_plain_at .later [] [.called, .sentinel, .sentinel, .zero] true (true, "901d02822203e4e2962234f57b8b71e5c48b1b5d41e40c110ca4d2fbd3d1e661") true
    model_holds (fun _ h => by cases h) (by kernel_rfl) (fun _ h => by cases h) lawS3105BModel_row_tie rfl ⟨rfl, rfl⟩ (by kernel_rfl) rfl
    (fun f fn hf hfn => by
      obtain rfl : f = 3 := Option.some.inj ((show Ybad.prog.funcNamed "example.com/tideway/tideway/internal/wire.LawS3105BModel" = some 3 by kernel_rfl).symm.trans hf) |>.symm
      obtain rfl : fn = Ybad.f3 := (Option.some.inj (Ybad.func3.symm.trans hfn)).symm
      exact ⟨by kernel_rfl, fun j t ht => by
        rw [Ybad.params3] at ht
        have h3 : t = 27 := by
          rcases j with _ | j
          · simpa using ht.symm
          · simp at ht
        subst h3
        exact (show Ybad.prog.wantsStandIn 27 = false by kernel_rfl)⟩)
    (by kernel_rfl)
end Go.Proofs.YbulkblgyDoor
