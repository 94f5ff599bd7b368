/- LawS3101CBuilt: the told card. -/
import Derived.Test.YbulkbleuFmtBuilt
import Derived.Test.YbulkbleuFmtCards
import Derived.ProofKit
import Derived.ChangeSlices
import Derived.ChangeSame
import Derived.ChangeMaps5
import Derived.ChangeOld
import Derived.JoinedOf
import Derived.Carry
import Derived.Stop.JoinedAt
import Derived.Stop.Texts
import Derived.Stop.JoinedTold
import Derived.SizedLaws
import Derived.SevenToldRow
import Derived.Deep.Slices
namespace Go.Proofs.YbulkbleuFmt.BuiltCard
open Go.ChangeShapes Go.WideShapes Go.ChangeAt Go.RowKit
open Go.Extern.Stop Go.Stop Go.Extern

theorem own : ownKnob Ybaf.prog.godebug = none := by kernel_rfl
theorem laidOut : laidOutB Ybaf.pinned.checked.prog = true := by kernel_rfl
theorem cells5 : Ybaf.prog.cellsOf 5 = 1 := by kernel_rfl
theorem cells59 : Ybaf.prog.cellsOf 59 = 1 := by kernel_rfl
theorem cells73 : Ybaf.prog.cellsOf 73 = 4 := by kernel_rfl
theorem stopsAre : Ybaf.pinned.checked.prog.stops = ["fmt.errorf"] := by kernel_rfl
theorem stopKnobs : Ybaf.pinned.checked.prog.stopKnobs = [] := by kernel_rfl
theorem quiet (os : Os) : Stop.quiet Ybaf.pinned.checked.prog os := by
  intro k hk
  rw [stopKnobs] at hk
  cases hk

set_option maxRecDepth 100000 in
/-- An element of the slice: kind, a, b, l. -/
theorem open_opt {H : Type} {enc : TypeId × Value → H} {w : World} {base : Nat} {spare : Nat → Bool} {held : Bool} {n : Nat} {cs : List Value} {x : DataW H × List MemPlace} (h : DataW.trod enc Ybaf.prog w base spare held n 73 cs = some x) :
    ∃ o : Opt, o.wf ∧ cs = [.int .u8 o.kind, .int .u8 o.a, .int .u64 o.b, .int .u8 o.l] := by
  obtain ⟨xs, n', _, _, hl, hx, hf⟩ := DataW.trod_struct Ybaf.underlying73 h
  rw [cells73] at hl
  have hx4 : xs.length = 4 := hx
  match cs, hl with
  | [c0, c1, c2, c3], _ =>
    have h0 := hf 0 _ rfl
    have h1 := hf 1 _ rfl
    have h2 := hf 2 _ rfl
    have h3 := hf 3 _ rfl
    rw [List.getElem?_eq_getElem (by omega)] at h0 h1 h2 h3
    obtain ⟨u0, e0, _, w0⟩ := DataW.trod_int Ybaf.underlying5 h0
    obtain ⟨u1, e1, _, w1⟩ := DataW.trod_int Ybaf.underlying5 h1
    obtain ⟨u2, e2, _, w2⟩ := DataW.trod_int Ybaf.underlying59 h2
    obtain ⟨u3, e3, _, w3⟩ := DataW.trod_int Ybaf.underlying5 h3
    simp [cells5, cells59] at e0 e1 e2 e3
    subst e0 e1 e2 e3
    have b0 := bounds_u8 w0
    have b1 := bounds_u8 w1
    have b2 := bounds_u64 w2
    have b3 := bounds_u8 w3
    exact ⟨⟨u0, u1, u2, u3⟩, ⟨b0.1, b0.2, b1.1, b1.2, b2.1, by have := b2.2; show u2 < _; omega, b3.1, b3.2⟩, rfl⟩

theorem isOpts_of {H : Type} {enc : TypeId × Value → H} {W : World} {a1 : Option Addr} {len1 cap1 : Nat} {d : DataW H} {ps : List MemPlace} (h1 : DataW.Trod enc Ybaf.prog W 0 (fun _ => true) true 70 (.slice a1 len1 cap1) d ps) : IsOpts W a1 len1 := by
  obtain ⟨fuel, hf⟩ := h1
  rcases Deep.open_slice Ybaf.underlying70 hf with ⟨hcs, _⟩ | ⟨a, len, cap, m, n, D, Pl, hcs, _, hl, hm, hmm, hx, hcell⟩
  · simp [Value.cells] at hcs
    obtain ⟨rfl, rfl, rfl⟩ := hcs
    exact ⟨[], rfl, (fun o ho => by cases ho), (fun h => by simp at h)⟩
  · simp [Value.cells] at hcs
    obtain ⟨rfl, rfl, rfl⟩ := hcs
    simp only [if_true] at hmm
    have key : ∀ i, i < len1 → ∃ o : Opt, o.wf ∧ W.cell? (a.add (i * 4)) = some (.int .u8 o.kind) ∧ W.cell? ((a.add (i * 4)).add 1) = some (.int .u8 o.a) ∧ W.cell? ((a.add (i * 4)).add 2) = some (.int .u64 o.b) ∧ W.cell? ((a.add (i * 4)).add 3) = some (.int .u8 o.l) := by
      intro i hi
      obtain ⟨cs', hc, ht⟩ := hcell i (by omega)
      obtain ⟨o, wf, rfl⟩ := open_opt ht
      rw [cells73] at hc
      obtain ⟨_, _, hg⟩ := World.cells?_some hc
      have g0 := hg 0 (by omega)
      have g1 := hg 1 (by omega)
      have g2 := hg 2 (by omega)
      have g3 := hg 3 (by omega)
      exact ⟨o, wf, by simpa [Addr.add] using g0, by simpa using g1, by simpa using g2, by simpa using g3⟩
    let os : List Opt := (List.range len1).attach.map fun i => Classical.choose (key i.1 (List.mem_range.1 i.2))
    have hlen : os.length = len1 := by simp [os]
    have hget : ∀ i (h : i < os.length), (os[i]).wf ∧ W.cell? (a.add (i * 4)) = some (.int .u8 (os[i]).kind) ∧ W.cell? ((a.add (i * 4)).add 1) = some (.int .u8 (os[i]).a) ∧ W.cell? ((a.add (i * 4)).add 2) = some (.int .u64 (os[i]).b) ∧ W.cell? ((a.add (i * 4)).add 3) = some (.int .u8 (os[i]).l) := by
      intro i h
      have := Classical.choose_spec (key i (by omega))
      simpa [os] using this
    refine ⟨os, hlen, fun o ho => ?_, fun h => ?_⟩
    · obtain ⟨j, hj, rfl⟩ := List.getElem_of_mem ho
      exact (hget j hj).1
    · obtain ⟨b, off, spot⟩ := a
      have hspot : spot = none := by simpa [Addr.add] using World.cell?_spot (hget 0 h).2.1
      subst hspot
      refine ⟨b, off, rfl, ?_, fun i hi => ?_⟩
      · have := World.block_lt_of_cell? _ _ (hget 0 h).2.1
        simpa [Addr.add] using this
      · obtain ⟨wf, k0, k1, k2, k3⟩ := hget i hi
        rw [add_plain] at k0 k1 k2 k3
        rw [add_plain] at k1 k2 k3
        exact ⟨wf, k0, k1, k2, k3⟩

set_option maxRecDepth 100000 in
theorem built_lifted (os : Os) (started : os.Started) (H : Type) (enc : TypeId × Value → H) :
    ReturnsInTold none {} Ybaf.checked os 6 .any Input.okWide ((OpenSpec.ofChange Rows.lawS3101CBuiltSpec).preRow enc Ybaf.prog Ybaf.f6 [] false []) (fun F => ((OpenSpec.ofChange Rows.lawS3101CBuiltSpec).at F).post enc Ybaf.prog Ybaf.f6 false true false false) (aloneAtReturn Ybaf.prog) nothingAlways := by
  refine returnsInTold_of_row (C := Ybaf.checked) (s := OpenSpec.ofChange Rows.lawS3101CBuiltSpec) (by kernel_rfl) own started (by kernel_rfl) Ybaf.func6
    (OpenSpec.witness_stopped (enc := enc) (C := Ybaf.checked) false ⟨#[], #[.int .u16 0, .int .u32 0, .bool false, .int .u8 0, .slice none 0 0, .bool false], []⟩ 8 (by kernel_rfl) (by kernel_rfl) (by kernel_rfl) (by kernel_rfl)) ?_
  intro F W base args ds gs before _ hF hval0 hW _ _ hsz _ _
  have hval : ∀ (j : Nat) t v, Ybaf.f6.params[j]? = some t → args[j]? = some v → Value.okWide Ybaf.prog W .any base t v := hval0
  have hW' := hW
  obtain ⟨p, q, hA0, hV, rfl, _, _⟩ := hW
  have hA : DataW.TrodAll enc Ybaf.prog W 0 (fun _ => true) true Ybaf.f6.params.toList args.toList ds p := hA0
  rw [Ybaf.params6] at hA hval
  obtain ⟨v0, vs0, d0, ds0, p0, q0, ea0, rfl, rfl, h0, hA⟩ := trodAll_cons hA
  obtain ⟨v1, vs1, d1, ds1, p1, q1, rfl, rfl, rfl, h1, hA⟩ := trodAll_cons hA
  obtain ⟨v2, vs2, d2, ds2, p2, q2, rfl, rfl, rfl, h2, hA⟩ := trodAll_cons hA
  obtain ⟨v3, vs3, d3, ds3, p3, q3, rfl, rfl, rfl, h3, hA⟩ := trodAll_cons hA
  obtain ⟨v4, vs4, d4, ds4, p4, q4, rfl, rfl, rfl, h4, hA⟩ := trodAll_cons hA
  obtain ⟨v5, vs5, d5, ds5, p5, q5, rfl, rfl, rfl, h5, hA⟩ := trodAll_cons hA
  obtain ⟨rfl, rfl, rfl⟩ := trodAll_nil hA
  obtain rfl : args = #[v0, v1, v2, v3, v4, v5] := by cases args; simp_all
  obtain ⟨rfl, rfl⟩ := trodVars_none hV
  obtain ⟨x0, rfl, rfl, rfl, w0⟩ := open_int Ybaf.underlying22 (hval 0 22 v0 rfl rfl) h0
  obtain ⟨x1, rfl, rfl, rfl, w1⟩ := open_int Ybaf.underlying25 (hval 1 25 v1 rfl rfl) h1
  obtain ⟨x2, rfl, rfl, rfl⟩ := open_bool Ybaf.underlying4 (hval 2 4 v2 rfl rfl) h2
  obtain ⟨x3, rfl, rfl, rfl, w3⟩ := open_int Ybaf.underlying5 (hval 3 5 v3 rfl rfl) h3
  obtain ⟨a4, len, cap, rfl⟩ := okWide_slice Ybaf.underlying70 (hval 4 70 v4 rfl rfl)
  obtain ⟨x5, rfl, rfl, rfl⟩ := open_bool Ybaf.underlying4 (hval 5 4 v5 rfl rfl) h5
  have lt4 : ∀ x ∈ p4, x.block < W.heap.size := by obtain ⟨m, hm⟩ := h4; exact DataW.trod_lt m _ _ _ hm
  have b0 := bounds_u16 w0
  have b1 := bounds_u32 w1
  have b3 := bounds_u8 w3
  clear hA0 hval0
  refine (built_any F.told x0 x1 x2 x3 a4 len cap x5 W hF b0.1 (by omega) b1.1 (by omega) b3.1 b3.2 (isOpts_of h4)).mono fun e W' ⟨he, bel⟩ => ?_
  subst he
  exact ⟨_, rfl, _, _, _, [], _, [], hW', trodAll_mk1 (shut_bool Ybaf.underlying4 _), (trodAll_cons_mk (shut_int Ybaf.underlying22 w0) (trodAll_cons_mk (shut_int Ybaf.underlying25 w1) (trodAll_cons_mk (shut_bool Ybaf.underlying4 _) (trodAll_cons_mk (shut_int Ybaf.underlying5 w3) (trodAll_cons_mk (Below.trod laidOut (by kernel_rfl) (of_decide_eq_true (by kernel_rfl)) h4 bel lt4) (trodAll_cons_mk (shut_bool Ybaf.underlying4 _) trodAll_mk0)))))), rfl, bel.frame _, fun h => by cases h⟩

end Go.Proofs.YbulkbleuFmt.BuiltCard
namespace Go.Proofs.YbulkbleuFmt
open Go.ChangeShapes Go.WideShapes Go.ChangeAt Go.RowKit
open Go.Extern.Stop Go.Stop Go.Extern

theorem LawS3101CBuilt_proved : Rows.LawS3101CBuiltToldSaid :=
  Claim7.holds_of_told_any 6 Ybaf.f6 "fmt.errorf" [] [] _ _ _ (by kernel_rfl) rfl rfl rfl BuiltCard.laidOut (by kernel_rfl) rfl ⟨rfl, rfl, rfl, rfl, rfl, rfl, rfl⟩ rfl rfl (by kernel_rfl) (by kernel_rfl) Ybaf.func6 (by kernel_rfl)
    (of_decide_eq_true (by kernel_rfl)) (of_decide_eq_true (by kernel_rfl)) BuiltCard.stopsAre.symm rfl BuiltCard.stopKnobs.symm (by kernel_rfl)
    (by kernel_rfl) (by kernel_rfl) (by kernel_rfl) (by kernel_rfl) (by kernel_rfl) (by kernel_rfl) (by kernel_rfl) (by kernel_rfl) (by kernel_rfl) rfl (by kernel_rfl) rfl rfl
    rfl rfl
    rfl (by kernel_rfl) (by kernel_rfl) (by kernel_rfl) (by decide) (by kernel_rfl)
    (OpenClaim.moreEntering_of (by kernel_rfl) (by kernel_rfl) (by kernel_rfl) (by kernel_rfl) (by kernel_rfl) (by kernel_rfl) (by kernel_rfl) (by kernel_rfl) (by kernel_rfl) (by kernel_rfl))
    ⟨_, WideRow.started_initial, BuiltCard.quiet _⟩
    (fun os started _ H enc _ => BuiltCard.built_lifted os started H enc)

end Go.Proofs.YbulkbleuFmt
