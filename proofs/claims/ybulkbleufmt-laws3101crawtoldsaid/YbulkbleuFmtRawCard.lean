/- LawS3101CRaw: the told card. -/
import Derived.Test.YbulkbleuFmtRaw
import Derived.Test.YbulkbleuFmtCards
import Derived.ProofKit
import Derived.ChangeSlices
import Derived.ChangeSame
import Derived.ChangeMaps5
import Derived.ChangeOld
import Derived.JoinedOf
import Derived.Carry
import Derived.Stop.JoinedAt
import Derived.Stop.Texts
import Derived.Stop.JoinedTold
import Derived.SizedLaws
import Derived.SevenToldRow
namespace Go.Proofs.YbulkbleuFmt
open Go.ChangeShapes Go.WideShapes Go.ChangeAt Go.RowKit
open Go.Extern.Stop Go.Stop Go.Extern

theorem own : ownKnob Ybaf.prog.godebug = none := by kernel_rfl
theorem laidOut : laidOutB Ybaf.pinned.checked.prog = true := by kernel_rfl
theorem cells5 : Ybaf.prog.cellsOf 5 = 1 := by kernel_rfl
theorem stopsAre : Ybaf.pinned.checked.prog.stops = ["fmt.errorf"] := by kernel_rfl
theorem stopKnobs : Ybaf.pinned.checked.prog.stopKnobs = [] := by kernel_rfl
theorem quiet (os : Os) : Stop.quiet Ybaf.pinned.checked.prog os := by
  intro k hk
  rw [stopKnobs] at hk
  cases hk

/-- A slice of bytes that came in. -/
theorem isBytes_of {H : Type} {enc : TypeId × Value → H} {W : World} {a : Option Addr} {n cap : Nat} {d : DataW H} {ps : List MemPlace} (h : DataW.Trod enc Ybaf.prog W 0 (fun _ => true) true 24 (.slice a n cap) d ps) : IsBytes W a n := by
  obtain ⟨fuel, hf⟩ := h
  rcases open_ints Ybaf.underlying24 Ybaf.underlying5 cells5 hf with ⟨hcs, _⟩ | ⟨x, l, c, zs, hcs, _, hl, hm, hz, _, hcell, hwz⟩
  · simp [Value.cells] at hcs
    obtain ⟨rfl, rfl, rfl⟩ := hcs
    exact .inl rfl
  · simp [Value.cells] at hcs
    obtain ⟨rfl, rfl, rfl⟩ := hcs
    simp only [if_true] at hz
    rcases Nat.eq_zero_or_pos n with h0 | h0
    · exact .inl h0
    · right
      obtain ⟨b, off, spot⟩ := x
      have k0 := hcell 0 (by omega)
      have hspot : spot = none := by simpa [Addr.add] using World.cell?_spot k0
      subst hspot
      refine ⟨b, off, fun i => zs.getD i 0, rfl, ?_, fun i => ?_, fun i hi => ?_⟩
      · have := World.block_lt_of_cell? _ _ k0
        simpa [Addr.add] using this
      · by_cases hi : i < zs.length
        · have hm : zs.getD i 0 ∈ zs := by simp [List.getD, hi]
          exact bounds_u8 (hwz _ hm)
        · have : zs.getD i 0 = 0 := by simp [List.getD, hi]
          show 0 ≤ zs.getD i 0 ∧ zs.getD i 0 ≤ 255
          rw [this]; decide
      · have := hcell i (by omega)
        rwa [add_plain] at this

set_option maxRecDepth 100000 in
theorem raw_lifted (os : Os) (started : os.Started) (H : Type) (enc : TypeId × Value → H) :
    ReturnsInTold none {} Ybaf.checked os 5 .any Input.okWide ((OpenSpec.ofChange Rows.lawS3101CRawSpec).preRow enc Ybaf.prog Ybaf.f5 [] false []) (fun F => ((OpenSpec.ofChange Rows.lawS3101CRawSpec).at F).post enc Ybaf.prog Ybaf.f5 false true false false) (aloneAtReturn Ybaf.prog) nothingAlways := by
  refine returnsInTold_of_row (C := Ybaf.checked) (s := OpenSpec.ofChange Rows.lawS3101CRawSpec) (by kernel_rfl) own started (by kernel_rfl) Ybaf.func5
    (OpenSpec.witness_stopped (enc := enc) (C := Ybaf.checked) false ⟨#[], #[.slice none 0 0, .bool false, .int .u8 0], []⟩ 8 (by kernel_rfl) (by kernel_rfl) (by kernel_rfl) (by kernel_rfl)) ?_
  intro F W base args ds gs before _ hF hval0 hW _ _ hsz _ _
  have hval : ∀ (j : Nat) t v, Ybaf.f5.params[j]? = some t → args[j]? = some v → Value.okWide Ybaf.prog W .any base t v := hval0
  have hW' := hW
  obtain ⟨p, q, hA0, hV, rfl, _, _⟩ := hW
  have hA : DataW.TrodAll enc Ybaf.prog W 0 (fun _ => true) true Ybaf.f5.params.toList args.toList ds p := hA0
  rw [Ybaf.params5] at hA hval
  obtain ⟨v0, v1, v2, d0, d1, d2, p0, p1, p2, rfl, rfl, rfl, h0, h1, h2⟩ := trodAll_three hA
  obtain ⟨rfl, rfl⟩ := trodVars_none hV
  obtain ⟨a0, len, cap, rfl⟩ := okWide_slice Ybaf.underlying24 (hval 0 24 v0 rfl rfl)
  obtain ⟨b1, rfl, rfl, rfl⟩ := open_bool Ybaf.underlying4 (hval 1 4 v1 rfl rfl) h1
  obtain ⟨k2, rfl, rfl, rfl, wk⟩ := open_int Ybaf.underlying5 (hval 2 5 v2 rfl rfl) h2
  have lt0 : ∀ x ∈ p0, x.block < W.heap.size := by obtain ⟨m, hm⟩ := h0; exact DataW.trod_lt m _ _ _ hm
  have hbd := bounds_u8 wk
  clear hA0 hval0
  refine (raw_any F.told a0 len cap b1 k2 hbd.1 hbd.2 W hF (isBytes_of h0)).mono fun e W' ⟨he, bel⟩ => ?_
  subst he
  exact ⟨_, rfl, _, _, _, [], _, [], hW', trodAll_mk1 (shut_bool Ybaf.underlying4 _), trodAll_mk3 (Below.trod laidOut (by kernel_rfl) (of_decide_eq_true (by kernel_rfl)) h0 bel lt0) (shut_bool Ybaf.underlying4 _) (shut_int Ybaf.underlying5 wk), rfl, bel.frame _, fun h => by cases h⟩

theorem LawS3101CRaw_proved : Rows.LawS3101CRawToldSaid :=
  Claim7.holds_of_told_any 5 Ybaf.f5 "fmt.errorf" [] [] _ _ _ (by kernel_rfl) rfl rfl rfl laidOut (by kernel_rfl) rfl ⟨rfl, rfl, rfl, rfl, rfl, rfl, rfl⟩ rfl rfl (by kernel_rfl) (by kernel_rfl) Ybaf.func5 (by kernel_rfl)
    (of_decide_eq_true (by kernel_rfl)) (of_decide_eq_true (by kernel_rfl)) stopsAre.symm rfl stopKnobs.symm (by kernel_rfl)
    (by kernel_rfl) (by kernel_rfl) (by kernel_rfl) (by kernel_rfl) (by kernel_rfl) (by kernel_rfl) (by kernel_rfl) (by kernel_rfl) (by kernel_rfl) rfl (by kernel_rfl) rfl rfl
    rfl rfl
    rfl (by kernel_rfl) (by kernel_rfl) (by kernel_rfl) (by decide) (by kernel_rfl)
    (OpenClaim.moreEntering_of (by kernel_rfl) (by kernel_rfl) (by kernel_rfl) (by kernel_rfl) (by kernel_rfl) (by kernel_rfl) (by kernel_rfl) (by kernel_rfl) (by kernel_rfl) (by kernel_rfl))
    ⟨_, WideRow.started_initial, quiet _⟩
    (fun os started _ H enc _ => raw_lifted os started H enc)

end Go.Proofs.YbulkbleuFmt
