/- LawS3101BMessages: the told and tied card. -/
import Derived.Test.YbulkbleuFmtMLaw
import Derived.Test.YbulkbleuFmtCards
import Derived.Test.YbulkbleuFmtTie
import Derived.ProofKit
import Derived.ChangeSlices
import Derived.ChangeSame
import Derived.ChangeVars
import Derived.ChangeOld
import Derived.JoinedOf
import Derived.Carry
import Derived.OpenVars
import Derived.OpenShut
import Derived.LaidLaws
import Derived.LaidHandle
import Derived.Stop.LaidTwo
import Derived.Stop.JoinedAt
import Derived.Stop.Texts
import Derived.Stop.JoinedTold
import Derived.SizedLaws
import Derived.SevenToldRow
import Derived.SevenTiedAt
import Derived.Deep.DeepWitnessRef
namespace Go.Proofs.YbulkbleuFmt.MCard
open Go.ChangeShapes Go.WideShapes Go.ChangeAt Go.RowKit
open Go.Extern.Stop Go.Stop Go.Extern
open Go.Proofs.YbulkbleuFmt.B

theorem own : ownKnob Ybaf.prog.godebug = none := by kernel_rfl
theorem laidOut : laidOutB Ybaf.pinned.checked.prog = true := by kernel_rfl
theorem cells5 : Ybaf.prog.cellsOf 5 = 1 := by kernel_rfl
theorem cells104 : Ybaf.prog.cellsOf 104 = 1 := by kernel_rfl
theorem cells9 : Ybaf.prog.cellsOf 9 = 1 := by kernel_rfl
theorem stopsAre : Ybaf.pinned.checked.prog.stops = ["fmt.errorf"] := by kernel_rfl
theorem stopKnobs : Ybaf.pinned.checked.prog.stopKnobs = [] := by kernel_rfl
theorem quiet (os : Os) : Stop.quiet Ybaf.pinned.checked.prog os := by
  intro k hk
  rw [stopKnobs] at hk
  cases hk
theorem gMal : Ybaf.prog.globalNamed "example.com/flowvane/flowvane/internal/ipfix.ErrMalformed" = some 1 := by kernel_rfl
theorem gLong : Ybaf.prog.globalNamed "example.com/flowvane/flowvane/internal/ipfix.ErrRecordTooLong" = some 0 := by kernel_rfl
theorem gMalType : (Ybaf.prog.globals[1]?).map (·.type) = some 30 := by kernel_rfl
theorem gLongType : (Ybaf.prog.globals[0]?).map (·.type) = some 30 := by kernel_rfl
theorem star : "*" ++ "errors.errorString" = "*errors.errorString" := by decide
theorem row102 (u : TypeId) (h : Ybaf.prog.typeName? 3 u = some "*errors.errorString") : u = 102 :=
  typeName_ptr_named (nm := "errors.errorString") (by rw [star]; kernel_rfl) (by kernel_rfl) (by decide) u (by rw [star]; exact h)

/-- What 'laid' gives. -/
theorem laid_facts {W : World} (h : laidMetH Ybaf.prog Rows.lawS3101BMessagesRow.laid W) : ∃ (a : Addr) (tx : ByteArray), W.cell? ⟨0, 0, none⟩ = some (.iface 102 (.pointer (some a))) ∧ W.cell? a = some (.string tx) := by
  have hL : laidMet Ybaf.prog Rows.lawS3101BMessagesRow.laid W := h
  obtain ⟨a0, a1, s0, s1, c0, c1, t0, t1, hv0, hv1, hc0, hs0, hz0, hc1, hs1, hz1, hne, hb0, hb1⟩ := laid_sentinels2 hL gMal gMalType gLong gLongType Ybaf.underlying30 row102 Ybaf.underlying102 Ybaf.underlying104 rfl rfl Ybaf.underlying9 cells104 cells9
  exact ⟨a1, s1, by simpa using World.var?_cell gLong hv1 0, hc1⟩

theorem words_of {H : Type} {enc : TypeId × Value → H} {W : World} {a : Option Addr} {n cap : Nat} {d : DataW H} {ps : List MemPlace} (h : DataW.Trod enc Ybaf.prog W 0 (fun _ => true) true 23 (.slice a n cap) d ps) : IsWords W a n := by
  obtain ⟨fuel, hf⟩ := h
  rcases open_ints Ybaf.underlying23 Ybaf.underlying22 cells22 hf with ⟨hcs, _⟩ | ⟨x, l, c, zs, hcs, _, hl, hm, hz, _, hcell, hwz⟩
  · simp [Value.cells] at hcs
    obtain ⟨rfl, rfl, rfl⟩ := hcs
    exact .inl rfl
  · simp [Value.cells] at hcs
    obtain ⟨rfl, rfl, rfl⟩ := hcs
    simp only [if_true] at hz
    rcases Nat.eq_zero_or_pos n with h0 | h0
    · exact .inl h0
    · obtain ⟨b, off, spot⟩ := x
      have k0 := hcell 0 (by omega)
      have hspot : spot = none := by simpa [Addr.add] using World.cell?_spot k0
      subst hspot
      refine .inr ⟨b, off, fun i => zs.getD i 0, rfl, ?_, fun i hi => ⟨?_, ?_⟩⟩
      · have := World.block_lt_of_cell? _ _ k0
        simpa [Addr.add] using this
      · have hm : zs.getD i 0 ∈ zs := by simp [List.getD, List.getElem?_eq_getElem (show i < zs.length by omega)]
        have := bounds_u16 (hwz _ hm)
        show 0 ≤ zs.getD i 0 ∧ zs.getD i 0 < 65536
        omega
      · have := hcell i (by omega)
        rw [Addr.add_lit] at this
        exact this
theorem octets_of {H : Type} {enc : TypeId × Value → H} {W : World} {a : Option Addr} {n cap : Nat} {d : DataW H} {ps : List MemPlace} (h : DataW.Trod enc Ybaf.prog W 0 (fun _ => true) true 24 (.slice a n cap) d ps) : IsOctets W a n := by
  obtain ⟨fuel, hf⟩ := h
  rcases open_ints Ybaf.underlying24 Ybaf.underlying5 cells5 hf with ⟨hcs, _⟩ | ⟨x, l, c, zs, hcs, _, hl, hm, hz, _, hcell, hwz⟩
  · simp [Value.cells] at hcs
    obtain ⟨rfl, rfl, rfl⟩ := hcs
    exact .inl rfl
  · simp [Value.cells] at hcs
    obtain ⟨rfl, rfl, rfl⟩ := hcs
    simp only [if_true] at hz
    rcases Nat.eq_zero_or_pos n with h0 | h0
    · exact .inl h0
    · obtain ⟨b, off, spot⟩ := x
      have k0 := hcell 0 (by omega)
      have hspot : spot = none := by simpa [Addr.add] using World.cell?_spot k0
      subst hspot
      refine .inr ⟨b, off, fun i => zs.getD i 0, rfl, ?_, fun i hi => ⟨?_, ?_⟩⟩
      · have := World.block_lt_of_cell? _ _ k0
        simpa [Addr.add] using this
      · have hm : zs.getD i 0 ∈ zs := by simp [List.getD, List.getElem?_eq_getElem (show i < zs.length by omega)]
        have := bounds_u8 (hwz _ hm)
        show 0 ≤ zs.getD i 0 ∧ zs.getD i 0 < 256
        omega
      · have := hcell i (by omega)
        rw [Addr.add_lit] at this
        exact this

abbrev malS : ByteArray := { data := #[109, 97, 108, 102, 111, 114, 109, 101, 100] }
abbrev longS : ByteArray := { data := #[114, 101, 99, 111, 114, 100, 32, 116, 111, 111, 32, 108, 111, 110, 103] }
noncomputable def low : Nat := (World.holding Ybaf.prog default ⟨#[], #[], []⟩).heap.size
noncomputable def laidWorld (os : Go.Os) : World :=
  let w0 := World.holding Ybaf.prog os ⟨#[.cells #[.string longS] 104, .cells #[.string malS] 104], #[], []⟩
  { w0 with heap := (w0.heap.modify 0 fun
      | .cells _ t frozen => .cells #[.iface 102 (.pointer (some ⟨low, 0, none⟩))] t frozen
      | o => o).modify 1 fun
      | .cells _ t frozen => .cells #[.iface 102 (.pointer (some ⟨low + 1, 0, none⟩))] t frozen
      | o => o }
theorem laid_met (os : Go.Os) (args : Array Value) : laidMet Ybaf.prog Rows.lawS3101BMessagesRow.laid ((laidWorld os).forCall (fun _ _ => 0) ⟨#[], args, []⟩).memory :=
  laidMet_of_run (ps := [.cell 1 0, .cell (low + 1) 0, .cell 0 0, .cell low 0]) 8 (by kernel_rfl) (by kernel_rfl) (by kernel_rfl)

/-- Two listed variables. -/
theorem two_vars {H : Type} {enc : TypeId × Value → H} {W : World} {sp : Nat → Bool} {n0 n1 : String} {gs : List (DataW H)} {q : List MemPlace} (hV : DataW.TrodVars enc Ybaf.prog W sp [n0, n1] gs q) : ∃ g1 g2, gs = [g1, g2] := by
  match gs, hV with
  | [], h => exact h.elim
  | [g1], h => obtain ⟨_, _, _, _, _, _, _, _, _, _, h, _⟩ := h; exact h.elim
  | [g1, g2], _ => exact ⟨g1, g2, rfl⟩
  | g1 :: g2 :: g3 :: r, h => obtain ⟨_, _, _, _, _, _, _, _, _, _, h, _⟩ := h; obtain ⟨_, _, _, _, _, _, _, _, _, _, h, _⟩ := h; exact h.elim

set_option maxRecDepth 100000 in
theorem msg_lifted (os : Os) (started : os.Started) (H : Type) (enc : TypeId × Value → H) :
    ReturnsInTold none {} Ybaf.checked os 3 .any Input.okWide ((OpenSpec.ofChange Rows.lawS3101BMessagesSpec).preRow enc Ybaf.prog Ybaf.f3 [] false Rows.lawS3101BMessagesRow.laid) (fun F => ((OpenSpec.ofChange Rows.lawS3101BMessagesSpec).at F).post enc Ybaf.prog Ybaf.f3 false true false false) (aloneAtReturn Ybaf.prog) nothingAlways := by
  refine returnsInTold_of_row (C := Ybaf.checked) (s := OpenSpec.ofChange Rows.lawS3101BMessagesSpec) (by kernel_rfl) own started (by kernel_rfl) Ybaf.func3
    (OpenSpec.witness_stopped_atRef (enc := enc) (C := Ybaf.checked) false (laidWorld os) #[.int .u16 0, .slice none 0 0, .slice none 0 0, .int .u16 0, .int .u16 0, .int .u8 0, .int .u32 0, .int .u32 0] rfl (by kernel_rfl) (by kernel_rfl) (by kernel_rfl)
      (OpenSpec.preRow_of_B rfl 8 (by kernel_rfl) (by kernel_rfl) (laid_met os _))) ?_
  intro F W base args ds gs before _ hF hval0 hW _ _ hsz hL _
  have hval : ∀ (j : Nat) t v, Ybaf.f3.params[j]? = some t → args[j]? = some v → Value.okWide Ybaf.prog W .any base t v := hval0
  have hW' := hW
  obtain ⟨p, q, hA0, hV0, rfl, _, _⟩ := hW
  have hA : DataW.TrodAll enc Ybaf.prog W 0 (fun _ => true) true Ybaf.f3.params.toList args.toList ds p := hA0
  have hV : DataW.TrodVars enc Ybaf.prog W (fun _ => true) ["example.com/flowvane/flowvane/internal/ipfix.ErrRecordTooLong", "example.com/flowvane/flowvane/internal/ipfix.ErrMalformed"] gs q := hV0
  rw [Ybaf.params3] at hA hval
  obtain ⟨v0, vs0, d0, ds0, p0, q0, ea0, rfl, rfl, h0, hA⟩ := trodAll_cons hA
  obtain ⟨v1, vs1, d1, ds1, p1, q1, rfl, rfl, rfl, h1, hA⟩ := trodAll_cons hA
  obtain ⟨v2, vs2, d2, ds2, p2, q2, rfl, rfl, rfl, h2, hA⟩ := trodAll_cons hA
  obtain ⟨v3, vs3, d3, ds3, p3, q3, rfl, rfl, rfl, h3, hA⟩ := trodAll_cons hA
  obtain ⟨v4, vs4, d4, ds4, p4, q4, rfl, rfl, rfl, h4, hA⟩ := trodAll_cons hA
  obtain ⟨v5, vs5, d5, ds5, p5, q5, rfl, rfl, rfl, h5, hA⟩ := trodAll_cons hA
  obtain ⟨v6, vs6, d6, ds6, p6, q6, rfl, rfl, rfl, h6, hA⟩ := trodAll_cons hA
  obtain ⟨v7, vs7, d7, ds7, p7, q7, rfl, rfl, rfl, h7, hA⟩ := trodAll_cons hA
  obtain ⟨rfl, rfl, rfl⟩ := trodAll_nil hA
  obtain rfl : args = #[v0, v1, v2, v3, v4, v5, v6, v7] := by cases args; simp_all
  obtain ⟨x0, rfl, rfl, rfl, w0⟩ := open_int Ybaf.underlying22 (hval 0 22 v0 rfl rfl) h0
  obtain ⟨a1, n1, c1, rfl⟩ := okWide_slice Ybaf.underlying23 (hval 1 23 v1 rfl rfl)
  obtain ⟨a2, n2, c2, rfl⟩ := okWide_slice Ybaf.underlying24 (hval 2 24 v2 rfl rfl)
  obtain ⟨x3, rfl, rfl, rfl, w3⟩ := open_int Ybaf.underlying22 (hval 3 22 v3 rfl rfl) h3
  obtain ⟨x4, rfl, rfl, rfl, w4⟩ := open_int Ybaf.underlying22 (hval 4 22 v4 rfl rfl) h4
  obtain ⟨x5, rfl, rfl, rfl, w5⟩ := open_int Ybaf.underlying5 (hval 5 5 v5 rfl rfl) h5
  obtain ⟨x6, rfl, rfl, rfl, w6⟩ := open_int Ybaf.underlying25 (hval 6 25 v6 rfl rfl) h6
  obtain ⟨x7, rfl, rfl, rfl, w7⟩ := open_int Ybaf.underlying25 (hval 7 25 v7 rfl rfl) h7
  have lt1 : ∀ x ∈ p1, x.block < W.heap.size := by obtain ⟨m, hm⟩ := h1; exact DataW.trod_lt m _ _ _ hm
  have lt2 : ∀ x ∈ p2, x.block < W.heap.size := by obtain ⟨m, hm⟩ := h2; exact DataW.trod_lt m _ _ _ hm
  have b0 := bounds_u16 w0
  have b3 := bounds_u16 w3
  have b4 := bounds_u16 w4
  have b5 := bounds_u8 w5
  have b6 := bounds_u32 w6
  have b7 := bounds_u32 w7
  obtain ⟨a0, tx, hg0, hat⟩ := laid_facts hL
  obtain ⟨g1, g2, rfl⟩ := two_vars hV
  clear hA0 hV0 hval0
  refine (msg_any (F := F.told) W x0 x3 x4 x5 x6 x7 b0.1 (by omega) b3.1 (by omega) b4.1 (by omega) b5.1 (by omega) b6.1 (by omega) b7.1 (by omega) a1 a2 n1 c1 n2 c2 (hide (words_of h1)) (hide (octets_of h2)) a0 tx hg0 hat hF).mono fun e W' ⟨he, bel⟩ => ?_
  subst he
  refine ⟨_, rfl, _, _, _, [], [] ++ (p1 ++ (p2 ++ ([] ++ ([] ++ ([] ++ ([] ++ ([] ++ []))))))), q, hW', trodAll_mk1 (shut_bool Ybaf.underlying4 _), ?_, Below.trodVars laidOut bel (by kernel_rfl) hV, bel.frame _, fun h => by cases h⟩
  exact trodAll_cons_mk (shut_int Ybaf.underlying22 w0) (trodAll_cons_mk (Below.trod laidOut (by kernel_rfl) (of_decide_eq_true (by kernel_rfl)) h1 bel lt1) (trodAll_cons_mk (Below.trod laidOut (by kernel_rfl) (of_decide_eq_true (by kernel_rfl)) h2 bel lt2) (trodAll_cons_mk (shut_int Ybaf.underlying22 w3) (trodAll_cons_mk (shut_int Ybaf.underlying22 w4) (trodAll_cons_mk (shut_int Ybaf.underlying5 w5) (trodAll_cons_mk (shut_int Ybaf.underlying25 w6) (trodAll_cons_mk (shut_int Ybaf.underlying25 w7) trodAll_mk0)))))))

end Go.Proofs.YbulkbleuFmt.MCard
namespace Go.Proofs.YbulkbleuFmt
open Go.ChangeShapes Go.WideShapes Go.ChangeAt Go.RowKit
open Go.Extern.Stop Go.Stop Go.Extern

theorem LawS3101BMessages_proved : Rows.LawS3101BMessagesToldSaid :=
  Claim7.holds_of_told_tied_any_at .later 3 Ybaf.f3 "fmt.errorf" [] [] _ _ _ _ _ (by kernel_rfl) rfl rfl rfl MCard.laidOut (by kernel_rfl) rfl ⟨rfl, rfl, rfl, rfl, rfl, rfl, rfl⟩ rfl rfl (by kernel_rfl) (by kernel_rfl) Ybaf.func3 (by kernel_rfl)
    (of_decide_eq_true (by kernel_rfl)) (of_decide_eq_true (by kernel_rfl)) MCard.stopsAre.symm rfl MCard.stopKnobs.symm (by kernel_rfl)
    (by kernel_rfl) (by kernel_rfl) (by kernel_rfl) (by kernel_rfl) (by kernel_rfl) (by kernel_rfl) (by kernel_rfl) (by kernel_rfl) (by kernel_rfl) rfl (by kernel_rfl) rfl rfl
    rfl rfl
    rfl (by kernel_rfl) (by kernel_rfl) (by kernel_rfl) (by decide) (by kernel_rfl) lawS3101BMessages_row_tie
    (OpenClaim.moreEntering_of (by kernel_rfl) (by kernel_rfl) (by kernel_rfl) (by kernel_rfl) (by kernel_rfl) (by kernel_rfl) (by kernel_rfl) (by kernel_rfl) (by kernel_rfl) (by kernel_rfl))
    ⟨_, WideRow.started_initial, MCard.quiet _⟩
    (fun os started _ H enc _ => MCard.msg_lifted os started H enc)

end Go.Proofs.YbulkbleuFmt
