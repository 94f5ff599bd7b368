/- LawS3101AKeeps: the walk, and the statement. -/
import Derived.Test.YbulkbleuInv
import Derived.ProofKit
import Derived.OpenShut
import Derived.ShutString
import Derived.ChangeOld
import Derived.Below
import Derived.Deep.Slices
namespace Go.Proofs.Ybulkbleu
open Go.ChangeShapes Go.WideShapes Go.ChangeAt Go.RowKit Go.Maps

theorem tmod_bd (a : Int) : -1099511627776 < a.tmod 1099511627776 ∧ a.tmod 1099511627776 < 1099511627776 := by
  rcases Int.lt_or_le a 0 with h | h
  · have e : a.tmod 1099511627776 = -((-a).tmod 1099511627776) := by rw [Int.neg_tmod]; omega
    rw [e, Int.tmod_eq_emod_of_nonneg (by omega)]; omega
  · rw [Int.tmod_eq_emod_of_nonneg h]; omega

/-- The world ahead of the loop. -/
abbrev ahead3 (base : Int) (w : World) : World :=
  ((w.alloc (Obj.map #[] 0)).alloc
      (Obj.cells
        #[Value.int IntKind.u32 7, Value.map (some w.heap.size), Value.map none, Value.int IntKind.u64 0,
          Value.int IntKind.i64 0, Value.int IntKind.u32 0, Value.bool false, Value.pointer none,
          Value.int IntKind.i64 0, Value.int IntKind.i64 base]
        32)).alloc
  (Obj.cells
    #[Value.pointer none, Value.pointer none, Value.pointer none, Value.pointer none, Value.pointer none,
      Value.pointer none, Value.pointer none, Value.pointer none]
    34)

theorem inv_start (base : Int) (w : World) : Inv w (ahead3 base w) base 0 (fun _ => none) (.map []) := by
  have gr : Grown w (ahead3 base w) := ((Grown.allocMap (Grown.refl w) _ _).alloc _ _).alloc _ _
  have fz : ∀ i j, (ahead3 base w).frozen? ⟨w.heap.size + i, j, none⟩ = false := fun i j => by rw [gr.2.1]; unfold World.frozen?; simp
  refine ⟨((World.ownsMap_made w Yba.prog 37 ptrElem).alloc _).alloc _, ?_, ?_, fz 1 9, fun i hi => ?_, fun i => fz 2 i, fun _ _ _ _ e => (by simp at e), fun _ _ => rfl, fun _ _ => rfl, rfl, (((Below.refl _ w).alloc (Nat.le_refl _) _).alloc (by simp) _).alloc (by simp; omega) _, by simp⟩
  · rw [World.cell?_alloc_past _ _ _ (by simp), World.cell?_alloc_at _ _ _ _ (by simp)]; rfl
  · rw [World.cell?_alloc_past _ _ _ (by simp), World.cell?_alloc_at _ _ _ _ (by simp)]; simp [tot, entVal]
  · rw [World.cell?_alloc_at _ _ _ _ (by simp)]
    have : i = 0 ∨ i = 1 ∨ i = 2 ∨ i = 3 ∨ i = 4 ∨ i = 5 ∨ i = 6 ∨ i = 7 := by omega
    rcases this with rfl | rfl | rfl | rfl | rfl | rfl | rfl | rfl <;> rfl

/-- 'd.put(t)' at the world of the round. -/
theorem put3' {w wr : World} {base : Int} {k : Nat} {ms : Nat → Ent} {D : DataW Unit} (h : Inv w wr base k ms D) (hk : k ≤ 1024) (hb1 : -1099511627776 < base) (hb2 : base < 1099511627776) (j : Nat) (hj : j < 8) (r : Nat) (hr : r ≤ 15) (x y : Int) :
    Calls Yba.prog 5 #[.pointer (some ⟨w.heap.size + 1, 0, none⟩), .pointer (some ⟨wr.heap.size + 1 + 1, 0, none⟩)]
      (((wr.alloc (Obj.cells #[Value.int IntKind.u8 x, Value.int IntKind.u8 y] 36)).alloc
        (Obj.cells (madeCells #[Value.int IntKind.u32 0, Value.int IntKind.u16 0, Value.int IntKind.u16 0] (r * 3))
          76)).alloc
    (Obj.cells
      #[Value.int IntKind.u16 ↑j, Value.slice (some { block := wr.heap.size + 1, off := 0 }) r r,
        Value.int IntKind.i64 0, Value.int IntKind.i64 0, Value.slice none 0 0, Value.pointer none,
        Value.slice none 0 0, Value.int IntKind.u64 0, Value.int IntKind.u64 0, Value.int IntKind.i64 0,
        Value.pointer none]
      46)) fun e w' => e = .returned (.tuple #[]) ∧
      (∃ v, w'.cell? ⟨w.heap.size + 1 + 1, j, none⟩ = some v) ∧ w'.frozen? ⟨w.heap.size + 1 + 1, j, none⟩ = false ∧
      ∃ D', Inv w (w'.setCell ⟨w.heap.size + 1 + 1, j, none⟩ (.pointer (some ⟨wr.heap.size + 1 + 1, 0, none⟩))) base (k + 1) (upd ms j (some (wr.heap.size + 1 + 1, r))) D' := by
  have hbig := h.big
  exact put3 (((h.alloc _ _).alloc _ _).alloc _ _) hk hb1 hb2 j hj (wr.heap.size + 1 + 1) r _ hr (by omega) (by simp) (by rw [World.cell?_alloc_at _ _ _ _ (by simp)]; rfl) (by rw [World.cell?_alloc_at _ _ _ _ (by simp)]; rfl)

set_option maxRecDepth 100000 in
set_option maxHeartbeats 400000 in
theorem walk3 (a0 : Int) (w0 : (Lit.int .i64 a0).wf = true) (b off len cap : Nat) (hlen : len ≤ 1024) (w : World) (hb : b < w.heap.size) 
   (hc : Hid (∀ i, i < len → ∃ x y : Int, 0 ≤ x ∧ x ≤ 255 ∧ 0 ≤ y ∧ y ≤ 255 ∧ w.cell? ⟨b, off + i * 2, none⟩ = some (.int .u8 x) ∧ w.cell? ⟨b, off + i * 2 + 1, none⟩ = some (.int .u8 y))) :
    Calls Yba.prog 3 #[.int .i64 a0, .slice (some ⟨b, off, none⟩) len cap] w fun e w' => e = .returned (.bool true) ∧ Below w.heap.size w w' := by
  have hb0 := bounds_i64 w0
  obtain ⟨base, hbase, hb1, hb2⟩ : ∃ b', a0.tmod 1099511627776 = b' ∧ -1099511627776 < b' ∧ b' < 1099511627776 := ⟨_, rfl, (tmod_bd a0).1, (tmod_bd a0).2⟩
  have hmm := @run_makeMap Yba.prog
  have hl1 : ¬ ((1024 : Int) < (len : Int)) := by omega
  have hst := inv_start base w
  go_enter Yba.func3, Yba.ntmps3
  go_wp2
  go_loopw [27] (fun i wr => ∃ k : Nat, k ≤ len ∧ i = .int .i64 k ∧ ∃ ms D, Inv w wr base k ms D) (fun i _ => len - (intOf i).toNat)
  case atStart => exact ⟨0, by omega, rfl, _, _, hst⟩
  case round =>
    obtain ⟨k, hk, rfl, ms, D, hI⟩ := hrel
    clear hst hmm
    by_cases hlt : k < len
    · obtain ⟨x, y, hx1, hx2, hy1, hy2, cx, cy⟩ := hc.out k hlt
      have gx := (hI.below.cell (p := ⟨b, off + k * 2, none⟩) hb).trans cx
      have gy := (hI.below.cell (p := ⟨b, off + k * 2 + 1, none⟩) hb).trans cy
      clear cx cy
      obtain ⟨j, hj, hj2⟩ : ∃ j : Nat, x % 8 = j ∧ j < 8 := ⟨(x % 8).toNat, by omega, by omega⟩
      obtain ⟨r, hr, hr2⟩ : ∃ r : Nat, y % 16 = r ∧ r ≤ 15 := ⟨(y % 16).toNat, by omega, by omega⟩
      have hmk := fun w => run_fields w r (by omega)
      go_wp2_with fail
      refine (put3' hI (by omega) hb1 hb2 j hj2 r hr2 x y).mono ?_
      rintro e w1 ⟨rfl, ⟨v, hv⟩, hf, D1, hI1⟩
      clear hI gx gy hmk
      obtain ⟨w2, hw2⟩ : ∃ w2, w2 = w1.setCell ⟨w.heap.size + 1 + 1, j, none⟩ (.pointer (some ⟨wr.heap.size + 1 + 1, 0, none⟩)) := ⟨_, rfl⟩
      have hj3 : (j : Int) < 8 := by omega
      go_wp2
      rw [← hw2] at hI1 ⊢
      generalize upd ms j (some (wr.heap.size + 1 + 1, r)) = ms1 at hI1
      clear hw2 hv hf hj hr ms hj3 hj2 hr2 hx1 hx2 hy1 hy2
      have q1 := hI1.dom1
      have q9 := hI1.dom9
      have htb := tot_bd ms1 (fun i hi b l e => (hI1.tem i hi b l e).1) 8 (Nat.le_refl _)
      go_loop [11, 12, 13] (fun want count i => ∃ m : Nat, m ≤ 8 ∧ i = .int .i64 m ∧ want = .int .i64 (base + tot ms1 m) ∧ count = .int .i64 (cnt ms1 m)) (fun _ _ i => 8 - (intOf i).toNat)
      case atStart => exact ⟨0, by omega, rfl, by simp [tot], rfl⟩
      case round =>
        obtain ⟨m, hm, rfl, rfl, rfl⟩ := hrel
        have hcl := cnt_le ms1 m
        have htm := tot_bd ms1 (fun i hi b l e => (hI1.tem i hi b l e).1) m hm
        by_cases hm8 : m < 8
        · have hat := hI1.hat m hm8
          have hha := hI1.hhas m hm8
          have hmo := hI1.mod m hm8
          have hm9 : (m : Int) < 8 := by omega
          have wi : (K (m : Int)).wf = true := K_wf hm8
          cases hms : ms1 m with
          | none =>
            rw [hms] at hat hha hmo
            have hlk := look_absent_ok hI1.own wi hat hha
            clear hat hha
            simp only [entPtr] at hmo
            go_wp2
            exact ⟨⟨m + 1, by omega, by go_num, by simp [tot, hms, entVal], by simp [cnt, hms, entOne]⟩, by simp [intOf]; omega⟩
          | some p =>
            obtain ⟨tb, l⟩ := p
            rw [hms] at hat hha hmo
            have hlk := look_there_ok hI1.own wi hat hha
            obtain ⟨h1, h2, h3, fa, fc, h4⟩ := hI1.tem m hm8 tb l hms
            clear hat hha
            simp only [entPtr] at hmo
            have hnq := neq33 ⟨tb, 0, none⟩ w2
            go_wp2
            exact ⟨⟨m + 1, by omega, by go_num, by simp [tot, hms, entVal]; omega, by simp [cnt, hms, entOne]⟩, by simp [intOf]; omega⟩
        · obtain rfl : m = 8 := by omega
          have hln := hI1.own.len Yba.underlying25
          rw [hI1.hsz] at hln
          clear hcl htm hm8 hm
          generalize cnt ms1 8 = C at hln ⊢
          generalize tot ms1 8 = T at q9 htb ⊢
          go_wp2
          exact ⟨⟨k + 1, by omega, by go_num, ms1, D1, hI1⟩, by simp [intOf]; omega⟩
    · go_wp2
      go_ret
      exact ⟨rfl, hI.below⟩

theorem walk3_long (a0 : Int) (a : Option Addr) (len cap : Nat) (hlen : 1024 < len) (w : World) :
    Calls Yba.prog 3 #[.int .i64 a0, .slice a len cap] w fun e w' => e = .returned (.bool true) ∧ Below w.heap.size w w' := by
  have hl1 : ((1024 : Int) < (len : Int)) := by omega
  go_enter Yba.func3, Yba.ntmps3
  go_wp2
  go_ret
  exact ⟨rfl, Below.refl _ _⟩

set_option maxRecDepth 100000 in
theorem walk3_none (a0 : Int) (w0 : (Lit.int .i64 a0).wf = true) (a : Option Addr) (cap : Nat) (w : World) :
    Calls Yba.prog 3 #[.int .i64 a0, .slice a 0 cap] w fun e w' => e = .returned (.bool true) ∧ Below w.heap.size w w' := by
  have hb0 := bounds_i64 w0
  obtain ⟨base, hbase, hb1, hb2⟩ : ∃ b', a0.tmod 1099511627776 = b' ∧ -1099511627776 < b' ∧ b' < 1099511627776 := ⟨_, rfl, (tmod_bd a0).1, (tmod_bd a0).2⟩
  have hmm := @run_makeMap Yba.prog
  have hst := (inv_start base w).below
  go_enter Yba.func3, Yba.ntmps3
  go_wp2
  refine wp_loop_rounds 1 ?_
  rw [rounds_succ]
  go_wp2
  go_ret
  exact ⟨rfl, hst⟩

/-- What the walk is told of the slice that came in. -/
def IsPuts (w : World) (a : Option Addr) (len : Nat) : Prop :=
  len = 0 ∨ ∃ b off, a = some ⟨b, off, none⟩ ∧ b < w.heap.size ∧ ∀ i, i < len → ∃ x y : Int, 0 ≤ x ∧ x ≤ 255 ∧ 0 ≤ y ∧ y ≤ 255 ∧ w.cell? ⟨b, off + i * 2, none⟩ = some (.int .u8 x) ∧ w.cell? ⟨b, off + i * 2 + 1, none⟩ = some (.int .u8 y)

theorem walk3_any (a0 : Int) (w0 : (Lit.int .i64 a0).wf = true) (a : Option Addr) (len cap : Nat) (w : World) (h : IsPuts w a len) :
    Calls Yba.prog 3 #[.int .i64 a0, .slice a len cap] w fun e w' => e = .returned (.bool true) ∧ Below w.heap.size w w' := by
  rcases h with rfl | ⟨b, off, rfl, hb, hc⟩
  · exact walk3_none a0 w0 a cap w
  · by_cases hl : len ≤ 1024
    · exact walk3 a0 w0 b off len cap hl w hb hc
    · exact walk3_long a0 _ len cap (by omega) w

namespace lawS3101AKeeps
set_option linter.unusedVariables false

theorem own : ownKnob Yba.prog.godebug = none := by kernel_rfl
theorem laidOut : laidOutB Yba.prog = true := by kernel_rfl
theorem cells36 : Yba.prog.cellsOf 36 = 2 := by kernel_rfl
theorem cells5 : Yba.prog.cellsOf 5 = 1 := by kernel_rfl

/-- An element of the slice: two bytes. -/
theorem open_put {H : Type} {enc : TypeId × Value → H} {w : World} {base : Nat} {spare : Nat → Bool} {held : Bool} {n : Nat} {cs : List Value} {x : DataW H × List MemPlace} (h : DataW.trod enc Yba.prog w base spare held n 36 cs = some x) :
    ∃ u v : Int, cs = [.int .u8 u, .int .u8 v] ∧ 0 ≤ u ∧ u ≤ 255 ∧ 0 ≤ v ∧ v ≤ 255 := by
  obtain ⟨y0, y1, n', _, hl, h0, h1⟩ := trod_struct2 Yba.underlying36 h
  rw [cells36] at hl
  match cs, hl with
  | [c0, c1], _ =>
    obtain ⟨u, e0, _, wu⟩ := DataW.trod_int Yba.underlying5 h0
    obtain ⟨v, e1, _, wv⟩ := DataW.trod_int Yba.underlying5 h1
    simp [cells5] at e0 e1
    subst e0 e1
    have bu := bounds_u8 wu
    have bv := bounds_u8 wv
    exact ⟨u, v, rfl, bu.1, bu.2, bv.1, bv.2⟩

theorem isPuts_of {H : Type} {enc : TypeId × Value → H} {W : World} {a1 : Option Addr} {len1 cap1 : Nat} {d : DataW H} {ps : List MemPlace} (h1 : DataW.Trod enc Yba.prog W 0 (fun _ => true) true 22 (.slice a1 len1 cap1) d ps) (lt1 : ∀ x ∈ ps, x.block < W.heap.size) : IsPuts W a1 len1 := by
  obtain ⟨fuel, hf⟩ := h1
  rcases Deep.open_slice Yba.underlying22 hf with ⟨hcs, _⟩ | ⟨a, len, cap, m, n, D, Pl, hcs, _, hl, hm, hmm, hx, hcell⟩
  · simp [Value.cells] at hcs
    obtain ⟨rfl, rfl, rfl⟩ := hcs
    exact .inl rfl
  · simp [Value.cells] at hcs
    obtain ⟨rfl, rfl, rfl⟩ := hcs
    rcases Nat.eq_zero_or_pos len1 with h0 | h0
    · exact .inl h0
    · right
      simp only [if_true] at hmm
      have key : ∀ i, i < len1 → ∃ x y : Int, 0 ≤ x ∧ x ≤ 255 ∧ 0 ≤ y ∧ y ≤ 255 ∧ W.cell? (a.add (i * 2)) = some (.int .u8 x) ∧ W.cell? ((a.add (i * 2)).add 1) = some (.int .u8 y) := by
        intro i hi
        obtain ⟨cs', hc, ht⟩ := hcell i (by omega)
        obtain ⟨u, v, rfl, b1, b2, b3, b4⟩ := open_put ht
        rw [cells36] at hc
        obtain ⟨_, _, hg⟩ := World.cells?_some hc
        have g0 := hg 0 (by omega)
        have g1 := hg 1 (by omega)
        exact ⟨u, v, b1, b2, b3, b4, by simpa [Addr.add] using g0, by simpa using g1⟩
      obtain ⟨b, off, spot⟩ := a
      obtain ⟨u, v, _, _, _, _, k0, _⟩ := key 0 h0
      have hspot : spot = none := by simpa [Addr.add] using World.cell?_spot k0
      subst hspot
      refine ⟨b, off, rfl, ?_, fun i hi => ?_⟩
      · have := World.block_lt_of_cell? _ _ k0
        simpa [Addr.add] using this
      · obtain ⟨u, v, b1, b2, b3, b4, k0, k1⟩ := key i hi
        rw [add_plain] at k0 k1
        rw [add_plain] at k1
        exact ⟨u, v, b1, b2, b3, b4, k0, k1⟩

set_option maxRecDepth 100000 in
theorem lifted (os : Os) (started : os.Started) (H : Type) (enc : TypeId × Value → H) :
    ReturnsInHanded {} Yba.checked os 3 .any (Rows.lawS3101AKeepsSpec.pre6 enc Yba.prog Yba.f3 Rows.lawS3101AKeepsRow.domain false) (Rows.lawS3101AKeepsSpec.post enc Yba.prog Yba.f3 false true false false) := by
  refine returnsInHanded_of_change (C := Yba.checked) own started (by kernel_rfl) Yba.func3
    (ChangeSpec.witness6 (enc := enc) (C := Yba.checked) false ⟨#[], #[.int .i64 0, .slice none 0 0], []⟩ 8 (by kernel_rfl) (by kernel_rfl) (by kernel_rfl) (by kernel_rfl)) ?_
  intro W base args ds gs before hval0 hW hcnd _
  have hval : ∀ (j : Nat) t v, Yba.f3.params[j]? = some t → args[j]? = some v → Value.okWide Yba.prog W .any base t v := hval0
  have hW' := hW
  obtain ⟨p, q, hA0, hV, rfl, hfz, hnd⟩ := hW
  have hA : DataW.TrodAll enc Yba.prog W 0 (fun _ => true) true Yba.f3.params.toList args.toList ds p := hA0
  rw [Yba.params3] at hA hval
  obtain ⟨v0, vs0, d0, ds0, p0, q0, hargs, rfl, rfl, h0, r0⟩ := trodAll_cons hA
  obtain ⟨v1, vs1, d1, ds1, p1, q1, rfl, rfl, rfl, h1, r1⟩ := trodAll_cons r0
  obtain ⟨rfl, rfl, rfl⟩ := trodAll_nil r1
  obtain rfl : args = #[v0, v1] := by cases args; simp_all
  obtain ⟨rfl, rfl⟩ := trodVars_none hV
  obtain ⟨a0, rfl, rfl, rfl, w0⟩ := open_int Yba.underlying3 (hval 0 3 v0 rfl rfl) h0
  obtain ⟨a1, len1, cap1, rfl⟩ := okWide_slice Yba.underlying22 (hval 1 22 v1 rfl rfl)
  have lt1 : ∀ x ∈ p1, x.block < W.heap.size := by obtain ⟨m, hm⟩ := h1; exact DataW.trod_lt m _ _ _ hm
  have w1 : IsPuts W a1 len1 := isPuts_of h1 lt1
  clear hA0 hval0
  refine (walk3_any a0 w0 a1 len1 cap1 W w1).mono fun e W' ⟨he, bel⟩ => ?_
  subst he
  exact ⟨_, rfl, _, _, _, [], _, [], hW', trodAll_mk1 (shut_bool Yba.underlying4 _), (trodAll_cons_mk (shut_int Yba.underlying3 w0) (trodAll_cons_mk (Below.trod laidOut (by kernel_rfl) (of_decide_eq_true (by kernel_rfl)) h1 bel lt1) trodAll_mk0)), rfl, bel.frame _, fun h => by cases h⟩

theorem over : Rows.lawS3101AKeepsRow.holds Yba.pinned (OpenSpec.ofChange Rows.lawS3101AKeepsSpec) :=
  OpenClaim.holds_of_wide 3 Yba.f3 rfl rfl rfl rfl rfl rfl rfl ⟨rfl, rfl, rfl, rfl, rfl⟩ rfl rfl rfl rfl rfl (by kernel_rfl) Yba.func3 (by kernel_rfl)
    (of_decide_eq_true (by kernel_rfl)) (by unfold Func.isWrapper; first | (rw [if_pos (by decide +kernel)]; kernel_rfl) | (rw [if_neg (by decide +kernel)]; exact ⟨rfl, rfl⟩))
    (fun os started H enc _ => lifted os started H enc)
end lawS3101AKeeps

theorem LawS3101AKeeps_proved : Rows.LawS3101AKeepsSaid :=
  lawS3101AKeeps.over

end Go.Proofs.Ybulkbleu
