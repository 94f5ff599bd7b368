/- LawS3101AOthers: the walk, and the statement. -/
import Derived.Test.YbulkbleuPut
import Derived.WalkKit
import Derived.ProofKit
import Derived.OpenShut
import Derived.ShutString
import Derived.Lib.Builder
namespace Go.Proofs.Ybulkbleu
open Go.ChangeShapes Go.WideShapes Go.ChangeAt Go.RowKit Go.Maps
open Go.ChangeMaps (open_string shut_string)
/-- The world ahead of 'd.put(t)' in LawS3101AOthers. -/
abbrev ahead4 (a0 a1 : Int) (a2 : Bool) (a3 a4 : Int) (r : Nat) (w : World) : World :=
  ((((w.alloc (Obj.map #[] 0)).alloc
            (Obj.cells
              #[Value.int IntKind.u32 a0, Value.map (some w.heap.size), Value.map none, Value.int IntKind.u64 0,
                Value.int IntKind.i64 0, Value.int IntKind.u32 a1, Value.bool a2, Value.pointer none,
                Value.int IntKind.i64 a3, Value.int IntKind.i64 0]
              32)).alloc
        (Obj.cells (madeCells #[Value.int IntKind.u32 0, Value.int IntKind.u16 0, Value.int IntKind.u16 0] (r * 3))
          76)).alloc
    (Obj.cells
      #[Value.int IntKind.u16 a4, Value.slice (some { block := w.heap.size + 1 + 1, off := 0 }) r r,
        Value.int IntKind.i64 1, Value.int IntKind.i64 0, Value.slice none 0 0, Value.pointer none,
        Value.slice none 0 0, Value.int IntKind.u64 0, Value.int IntKind.u64 0, Value.int IntKind.i64 0,
        Value.pointer none]
      46))

theorem ahead4_dom (a0 a1 : Int) (a2 : Bool) (a3 a4 : Int) (r : Nat) (w : World) (j : Nat) : (ahead4 a0 a1 a2 a3 a4 r w).cell? ⟨w.heap.size + 1, j, none⟩ = (#[Value.int IntKind.u32 a0, Value.map (some w.heap.size), Value.map none, Value.int IntKind.u64 0,
                Value.int IntKind.i64 0, Value.int IntKind.u32 a1, Value.bool a2, Value.pointer none,
                Value.int IntKind.i64 a3, Value.int IntKind.i64 0] : Array Value)[j]? := by
  rw [World.cell?_alloc_past _ _ _ (by simp), World.cell?_alloc_past _ _ _ (by simp), World.cell?_alloc_at _ _ _ _ (by simp)]
theorem ahead4_tem (a0 a1 : Int) (a2 : Bool) (a3 a4 : Int) (r : Nat) (w : World) (j : Nat) : (ahead4 a0 a1 a2 a3 a4 r w).cell? ⟨w.heap.size + 1 + 1 + 1, j, none⟩ = (#[Value.int IntKind.u16 a4, Value.slice (some { block := w.heap.size + 1 + 1, off := 0 }) r r,
        Value.int IntKind.i64 1, Value.int IntKind.i64 0, Value.slice none 0 0, Value.pointer none,
        Value.slice none 0 0, Value.int IntKind.u64 0, Value.int IntKind.u64 0, Value.int IntKind.i64 0,
        Value.pointer none] : Array Value)[j]? := by
  rw [World.cell?_alloc_at _ _ _ _ (by simp)]

theorem put4 (a0 a1 : Int) (a2 : Bool) (a3 a4 : Int) (r : Nat) (w : World) (w4 : (Lit.int .u16 a4).wf = true) (hr : r ≤ 31) :
    Calls Yba.prog 5 #[.pointer (some ⟨w.heap.size + 1, 0, none⟩), .pointer (some ⟨w.heap.size + 1 + 1 + 1, 0, none⟩)] (ahead4 a0 a1 a2 a3 a4 r w) fun e w' => e = .returned (.tuple #[]) ∧
      (∀ a : Addr, a ≠ ⟨w.heap.size + 1, 9, none⟩ → w'.cell? a = (ahead4 a0 a1 a2 a3 a4 r w).cell? a) ∧ w'.cell? ⟨w.heap.size + 1, 9, none⟩ = some (.int .i64 (256 + 80 * r)) ∧
      (Instr.lookup 25 (.map (some w.heap.size)) (.int .u16 a4) false).run Yba.prog w' = .ok (.pointer (some ⟨w.heap.size + 1 + 1 + 1, 0, none⟩)) w' ∧
      (∀ ty, (Builtin.len_ #[25] ty #[.map (some w.heap.size)]).run Yba.prog w' = .ok (.int .i64 1) w') ∧ Grown w w' := by
  have hown : (ahead4 a0 a1 a2 a3 a4 r w).ownsMap Yba.prog 37 ptrElem w.heap.size 0 (.map []) := (((World.ownsMap_made w Yba.prog 37 ptrElem).alloc _).alloc _).alloc _
  have c1 := ahead4_dom a0 a1 a2 a3 a4 r w 1
  have c9 := ahead4_dom a0 a1 a2 a3 a4 r w 9
  have t0 := ahead4_tem a0 a1 a2 a3 a4 r w 0
  have t1 := ahead4_tem a0 a1 a2 a3 a4 r w 1
  have gr : Grown w (ahead4 a0 a1 a2 a3 a4 r w) := (((Grown.allocMap (Grown.refl w) _ _).alloc _ _).alloc _ _).alloc _ _
  have f9 : (ahead4 a0 a1 a2 a3 a4 r w).frozen? ⟨w.heap.size + 1, 9, none⟩ = false := by
    rw [gr.2.1]; unfold World.frozen?; simp
  have hsz : (ahead4 a0 a1 a2 a3 a4 r w).heap.size = w.heap.size + 1 + 1 + 1 + 1 := by simp
  have hb : Below w.heap.size w (ahead4 a0 a1 a2 a3 a4 r w) := ((((Below.refl _ w).alloc (Nat.le_refl _) _).alloc (by simp) _).alloc (by simp; omega) _).alloc (by simp; omega) _
  generalize ahead4 a0 a1 a2 a3 a4 r w = W at *
  have hh : has (.map [] : DataW Unit) (K a4) = false := rfl
  refine (put_core (w.heap.size + 1) w.heap.size (w.heap.size + 1 + 1 + 1) 0 (.map []) a4 _ r r 0 W w4 (by omega) c1 f9 (by omega) (by omega) (by omega) t0 t1 (by omega) (rem_absent _ _ _ _ _ _ _ w4 c1 c9 hown hh)).mono ?_
  rintro e w' ⟨rfl, hp⟩
  obtain ⟨D', ho', ha1, ha2, hh1, hh2, hsz'⟩ := hp.own
  have ht := hp.turn
  refine ⟨rfl, ht.cells, by rw [ht.nine]; simp, look_there ho' w4 ha1, fun ty => ?_, ?_⟩
  · rw [ho'.len Yba.underlying25]
    rw [hh] at hsz'
    have e0 : Maps.size (.map [] : DataW Unit) = 0 := rfl
    rw [e0] at hsz'
    have e1 : Maps.size D' = 1 := by simpa using hsz'
    rw [e1]; rfl
  · exact ⟨(hb.trans (ht.below _ (by omega) (by omega))).frame _, fun a => (ht.frozen a).trans (gr.2.1 a), by rw [ht.size, hsz]; omega⟩

set_option maxHeartbeats 400000 in
theorem walk4 (a0 : Int) (a1 : Int) (a2 : Bool) (a3 : Int) (a4 : Int) (a5 : Int) (w4 : (Lit.int .u16 a4).wf = true) (w5 : (Lit.int .u8 a5).wf = true) (w : World) :
    Calls Yba.prog 4 #[.int .u32 a0, .int .u32 a1, .bool a2, .int .i64 a3, .int .u16 a4, .int .u8 a5] w fun e w' => e = .returned (.bool true) ∧ Grown w w' := by
  have hb5 : 0 ≤ a5 ∧ a5 ≤ 255 := bounds_u8 w5
  obtain ⟨r, hr, hr2⟩ : ∃ r : Nat, a5 % 32 = r ∧ r ≤ 31 := ⟨(a5 % 32).toNat, by omega, by omega⟩
  have hmk := fun w => run_fields w r (by omega)
  have hmm := @run_makeMap Yba.prog
  go_enter Yba.func4, Yba.ntmps4
  go_wp2_with fail
  refine (put4 a0 a1 a2 a3 a4 r w w4 hr2).mono ?_
  rintro e w1 ⟨rfl, hc, h9, hlk, hln, hg⟩
  have d0 := (hc ⟨w.heap.size + 1, 0, none⟩ (by simp)).trans (ahead4_dom a0 a1 a2 a3 a4 r w 0)
  have d1 := (hc ⟨w.heap.size + 1, 1, none⟩ (by simp)).trans (ahead4_dom a0 a1 a2 a3 a4 r w 1)
  have d5 := (hc ⟨w.heap.size + 1, 5, none⟩ (by simp)).trans (ahead4_dom a0 a1 a2 a3 a4 r w 5)
  have d6 := (hc ⟨w.heap.size + 1, 6, none⟩ (by simp)).trans (ahead4_dom a0 a1 a2 a3 a4 r w 6)
  have d7 := (hc ⟨w.heap.size + 1, 7, none⟩ (by simp)).trans (ahead4_dom a0 a1 a2 a3 a4 r w 7)
  have d8 := (hc ⟨w.heap.size + 1, 8, none⟩ (by simp)).trans (ahead4_dom a0 a1 a2 a3 a4 r w 8)
  have t0 := (hc ⟨w.heap.size + 1 + 1 + 1, 0, none⟩ (by simp)).trans (ahead4_tem a0 a1 a2 a3 a4 r w 0)
  have t1 := (hc ⟨w.heap.size + 1 + 1 + 1, 1, none⟩ (by simp)).trans (ahead4_tem a0 a1 a2 a3 a4 r w 1)
  have t2 := (hc ⟨w.heap.size + 1 + 1 + 1, 2, none⟩ (by simp)).trans (ahead4_tem a0 a1 a2 a3 a4 r w 2)
  simp only [List.getElem?_toArray, List.getElem?_cons_zero, List.getElem?_cons_succ] at d0 d1 d5 d6 d7 d8 t0 t1 t2
  clear hc hmk hmm
  have hnq := neq33 ⟨w.heap.size + 1 + 1 + 1, 0, none⟩ w1
  go_wp2
  go_ret
  exact ⟨rfl, hg⟩

namespace lawS3101AOthers
theorem own : ownKnob Yba.prog.godebug = none := by kernel_rfl
set_option linter.unusedVariables false

/-! ### THE ROW's STEP: WRITTEN OUT: LEAVE IT -/
set_option maxRecDepth 100000 in
theorem lifted (os : Os) (started : os.Started) (H : Type) (enc : TypeId × Value → H) :
    ReturnsInHanded {} Yba.checked os 4 .any (Rows.lawS3101AOthersSpec.pre6 enc Yba.prog Yba.f4 Rows.lawS3101AOthersRow.domain false) (Rows.lawS3101AOthersSpec.post enc Yba.prog Yba.f4 false true false false) := by
  refine returnsInHanded_of_change (C := Yba.checked) own started (by kernel_rfl) Yba.func4
    (ChangeSpec.witness6 (enc := enc) (C := Yba.checked) false ⟨#[], #[.int .u32 0, .int .u32 0, .bool false, .int .i64 0, .int .u16 0, .int .u8 0], []⟩ 8 (by kernel_rfl) (by kernel_rfl) (by kernel_rfl) (by kernel_rfl)) ?_
  intro W base args ds gs before hval0 hW hcnd _
  have hval : ∀ (j : Nat) t v, Yba.f4.params[j]? = some t → args[j]? = some v → Value.okWide Yba.prog W .any base t v := hval0
  have hW' := hW
  obtain ⟨p, q, hA0, hV, rfl, hfz, hnd⟩ := hW
  have hA : DataW.TrodAll enc Yba.prog W 0 (fun _ => true) true Yba.f4.params.toList args.toList ds p := hA0
  rw [Yba.params4] at hA hval
  obtain ⟨v0, vs0, d0, ds0, p0, q0, hargs, rfl, rfl, h0, r0⟩ := trodAll_cons hA
  obtain ⟨v1, vs1, d1, ds1, p1, q1, rfl, rfl, rfl, h1, r1⟩ := trodAll_cons r0
  obtain ⟨v2, vs2, d2, ds2, p2, q2, rfl, rfl, rfl, h2, r2⟩ := trodAll_cons r1
  obtain ⟨v3, vs3, d3, ds3, p3, q3, rfl, rfl, rfl, h3, r3⟩ := trodAll_cons r2
  obtain ⟨v4, vs4, d4, ds4, p4, q4, rfl, rfl, rfl, h4, r4⟩ := trodAll_cons r3
  obtain ⟨v5, vs5, d5, ds5, p5, q5, rfl, rfl, rfl, h5, r5⟩ := trodAll_cons r4
  obtain ⟨rfl, rfl, rfl⟩ := trodAll_nil r5
  obtain rfl : args = #[v0, v1, v2, v3, v4, v5] := by cases args; simp_all
  obtain ⟨rfl, rfl⟩ := trodVars_none hV
  obtain ⟨a0, rfl, rfl, rfl, w0⟩ := open_int Yba.underlying24 (hval 0 24 v0 rfl rfl) h0
  obtain ⟨a1, rfl, rfl, rfl, w1⟩ := open_int Yba.underlying24 (hval 1 24 v1 rfl rfl) h1
  obtain ⟨a2, rfl, rfl, rfl⟩ := open_bool Yba.underlying4 (hval 2 4 v2 rfl rfl) h2
  obtain ⟨a3, rfl, rfl, rfl, w3⟩ := open_int Yba.underlying3 (hval 3 3 v3 rfl rfl) h3
  obtain ⟨a4, rfl, rfl, rfl, w4⟩ := open_int Yba.underlying37 (hval 4 37 v4 rfl rfl) h4
  obtain ⟨a5, rfl, rfl, rfl, w5⟩ := open_int Yba.underlying5 (hval 5 5 v5 rfl rfl) h5
  clear hA0 hval0
  simp only [List.append_nil] at hW'
  refine (walk4 a0 a1 a2 a3 a4 a5 w4 w5 W).mono fun e W' ⟨he, hg⟩ => ?_
  subst he
  exact ⟨_, rfl, post_of_same (pa := []) (pv := []) hW' (fun _ _ _ => (trodAll_cons_mk (shut_bool Yba.underlying4 _) trodAll_mk0)) (fun sp _ => (trodAll_cons_mk (shut_int Yba.underlying24 w0) (trodAll_cons_mk (shut_int Yba.underlying24 w1) (trodAll_cons_mk (shut_bool Yba.underlying4 _) (trodAll_cons_mk (shut_int Yba.underlying3 w3) (trodAll_cons_mk (shut_int Yba.underlying37 w4) (trodAll_cons_mk (shut_int Yba.underlying5 w5) trodAll_mk0))))))) (fun _ _ => rfl) rfl
    (hg.frame _) hg.2.1 (ok_one (by kernel_rfl) rfl (okWide_bool_mk Yba.underlying4 _))⟩

theorem over : Rows.lawS3101AOthersRow.holds Yba.pinned (OpenSpec.ofChange Rows.lawS3101AOthersSpec) :=
  OpenClaim.holds_of_wide 4 Yba.f4 rfl rfl rfl rfl rfl rfl rfl ⟨rfl, rfl, rfl, rfl, rfl⟩ rfl rfl rfl rfl rfl (by kernel_rfl) Yba.func4 (by kernel_rfl)
    (of_decide_eq_true (by kernel_rfl)) (by unfold Func.isWrapper; first | (rw [if_pos (by decide +kernel)]; kernel_rfl) | (rw [if_neg (by decide +kernel)]; exact ⟨rfl, rfl⟩))
    (fun os started H enc _ => lifted os started H enc)

end lawS3101AOthers
theorem LawS3101AOthers_proved : Rows.LawS3101AOthersSaid :=
  lawS3101AOthers.over
end Go.Proofs.Ybulkbleu
