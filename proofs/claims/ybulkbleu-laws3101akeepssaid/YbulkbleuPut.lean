/- The walks of (*Template).size, (*domain).remove and (*domain).put, shared by both laws of this seat. -/
import Derived.Test.YbulkbleuRows
import Derived.WalkKit
import Derived.Maps.OwnSet
import Derived.BigQuiet
import Derived.BigRegion
import Derived.Deep.QuietTactic
import Derived.Deep.RegionWith
import Derived.Lib.Builder
namespace Go.Proofs.Ybulkbleu
open Go.RowKit Go.Maps

theorem size_any (tb : Nat) (fa : Option Addr) (fl fc : Nat) (w : World) (hl : fl ≤ 1000) (h1 : w.cell? ⟨tb, 1, none⟩ = some (.slice fa fl fc)) :
    Calls Yba.prog 7 #[.pointer (some ⟨tb, 0, none⟩)] w fun e w' => e = .returned (.int .i64 (256 + 80 * fl)) ∧ w' = w := by
  go_enter Yba.func7, Yba.ntmps7
  go_wp2
  go_ret
  exact ⟨rfl, rfl⟩

/-- How an element of the map reads: a pointer to the head of a block. -/
def ptrElem : Value → Option (DataW Unit × List MemPlace)
  | .pointer none => some (.nil, [])
  | .pointer (some ⟨b, 0, none⟩) => some (.lit (.int .i64 b), [])
  | _ => none

theorem ptrElem_nil {v : Value} {ps : List MemPlace} (h : ptrElem v = some (.nil, ps)) : v = .pointer none := by
  unfold ptrElem at h
  split at h <;> simp_all
theorem ptrElem_lit {v : Value} {b : Nat} {ps : List MemPlace} (h : ptrElem v = some (.lit (.int .i64 b), ps)) : v = .pointer (some ⟨b, 0, none⟩) := by
  unfold ptrElem at h
  split at h <;> simp_all
  omega

theorem law37 : Keyed Yba.prog 37 := int_keyed Yba.underlying37
theorem zero33 (w : World) : (zeroValue 33).run Yba.prog w = .ok (.pointer none) w := by kernel_rfl

abbrev K (i : Int) : Lit := .int .u16 i

theorem look_absent {w : World} {mb n : Nat} {D : DataW Unit} {i : Int} (hown : w.ownsMap Yba.prog 37 ptrElem mb n D) (wi : (K i).wf = true) (hat : D.atKey (K i) .nil = .nil) :
    (Instr.lookup 25 (.map (some mb)) (.int .u16 i) false).run Yba.prog w = .ok (.pointer none) w := by
  obtain ⟨v, ps, hrun, hv⟩ := hown.lookup law37 Yba.underlying25 (zero33 w) (zd := .nil) (zp := []) rfl (keyOf_int_mk Yba.underlying37 wi)
  rw [hat] at hv
  rw [hrun, ptrElem_nil hv]
theorem look_there {w : World} {mb n : Nat} {D : DataW Unit} {i : Int} {b : Nat} (hown : w.ownsMap Yba.prog 37 ptrElem mb n D) (wi : (K i).wf = true) (hat : D.atKey (K i) .nil = .lit (.int .i64 b)) :
    (Instr.lookup 25 (.map (some mb)) (.int .u16 i) false).run Yba.prog w = .ok (.pointer (some ⟨b, 0, none⟩)) w := by
  obtain ⟨v, ps, hrun, hv⟩ := hown.lookup law37 Yba.underlying25 (zero33 w) (zd := .nil) (zp := []) rfl (keyOf_int_mk Yba.underlying37 wi)
  rw [hat] at hv
  rw [hrun, ptrElem_lit hv]

/-- The same two with 'ok'. -/
theorem look_absent_ok {w : World} {mb n : Nat} {D : DataW Unit} {i : Int} (hown : w.ownsMap Yba.prog 37 ptrElem mb n D) (wi : (K i).wf = true) (hat : D.atKey (K i) .nil = .nil) (hh : Maps.has D (K i) = false) :
    (Instr.lookup 25 (.map (some mb)) (.int .u16 i) true).run Yba.prog w = .ok (.tuple #[.pointer none, .bool false]) w := by
  obtain ⟨v, ps, hrun, hv⟩ := hown.look_ok law37 Yba.underlying25 (zero33 w) (zd := .nil) (zp := []) rfl (keyOf_int_mk Yba.underlying37 wi)
  rw [hat] at hv
  rw [hrun, ptrElem_nil hv, hh]
theorem look_there_ok {w : World} {mb n : Nat} {D : DataW Unit} {i : Int} {b : Nat} (hown : w.ownsMap Yba.prog 37 ptrElem mb n D) (wi : (K i).wf = true) (hat : D.atKey (K i) .nil = .lit (.int .i64 b)) (hh : Maps.has D (K i) = true) :
    (Instr.lookup 25 (.map (some mb)) (.int .u16 i) true).run Yba.prog w = .ok (.tuple #[.pointer (some ⟨b, 0, none⟩), .bool true]) w := by
  obtain ⟨v, ps, hrun, hv⟩ := hown.look_ok law37 Yba.underlying25 (zero33 w) (zd := .nil) (zp := []) rfl (keyOf_int_mk Yba.underlying37 wi)
  rw [hat] at hv
  rw [hrun, ptrElem_lit hv, hh]

theorem remove_absent (db mb n : Nat) (D : DataW Unit) (i : Int) (w : World) (wi : (K i).wf = true) (c1 : w.cell? ⟨db, 1, none⟩ = some (.map (some mb)))
    (hown : w.ownsMap Yba.prog 37 ptrElem mb n D) (hat : D.atKey (K i) .nil = .nil) :
    Calls Yba.prog 6 #[.pointer (some ⟨db, 0, none⟩), .int .u16 i] w fun e w' => e = .returned (.tuple #[]) ∧ w' = w := by
  have hl := look_absent hown wi hat
  go_enter Yba.func6, Yba.ntmps6
  go_wp2
  go_end0
  exact ⟨rfl, rfl⟩

theorem turned_cell {w w' : World} {b : Nat} (h : w.mapTurned w' b) (a : Addr) : w'.cell? a = w.cell? a := by
  by_cases e : a.block = b
  · obtain ⟨es, clock, es', clock', hb, rfl⟩ := h
    have h2 := ChangeMaps.heap_setBlock_same hb (.map es' clock')
    unfold World.cell?
    rw [e, h2, hb]
  · obtain ⟨es, clock, es', clock', hb, rfl⟩ := h
    unfold World.cell?
    rw [ChangeMaps.heap_setBlock_other hb _ e]

theorem wrap_in (a : Int) (h1 : -9223372036854775808 ≤ a) (h2 : a ≤ 9223372036854775807) : IntKind.i64.wrap a = a := by rw [IntKind.wrap_i64]; omega

/-- A world that differs from w in the map's entries and in the domain's ninth cell alone. -/
structure Turn (db mb : Nat) (s' : Int) (w w' : World) : Prop where
  nine : w'.cell? ⟨db, 9, none⟩ = some (.int .i64 s')
  cells : ∀ a : Addr, a ≠ ⟨db, 9, none⟩ → w'.cell? a = w.cell? a
  frozen : ∀ a : Addr, w'.frozen? a = w.frozen? a
  size : w'.heap.size = w.heap.size
  below : ∀ B, B ≤ db → B ≤ mb → Below B w w'

theorem turn_of {db mb : Nat} {s s' : Int} {w w1 : World} (ht : w.mapTurned w1 mb) (c9 : w.cell? ⟨db, 9, none⟩ = some (.int .i64 s)) : Turn db mb s' w (w1.setCell ⟨db, 9, none⟩ (.int .i64 s')) := by
  have d9 : w1.cell? ⟨db, 9, none⟩ = some (.int .i64 s) := by rw [← c9]; exact turned_cell ht _
  refine ⟨World.cell?_setCell_same _ _ _ d9, fun a ha => ?_, fun a => ?_, ?_, fun B hd hm => ?_⟩
  · rw [World.cell?_setCell_other _ _ _ _ (fun e => ha e.symm)]; exact turned_cell ht _
  · rw [World.frozen?_setCell]; exact ht.frozen _
  · obtain ⟨es, clock, es', clock', hb, rfl⟩ := ht
    simp [ChangeMaps.setBlock]
  · refine Below.setCell ?_ hd _
    have hg := ht.grown
    exact ⟨hg.os, hg.tape, hg.output, hg.size, fun k hk => by
      obtain ⟨es, clock, es', clock', hb, rfl⟩ := ht
      exact ChangeMaps.heap_setBlock_other hb _ (by omega)⟩

theorem remove_there (db mb n : Nat) (D : DataW Unit) (i : Int) (ob : Nat) (fa : Option Addr) (fl fc : Nat) (s : Int) (w : World) (wi : (K i).wf = true) (c1 : w.cell? ⟨db, 1, none⟩ = some (.map (some mb)))
    (c9 : w.cell? ⟨db, 9, none⟩ = some (.int .i64 s)) (f9 : w.frozen? ⟨db, 9, none⟩ = false) (hs1 : -1125899906842624 ≤ s) (hs2 : s ≤ 1125899906842624)
    (hown : w.ownsMap Yba.prog 37 ptrElem mb n D) (hat : D.atKey (K i) .nil = .lit (.int .i64 ob)) (o1 : w.cell? ⟨ob, 1, none⟩ = some (.slice fa fl fc)) (hl : fl ≤ 1000) :
    Calls Yba.prog 6 #[.pointer (some ⟨db, 0, none⟩), .int .u16 i] w fun e w' => e = .returned (.tuple #[]) ∧ ∃ w1, w.mapTurned w1 mb ∧ w1.ownsMap Yba.prog 37 ptrElem mb n (D.del (K i)) ∧ w' = (w1.setCell ⟨db, 9, none⟩ (.int .i64 (s - (256 + 80 * fl)))).drew := by
  have hlk := look_there hown wi hat
  have hkey := keyOf_int_mk Yba.underlying37 wi
  obtain ⟨w1, hrun, hown1, hturn⟩ := hown.drop law37 Yba.underlying25 hkey 0
  have d9 : w1.cell? ⟨db, 9, none⟩ = some (.int .i64 s) := by
    rw [← c9]; exact turned_cell hturn _
  have g9 : w1.frozen? ⟨db, 9, none⟩ = false := by rw [← f9]; exact hturn.frozen _
  have p1 : w1.cell? ⟨ob, 1, none⟩ = some (.slice fa fl fc) := by rw [← o1]; exact turned_cell hturn _
  go_enter Yba.func6, Yba.ntmps6
  go_wp2
  go_region_with (go_at_call 7; refine (size_any _ _ _ _ _ hl (by assumption)).mono ?_; rintro e w' ⟨rfl, rfl⟩)
  all_goals
    go_end0
    exact ⟨rfl, w1, hturn, hown1, by rw [wrap_in _ (by omega) (by omega)]⟩

/-- What 'remove' leaves. -/
structure RemPost (db mb n : Nat) (D : DataW Unit) (i : Int) (s0 : Int) (w w' : World) : Prop where
  own : ∃ D0, w'.ownsMap Yba.prog 37 ptrElem mb n D0 ∧ (∀ k, k ≠ K i → D0.atKey k .nil = D.atKey k .nil) ∧ has D0 (K i) = false ∧ (∀ k, k ≠ K i → has D0 k = has D k) ∧ Maps.size D0 + (if has D (K i) then 1 else 0) = Maps.size D
  turn : Turn db mb s0 w w'

/-- What 'put' leaves. -/
structure PutPost (db mb n : Nat) (D : DataW Unit) (i : Int) (tb : Nat) (s' : Int) (w w' : World) : Prop where
  own : ∃ D', w'.ownsMap Yba.prog 37 ptrElem mb (n + 1) D' ∧ D'.atKey (K i) .nil = .lit (.int .i64 tb) ∧ (∀ k, k ≠ K i → D'.atKey k .nil = D.atKey k .nil) ∧ has D' (K i) = true ∧ (∀ k, k ≠ K i → has D' k = has D k) ∧ Maps.size D' + (if has D (K i) then 1 else 0) = Maps.size D + 1
  turn : Turn db mb s' w w'

theorem Turn.drew {db mb : Nat} {s' : Int} {w w' : World} (h : Turn db mb s' w w') : Turn db mb s' w w'.drew :=
  ⟨h.nine, h.cells, h.frozen, h.size, fun B hd hm => (h.below B hd hm).drew⟩

theorem Turn.trans {db mb : Nat} {s s' : Int} {w w' w'' : World} (h : Turn db mb s w w') (k : Turn db mb s' w' w'') : Turn db mb s' w w'' :=
  ⟨k.nine, fun a ha => (k.cells a ha).trans (h.cells a ha), fun a => (k.frozen a).trans (h.frozen a), k.size.trans h.size, fun B hd hm => (h.below B hd hm).trans (k.below B hd hm)⟩

/-- 'put' behind whatever 'remove' left. -/
theorem put_core (db mb tb n : Nat) (D : DataW Unit) (i : Int) (fa : Option Addr) (fl fc : Nat) (s0 : Int) (w : World) (wi : (K i).wf = true) (hn : n < 100000) (c1 : w.cell? ⟨db, 1, none⟩ = some (.map (some mb)))
    (f9 : w.frozen? ⟨db, 9, none⟩ = false) (hs1 : -1125899906842624 ≤ s0) (hs2 : s0 ≤ 1125899906842624) (hne : tb ≠ db)
    (t0 : w.cell? ⟨tb, 0, none⟩ = some (.int .u16 i)) (t1 : w.cell? ⟨tb, 1, none⟩ = some (.slice fa fl fc)) (hl : fl ≤ 1000)
    (hrem : Hid (Calls Yba.prog 6 #[.pointer (some ⟨db, 0, none⟩), .int .u16 i] w fun e w' => e = .returned (.tuple #[]) ∧ RemPost db mb n D i s0 w w')) :
    Calls Yba.prog 5 #[.pointer (some ⟨db, 0, none⟩), .pointer (some ⟨tb, 0, none⟩)] w fun e w' => e = .returned (.tuple #[]) ∧ PutPost db mb n D i tb (s0 + (256 + 80 * fl)) w w' := by
  have hkey := keyOf_int_mk Yba.underlying37 wi
  go_enter Yba.func5, Yba.ntmps5
  go_wp2_with (go_at_call 6; refine hrem.out.mono ?_; rintro e w0 ⟨rfl, hr⟩)
  obtain ⟨D0, hown, ha0, hh0, hh1, hsz⟩ := hr.own
  have ht := hr.turn
  obtain ⟨w1, hrun, hown1, hturn⟩ := hown.drew.store law37 Yba.underlying25 (by unfold maxLen; omega) (val := .pointer (some ⟨tb, 0, none⟩)) hkey rfl
  have e1 : w0.cell? ⟨db, 1, none⟩ = some (.map (some mb)) := by rw [← c1]; exact ht.cells _ (by simp)
  have e9 : w0.cell? ⟨db, 9, none⟩ = some (.int .i64 s0) := ht.nine
  have u0 : w0.cell? ⟨tb, 0, none⟩ = some (.int .u16 i) := by rw [← t0]; exact ht.cells _ (by simp)
  have u1 : w0.cell? ⟨tb, 1, none⟩ = some (.slice fa fl fc) := by rw [← t1]; exact ht.cells _ (by simp)
  have g9 : w0.frozen? ⟨db, 9, none⟩ = false := by rw [← f9]; exact ht.frozen _
  have v9 : w1.cell? ⟨db, 9, none⟩ = some (.int .i64 s0) := by rw [← e9]; exact turned_cell hturn _
  have k9 : w1.frozen? ⟨db, 9, none⟩ = false := by rw [← g9]; exact hturn.frozen _
  have p1 : w1.cell? ⟨tb, 1, none⟩ = some (.slice fa fl fc) := by rw [← u1]; exact turned_cell hturn _
  have hmd : mb ≠ db := fun e => by
    obtain ⟨es, clock, hb, _⟩ := hown
    subst e
    simp [World.cell?, hb] at e1
  have fin : PutPost db mb n D i tb (s0 + (256 + 80 * fl)) w (w1.setCell ⟨db, 9, none⟩ (.int .i64 (s0 + (256 + 80 * fl)))).drew := by
    refine ⟨⟨_, (hown1.setCell hmd _).drew, ?_, ?_, ?_, ?_, ?_⟩, (Turn.trans ht.drew (turn_of (w := w0.drew) hturn e9)).drew⟩
    · exact atKey_put_same (k := K i) hown.isMap trivial _ _
    · intro k hk; rw [atKey_put_other hk]; exact ha0 k hk
    · exact has_put_same (k := K i) hown.isMap trivial _
    · intro k hk; rw [has_put_other hk]; exact hh1 k hk
    · rw [size_put (hown.tidy law37), if_neg (by rw [hh0]; simp)]; omega
  have Fin : Hid (PutPost db mb n D i tb (s0 + (256 + 80 * fl)) w (w1.setCell ⟨db, 9, none⟩ (.int .i64 (s0 + (256 + 80 * fl)))).drew) := fin
  clear fin
  go_region
  go_wp2
  go_region_with (go_at_call 7; refine (size_any _ _ _ _ _ hl (by assumption)).mono ?_; rintro e w' ⟨rfl, rfl⟩)
  all_goals
    go_end0
    refine ⟨rfl, ?_⟩
    rw [wrap_in _ (by omega) (by omega)]
    exact Fin.out

theorem rem_absent (db mb n : Nat) (D : DataW Unit) (i s : Int) (w : World) (wi : (K i).wf = true) (c1 : w.cell? ⟨db, 1, none⟩ = some (.map (some mb))) (c9 : w.cell? ⟨db, 9, none⟩ = some (.int .i64 s))
    (hown : w.ownsMap Yba.prog 37 ptrElem mb n D) (hh : has D (K i) = false) :
    Hid (Calls Yba.prog 6 #[.pointer (some ⟨db, 0, none⟩), .int .u16 i] w fun e w' => e = .returned (.tuple #[]) ∧ RemPost db mb n D i s w w') := by
  refine (remove_absent db mb n D i w wi c1 hown (atKey_of_not_has hh _)).mono ?_
  rintro e w' ⟨rfl, rfl⟩
  exact ⟨rfl, ⟨D, hown, fun _ _ => rfl, hh, fun _ _ => rfl, by simp [hh]⟩, c9, fun _ _ => rfl, fun _ => rfl, rfl, fun B _ _ => Below.refl _ _⟩

theorem rem_there (db mb n : Nat) (D : DataW Unit) (i : Int) (ob : Nat) (fa : Option Addr) (fl fc : Nat) (s : Int) (w : World) (wi : (K i).wf = true) (c1 : w.cell? ⟨db, 1, none⟩ = some (.map (some mb)))
    (c9 : w.cell? ⟨db, 9, none⟩ = some (.int .i64 s)) (f9 : w.frozen? ⟨db, 9, none⟩ = false) (hs1 : -1125899906842624 ≤ s) (hs2 : s ≤ 1125899906842624)
    (hown : w.ownsMap Yba.prog 37 ptrElem mb n D) (hat : D.atKey (K i) .nil = .lit (.int .i64 ob)) (o1 : w.cell? ⟨ob, 1, none⟩ = some (.slice fa fl fc)) (hl : fl ≤ 1000) :
    Hid (Calls Yba.prog 6 #[.pointer (some ⟨db, 0, none⟩), .int .u16 i] w fun e w' => e = .returned (.tuple #[]) ∧ RemPost db mb n D i (s - (256 + 80 * fl)) w w') := by
  refine (remove_there db mb n D i ob fa fl fc s w wi c1 c9 f9 hs1 hs2 hown hat o1 hl).mono ?_
  rintro e w' ⟨rfl, w1, hturn, hown1, rfl⟩
  have hmd : mb ≠ db := fun e => by
    obtain ⟨es, clock, hb, _⟩ := hown
    subst e
    simp [World.cell?, hb] at c1
  refine ⟨rfl, ⟨_, (hown1.setCell hmd _).drew, fun k hk => atKey_del_other hk _, has_del_same, fun k hk => has_del_other hk, ?_⟩, (turn_of hturn c9).drew⟩
  exact size_del (hown.tidy law37)

theorem infoFS : (Yba.prog.info? 76).map (fun i => (i.zero, i.size, i.bytes)) = some (some (.agg #[.int .u32 0, .int .u16 0, .int .u16 0]), 3, 8) := by kernel_rfl
theorem info46 : ∃ j, Yba.prog.info? 46 = some j := by
  have h : (Yba.prog.info? 46).isSome = true := by kernel_rfl
  exact Option.isSome_iff_exists.1 h
theorem neq33 (a : Addr) (w : World) : (binOp .neq 33 (.pointer (some a)) (.pointer (some a))).run Yba.prog w = .ok (.bool false) w := by
  obtain ⟨j, hj⟩ := info46
  exact Lib.run_neq_ptr_same w a Yba.underlying33 hj
/-- 'make([]FieldSpec, n)'. -/
theorem run_fields (w : World) (n : Nat) (hn : n ≤ 1000) :
    (Instr.makeSlice 38 (.int .i64 n) (.int .i64 n)).run Yba.prog w = .ok (.slice (some ⟨w.heap.size, 0, none⟩) n n) (w.alloc (.cells (madeCells #[.int .u32 0, .int .u16 0, .int .u16 0] (n * 3)) 76)) := by
  obtain ⟨i, hi, hz, hs, hb⟩ := info_parts infoFS
  have := run_make (P := Yba.prog) w 38 76 i _ Yba.underlying38 hi hz .i64 .i64 n n (by omega) (Int.le_refl _) (by rw [hb]; omega) (by omega)
  simpa [hs, Value.cells] using this

end Go.Proofs.Ybulkbleu
