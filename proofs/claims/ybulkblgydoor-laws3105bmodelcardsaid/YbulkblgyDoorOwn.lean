/- LawS3105B*: what the laws themselves make: a copy of the options, the buffer, the comparison. -/
import Derived.Test.YbulkblgyDoorEnt
import Derived.Deep.AppendLies
import Derived.Deep.Upon
import Derived.BigQuiet
import Derived.Deep.QuietTactic
namespace Go.Proofs.YbulkblgyDoor
open Go.RowKit

theorem gb_drewN' (w : World) (n : Nat) (r : Option Nat) : w.grownBy (w.drewN n) r := ⟨rfl, rfl, rfl, Nat.le_refl _, fun _ _ _ => rfl⟩
theorem infoByte : (Ybad.prog.info? 5).map (fun i => (i.zero, i.size, i.bytes)) = some (some (.int .u8 0), 1, 1) := by kernel_rfl

/-- Bytes that came in: a slice of whatever address that reads L. -/
def InB (w : World) (ao : Option Addr) (L : List Int) : Prop := 0 < L.length → ∃ b o, ao = some ⟨b, o, none⟩ ∧ b < w.heap.size ∧ ∀ i, i < L.length → w.cell? ⟨b, o + i, none⟩ = some (.int .u8 (L.getD i 0))
theorem InB.kept {w w' : World} {ao : Option Addr} {L : List Int} (h : InB w ao L) (hg : w.grownBy w' none) : InB w' ao L := fun hp => by
  obtain ⟨b, o, e, hb, hc⟩ := h hp
  exact ⟨b, o, e, Nat.lt_of_lt_of_le hb hg.size, fun i hi => (hg.cell_far ⟨b, o + i, none⟩ hb (by simp)).trans (hc i hi)⟩

/-- 'append([]byte(nil), opts...)'. -/
theorem wpList_own {ops : Array Oper} {rest : List Oper} {o : Oper} {a : Act} {Q : Exit → Act → World → Prop} (w : World) (hgd : o.guard = none) (s x : Operand)
    (ho : o.op = .call { callee := .builtin .append, args := #[s, x], argTypes := #[25, 25] }) (ao : Option Addr) (n cap : Nat) (L : List Int) (hs : a.eval s = .slice none 0 0) (hx : a.eval x = .slice ao n cap) (hL : L.length = n) (hb : ∀ y ∈ L, 0 ≤ y ∧ y < 256) (hI : InB w ao L) (h3 : 3 < w.heap.size) (hn : n ≤ 100000)
    (h : ∀ v g w', (∃ al c, v = .slice al n c) → SAt v g L 0 → Rd w' g L → 2 < g → g < w'.heap.size → w.grownBy w' none → wpList Ybad.prog ops Q rest (a.put o.dst v) w') : wpList Ybad.prog ops Q (o :: rest) a w := by
  obtain ⟨i0, hi, hz0, hz1, hz2⟩ := info_parts infoByte
  rcases Nat.eq_zero_or_pos n with h0 | h0
  · obtain rfl : L = [] := List.eq_nil_of_length_eq_zero (by omega)
    subst h0
    refine wpList_plain hgd fun K hK => ?_
    have hsrc : Src Ybad.prog i0.size 25 (.slice ao 0 cap) 0 [] w := by
      cases ao with
      | none => exact Src.ofNil w Ybad.underlying25 cap
      | some ad => exact Src.ofSlice w Ybad.underlying25 ad 0 cap [] (by simp) (by simp) (by simp)
    have hrun := run_append_nothing (P := Ybad.prog) w 25 25 o.type 5 i0 Ybad.underlying25 hi none 0 0 (Nat.le_refl _) _ hsrc
    unfold Oper.wp execOp
    simp only [ho, resolve, invoke, builtin, Sem.run_bind, Sem.run_pure, Result.andThen_ok, List.map_toArray, List.map_cons, List.map_nil, hs, hx, hrun]
    refine hK _ _ (h (.slice none 0 0) 3 w ⟨_, _, rfl⟩ ⟨none, 0, rfl, by simp, by simp, by simp⟩ ⟨h3, by simp, by simp⟩ (by omega) h3 (gb_refl _ _))
  · obtain ⟨b, of, rfl, hbl, hc⟩ := hI (by omega)
    have hown : w.ownsRow w.heap.size 5 1 (.slice none 0 0) 0 [] := ⟨rfl, .inl ⟨rfl, rfl⟩⟩
    refine wpList_append_lies w hgd s x 25 ho w.heap.size 5 i0 (.int .u8 0) 1 1 Ybad.underlying25 hi hz0 hz1 hz2 rfl (by omega) (.slice none 0 0) 0 [] hs hown ⟨b, of, none⟩ n cap (L.map (Value.int .u8)) hx (by simp [hL]) (fun j u hu => ?_) (fun u hu => ?_) h0 (by unfold maxLen; omega) (by omega) (Nat.le_refl _) w.heap.size rfl fun g cp w' hO hg _ hlt => ?_
    · rw [List.getElem?_map] at hu
      cases he : L[j]? with
      | none => rw [he] at hu; simp at hu
      | some y =>
        rw [he] at hu
        simp at hu
        subst hu
        have hj := (List.getElem?_eq_some_iff.1 he).1
        have := hc j hj
        rw [List.getD_eq_getElem?_getD, he] at this
        rw [show (⟨b, of, none⟩ : Addr).add j = ⟨b, of + j, none⟩ by by_cases q : j = 0 <;> simp [Addr.add, q]]
        exact this
    · simp at hu
      obtain ⟨y, _, rfl⟩ := hu
      rfl
    · rw [Nat.zero_add] at hO ⊢
      rw [List.nil_append] at hO
      have hgb : w.heap.size ≤ g := by
        rcases hO.2 with ⟨e, _⟩ | ⟨g', cap', cur, e, hb', _⟩
        · simp at e
        · simp only [Value.slice.injEq, Option.some.injEq, Addr.mk.injEq] at e
          omega
      refine h _ g w' ⟨_, _, rfl⟩ ?_ ⟨hlt, fun i hi => ?_, hb⟩ (by omega) hlt hg
      · rcases hO.2 with ⟨e, _⟩ | ⟨g', cap', cur, e, _, _, hcc, _⟩
        · simp at e
        · simp only [Value.slice.injEq, Option.some.injEq, Addr.mk.injEq] at e
          exact ⟨some ⟨g, 0, none⟩, cp, by rw [hL, Nat.sub_zero], by omega, by omega, fun _ => rfl⟩
      · have := hO.cells rfl i (.int .u8 (L.getD i 0)) (by rw [List.getElem?_map, List.getElem?_eq_getElem hi, List.getD_eq_getElem?_getD, List.getElem?_eq_getElem hi]; rfl)
        rwa [show (⟨g, 0, none⟩ : Addr).add i = ⟨g, i, none⟩ by by_cases q : i = 0 <;> simp [Addr.add, q]] at this

theorem run_bytes (w : World) (n : Nat) (hn : n ≤ 100000) :
    (Instr.makeSlice 25 (.int .i64 n) (.int .i64 n)).run Ybad.prog w = .ok (.slice (some ⟨w.heap.size, 0, none⟩) n n) (w.alloc (.cells (madeCells #[.int .u8 0] n) 5)) := by
  obtain ⟨i, hi, hz, hs, hb⟩ := info_parts infoByte
  have := run_make (P := Ybad.prog) w 25 5 i _ Ybad.underlying25 hi hz .i64 .i64 n n (by omega) (Int.le_refl _) (by rw [hb]; omega) (by omega)
  simpa [hs, Value.cells] using this
theorem made_row (w : World) (n : Nat) : Row (w.alloc (.cells (madeCells #[.int .u8 0] n) 5)) w.heap.size 5 (List.replicate n 0) := by
  refine ⟨?_, fun x hx => by rw [(List.mem_replicate.1 hx).2]; decide⟩
  rw [heap_alloc_new]
  have e : madeCells #[.int .u8 0] n = ((List.replicate n (0 : Int)).map (Value.int .u8)).toArray := by
    apply Array.ext
    · simp [size_madeCells]
    · intro i h1 h2
      simp [madeCells, Nat.mod_one]
  rw [e]

set_option maxRecDepth 100000 in
set_option maxHeartbeats 1000000 in
theorem eq_any (a1 a2 : Option Addr) (n c1 c2 : Nat) (L : List Int) (w : World) (hn : L.length = n) (hn9 : n ≤ 10000) (h1 : InB w a1 L) (h2 : InB w a2 L) :
    Calls Ybad.prog 7 #[.slice a1 n c1, .slice a2 n c2] w fun e w' => e = .returned (.bool true) ∧ w.grownBy w' none := by
  have Hn := hide hn
  clear hn
  go_enter Ybad.func7, Ybad.ntmps7
  go_wp2
  go_loopw [13] (fun s13 wr => ∃ i : Nat, i ≤ n ∧ s13 = .int .i64 i ∧ w.grownBy wr none) (fun s13 _ => n - (intOf s13).toNat)
  case atStart => exact ⟨0, by omega, rfl, gb_refl _ _⟩
  case round =>
    obtain ⟨i, hi, rfl, hg⟩ := hrel
    by_cases hlt : i < n
    · have hl := Hn.out
      obtain ⟨b1, o1, rfl, _, k1⟩ := (h1.kept hg) (by omega)
      obtain ⟨b2, o2, rfl, _, k2⟩ := (h2.kept hg) (by omega)
      have x1 := k1 i (by omega)
      have x2 := k2 i (by omega)
      generalize L.getD i 0 = x at *
      have hil : (i : Int) < (n : Int) := by omega
      clear k1 k2 hl
      go_wp2
      go_quiet (fail)
      go_wp2
      exact ⟨⟨i + 1, by omega, by go_num, gb_trans hg (gb_drewN' _ _ _)⟩, by simp [intOf]; omega⟩
    · obtain rfl : i = n := by omega
      go_wp2
      go_ret
      exact ⟨rfl, hg⟩
end Go.Proofs.YbulkblgyDoor
