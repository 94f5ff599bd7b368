/- LawS3105B*: recordRoute. -/
import Derived.Test.YbulkblgyDoorParse
import Derived.Laws.CopyOwn
namespace Go.Proofs.YbulkblgyDoor
open Go.RowKit

theorem splice_mid (A R Z cs : List Int) (a : Nat) (h : a + cs.length ≤ R.length) : splice (A ++ (R ++ Z)) (A.length + a) cs = A ++ (splice R a cs ++ Z) := by
  unfold splice
  rw [List.take_append, List.take_of_length_le (by omega), Nat.add_sub_cancel_left, List.take_append_of_le_length (by omega)]
  rw [show A.length + a + cs.length = A.length + (a + cs.length) by omega, List.drop_append, List.drop_of_length_le (by omega : A.length ≤ _), Nat.add_sub_cancel_left, List.drop_append_of_le_length h]
  simp
theorem set_mid (A R Z : List Int) (i : Nat) (x : Int) (h : i < R.length) : (A ++ (R ++ Z)).set (A.length + i) x = A ++ (R.set i x ++ Z) := by
  rw [List.set_append_right _ _ (by omega), Nat.add_sub_cancel_left, List.set_append_left _ _ h]
theorem getD_mid (A R Z : List Int) (i : Nat) (h : i < R.length) : (A ++ (R ++ Z)).getD (A.length + i) 0 = R.getD i 0 := by
  rw [List.getD_eq_getElem?_getD, List.getElem?_append_right (by omega), List.getElem?_append_left (by omega), List.getD_eq_getElem?_getD, Nat.add_sub_cancel_left]
theorem splice_map (C cs : List Int) (off : Nat) : (splice C off cs).map (Value.int .u8) = (C.map (Value.int .u8)).take off ++ (cs.map (Value.int .u8) ++ (C.map (Value.int .u8)).drop (off + cs.length)) := by
  simp [splice]
theorem splice_mem {C cs : List Int} {off : Nat} {x : Int} (h : x ∈ splice C off cs) : x ∈ C ∨ x ∈ cs := by
  unfold splice at h
  rcases List.mem_append.1 h with h | h
  · exact .inl (List.mem_of_mem_take h)
  · rcases List.mem_append.1 h with h | h
    · exact .inr h
    · exact .inl (List.mem_of_mem_drop h)
theorem size5 : (Ybad.prog.info? 5).map (·.size) = some 1 := by kernel_rfl

/-- 'copy(dst, src)', dst in a block of bytes. -/
theorem wpList_cp {w : World} {ops : Array Oper} {rest : List Oper} {o : Oper} {a : Act} {Q : Exit → Act → World → Prop} (hgd : o.guard = none) (d s : Operand)
    (ho : o.op = .call { callee := .builtin .copy, args := #[d, s], argTypes := #[25, 25] }) (g t off dLen dCap : Nat) (ad : Addr) (sLen sCap : Nat) (hd : a.eval d = .slice (some ⟨g, off, none⟩) dLen dCap) (hs : a.eval s = .slice (some ad) sLen sCap)
    (C cs : List Int) (hR : Row w g t C) (hn : cs.length = Nat.min sLen dLen) (hsrc : ∀ j x, cs[j]? = some x → w.cell? (ad.add j) = some (.int .u8 x)) (hfit : off + cs.length ≤ C.length) (hb : ∀ x ∈ cs, 0 ≤ x ∧ x < 256)
    (h : ∀ w', Row w' g t (splice C off cs) → w.grownBy w' (some g) → wpList Ybad.prog ops Q rest (a.put o.dst (goInt cs.length)) w') : wpList Ybad.prog ops Q (o :: rest) a w := by
  have := wpList_copy_own (P := Ybad.prog) (w := w) (ops := ops) (rest := rest) (o := o) (a := a) (Q := Q) hgd d s 25 25 ho 5 Ybad.underlying25 size5 g off dLen dCap ad sLen sCap hd hs (C.map (Value.int .u8)).toArray t hR.heap (cs.map (Value.int .u8)) (by simpa using hn)
    (fun j v hv => by
      rw [List.getElem?_map] at hv
      cases he : cs[j]? with
      | none => rw [he] at hv; simp at hv
      | some x => rw [he] at hv; simp at hv; subst hv; exact hsrc j x he)
    (by simpa using hfit) (fun v hv => by simp at hv; obtain ⟨y, _, rfl⟩ := hv; rfl)
  refine this ?_
  rw [List.length_map]
  refine h _ ⟨?_, fun x hx => ?_⟩ ⟨rfl, rfl, rfl, by simp, fun k _ hk => setRow_other w g k _ (fun e => hk (by rw [e]))⟩
  · rw [splice_map]
    exact setRow_heap w g _ _ t _ hR.heap
  · rcases splice_mem hx with h2 | h2
    · exact hR.bytes x h2
    · exact hb x h2

theorem src4 (w : World) (a b c d : Int) : ∀ j x, [a, b, c, d][j]? = some x → (w.alloc (.cells #[.int .u8 a, .int .u8 b, .int .u8 c, .int .u8 d] 22)).cell? ((⟨w.heap.size, 0, none⟩ : Addr).add j) = some (.int .u8 x) := by
  intro j x h
  have : j = 0 ∨ j = 1 ∨ j = 2 ∨ j = 3 := by
    have := (List.getElem?_eq_some_iff.1 h).1
    simp at this
    omega
  rcases this with rfl | rfl | rfl | rfl <;> (simp at h; subst h; simp [Addr.add])
/-- What the entering of an option answers. -/
def InPost (g t : Nat) (A Z : List Int) (eb : Value) (e : Ending) (w' : World) : Option (List Int) → Prop
  | none => e = .returned (.iface 67 eb)
  | some R => e = .returned .nilIface ∧ Row w' g t (A ++ (R ++ Z))

set_option maxRecDepth 100000 in
set_option maxHeartbeats 4000000 in
theorem record_any (g n c : Nat) (A R Z : List Int) (a b q d : Int) (za : Addr) (eb : Value) (w : World) (hR : Row w g 5 (A ++ (R ++ Z))) (hn : R.length = n) (hc : n ≤ c) (hg2 : 2 < g) (h1 : w.cell? ⟨1, 0, none⟩ = some (.iface 67 eb)) (h2 : w.cell? ⟨2, 0, none⟩ = some (.pointer (some za)))
    (a0 : 0 ≤ a) (a1 : a < 256) (b0 : 0 ≤ b) (b1 : b < 256) (q0 : 0 ≤ q) (q1 : q < 256) (d0 : 0 ≤ d) (d1 : d < 256) :
    Calls Ybad.prog 12 #[.slice (some ⟨g, A.length, none⟩) n c, adr za (num4 a b q d)] w fun e w' => InPost g 5 A Z eb e w' (record R [a, b, q, d]) ∧ w.grownBy w' (some g) := by
  have hlt := hR.lt
  have hz1 : 1 < w.heap.size := by omega
  have hz2 : 2 < w.heap.size := by omega
  have gA : w.grownBy (w.alloc (.cells #[.int .u64 0, .int .u64 (num4 a b q d), .pointer (some za)] 43)) none := gb_alloc _ _ _
  have hRa := hR.kept gA (by simp)
  have k1 := (gA.cell_far ⟨1, 0, none⟩ hz1 (by simp)).trans h1
  have k2 := (gA.cell_far ⟨2, 0, none⟩ hz2 (by simp)).trans h2
  have s0 : (w.alloc (.cells #[.int .u64 0, .int .u64 (num4 a b q d), .pointer (some za)] 43)).cell? ⟨w.heap.size, 0, none⟩ = some (.int .u64 0) := by simp
  have s1 : (w.alloc (.cells #[.int .u64 0, .int .u64 (num4 a b q d), .pointer (some za)] 43)).cell? ⟨w.heap.size, 1, none⟩ = some (.int .u64 (num4 a b q d)) := by simp
  have s2 : (w.alloc (.cells #[.int .u64 0, .int .u64 (num4 a b q d), .pointer (some za)] 43)).cell? ⟨w.heap.size, 2, none⟩ = some (.pointer (some za)) := by simp
  have hza : w.heap.size < (w.alloc (.cells #[.int .u64 0, .int .u64 (num4 a b q d), .pointer (some za)] 43)).heap.size := by simp
  go_enter Ybad.func12, Ybad.ntmps12
  by_cases h3 : n < 3
  · have hrec : record R [a, b, q, d] = none := by unfold record; rw [if_pos (by omega)]
    go_wp2
    go_ret
    rw [hrec]
    exact ⟨rfl, gb_some _ gA⟩
  · have h3i : 3 ≤ (n : Int) := by omega
    go_wp2_with fail
    generalize w.alloc (.cells #[.int .u64 0, .int .u64 (num4 a b q d), .pointer (some za)] 43) = wa at *
    cases he : entry R 4 4 with
    | bad =>
      have hrec : record R [a, b, q, d] = none := by unfold record; rw [if_neg (by omega), he]
      go_wp2_with (go_at_call 16; refine (entry_any g A.length n c 4 4 _ R Z A eb _ rfl hRa rfl hn (by omega) hc (by omega) (by omega) (by omega) (by omega) k1).mono ?_; rintro e w1 ⟨hm, hg1⟩; rw [he] at hm; obtain rfl := hm)
      go_ret
      rw [hrec]
      exact ⟨rfl, gb_some _ (gb_trans gA hg1)⟩
    | full =>
      have hrec : record R [a, b, q, d] = some R := by unfold record; rw [if_neg (by omega), he]
      go_wp2_with (go_at_call 16; refine (entry_any g A.length n c 4 4 _ R Z A eb _ rfl hRa rfl hn (by omega) hc (by omega) (by omega) (by omega) (by omega) k1).mono ?_; rintro e w1 ⟨hm, hg1⟩; rw [he] at hm; obtain rfl := hm)
      go_ret
      rw [hrec]
      exact ⟨⟨rfl, hRa.kept hg1 (by simp)⟩, gb_some _ (gb_trans gA hg1)⟩
    | room p =>
      obtain ⟨p1, p2, p3⟩ := entry_room (by omega) he
      have hrec : record R [a, b, q, d] = some ((splice R p [a, b, q, d]).set 2 ((R.getD 2 0 + 4) % 256)) := by unfold record; rw [if_neg (by omega), he]
      have hx := hR.byte (A.length + 2)
      rw [getD_mid A R Z 2 (by omega)] at hx
      obtain ⟨x, hx2⟩ : ∃ x, R.getD 2 0 = x := ⟨_, rfl⟩
      rw [hx2] at hx hrec
      have hbs : ∀ y ∈ [a, b, q, d], 0 ≤ y ∧ y < 256 := by intro y hy; simp at hy; omega
      have hsl : (splice R p [a, b, q, d]).length = R.length := splice_len _ _ _ (by simp; omega)
      have hs2 := splice_getD R p [a, b, q, d] 2 (by omega) (by omega)
      have wx : IntKind.u8.wrap (x + 4) = (x + 4) % 256 := IntKind.wrap_u8 _
      go_wp2_with (first
        | (go_at_call 16; refine (entry_any g A.length n c 4 4 _ R Z A eb _ rfl hRa rfl hn (by omega) hc (by omega) (by omega) (by omega) (by omega) k1).mono ?_; rintro e w1 ⟨hm, hg1⟩; rw [he] at hm; obtain ⟨c1, rfl, hc1⟩ := hm; have t0 := (hg1.cell_far ⟨w.heap.size, 0, none⟩ hza (by simp)).trans s0; have t1 := (hg1.cell_far ⟨w.heap.size, 1, none⟩ hza (by simp)).trans s1; have t2 := (hg1.cell_far ⟨w.heap.size, 2, none⟩ hza (by simp)).trans s2; have z2 := (hg1.cell_far ⟨2, 0, none⟩ (Nat.lt_of_lt_of_le hz2 gA.size) (by simp)).trans k2; have hRb := hRa.kept hg1 (by simp))
        | (go_at_call 15; refine (as4 a b q d za _ z2 (Nat.lt_of_lt_of_le hz2 (gb_trans gA hg1).size) a0 a1 b0 b1 q0 q1 d0 d1).mono ?_; rintro e w2 ⟨rfl, hg2⟩; have hRc := (hRb.kept hg2 (by simp)).kept (gb_alloc w2 (.cells #[.int .u8 a, .int .u8 b, .int .u8 q, .int .u8 d] 22) none) (by simp))
        | (refine wpList_cp rfl _ _ rfl g 5 (A.length + p) 4 c1 ⟨w2.heap.size, 0, none⟩ 4 4 rfl rfl (A ++ (R ++ Z)) [a, b, q, d] hRc rfl (src4 w2 a b q d) (by simp; omega) hbs ?_; intro w3 hR3 hg3; rw [splice_mid _ _ _ _ _ (by simp; omega)] at hR3; have y2 := hR3.cellD (A.length + 2) (by simp; omega); rw [getD_mid _ _ _ 2 (by rw [hsl]; omega), hs2, hx2] at y2; have yz := hR3.frozen (A.length + 2)))
      go_ret
      rw [hrec]
      refine ⟨⟨rfl, ?_⟩, ?_⟩
      · have h := hR3.set (A.length + 2) (by simp; omega) ((x + 4) % 256) (by omega) (by omega)
        rw [set_mid _ _ _ _ _ (by rw [hsl]; omega)] at h
        exact h
      · exact gb_trans (gb_trans (gb_some _ (gb_trans (gb_trans gA hg1) (gb_trans hg2 (gb_alloc _ _ _)))) hg3) (gb_set _ _ _ _)
end Go.Proofs.YbulkblgyDoor
