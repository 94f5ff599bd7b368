/- What both capture laws use: describeInterface and zzs3101ccheck, whatever the options come to. -/
import Derived.Test.YbulkbleuFmtDescBig
import Derived.Test.YbulkbleuFmtDescLittle
import Derived.Test.YbulkbleuFmtCheck
import Derived.Laws.CopyOwn
namespace Go.Proofs.YbulkbleuFmt
open Go.RowKit Go.Extern.Stop Go.Stop Go.Extern
attribute [local go_sem ↓] Go.wp_at_zero Go.wp_at_succ

/-- zzs3101cget, its numbers as they come. -/
theorem get_int (g o n c : Nat) (f : Nat → Int) (hf : Byte f) (i m : Int) (big : Bool) (w : World) (hb : Hid (Bytes w g o n f)) (hi : 0 ≤ i) (hm0 : 0 ≤ m) (him : i + m ≤ n) (hm : m ≤ 8) (hn : n ≤ 1000000) :
    Calls Ybaf.prog 18 #[.slice (some ⟨g, o, none⟩) n c, .int .i64 i, .int .i64 m, .bool big] w fun e w' => e = .returned (.int .u64 (getN f i.toNat m.toNat big)) ∧ w = w' := by
  obtain ⟨i', rfl⟩ := Int.eq_ofNat_of_zero_le hi
  obtain ⟨m', rfl⟩ := Int.eq_ofNat_of_zero_le hm0
  exact (get_any g o n c f hf i' m' big w hb (by omega) (by omega) hn).mono fun _ _ h => ⟨h.1, h.2.symm⟩

theorem units_any' (r : Int) (h0 : 0 ≤ r) (h1 : r ≤ 255) (w : World) :
    Calls Ybaf.prog 19 #[.int .u8 r] w fun e w' => e = .returned (.tuple #[.int .u64 (unitsV r), .bool (unitsOk r)]) ∧ w = w' :=
  (units_any r h0 h1 w).mono fun _ _ h => ⟨h.1, h.2.symm⟩

/-- What the model makes of a body. -/
def modelR (f : Nat → Int) (n : Nat) (big : Bool) : Option (Int × Int) := if n < 8 then none else parse f n big n 8 1000000 0

/-- What the law's own parse leaves in 'want'. -/
def Wanted (f : Nat → Int) (big : Bool) (R : Option (Int × Int)) (a b c d : Int) : Prop := ∀ u x, R = some (u, x) → a = getN f 0 2 big ∧ b = getN f 4 4 big ∧ c = u ∧ d = x


theorem describe_short (F : Interp) (pb : Nat) (T : TypeId) (a : Option Addr) (n c : Nat) (m : Nat) (xs : List Value) (x y : Int) (w : World) (hF : F.answers w.tape) (hn : n < 8) (hR : Reader w pb T m xs) :
    Calls Ybaf.prog 21 #[.pointer (some ⟨pb, 0, none⟩), .slice a n c] w fun e w' => Described w pb T m xs x y none e w' := by
  have hl : (n : Int) < 8 := by omega
  go_enter Ybaf.func21, Ybaf.ntmps21
  go_wp2_with (go_at_call 24; refine (errorf_one F _ 3 (.int .i64 n) 100 false (shape3, digits 8 ((n : Int) % 2 ^ 64).toNat) w.heap.size (w.alloc (.cells #[.iface 3 (.int .i64 n)] 20)) hF (fun _ => by kernel_rfl) (op3_100 n) rfl (by simp)).mono ?_; rintro e w3 ⟨⟨v, rfl⟩, hb3⟩)
  go_ret
  have hlt := hR.lt
  have hbw : Below w.heap.size w w3 := ((Below.refl _ w).alloc (Nat.le_refl _) _).trans (hb3.mono (by simp))
  exact ⟨hbw.mono (by omega), ⟨_, rfl⟩, hR.later hbw⟩

abbrev ordT (big : Bool) : TypeId := if big = true then 99 else 113

/-- describeInterface, whatever the body. -/
theorem desc_any (F : Interp) (pb : Nat) (g o n c : Nat) (hc : n ≤ c) (hn5 : n ≤ 10000) (f : Nat → Int) (hf : Byte f) (big : Bool) (m : Nat) (xs : List Value) (w : World) (hF : F.answers w.tape)
    (hB : Hid (Bytes w g o n f)) (hgp : g < pb) (hm : m ≤ 100) (hR : Reader w pb (ordT big) m xs) :
    Calls Ybaf.prog 21 #[.pointer (some ⟨pb, 0, none⟩), .slice (some ⟨g, o, none⟩) n c] w fun e w' => Described w pb (ordT big) m xs (getN f 0 2 big) (getN f 4 4 big) (modelR f n big) e w' := by
  unfold modelR
  by_cases hn : n < 8
  · rw [if_pos hn]
    exact describe_short F pb (ordT big) _ n c m xs _ _ w hF hn hR
  · rw [if_neg hn]
    cases big with
    | true => exact describe_big F pb g o n c hc hn5 f hf m xs w hF (by omega) hB hgp hm hR
    | false => exact describe_little F pb g o n c hc hn5 f hf m xs w hF (by omega) hB hgp hm hR

/-- What the reader holds behind the call, with the error that it answered. -/
def Ended (w' : World) (pb : Nat) (T : TypeId) (m : Nat) (xs : List Value) (a b : Int) (R : Option (Int × Int)) (ev : Value) : Prop :=
  match R with
    | none => (∃ v, ev = .iface 102 v) ∧ Reader w' pb T m xs
    | some (u, d) => ev = .nilIface ∧ Reader w' pb T (m + 1) (xs ++ [.int .u16 a, .int .u32 b, .int .u64 u, .int .i64 d])
theorem Described.ret {w : World} {pb : Nat} {T : TypeId} {m : Nat} {xs : List Value} {a b : Int} {R : Option (Int × Int)} {e : Ending} {w' : World} (h : Described w pb T m xs a b R e w') : ∃ ev, e = .returned ev ∧ Below pb w w' ∧ Ended w' pb T m xs a b R ev := by
  obtain ⟨hb, h⟩ := h
  cases R with
  | none => obtain ⟨⟨v, rfl⟩, hR⟩ := h; exact ⟨_, rfl, hb, ⟨v, rfl⟩, hR⟩
  | some p => obtain ⟨rfl, hR⟩ := h; exact ⟨_, rfl, hb, rfl, hR⟩
/-- zzs3101ccheck, whatever describeInterface came to. -/
theorem check_any (pb : Nat) (T : TypeId) (k : Int) (hk0 : 0 ≤ k) (hk1 : k ≤ 255) (R : Option (Int × Int)) (ev : Value) (A B a b c d : Int) (w : World)
    (hW : ∀ u x, R = some (u, x) → a = A ∧ b = B ∧ c = u ∧ d = x)
    (hR : Ended w pb T (k % 4).toNat (priors (k % 4).toNat) A B R ev) :
    Calls Ybaf.prog 22 #[.pointer (some ⟨pb, 0, none⟩), .int .u8 k, ev, .bool R.isSome, .agg #[.int .u16 a, .int .u32 b, .int .u64 c, .int .i64 d]] w fun e w' => e = .returned (.bool true) ∧ Below w.heap.size w w' := by
  cases R with
  | none =>
    obtain ⟨⟨v, rfl⟩, hR⟩ := hR
    exact check_no pb T 102 v k hk0 hk1 a b c d w hR
  | some p =>
    obtain ⟨u, x⟩ := p
    obtain ⟨rfl, hR⟩ := hR
    obtain ⟨rfl, rfl, rfl, rfl⟩ := hW u x rfl
    exact check_ok pb T k hk0 hk1 _ _ _ _ w hR

theorem Reader.drewN {w : World} {pb : Nat} {T : TypeId} {m : Nat} {xs : List Value} (h : Reader w pb T m xs) (j : Nat) : Reader (w.drewN j) pb T m xs := by
  obtain ⟨v, c2, ho⟩ := h.ifs
  exact ⟨h.lt, h.ord, ⟨v, c2, ho⟩, h.frz⟩

theorem Ended.drewN {w : World} {pb : Nat} {T : TypeId} {m : Nat} {xs : List Value} {a b : Int} {R : Option (Int × Int)} {ev : Value} (h : Ended w pb T m xs a b R ev) (j : Nat) : Ended (w.drewN j) pb T m xs a b R ev := by
  cases R with
  | none => exact ⟨h.1, h.2.drewN j⟩
  | some p => exact ⟨h.1, h.2.drewN j⟩
theorem below_drewN {B : Nat} {w w' : World} (h : Below B w w') (j : Nat) : Below B w (w'.drewN j) := h.trans ⟨rfl, rfl, rfl, Nat.le_refl _, fun _ _ => rfl⟩

theorem infoB : (Ybaf.prog.info? 5).map (fun i => (i.zero, i.size, i.bytes)) = some (some (.int .u8 0), 1, 1) := by kernel_rfl
theorem infoB1 : (Ybaf.prog.info? 5).map (·.size) = some 1 := by kernel_rfl
theorem run_bytes (w : World) (n : Nat) (hn : n ≤ 100000) :
    (Instr.makeSlice 24 (.int .i64 n) (.int .i64 n)).run Ybaf.prog w = .ok (.slice (some ⟨w.heap.size, 0, none⟩) n n) (w.alloc (.cells (madeCells #[.int .u8 0] n) 5)) := by
  obtain ⟨i, hi, hz, hs, hb⟩ := info_parts infoB
  have := run_make (P := Ybaf.prog) w 24 5 i _ Ybaf.underlying24 hi hz .i64 .i64 n n (by omega) (Int.le_refl _) (by rw [hb]; omega) (by omega)
  simpa [hs, Value.cells] using this

/-- The cells of n bytes. -/
def byteCells (f : Nat → Int) (n : Nat) : List Value := (List.range n).map fun i => .int .u8 (f i)
theorem byteCells_len (f : Nat → Int) (n : Nat) : (byteCells f n).length = n := by simp [byteCells]
theorem byteCells_get (f : Nat → Int) (n : Nat) {i : Nat} (h : i < n) : (byteCells f n)[i]? = some (.int .u8 (f i)) := by simp [byteCells, h]
theorem byteCells_one (f : Nat → Int) (n : Nat) : ∀ v ∈ byteCells f n, v.oneCell' = true := by
  intro v hv
  simp [byteCells] at hv
  obtain ⟨i, _, rfl⟩ := hv
  rfl
theorem Bytes.src {w : World} {g o n : Nat} {f : Nat → Int} (h : Bytes w g o n f) : ∀ j v, (byteCells f n)[j]? = some v → w.cell? ((⟨g, o, none⟩ : Addr).add j) = some v := by
  intro j v hv
  have hj : j < n := by have := (List.getElem?_eq_some_iff.1 hv).1; rwa [byteCells_len] at this
  rw [byteCells_get f n hj] at hv
  cases hv
  rw [Go.WideShapes.add_plain]
  exact h j hj
/-- A block that holds just the bytes. -/
theorem Bytes.of_block {w : World} {g : Nat} {t : TypeId} {L : List Value} {f : Nat → Int} {n : Nat} (h : w.heap[g]? = some (.cells L.toArray t (0, 0))) (hL : ∀ i, i < n → L[i]? = some (.int .u8 (f i))) : Bytes w g 0 n f := by
  intro i hi
  rw [Nat.zero_add, cell_of_row w g i _ t (0, 0) h]
  simpa using hL i hi

end Go.Proofs.YbulkbleuFmt
