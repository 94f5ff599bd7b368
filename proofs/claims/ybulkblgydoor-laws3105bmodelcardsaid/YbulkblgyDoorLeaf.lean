/- LawS3105B*: the leaves: '==' on addresses, AddrFrom4, As4, PutUint32. -/
import Derived.Test.YbulkblgyDoorChecked
import Derived.Test.YbulkblgyDoorPlain
import Derived.WalkKit
import Derived.ProofKit
import Derived.LaidEql
import Derived.Lib.EndianBits
import Derived.Deep.RegionWith
namespace Go.Proofs.YbulkblgyDoor
open Go.RowKit

theorem info84 : (Ybad.prog.info? 84).isSome = true := by kernel_rfl
theorem run_equalIn_ptr (P : Program) (w : World) (d : Nat) {tp te : TypeId} {j : TypeInfo} (a : Addr) (hp : P.underlying tp = some (.pointer te)) (hte : P.info? te = some j) :
    (Op.equalIn (d + 1) tp (.pointer (some a)) (.pointer (some a))).run P w = .ok true w := by
  simp [Op.equalIn, run_underlying hp, typeInfo, sizeOf, run_sameAddr_same, hte]
theorem part39 (w : World) (v : Value) : (part 39 #[v] 0).run Ybad.prog w = .ok v w := by kernel_rfl
theorem part36a (w : World) (u v : Value) : (part 36 #[u, v] 0).run Ybad.prog w = .ok u w := by kernel_rfl
theorem part36b (w : World) (u v : Value) : (part 36 #[u, v] 1).run Ybad.prog w = .ok v w := by kernel_rfl
theorem part38 (w : World) (u v x : Value) : (part 38 #[u, v, x] 0).run Ybad.prog w = .ok (.agg #[u, v]) w := by kernel_rfl
theorem part41 (w : World) (u v x : Value) : (part 41 #[u, v, x] 2).run Ybad.prog w = .ok (.agg #[x]) w := by kernel_rfl
theorem equalIn41 (w : World) (d : Nat) (a : Addr) : (Op.equalIn (d + 1 + 1) 41 (.agg #[.pointer (some a)]) (.agg #[.pointer (some a)])).run Ybad.prog w = .ok true w := by
  obtain ⟨j, hj⟩ := Option.isSome_iff_exists.1 info84
  have h := run_equalIn_ptr Ybad.prog w d a Ybad.underlying39 hj
  rw [Op.equalIn]
  simp [run_underlying Ybad.underlying41, part39, h]
theorem equalIn41nil (w : World) (d : Nat) : (Op.equalIn (d + 1 + 1) 41 (.agg #[.pointer none]) (.agg #[.pointer none])).run Ybad.prog w = .ok true w := by
  have h : (Op.equalIn (d + 1) 39 (.pointer none) (.pointer none)).run Ybad.prog w = .ok true w := by simp [Op.equalIn, run_underlying Ybad.underlying39]
  rw [Op.equalIn]
  simp [run_underlying Ybad.underlying41, part39, h]
theorem equalIn36 (w : World) (d : Nat) (x y : Int) : (Op.equalIn (d + 1) 36 (.int .u64 x) (.int .u64 y)).run Ybad.prog w = .ok (x == y) w := by simp [Op.equalIn, run_underlying Ybad.underlying36]
theorem equalIn38 (w : World) (d : Nat) (x y : Int) : (Op.equalIn (d + 1 + 1) 38 (.agg #[.int .u64 0, .int .u64 x]) (.agg #[.int .u64 0, .int .u64 y])).run Ybad.prog w = .ok (x == y) w := by
  have h := equalIn36 w d x y
  have h0 := equalIn36 w d 0 0
  rw [Op.equalIn]
  cases hxy : (x == y) <;> simp [run_underlying Ybad.underlying38, part36a, part36b, h, h0, hxy]

abbrev q4 (a b c d : Int) : Value := .agg #[.int .u8 a, .int .u8 b, .int .u8 c, .int .u8 d]
def num4 (a b c d : Int) : Int := 281470681743360 + a * 16777216 + b * 65536 + c * 256 + d
abbrev adr (za : Addr) (x : Int) : Value := .agg #[.int .u64 0, .int .u64 x, .pointer (some za)]
abbrev adr0 : Value := .agg #[.int .u64 0, .int .u64 0, .pointer none]

theorem equalIn43 (w : World) (d : Nat) (a : Addr) (x y : Int) : (Op.equalIn (d + 1 + 1 + 1) 43 (adr a x) (adr a y)).run Ybad.prog w = .ok (x == y) w := by
  have h := equalIn38 w d x y
  have h0 := equalIn41 w d a
  rw [Op.equalIn]
  cases hxy : (x == y) <;> simp [run_underlying Ybad.underlying43, part38, part41, h, h0, hxy]
theorem equalIn43nil (w : World) (d : Nat) : (Op.equalIn (d + 1 + 1 + 1) 43 adr0 adr0).run Ybad.prog w = .ok true w := by
  have h := equalIn38 w d 0 0
  have h0 := equalIn41nil w d
  rw [Op.equalIn]
  simp [run_underlying Ybad.underlying43, part38, part41, h, h0]
theorem eql41 (w : World) (a : Addr) : (binOp .eql 41 (.agg #[.pointer (some a)]) (.agg #[.pointer (some a)])).run Ybad.prog w = .ok (.bool true) w := by
  simp only [binOp]
  simp [Op.equal, Op.maxDepth, equalIn41 w 9998 a]
theorem eql43 (w : World) (a : Addr) (x y : Int) : (binOp .eql 43 (adr a x) (adr a y)).run Ybad.prog w = .ok (.bool (x == y)) w := by
  simp only [binOp]
  simp [Op.equal, Op.maxDepth, equalIn43 w 9997 a x y]
theorem neq43 (w : World) (a : Addr) (x y : Int) : (binOp .neq 43 (adr a x) (adr a y)).run Ybad.prog w = .ok (.bool (x != y)) w := by
  simp only [binOp]
  simp [Op.equal, Op.maxDepth, equalIn43 w 9997 a x y, bne]
theorem eql43nil (w : World) : (binOp .eql 43 adr0 adr0).run Ybad.prog w = .ok (.bool true) w := by
  simp only [binOp]
  simp [Op.equal, Op.maxDepth, equalIn43nil w 9997]

theorem gb_refl (w : World) (r : Option Nat) : w.grownBy w r := ⟨rfl, rfl, rfl, Nat.le_refl _, fun _ _ _ => rfl⟩
theorem gb_trans {w w1 w2 : World} {r : Option Nat} (h : w.grownBy w1 r) (k : w1.grownBy w2 r) : w.grownBy w2 r :=
  ⟨k.os.trans h.os, k.tape.trans h.tape, k.output.trans h.output, Nat.le_trans h.size k.size, fun i hi hn => (k.block i (Nat.lt_of_lt_of_le hi h.size) hn).trans (h.block i hi hn)⟩
theorem gb_some {w w1 : World} (r : Option Nat) (h : w.grownBy w1 none) : w.grownBy w1 r := ⟨h.os, h.tape, h.output, h.size, fun i hi _ => h.block i hi (by simp)⟩
theorem gb_alloc (w : World) (o : Obj) (r : Option Nat) : w.grownBy (w.alloc o) r := World.grownBy_alloc w o r
theorem gb_drew (w : World) (r : Option Nat) : w.grownBy w.drew r := ⟨rfl, rfl, rfl, Nat.le_refl _, fun _ _ _ => rfl⟩
theorem gb_set (w : World) (g j : Nat) (u : Value) : w.grownBy (w.setCell ⟨g, j, none⟩ u) (some g) := ⟨rfl, rfl, rfl, by rw [World.size_setCell]; exact Nat.le_refl _, fun i _ hn => Below.heap_setCell _ _ _ _ (fun e => hn (by rw [e]))⟩

set_option maxRecDepth 100000 in
theorem from4 (a b c d : Int) (za : Addr) (w : World) (h2 : w.cell? ⟨2, 0, none⟩ = some (.pointer (some za))) (hz : 2 < w.heap.size) (a0 : 0 ≤ a) (a1 : a < 256) (b0 : 0 ≤ b) (b1 : b < 256) (c0 : 0 ≤ c) (c1 : c < 256) (d0 : 0 ≤ d) (d1 : d < 256) :
    Calls Ybad.prog 9 #[q4 a b c d] w fun e w' => e = .returned (adr za (num4 a b c d)) ∧ w.grownBy w' none := by
  have e1 : bits .or .u64 281470681743360 (a * 16777216) = 281470681743360 + a * 16777216 := bits_join .u64 64 (by decide) wraps_u64 32 _ _ (by omega) (by omega) (by omega) (by omega) (by omega) (by omega)
  have e2 : bits .or .u64 (281470681743360 + a * 16777216) (b * 65536) = 281470681743360 + a * 16777216 + b * 65536 := bits_join .u64 64 (by decide) wraps_u64 24 _ _ (by omega) (by omega) (by omega) (by omega) (by omega) (by omega)
  have e3 : bits .or .u64 (281470681743360 + a * 16777216 + b * 65536) (c * 256) = 281470681743360 + a * 16777216 + b * 65536 + c * 256 := bits_join .u64 64 (by decide) wraps_u64 16 _ _ (by omega) (by omega) (by omega) (by omega) (by omega) (by omega)
  have e4 : bits .or .u64 (281470681743360 + a * 16777216 + b * 65536 + c * 256) d = num4 a b c d := bits_join .u64 64 (by decide) wraps_u64 8 _ _ (by omega) (by omega) (by omega) (by omega) (by omega) (by omega)
  unfold q4
  go_enter Ybad.func9, Ybad.ntmps9
  go_wp2
  simp [bodyPost, results, Ybad.results9, go_sem]
  exact gb_trans (gb_alloc _ _ _) (gb_alloc _ _ _)

/-- A block of bytes. -/
structure Row (w : World) (g : Nat) (t : TypeId) (C : List Int) : Prop where
  heap : w.heap[g]? = some (.cells (C.map (Value.int .u8)).toArray t (0, 0))
  bytes : ∀ x ∈ C, 0 ≤ x ∧ x < 256
theorem Row.lt {w : World} {g t : Nat} {C : List Int} (h : Row w g t C) : g < w.heap.size := (Array.getElem?_eq_some_iff.1 h.heap).1
theorem Row.cell {w : World} {g t : Nat} {C : List Int} (h : Row w g t C) (i : Nat) (hi : i < C.length) : w.cell? ⟨g, i, none⟩ = some (.int .u8 C[i]) := by
  simp [World.cell?, h.heap, List.getElem?_eq_getElem hi]
theorem Row.cellD {w : World} {g t : Nat} {C : List Int} (h : Row w g t C) (i : Nat) (hi : i < C.length) : w.cell? ⟨g, i, none⟩ = some (.int .u8 (C.getD i 0)) := by
  rw [h.cell i hi, List.getD_eq_getElem?_getD, List.getElem?_eq_getElem hi]; rfl
theorem Row.frozen {w : World} {g t : Nat} {C : List Int} (h : Row w g t C) (i : Nat) : w.frozen? ⟨g, i, none⟩ = false := by
  simp [World.frozen?, h.heap]
theorem getD_byte {C : List Int} (h : ∀ x ∈ C, 0 ≤ x ∧ x < 256) (i : Nat) : 0 ≤ C.getD i 0 ∧ C.getD i 0 < 256 := by
  rw [List.getD_eq_getElem?_getD]
  cases he : C[i]? with
  | none => simp
  | some x => exact h x (List.mem_of_getElem? he)
theorem Row.byte {w : World} {g t : Nat} {C : List Int} (h : Row w g t C) (i : Nat) : 0 ≤ C.getD i 0 ∧ C.getD i 0 < 256 := getD_byte h.bytes i
theorem Row.kept {w w' : World} {g t : Nat} {C : List Int} {r : Option Nat} (h : Row w g t C) (hg : w.grownBy w' r) (hne : some g ≠ r) : Row w' g t C := ⟨by rw [hg.block g h.lt hne]; exact h.heap, h.bytes⟩
theorem Row.set {w : World} {g t : Nat} {C : List Int} (h : Row w g t C) (i : Nat) (_hi : i < C.length) (x : Int) (h0 : 0 ≤ x) (h1 : x < 256) : Row (w.setCell ⟨g, i, none⟩ (.int .u8 x)) g t (C.set i x) := by
  refine ⟨?_, fun y hy => ?_⟩
  · rw [heap_setCell_same w g i _ t _ h.heap]
    simp
  · rcases List.mem_or_eq_of_mem_set hy with h2 | rfl
    · exact h.bytes y h2
    · exact ⟨h0, h1⟩

theorem splice4 (C : List Int) (o : Nat) (a b c d : Int) (h : o + 4 ≤ C.length) : (((C.set o a).set (o + 1) b).set (o + 2) c).set (o + 3) d = splice C o [a, b, c, d] := by
  unfold splice
  apply List.ext_getElem?
  intro j
  simp only [List.getElem?_set, List.length_set]
  rcases Nat.lt_or_ge j o with h1 | h1
  · rw [List.getElem?_append_left (by simp; omega), List.getElem?_take_of_lt h1, if_neg (by omega), if_neg (by omega), if_neg (by omega), if_neg (by omega)]
  · rw [List.getElem?_append_right (by simp; omega), List.length_take, Nat.min_eq_left (by omega)]
    rcases Nat.lt_or_ge j (o + 4) with h2 | h2
    · obtain ⟨i, rfl⟩ : ∃ i, j = o + i := ⟨j - o, by omega⟩
      have : i = 0 ∨ i = 1 ∨ i = 2 ∨ i = 3 := by omega
      rcases this with rfl | rfl | rfl | rfl
      · rw [if_neg (by omega), if_neg (by omega), if_neg (by omega), if_pos (by omega), if_pos (by omega)]; simp
      · rw [if_neg (by omega), if_neg (by omega), if_pos (by omega), if_pos (by omega)]; simp
      · rw [if_neg (by omega), if_pos (by omega), if_pos (by omega)]; simp
      · rw [if_pos (by omega), if_pos (by omega)]; simp
    · rw [List.getElem?_append_right (by simp; omega), if_neg (by omega), if_neg (by omega), if_neg (by omega), if_neg (by omega), List.getElem?_drop]
      congr 1
      simp
      omega

set_option maxRecDepth 100000 in
/-- BEPutUint32 into four cells of a block. -/
theorem be32_put (g t o n c : Nat) (C : List Int) (v : Int) (w : World) (h0 : 0 ≤ v) (h1 : v < 4294967296) (hn : 4 ≤ n) (hR : Row w g t C) (ho : o + 4 ≤ C.length) :
    Calls Ybad.prog 19 #[.slice (some ⟨g, o, none⟩) n c, .int .u32 v] w fun e w' => e = .returned (.tuple #[]) ∧ Row w' g t (splice C o (msB v)) ∧ w.grownBy w' (some g) := by
  have k0 := hR.cell o (by omega)
  have k1 := hR.cell (o + 1) (by omega)
  have k2 := hR.cell (o + 2) (by omega)
  have k3 := hR.cell (o + 3) (by omega)
  have z0 := hR.frozen o
  have z1 := hR.frozen (o + 1)
  have z2 := hR.frozen (o + 2)
  have z3 := hR.frozen (o + 3)
  have R4 := (((hR.set o (by omega) (v / 16777216) (by omega) (by omega)).set (o + 1) (by simp; omega) (v / 65536 % 256) (by omega) (by omega)).set (o + 2) (by simp; omega) (v / 256 % 256) (by omega) (by omega)).set (o + 3) (by simp; omega) (v % 256) (by omega) (by omega)
  rw [splice4 _ _ _ _ _ _ ho] at R4
  go_enter Ybad.func19, Ybad.ntmps19
  go_wp2
  go_end0
  exact ⟨rfl, R4, gb_trans (gb_trans (gb_trans (gb_set _ _ _ _) (gb_set _ _ _ _)) (gb_set _ _ _ _)) (gb_set _ _ _ _)⟩
end Go.Proofs.YbulkblgyDoor
