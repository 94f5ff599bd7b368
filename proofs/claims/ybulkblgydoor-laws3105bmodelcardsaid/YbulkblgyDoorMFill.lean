/- LawS3105BModel: zzs3105bfill (5), zzs3105bput (6). -/
import Derived.Test.YbulkblgyDoorOwn
import Derived.Test.YbulkblgyDoorRec
namespace Go.Proofs.YbulkblgyDoor
open Go.RowKit

theorem splice_put1 (C cs : List Int) (off : Nat) (x : Int) (h : off + cs.length < C.length) : (splice C off cs).set (off + cs.length) x = splice C off (cs ++ [x]) := by
  unfold splice
  have hl : (C.take off).length = off := by rw [List.length_take]; omega
  rw [List.set_append_right _ _ (by omega), hl, show off + cs.length - off = cs.length by omega, List.set_append_right _ _ (by omega), Nat.sub_self]
  rw [List.append_assoc]
  congr 2
  rw [List.drop_eq_getElem_cons (show off + cs.length < C.length from h), List.set_cons_zero, List.length_append]
  rfl
theorem splice_nil1 (C : List Int) (off : Nat) : splice C off [] = C := by simp [splice]
/-- What fill writes. -/
def fillB (data : List Int) (salt : Int) : Nat → List Int
  | 0 => []
  | n + 1 => fillB data salt n ++ [if data.length = 0 then ((n : Int) + salt) % 256 else data.getD (n % data.length) 0]
theorem fillB_len (data : List Int) (salt : Int) : ∀ n, (fillB data salt n).length = n
  | 0 => rfl
  | n + 1 => by simp [fillB, fillB_len data salt n]

set_option maxRecDepth 100000 in
set_option maxHeartbeats 1000000 in
theorem fill_any (g off n cap dn dc : Nat) (ap ao : Option Addr) (C data : List Int) (salt : Int) (w : World) (hap : n = 0 ∨ ap = some ⟨g, off, none⟩) (hR : Row w g 5 C) (hoff : off + n ≤ C.length) (hn : n ≤ 200) (hd : data.length = dn) (hdn : (dn : Int) ≤ 9223372036854775807) (hdb : ∀ y ∈ data, 0 ≤ y ∧ y < 256) (hI : Hid (InB w ao data)) (hne : 0 < dn → ∀ b o, ao = some ⟨b, o, none⟩ → b ≠ g) (s0 : 0 ≤ salt) (s1 : salt ≤ 10) :
    Calls Ybad.prog 5 #[.slice ap n cap, .slice ao dn dc, .int .u8 salt] w fun e w' => e = .returned (.tuple #[]) ∧ Row w' g 5 (splice C off (fillB data salt n)) ∧ w.grownBy w' (some g) := by
  go_enter Ybad.func5, Ybad.ntmps5
  go_wp2
  go_loopw [9] (fun s9 wr => ∃ i : Nat, i ≤ n ∧ s9 = .int .i64 i ∧ Row wr g 5 (splice C off (fillB data salt i)) ∧ w.grownBy wr (some g)) (fun s9 _ => n - (intOf s9).toNat)
  case atStart => exact ⟨0, by omega, rfl, by rw [fillB, splice_nil1]; exact hR, gb_refl _ _⟩
  case round =>
    obtain ⟨i, hi, rfl, hRi, hgi⟩ := hrel
    by_cases hlt : i < n
    · obtain rfl : ap = some ⟨g, off, none⟩ := by rcases hap with h | h; omega; exact h
      have hil : (i : Int) < (n : Int) := by omega
      have hfl := fillB_len data salt i
      have hsl : (splice C off (fillB data salt i)).length = C.length := length_splice _ _ _ (by rw [hfl]; omega)
      obtain ⟨u0, k0⟩ : ∃ u, wr.cell? ⟨g, off + i, none⟩ = some u := ⟨_, hRi.cellD (off + i) (by omega)⟩
      have z0 := hRi.frozen (off + i)
      have hset : ∀ x, 0 ≤ x → x < 256 → Row (wr.setCell ⟨g, off + i, none⟩ (.int .u8 x)) g 5 (splice C off (fillB data salt i ++ [x])) := fun x h0 h1 => by
        have := hRi.set (off + i) (by omega) x h0 h1
        have e := splice_put1 C (fillB data salt i) off x (by rw [hfl]; omega)
        rw [hfl] at e
        rw [← e]
        exact this
      have HS := hide hset
      have hgs : ∀ x, w.grownBy (wr.setCell ⟨g, off + i, none⟩ (.int .u8 x)) (some g) := fun x => gb_trans hgi (gb_set _ _ _ _)
      have HG := hide hgs
      clear hset hgs hRi hsl hfl
      by_cases h0 : dn = 0
      · have hz : ¬ (dn : Int) > 0 := by omega
        have hw1 : IntKind.u8.wrap (i : Int) = (i : Int) := IntWalk.u8_in _ ⟨by omega, by omega⟩
        have hx : (if data.length = 0 then ((i : Int) + salt) % 256 else data.getD (i % data.length) 0) = (i : Int) + salt := by rw [if_pos (by omega)]; omega
        have hw2 : IntKind.u8.wrap ((i : Int) + salt) = (i : Int) + salt := IntWalk.u8_in _ ⟨by omega, by omega⟩
        go_wp2
        exact ⟨⟨i + 1, by omega, by go_num, by rw [fillB, hx]; exact HS.out _ (by omega) (by omega), HG.out _⟩, by simp [intOf]; omega⟩
      · have hz : (0 : Int) < (dn : Int) := by omega
        obtain ⟨b, o, rfl, hb, hc⟩ := hI.out (by omega)
        have hml := Nat.mod_lt i (show 0 < dn by omega)
        have hm : (i : Int) % (dn : Int) = ((i % dn : Nat) : Int) := by omega
        have k1 := (hgi.cell_far ⟨b, o + i % dn, none⟩ hb (by have := hne (by omega) b o rfl; simpa using this)).trans (hc (i % dn) (by omega))
        have hx : (if data.length = 0 then ((i : Int) + salt) % 256 else data.getD (i % data.length) 0) = data.getD (i % dn) 0 := by rw [if_neg (by omega), hd]
        have hxb := getD_byte hdb (i % dn)
        have hz2 : ¬ (dn : Int) = 0 := by omega
        have hml2 : ((i % dn : Nat) : Int) < (dn : Int) := by omega
        have HX := hide hx
        clear hx
        generalize data.getD (i % dn) 0 = y at *
        generalize hq : i % dn = q at *
        obtain ⟨y0, y1⟩ := hxb
        clear hq hc hne hd hI hap hdb h0 hdn hR hoff hb
        go_wp2
        exact ⟨⟨i + 1, by omega, by go_num, by rw [fillB, HX.out]; exact HS.out _ y0 y1, HG.out _⟩, by simp [intOf]; omega⟩
    · obtain rfl : n = i := by omega
      have hil : ¬ (n : Int) < (n : Int) := by omega
      go_wp2
      go_end0
      exact ⟨rfl, hRi, hgi⟩
set_option maxRecDepth 100000 in
theorem put_any (g t o n c : Nat) (C : List Int) (v : Int) (w : World) (h0 : 0 ≤ v) (h1 : v < 4294967296) (hn : 4 ≤ n) (hR : Row w g t C) (ho : o + 4 ≤ C.length) :
    Calls Ybad.prog 6 #[.slice (some ⟨g, o, none⟩) n c, .int .u32 v] w fun e w' => e = .returned (.tuple #[]) ∧ Row w' g t (splice C o (msB v)) ∧ w.grownBy w' (some g) := by
  have k0 := hR.cell o (by omega)
  have k1 := hR.cell (o + 1) (by omega)
  have k2 := hR.cell (o + 2) (by omega)
  have k3 := hR.cell (o + 3) (by omega)
  have z0 := hR.frozen o
  have z1 := hR.frozen (o + 1)
  have z2 := hR.frozen (o + 2)
  have z3 := hR.frozen (o + 3)
  have R4 := (((hR.set o (by omega) (v / 16777216) (by omega) (by omega)).set (o + 1) (by simp; omega) (v / 65536 % 256) (by omega) (by omega)).set (o + 2) (by simp; omega) (v / 256 % 256) (by omega) (by omega)).set (o + 3) (by simp; omega) (v % 256) (by omega) (by omega)
  rw [splice4 _ _ _ _ _ _ ho] at R4
  go_enter Ybad.func6, Ybad.ntmps6
  go_wp2
  go_end0
  exact ⟨rfl, R4, gb_trans (gb_trans (gb_trans (gb_set _ _ _ _) (gb_set _ _ _ _)) (gb_set _ _ _ _)) (gb_set _ _ _ _)⟩
end Go.Proofs.YbulkblgyDoor
