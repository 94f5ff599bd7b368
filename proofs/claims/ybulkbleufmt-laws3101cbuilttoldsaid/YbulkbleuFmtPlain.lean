/- The plain mathematics of the capture laws: numbers spelt by bytes, an if_tsresol value, the options of an interface description. No Go in sight. -/
import Derived.Lib.EndianBits
import Derived.Laws.BitsAllLaws
namespace Go.Proofs.YbulkbleuFmt

/-- The byte that the k-th round of a reading of m bytes from place i on takes. -/
def pick (f : Nat → Int) (i m : Nat) (big : Bool) (k : Nat) : Int := if big = true then f (i + k) else f (i + m - 1 - k)
/-- The number spelt by the first k of those bytes. -/
def acc (f : Nat → Int) (i m : Nat) (big : Bool) : Nat → Int
  | 0 => 0
  | k + 1 => acc f i m big k * 256 + pick f i m big k
/-- The number that m bytes from place i on spell. -/
def getN (f : Nat → Int) (i m : Nat) (big : Bool) : Int := acc f i m big m

def Byte (f : Nat → Int) : Prop := ∀ i, 0 ≤ f i ∧ f i ≤ 255

theorem pick_bd {f : Nat → Int} (hf : Byte f) (i m : Nat) (big : Bool) (k : Nat) : 0 ≤ pick f i m big k ∧ pick f i m big k ≤ 255 := by
  unfold pick; split <;> exact hf _
theorem acc_bd {f : Nat → Int} (hf : Byte f) (i m : Nat) (big : Bool) : ∀ k, 0 ≤ acc f i m big k ∧ acc f i m big k < 256 ^ k
  | 0 => by simp [acc]
  | k + 1 => by
    have h := acc_bd hf i m big k
    have hp := pick_bd hf i m big k
    simp only [acc, Int.pow_succ]
    omega
theorem get2_bd {f : Nat → Int} (hf : Byte f) (i : Nat) (big : Bool) : 0 ≤ getN f i 2 big ∧ getN f i 2 big < 65536 := by
  have := acc_bd hf i 2 big 2
  simpa [getN] using this
theorem get4_bd {f : Nat → Int} (hf : Byte f) (i : Nat) (big : Bool) : 0 ≤ getN f i 4 big ∧ getN f i 4 big < 4294967296 := by
  have := acc_bd hf i 4 big 4
  simpa [getN] using this
theorem get8_bd {f : Nat → Int} (hf : Byte f) (i : Nat) (big : Bool) : 0 ≤ getN f i 8 big ∧ getN f i 8 big < 18446744073709551616 := by
  have := acc_bd hf i 8 big 8
  simpa [getN] using this

theorem get2_big (f : Nat → Int) (i : Nat) : getN f i 2 true = f i * 256 + f (i + 1) := by simp [getN, acc, pick]
theorem get2_little (f : Nat → Int) (i : Nat) : getN f i 2 false = f (i + 1) * 256 + f i := by simp [getN, acc, pick]
theorem get4_big (f : Nat → Int) (i : Nat) : getN f i 4 true = f i * 16777216 + f (i + 1) * 65536 + f (i + 2) * 256 + f (i + 3) := by simp [getN, acc, pick]; omega
theorem get4_little (f : Nat → Int) (i : Nat) : getN f i 4 false = f (i + 3) * 16777216 + f (i + 2) * 65536 + f (i + 1) * 256 + f i := by simp [getN, acc, pick]; omega
theorem get8_big (f : Nat → Int) (i : Nat) : getN f i 8 true = f i * 72057594037927936 + f (i + 1) * 281474976710656 + f (i + 2) * 1099511627776 + f (i + 3) * 4294967296 + f (i + 4) * 16777216 + f (i + 5) * 65536 + f (i + 6) * 256 + f (i + 7) := by
  simp [getN, acc, pick]; omega
theorem get8_little (f : Nat → Int) (i : Nat) : getN f i 8 false = f (i + 7) * 72057594037927936 + f (i + 6) * 281474976710656 + f (i + 5) * 1099511627776 + f (i + 4) * 4294967296 + f (i + 3) * 16777216 + f (i + 2) * 65536 + f (i + 1) * 256 + f i := by
  simp [getN, acc, pick]; omega

/-- One step of the reading, as the bits are joined. -/
theorem join_step {v c : Int} (hv : 0 ≤ v) (hv1 : v < 72057594037927936) (hc : 0 ≤ c) (hc1 : c ≤ 255) : bits .or .u64 (v * 256) c = v * 256 + c :=
  bits_join .u64 64 (by decide) wraps_u64 8 (v * 256) c (by omega) (by omega) (by omega) hc (by omega) (by omega)

/-! ### an if_tsresol value -/
def unitsOk (r : Int) : Bool := if 128 ≤ r then decide (r < 192) else decide (r < 20)
def unitsV (r : Int) : Int := if unitsOk r = true then (if 128 ≤ r then 2 ^ (r - 128).toNat else 10 ^ r.toNat) else 0

theorem getN_from (f : Nat → Int) (a i m : Nat) (big : Bool) : getN (fun j => f (a + j)) i m big = getN f (a + i) m big := by
  have h : ∀ k, k ≤ m → acc (fun j => f (a + j)) i m big k = acc f (a + i) m big k := by
    intro k hk
    induction k with
    | zero => rfl
    | succ k ih =>
      simp only [acc]
      rw [ih (by omega)]
      congr 1
      unfold pick
      split
      · exact congrArg f (by omega)
      · exact congrArg f (by omega)
  exact h m (Nat.le_refl _)

/-! ### the options of an interface description -/
/-- Where the option behind the one at i begins. -/
def nextI (i l n : Nat) : Nat := min (i + 4 + (l + 3) / 4 * 4) n
/-- A uint64 as an int64. -/
def toI64 (x : Int) : Int := IntKind.i64.wrap x
/-- The options from place i on: the resolution and the offset that they leave, or none at a fault. -/
def parse (f : Nat → Int) (n : Nat) (big : Bool) : Nat → Nat → Int → Int → Option (Int × Int)
  | 0, _, u, d => some (u, d)
  | fuel + 1, i, u, d =>
    if i + 4 ≤ n then
      if getN f i 2 big = 0 then some (u, d)
      else if n < i + 4 + (getN f (i + 2) 2 big).toNat then none
      else if getN f i 2 big = 9 ∧ getN f (i + 2) 2 big = 1 then
        (if unitsOk (f (i + 4)) = true then parse f n big fuel (nextI i (getN f (i + 2) 2 big).toNat n) (unitsV (f (i + 4))) d else none)
      else if getN f i 2 big = 14 ∧ getN f (i + 2) 2 big = 8 then parse f n big fuel (nextI i (getN f (i + 2) 2 big).toNat n) u (toI64 (getN f (i + 4) 8 big))
      else parse f n big fuel (nextI i (getN f (i + 2) 2 big).toNat n) u d
    else some (u, d)

section
variable {f : Nat → Int} {n : Nat} {big : Bool} {fuel i : Nat} {u d : Int}
theorem parse_end (h : n < i + 4) : parse f n big fuel i u d = some (u, d) := by
  cases fuel with
  | zero => rfl
  | succ k => rw [parse, if_neg (by omega)]
theorem parse_stop (h : i + 4 ≤ n) (hc : getN f i 2 big = 0) : parse f n big (fuel + 1) i u d = some (u, d) := by
  rw [parse, if_pos h, if_pos hc]
theorem parse_long (h : i + 4 ≤ n) (hc : ¬ getN f i 2 big = 0) (hl : n < i + 4 + (getN f (i + 2) 2 big).toNat) : parse f n big (fuel + 1) i u d = none := by
  rw [parse, if_pos h, if_neg hc, if_pos hl]
theorem parse_units (h : i + 4 ≤ n) (hl : ¬ n < i + 4 + (getN f (i + 2) 2 big).toNat) (h9 : getN f i 2 big = 9) (h1 : getN f (i + 2) 2 big = 1) (ok : unitsOk (f (i + 4)) = true) :
    parse f n big (fuel + 1) i u d = parse f n big fuel (nextI i (getN f (i + 2) 2 big).toNat n) (unitsV (f (i + 4))) d := by
  rw [parse, if_pos h, if_neg (by omega), if_neg hl, if_pos ⟨h9, h1⟩, if_pos ok]
theorem parse_fine (h : i + 4 ≤ n) (hl : ¬ n < i + 4 + (getN f (i + 2) 2 big).toNat) (h9 : getN f i 2 big = 9) (h1 : getN f (i + 2) 2 big = 1) (ok : unitsOk (f (i + 4)) = false) :
    parse f n big (fuel + 1) i u d = none := by
  rw [parse, if_pos h, if_neg (by omega), if_neg hl, if_pos ⟨h9, h1⟩, if_neg (by simp [ok])]
theorem parse_offset (h : i + 4 ≤ n) (hl : ¬ n < i + 4 + (getN f (i + 2) 2 big).toNat) (h14 : getN f i 2 big = 14) (h8 : getN f (i + 2) 2 big = 8) :
    parse f n big (fuel + 1) i u d = parse f n big fuel (nextI i (getN f (i + 2) 2 big).toNat n) u (toI64 (getN f (i + 4) 8 big)) := by
  rw [parse, if_pos h, if_neg (by omega), if_neg hl, if_neg (by omega), if_pos ⟨h14, h8⟩]
theorem parse_other (h : i + 4 ≤ n) (h0 : ¬ getN f i 2 big = 0) (hl : ¬ n < i + 4 + (getN f (i + 2) 2 big).toNat) (h9 : ¬ (getN f i 2 big = 9 ∧ getN f (i + 2) 2 big = 1)) (h14 : ¬ (getN f i 2 big = 14 ∧ getN f (i + 2) 2 big = 8)) :
    parse f n big (fuel + 1) i u d = parse f n big fuel (nextI i (getN f (i + 2) 2 big).toNat n) u d := by
  rw [parse, if_pos h, if_neg h0, if_neg hl, if_neg h9, if_neg h14]
end

theorem and_fours (x : Nat) (hx : x < 131072) : x &&& 18446744073709551612 = x / 4 * 4 := by
  apply Nat.eq_of_testBit_eq
  intro i
  rw [Nat.testBit_and]
  match i with
  | 0 =>
    have h1 : Nat.testBit 18446744073709551612 0 = false := by decide
    have h2 : (x / 4 * 4).testBit 0 = false := by
      rw [Nat.testBit_zero]
      have : x / 4 * 4 % 2 = 0 := by omega
      simp [this]
    rw [h1, h2, Bool.and_false]
  | 1 =>
    have h1 : Nat.testBit 18446744073709551612 1 = false := by decide
    have h2 : (x / 4 * 4).testBit 1 = false := by
      rw [Nat.testBit_succ, Nat.testBit_zero]
      have : x / 4 * 4 / 2 % 2 = 0 := by omega
      simp [this]
    rw [h1, h2, Bool.and_false]
  | i + 2 =>
    have h1 : Nat.testBit 18446744073709551612 (i + 2) = decide (i < 62) := by
      rw [Nat.testBit_succ, Nat.testBit_succ, show 18446744073709551612 / 2 / 2 = 2 ^ 62 - 1 by decide, Nat.testBit_two_pow_sub_one]
    have h2 : (x / 4 * 4).testBit (i + 2) = x.testBit (i + 2) := by
      rw [Nat.testBit_succ, Nat.testBit_succ, Nat.testBit_succ, Nat.testBit_succ, show x / 4 * 4 / 2 / 2 = x / 2 / 2 by omega]
    rw [h1, h2]
    by_cases hi : i < 62
    · simp [hi]
    · have : x.testBit (i + 2) = false := Nat.testBit_lt_two_pow (Nat.lt_of_lt_of_le hx (by
        have : 2 ^ 17 ≤ 2 ^ (i + 2) := Nat.pow_le_pow_right (by omega) (by omega)
        simpa using this))
      simp [hi, this]

/-- 'x &^ 3' on a small int. -/
theorem i64_andNot3 (x : Nat) (hx : x < 131072) : bits .andNot .i64 (x : Int) 3 = ((x / 4 * 4 : Nat) : Int) := by
  show IntKind.i64.wrap ((BitVec.ofInt 64 (x : Int) &&& ~~~BitVec.ofInt 64 3).toNat : Int) = _
  have h1 : (BitVec.ofInt 64 3).toNat = 3 := by decide
  rw [BitVec.toNat_and, BitVec.toNat_not, ofInt_u64 x (by omega), h1, show 2 ^ 64 - 1 - 3 = 18446744073709551612 by decide, and_fours x hx]
  rw [IntKind.wrap_i64]
  omega

end Go.Proofs.YbulkbleuFmt
