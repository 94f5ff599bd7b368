/- LawS3101CBuilt: the plain law: the options that the law writes are read back as it says. No Go in sight. -/
import Derived.Test.YbulkbleuFmtPlain
namespace Go.Proofs.YbulkbleuFmt

/-- The k-th of m bytes that spell v. -/
def putAt (v : Int) (m : Nat) (big : Bool) (k : Nat) : Int := v / 2 ^ (8 * (if big = true then m - 1 - k else k)) % 256
def putB (v : Int) (m : Nat) (big : Bool) : List Int := (List.range m).map (putAt v m big)
theorem putB_len (v : Int) (m : Nat) (big : Bool) : (putB v m big).length = m := by simp [putB]
theorem putAt_bd (v : Int) (m : Nat) (big : Bool) (k : Nat) : 0 ≤ putAt v m big k ∧ putAt v m big k ≤ 255 := by unfold putAt; omega

/-- The bytes X stand from place i on. -/
def At (f : Nat → Int) (i : Nat) (X : List Int) : Prop := ∀ j, j < X.length → f (i + j) = X.getD j 0
theorem At.left {f : Nat → Int} {i : Nat} {X Y : List Int} (h : At f i (X ++ Y)) : At f i X := fun j hj => by
  rw [h j (by simp; omega)]; simp [List.getD, List.getElem?_append_left hj]
theorem At.right {f : Nat → Int} {i : Nat} {X Y : List Int} (h : At f i (X ++ Y)) : At f (i + X.length) Y := fun j hj => by
  have := h (X.length + j) (by simp; omega)
  rw [Nat.add_assoc, this]
  simp [List.getD, List.getElem?_append_right (Nat.le_add_right _ _)]

theorem get2_put {f : Nat → Int} {i : Nat} {v : Int} {big : Bool} (h : At f i (putB v 2 big)) (h0 : 0 ≤ v) (h1 : v < 65536) : getN f i 2 big = v := by
  have a0 := h 0 (by rw [putB_len]; omega)
  have a1 := h 1 (by rw [putB_len]; omega)
  cases big
  · rw [get2_little]; simp [putB, putAt, List.range_succ] at a0 a1; rw [a0, a1]; omega
  · rw [get2_big]; simp [putB, putAt, List.range_succ] at a0 a1; rw [a0, a1]; omega
theorem get4_put {f : Nat → Int} {i : Nat} {v : Int} {big : Bool} (h : At f i (putB v 4 big)) (h0 : 0 ≤ v) (h1 : v < 4294967296) : getN f i 4 big = v := by
  have a0 := h 0 (by rw [putB_len]; omega)
  have a1 := h 1 (by rw [putB_len]; omega)
  have a2 := h 2 (by rw [putB_len]; omega)
  have a3 := h 3 (by rw [putB_len]; omega)
  cases big
  · rw [get4_little]; simp [putB, putAt, List.range_succ] at a0 a1 a2 a3; rw [a0, a1, a2, a3]; omega
  · rw [get4_big]; simp [putB, putAt, List.range_succ] at a0 a1 a2 a3; rw [a0, a1, a2, a3]; omega
theorem get8_put {f : Nat → Int} {i : Nat} {v : Int} {big : Bool} (h : At f i (putB v 8 big)) (h0 : 0 ≤ v) (h1 : v < 18446744073709551616) : getN f i 8 big = v := by
  have a0 := h 0 (by rw [putB_len]; omega)
  have a1 := h 1 (by rw [putB_len]; omega)
  have a2 := h 2 (by rw [putB_len]; omega)
  have a3 := h 3 (by rw [putB_len]; omega)
  have a4 := h 4 (by rw [putB_len]; omega)
  have a5 := h 5 (by rw [putB_len]; omega)
  have a6 := h 6 (by rw [putB_len]; omega)
  have a7 := h 7 (by rw [putB_len]; omega)
  cases big
  · rw [get8_little]; simp [putB, putAt, List.range_succ] at a0 a1 a2 a3 a4 a5 a6 a7; rw [a0, a1, a2, a3, a4, a5, a6, a7]; omega
  · rw [get8_big]; simp [putB, putAt, List.range_succ] at a0 a1 a2 a3 a4 a5 a6 a7; rw [a0, a1, a2, a3, a4, a5, a6, a7]; omega

/-- One option as plain data. -/
structure Opt where
  kind : Int
  a : Int
  b : Int
  l : Int
def Opt.wf (o : Opt) : Prop := 0 ≤ o.kind ∧ o.kind ≤ 255 ∧ 0 ≤ o.a ∧ o.a ≤ 255 ∧ 0 ≤ o.b ∧ o.b < 18446744073709551616 ∧ 0 ≤ o.l ∧ o.l ≤ 255
def padL (l : Nat) : Nat := (l + 3) / 4 * 4
def optBytes (big : Bool) (o : Opt) : List Int :=
  if o.kind % 5 = 0 then putB 9 2 big ++ (putB 1 2 big ++ [o.a, 0, 0, 0])
  else if o.kind % 5 = 1 then putB 14 2 big ++ (putB 8 2 big ++ putB o.b 8 big)
  else if o.kind % 5 = 2 then putB (1 + o.a % 8) 2 big ++ (putB (o.l % 12) 2 big ++ (List.replicate (o.l % 12).toNat o.a ++ List.replicate (padL (o.l % 12).toNat - (o.l % 12).toNat) 0))
  else if o.kind % 5 = 3 then putB 9 2 big ++ (putB 2 2 big ++ [o.a, o.a, 0, 0])
  else putB 14 2 big ++ (putB 4 2 big ++ putB o.b 4 big)
def encOpts (big : Bool) : List Opt → List Int
  | [] => []
  | o :: os => optBytes big o ++ encOpts big os
/-- What an option makes of the resolution and the offset so far. -/
def stepO (s : Option (Int × Int)) (o : Opt) : Option (Int × Int) :=
  match s with
  | none => none
  | some (u, d) =>
    if o.kind % 5 = 0 then (if unitsOk o.a = true then some (unitsV o.a, d) else none)
    else if o.kind % 5 = 1 then some (u, toI64 o.b)
    else some (u, d)

theorem foldl_none : ∀ os : List Opt, os.foldl stepO none = none
  | [] => rfl
  | _ :: os => foldl_none os

theorem optBytes_len (big : Bool) (o : Opt) (_h : o.wf) : 4 ≤ (optBytes big o).length ∧ (optBytes big o).length ≤ 16 := by
  unfold optBytes Opt.wf padL at *
  split
  · simp [putB_len]
  · split
    · simp [putB_len]
    · split
      · simp [putB_len]; omega
      · split <;> simp [putB_len]

/-- What may stand behind the options: nothing, or an end option and whatever follows. -/
def EndsWith (f : Nat → Int) (n : Nat) (big : Bool) (i : Nat) : Prop := n < i + 4 ∨ (i + 4 ≤ n ∧ getN f i 2 big = 0)

theorem parse_opts {f : Nat → Int} {n : Nat} {big : Bool} : ∀ (os : List Opt) (i fuel : Nat) (u d : Int), (∀ o ∈ os, o.wf) → At f i (encOpts big os) → i + (encOpts big os).length ≤ n → EndsWith f n big (i + (encOpts big os).length) → os.length < fuel →
    parse f n big fuel i u d = os.foldl stepO (some (u, d))
  | [], i, fuel, u, d, _, _, _, he, hf => by
    obtain ⟨k, rfl⟩ : ∃ k, fuel = k + 1 := ⟨fuel - 1, by simp at hf; omega⟩
    simp only [encOpts, List.length_nil, Nat.add_zero] at he
    rcases he with he | ⟨h1, h2⟩
    · exact parse_end he
    · exact parse_stop h1 h2
  | o :: os, i, fuel, u, d, hw, ha, hn, he, hf => by
    obtain ⟨k, rfl⟩ : ∃ k, fuel = k + 1 := ⟨fuel - 1, by simp at hf; omega⟩
    have hwo := hw o (by simp)
    have hws : ∀ o ∈ os, o.wf := fun o ho => hw o (by simp [ho])
    have hfk : os.length < k := by simp at hf; omega
    simp only [encOpts] at ha hn he
    have h1 := ha.left
    have h2 := ha.right
    rw [List.length_append] at hn he
    have hl := optBytes_len big o hwo
    have ih := fun u d => parse_opts (f := f) (n := n) (big := big) os (i + (optBytes big o).length) k u d hws h2 (by omega) (by rw [Nat.add_assoc]; exact he) hfk
    have hn4 : i + (optBytes big o).length ≤ n := by omega
    clear he h2 ha
    simp only [List.foldl_cons, stepO]
    unfold optBytes at h1 hn4 ih hl
    obtain ⟨k0, k1, a0, a1, b0, b1, l0, l1⟩ := hwo
    by_cases c0 : o.kind % 5 = 0
    · simp only [if_pos c0] at h1 hn4 ih hl ⊢
      have gc := get2_put h1.left (by omega) (by omega)
      have h3 := h1.right
      rw [putB_len] at h3
      have gl := get2_put h3.left (by omega) (by omega)
      have h4 := h3.right
      rw [putB_len] at h4
      have fa : f (i + 2 + 2) = o.a := by have := h4 0 (by simp); simpa using this
      rw [show i + 2 + 2 = i + 4 by omega] at fa
      simp only [List.length_append, putB_len, List.length_cons, List.length_nil] at hn4 ih hl
      have nx : nextI i (getN f (i + 2) 2 big).toNat n = i + (2 + (2 + (0 + 1 + 1 + 1 + 1))) := by rw [gl]; unfold nextI; omega
      by_cases ok : unitsOk o.a = true
      · rw [parse_units (by omega) (by rw [gl]; omega) gc gl (by rw [fa]; exact ok), nx, fa, ih, if_pos ok]
      · rw [parse_fine (by omega) (by rw [gl]; omega) gc gl (by rw [fa]; simpa using ok), if_neg ok, foldl_none]
    by_cases c1 : o.kind % 5 = 1
    · simp only [if_neg c0, if_pos c1] at h1 hn4 ih hl ⊢
      have gc := get2_put h1.left (by omega) (by omega)
      have h3 := h1.right
      rw [putB_len] at h3
      have gl := get2_put h3.left (by omega) (by omega)
      have h4 := h3.right
      rw [putB_len, show i + 2 + 2 = i + 4 by omega] at h4
      have gb := get8_put h4 b0 b1
      simp only [List.length_append, putB_len] at hn4 ih hl
      have nx : nextI i (getN f (i + 2) 2 big).toNat n = i + (2 + (2 + 8)) := by rw [gl]; unfold nextI; omega
      rw [parse_offset (by omega) (by rw [gl]; omega) gc gl, nx, gb, ih]
    by_cases c2 : o.kind % 5 = 2
    · simp only [if_neg c0, if_neg c1, if_pos c2] at h1 hn4 ih hl ⊢
      have gc := get2_put h1.left (by omega) (by omega)
      have h3 := h1.right
      rw [putB_len] at h3
      have gl := get2_put h3.left (by omega) (by omega)
      simp only [List.length_append, putB_len, List.length_replicate, padL] at hn4 ih hl
      have nx : nextI i (getN f (i + 2) 2 big).toNat n = i + (2 + (2 + ((o.l % 12).toNat + (((o.l % 12).toNat + 3) / 4 * 4 - (o.l % 12).toNat)))) := by rw [gl]; unfold nextI; omega
      rw [parse_other (by omega) (by rw [gc]; omega) (by rw [gl]; omega) (by rw [gc]; omega) (by rw [gc]; omega), nx, ih]
    by_cases c3 : o.kind % 5 = 3
    · simp only [if_neg c0, if_neg c1, if_neg c2, if_pos c3] at h1 hn4 ih hl ⊢
      have gc := get2_put h1.left (by omega) (by omega)
      have h3 := h1.right
      rw [putB_len] at h3
      have gl := get2_put h3.left (by omega) (by omega)
      simp only [List.length_append, putB_len, List.length_cons, List.length_nil] at hn4 ih hl
      have nx : nextI i (getN f (i + 2) 2 big).toNat n = i + (2 + (2 + (0 + 1 + 1 + 1 + 1))) := by rw [gl]; unfold nextI; omega
      rw [parse_other (by omega) (by rw [gc]; omega) (by rw [gl]; omega) (by rw [gl]; omega) (by rw [gc]; omega), nx, ih]
    · simp only [if_neg c0, if_neg c1, if_neg c2, if_neg c3] at h1 hn4 ih hl ⊢
      have gc := get2_put h1.left (by omega) (by omega)
      have h3 := h1.right
      rw [putB_len] at h3
      have gl := get2_put h3.left (by omega) (by omega)
      simp only [List.length_append, putB_len] at hn4 ih hl
      have nx : nextI i (getN f (i + 2) 2 big).toNat n = i + (2 + (2 + 4)) := by rw [gl]; unfold nextI; omega
      rw [parse_other (by omega) (by rw [gc]; omega) (by rw [gl]; omega) (by rw [gc]; omega) (by rw [gl]; omega), nx, ih]

end Go.Proofs.YbulkbleuFmt
