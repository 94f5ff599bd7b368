/- LawS3105BModel: what the three functions make of the law's own options. -/
import Derived.Test.YbulkblgyDoorMPl
namespace Go.Proofs.YbulkblgyDoor

/-! ### The source route -/
def Fours (hops : List (List Int)) : Prop := ∀ x ∈ hops, x.length = 4
theorem fours_len : ∀ hops : List (List Int), Fours hops → hops.flatten.length = 4 * hops.length
  | [], _ => rfl
  | x :: xs, h => by
    have := fours_len xs fun y hy => h y (by simp [hy])
    have := h x (by simp)
    simp only [List.flatten_cons, List.length_append, List.length_cons]
    omega
theorem fours_at : ∀ (hops : List (List Int)) (i : Nat), Fours hops → ∀ hi : i < hops.length, (hops.flatten.drop (4 * i)).take 4 = hops[i]
  | [], i, _, hi => by simp at hi
  | x :: xs, 0, h, _ => by
    have := h x (by simp)
    simp [← this]
  | x :: xs, i + 1, h, hi => by
    have h4 := h x (by simp)
    rw [List.flatten_cons, show 4 * (i + 1) = x.length + 4 * i by omega, ← List.drop_drop, List.drop_left]
    exact fours_at xs i (fun y hy => h y (by simp [hy])) (by simpa using hi)
/-- The hops but the last, the last first: k of them. -/
def revd (hops : List (List Int)) : Nat → List Int
  | 0 => []
  | k + 1 => revd hops k ++ hops.getD (hops.length - 2 - k) []
theorem turned_revd (hops : List (List Int)) (hf : Fours hops) : ∀ k, k + 1 ≤ hops.length → turned hops.flatten (4 * (hops.length - 1)) k = revd hops k
  | 0, _ => rfl
  | k + 1, hk => by
    simp only [turned, revd, turned_revd hops hf k (by omega)]
    congr 1
    rw [show 4 * (hops.length - 1) - 4 * k - 4 = 4 * (hops.length - 2 - k) by omega, fours_at hops _ hf (by omega)]
    simp [List.getD, List.getElem?_eq_getElem (show hops.length - 2 - k < hops.length by omega)]
def srB (typ : Int) (hops : List (List Int)) (k : Nat) : List Int := typ :: ((3 + 4 * hops.length : Nat) : Int) :: ((4 + 4 * k : Nat) : Int) :: hops.flatten
theorem srB_len (typ : Int) (hops : List (List Int)) (k : Nat) (hf : Fours hops) : (srB typ hops k).length = 3 + 4 * hops.length := by
  simp only [srB, List.length_cons, fours_len hops hf]; omega
theorem srB_wo (typ : Int) (hops : List (List Int)) (k : Nat) (hf : Fours hops) : Wo (srB typ hops k) typ :=
  ⟨by rw [srB_len _ _ _ hf]; omega, by rw [srB_len _ _ _ hf]; simp [srB, List.getD], by simp [srB, List.getD]⟩
theorem route_skip (typ : Int) (hops : List (List Int)) (k : Nat) (src : List Int) (hf : Fours hops) (hk : k < hops.length) : route (srB typ hops k) src = .skip := by
  have hl := srB_len typ hops k hf
  have h2 : (srB typ hops k).getD 2 0 = ((4 + 4 * k : Nat) : Int) := by simp [srB, List.getD]
  unfold route
  rw [hl, h2, if_neg (by
    have : (((3 + 4 * hops.length : Nat) : Int) - 3) = ((4 * hops.length : Nat) : Int) := by omega
    rw [this]
    have e : Int.tmod ((4 * hops.length : Nat) : Int) 4 = ((4 * hops.length % 4 : Nat) : Int) := by simp
    rw [e]
    omega), if_pos (by omega)]
theorem route_done (typ : Int) (hops : List (List Int)) (src : List Int) (hf : Fours hops) : route (srB typ hops hops.length) src =
    if hops = [] then .ok [] src else .ok (typ :: ((3 + 4 * hops.length : Nat) : Int) :: 4 :: (revd hops (hops.length - 1) ++ src)) (hops.getD (hops.length - 1) []) := by
  have hl := srB_len typ hops hops.length hf
  have h2 : (srB typ hops hops.length).getD 2 0 = ((4 + 4 * hops.length : Nat) : Int) := by simp [srB, List.getD]
  unfold route
  rw [hl, h2, if_neg (by
    have : (((3 + 4 * hops.length : Nat) : Int) - 3) = ((4 * hops.length : Nat) : Int) := by omega
    rw [this]
    have e : Int.tmod ((4 * hops.length : Nat) : Int) 4 = ((4 * hops.length % 4 : Nat) : Int) := by simp
    rw [e]
    omega), if_neg (by omega)]
  by_cases he : hops = []
  · subst he; simp
  · have hp : 0 < hops.length := List.length_pos_iff.2 he
    rw [if_neg (by omega), if_neg he]
    have e0 : (srB typ hops hops.length).getD 0 0 = typ := by simp [srB, List.getD]
    have e1 : (srB typ hops hops.length).getD 1 0 = ((3 + 4 * hops.length : Nat) : Int) := by simp [srB, List.getD]
    have e3 : (srB typ hops hops.length).drop 3 = hops.flatten := rfl
    rw [e0, e1, e3, show 3 + 4 * hops.length - 7 = 4 * (hops.length - 1) by omega, show 4 * (hops.length - 1) / 4 = hops.length - 1 by omega, turned_revd hops hf _ (by omega)]
    congr 1
    have hfl := fours_len hops hf
    have e4 : (srB typ hops hops.length).drop (3 + 4 * hops.length - 4) = hops.flatten.drop (4 * (hops.length - 1)) := by
      rw [show 3 + 4 * hops.length - 4 = 3 + 4 * (hops.length - 1) by omega, ← List.drop_drop, e3]
    rw [e4]
    have h5 := fours_at hops (hops.length - 1) hf (by omega)
    rw [List.take_of_length_le (by rw [List.length_drop, hfl]; omega)] at h5
    rw [h5]
    simp [List.getD, List.getElem?_eq_getElem (show hops.length - 1 < hops.length by omega)]

/-! ### The record route -/
def rrB (s u : Nat) (D : List Int) : List Int := 7 :: ((3 + 4 * s : Nat) : Int) :: ((4 + 4 * u : Nat) : Int) :: D
theorem rrB_wo {s u : Nat} {D : List Int} (hD : D.length = 4 * s) : Wo (rrB s u D) 7 :=
  ⟨by simp [rrB], by simp [rrB, List.getD, hD]; omega, by simp [rrB, List.getD]⟩
theorem record_full {s : Nat} {D self : List Int} (hD : D.length = 4 * s) : record (rrB s s D) self = some (rrB s s D) := by
  have hl : (rrB s s D).length = 3 + 4 * s := by simp [rrB, hD]; omega
  have h2 : (rrB s s D).getD 2 0 = ((4 + 4 * s : Nat) : Int) := by simp [rrB, List.getD]
  unfold record entry
  rw [hl, h2, if_neg (by omega), if_neg (by omega), if_pos (by omega)]
theorem record_room {s u : Nat} {D self : List Int} (hD : D.length = 4 * s) (hu : u < s) (hs : s ≤ 9) : record (rrB s u D) self = some ((splice (rrB s u D) (3 + 4 * u) self).set 2 ((8 + 4 * u : Nat) : Int)) := by
  have hl : (rrB s u D).length = 3 + 4 * s := by simp [rrB, hD]; omega
  have h2 : (rrB s u D).getD 2 0 = ((4 + 4 * u : Nat) : Int) := by simp [rrB, List.getD]
  unfold record entry
  rw [hl, h2, if_neg (by omega), if_neg (by omega), if_neg (by omega), if_neg (by omega)]
  simp only
  rw [show (((4 + 4 * u : Nat) : Int)).toNat - 1 = 3 + 4 * u by omega, show (((4 + 4 * u : Nat) : Int) + 4) % 256 = ((8 + 4 * u : Nat) : Int) by omega]

/-! ### The timestamp -/
def szT (f : Nat) : Nat := if f = 0 then 4 else 8
def tsB (f o s u : Nat) (D : List Int) : List Int := 68 :: ((4 + szT f * s : Nat) : Int) :: ((5 + szT f * u : Nat) : Int) :: ((o * 16 + f : Nat) : Int) :: D
theorem tsB_len {f o s u : Nat} {D : List Int} (hD : D.length = szT f * s) : (tsB f o s u D).length = 4 + szT f * s := by simp [tsB, hD]; omega
theorem tsB_wo {f o s u : Nat} {D : List Int} (hD : D.length = szT f * s) : Wo (tsB f o s u D) 68 :=
  ⟨by rw [tsB_len hD]; omega, by rw [tsB_len hD]; simp [tsB, List.getD], by simp [tsB, List.getD]⟩
theorem tsB_2 (f o s u : Nat) (D : List Int) : (tsB f o s u D).getD 2 0 = ((5 + szT f * u : Nat) : Int) := by simp [tsB, List.getD]
theorem tsB_3 (f o s u : Nat) (D : List Int) : (tsB f o s u D).getD 3 0 = ((o * 16 + f : Nat) : Int) := by simp [tsB, List.getD]
theorem szT_if {f : Nat} (hf : f = 0 ∨ f = 1 ∨ f = 3) : (if ((f : Nat) : Int) = 0 then 4 else 8 : Nat) = szT f := by
  rcases hf with rfl | rfl | rfl <;> rfl
theorem stamp_full {f o s : Nat} {D self : List Int} {ms : Int} (hf : f = 0 ∨ f = 1 ∨ f = 3) (ho : o < 16) (hD : D.length = szT f * s) : stamp (tsB f o s s D) self ms = if o = 15 then none else some ((tsB f o s s D).set 3 (((o + 1) * 16 + f : Nat) : Int)) := by
  have hl := tsB_len (o := o) (u := s) hD
  have e3 : (((o * 16 + f : Nat) : Int)) % 16 = (f : Int) := by omega
  have e4 : (((o * 16 + f : Nat) : Int)) / 16 = (o : Int) := by omega
  unfold stamp entry
  simp only [hl, tsB_2, tsB_3, e3, e4, szT_if hf]
  rw [if_neg (by omega), if_pos (by omega), if_neg (by omega), if_pos (by omega)]
  simp only
  by_cases h15 : o = 15
  · rw [if_pos (by omega), if_pos h15]
  · rw [if_neg (by omega), if_neg h15, show (((o * 16 + f : Nat) : Int) + 16) % 256 = (((o + 1) * 16 + f : Nat) : Int) by omega]
theorem stamp_room {f o s u : Nat} {D self : List Int} {ms : Int} (hf : f = 0 ∨ f = 1 ∨ f = 3) (hD : D.length = szT f * s) (hu : u < s) (hs : s ≤ 9) : stamp (tsB f o s u D) self ms =
    if f = 3 ∧ ((tsB f o s u D).drop (4 + szT f * u)).take 4 ≠ self then some (tsB f o s u D)
    else some ((splice (if f = 1 then splice (tsB f o s u D) (4 + szT f * u) self else tsB f o s u D) (4 + szT f * u + szT f - 4) (msB ms)).set 2 ((5 + szT f * u + szT f : Nat) : Int)) := by
  have hl := tsB_len (o := o) (u := u) hD
  have e3 : (((o * 16 + f : Nat) : Int)) % 16 = (f : Int) := by omega
  have hz : szT f = 4 ∨ szT f = 8 := by unfold szT; split <;> simp
  have hm : szT f * u + szT f ≤ szT f * s := by
    have := Nat.mul_le_mul_left (szT f) (show u + 1 ≤ s from hu)
    rw [Nat.mul_succ] at this
    exact this
  have hm2 : szT f * s ≤ 8 * 9 := Nat.mul_le_mul (by omega) hs
  unfold stamp entry
  simp only [hl, tsB_2, tsB_3, e3, szT_if hf]
  rw [if_neg (by omega), if_pos (by omega), if_neg (by omega), if_neg (by omega), if_neg (by omega)]
  simp only
  rw [show (((5 + szT f * u : Nat) : Int)).toNat - 1 = 4 + szT f * u by omega, show (((5 + szT f * u : Nat) : Int) + (szT f : Int)) % 256 = ((5 + szT f * u + szT f : Nat) : Int) by omega]
  have e1 : (((f : Nat) : Int) = 3) = (f = 3) := by simp; omega
  have e2 : (((f : Nat) : Int) = 1) = (f = 1) := by simp; omega
  simp only [e1, e2]

/-! ### The list put together -/
def exB (e : Bool) : List Int := if e then [148, 4, 0, 0] else []
def trB (e : Bool) : List Int := if e then [0, 131, 255, 7] else []
def listB (lead : Nat) (p0 p1 p2 : List Int) (ex tr : Bool) : List Int := List.replicate lead 1 ++ (p0 ++ (exB ex ++ (p1 ++ (p2 ++ trB tr))))
/-- The parts in the order picked. -/
def pickB (k : Nat) (s r t : List Int) : List Int × List Int × List Int :=
  match k with
  | 0 => (s, r, t)
  | 1 => (s, t, r)
  | 2 => (r, s, t)
  | 3 => (r, t, s)
  | 4 => (t, s, r)
  | _ => (t, r, s)
theorem Goes.leads {L C : List Int} : ∀ n, L = List.replicate n 1 ++ C → Goes L (List.replicate n 1) [] [] [] := by
  have key : ∀ n m, L = List.replicate (n + m) 1 ++ C → Goes L (List.replicate n 1) [] [] [] := by
    intro n
    induction n with
    | zero => intro m _; exact Goes.start L
    | succ n ih =>
      intro m hL
      have h := ih (m + 1) (by rw [hL, show n + 1 + m = n + (m + 1) by omega])
      have e : L = List.replicate n 1 ++ (1 :: (List.replicate m 1 ++ C)) := by
        rw [hL, show n + 1 + m = n + (m + 1) by omega, ← List.replicate_append_replicate, List.append_assoc]
        rfl
      have h2 := h.nop e
      rwa [show List.replicate n (1 : Int) ++ [1] = List.replicate (n + 1) 1 from (List.replicate_succ' ..).symm] at h2
  intro n hL
  exact key n 0 hL
theorem ex_wo (e : Bool) : exB e = [] ∨ Wo (exB e) 148 := by
  cases e
  · exact .inl rfl
  · exact .inr ⟨by decide, by decide, by decide⟩
theorem tr_end (e : Bool) : trB e = [] ∨ (trB e).getD 0 1 = 0 := by
  cases e
  · exact .inl rfl
  · exact .inr rfl
theorem parse_list (k lead : Nat) (s r t : List Int) (ex tr : Bool) (hs : s = [] ∨ Wo s 131 ∨ Wo s 137) (hr : r = [] ∨ Wo r 7) (ht : t = [] ∨ Wo t 68) (L : List Int) (hL : L = listB lead (pickB k s r t).1 (pickB k s r t).2.1 (pickB k s r t).2.2 ex tr) : ∃ o, parse L 0 {} = some o ∧ Got L o s r t := by
  have hd : (148 : Int) ≠ 0 ∧ (148 : Int) ≠ 1 ∧ (148 : Int) ≠ 131 ∧ (148 : Int) ≠ 137 ∧ (148 : Int) ≠ 7 ∧ (148 : Int) ≠ 68 := by decide
  have h0 := Goes.leads (L := L) lead hL
  unfold listB at hL
  match k, hL with
  | 0, hL =>
    simp only [pickB] at hL
    exact (((((h0.sr (by rw [hL]) hs).other (by rw [hL]; simp only [List.append_assoc] <;> rfl) (ex_wo ex) hd).rr (by rw [hL]; simp only [List.append_assoc] <;> rfl) hr).ts (by rw [hL]; simp only [List.append_assoc] <;> rfl) ht).done (by rw [hL]; simp only [List.append_assoc] <;> rfl) (tr_end tr))
  | 1, hL =>
    simp only [pickB] at hL
    exact (((((h0.sr (by rw [hL]) hs).other (by rw [hL]; simp only [List.append_assoc] <;> rfl) (ex_wo ex) hd).ts (by rw [hL]; simp only [List.append_assoc] <;> rfl) ht).rr (by rw [hL]; simp only [List.append_assoc] <;> rfl) hr).done (by rw [hL]; simp only [List.append_assoc] <;> rfl) (tr_end tr))
  | 2, hL =>
    simp only [pickB] at hL
    exact (((((h0.rr (by rw [hL]) hr).other (by rw [hL]; simp only [List.append_assoc] <;> rfl) (ex_wo ex) hd).sr (by rw [hL]; simp only [List.append_assoc] <;> rfl) hs).ts (by rw [hL]; simp only [List.append_assoc] <;> rfl) ht).done (by rw [hL]; simp only [List.append_assoc] <;> rfl) (tr_end tr))
  | 3, hL =>
    simp only [pickB] at hL
    exact (((((h0.rr (by rw [hL]) hr).other (by rw [hL]; simp only [List.append_assoc] <;> rfl) (ex_wo ex) hd).ts (by rw [hL]; simp only [List.append_assoc] <;> rfl) ht).sr (by rw [hL]; simp only [List.append_assoc] <;> rfl) hs).done (by rw [hL]; simp only [List.append_assoc] <;> rfl) (tr_end tr))
  | 4, hL =>
    simp only [pickB] at hL
    exact (((((h0.ts (by rw [hL]) ht).other (by rw [hL]; simp only [List.append_assoc] <;> rfl) (ex_wo ex) hd).sr (by rw [hL]; simp only [List.append_assoc] <;> rfl) hs).rr (by rw [hL]; simp only [List.append_assoc] <;> rfl) hr).done (by rw [hL]; simp only [List.append_assoc] <;> rfl) (tr_end tr))
  | k + 5, hL =>
    simp only [pickB] at hL
    exact (((((h0.ts (by rw [hL]) ht).other (by rw [hL]; simp only [List.append_assoc] <;> rfl) (ex_wo ex) hd).rr (by rw [hL]; simp only [List.append_assoc] <;> rfl) hr).sr (by rw [hL]; simp only [List.append_assoc] <;> rfl) hs).done (by rw [hL]; simp only [List.append_assoc] <;> rfl) (tr_end tr))
end Go.Proofs.YbulkblgyDoor
