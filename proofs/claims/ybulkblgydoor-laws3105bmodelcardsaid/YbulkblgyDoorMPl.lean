/- LawS3105BModel: how an assembled option list is parsed. -/
import Derived.Test.YbulkblgyDoorPlain
namespace Go.Proofs.YbulkblgyDoor

theorem getD_at (A X C : List Int) (i : Nat) (hi : i < X.length) : (A ++ (X ++ C)).getD (A.length + i) 0 = X.getD i 0 := by
  simp only [List.getD]
  rw [List.getElem?_append_right (by omega), show A.length + i - A.length = i by omega, List.getElem?_append_left hi]
theorem cut_at (A X C : List Int) : cut (A ++ (X ++ C)) (A.length, X.length) = X := by
  unfold cut
  simp
/-- An option of type t. -/
structure Wo (X : List Int) (t : Int) : Prop where
  two : 2 ≤ X.length
  len : X.getD 1 0 = X.length
  typ : X.getD 0 0 = t
theorem nx_at (A X C : List Int) {t : Int} (h : Wo X t) (h0 : t ≠ 0) (h1 : t ≠ 1) : nx (A ++ (X ++ C)) A.length = .opt X.length := by
  have e0 := getD_at A X C 0 (by have := h.two; omega)
  have e1 := getD_at A X C 1 (by have := h.two; omega)
  rw [Nat.add_zero, h.typ] at e0
  rw [h.len] at e1
  have h2 := h.two
  have hl : (A ++ (X ++ C)).length = A.length + X.length + C.length := by simp; omega
  unfold nx
  rw [if_neg (by omega), e0, if_neg h0, if_neg h1, e1, if_neg (by omega)]
  simp
/-- What the parser holds of an assembled list. -/
structure Got (L : List Int) (o : Os) (s r t : List Int) : Prop where
  sr : (o.sr = none ∧ s = []) ∨ ∃ x, o.sr = some x ∧ cut L x = s ∧ s ≠ []
  rr : (o.rr = none ∧ r = []) ∨ ∃ x, o.rr = some x ∧ cut L x = r ∧ r ≠ []
  ts : (o.ts = none ∧ t = []) ∨ ∃ x, o.ts = some x ∧ cut L x = t ∧ t ≠ []
theorem Got.none (L : List Int) : Got L {} [] [] [] := ⟨.inl ⟨rfl, rfl⟩, .inl ⟨rfl, rfl⟩, .inl ⟨rfl, rfl⟩⟩
/-- The parser stands at A, and will go on so. -/
def Goes (L A : List Int) (s r t : List Int) : Prop := ∃ o, parse L 0 {} = parse L A.length o ∧ Got L o s r t
theorem Goes.start (L : List Int) : Goes L [] [] [] [] := ⟨{}, rfl, Got.none L⟩
theorem ne_of_two {X : List Int} (h : 2 ≤ X.length) : X ≠ [] := fun e => by subst e; simp at h
theorem Goes.sr {L A X C r t : List Int} (hL : L = A ++ (X ++ C)) (h : Goes L A [] r t) (hX : X = [] ∨ Wo X 131 ∨ Wo X 137) : Goes L (A ++ X) X r t := by
  rcases hX with rfl | hX
  · rw [List.append_nil]; exact h
  · obtain ⟨o, h1, h2⟩ := h
    have hn : o.sr = none := by
      rcases h2.sr with ⟨a, _⟩ | ⟨_, _, _, a⟩
      · exact a
      · exact absurd rfl a
    subst hL
    have hw2 : 2 ≤ X.length := by rcases hX with h | h <;> exact h.two
    have hx : nx (A ++ (X ++ C)) A.length = .opt X.length := by rcases hX with h | h; exact nx_at A X C h (by decide) (by decide); exact nx_at A X C h (by decide) (by decide)
    have e0 := getD_at A X C 0 (by omega)
    rw [Nat.add_zero] at e0
    have hp : o.put ((A ++ (X ++ C)).getD A.length 0) (A.length, X.length) = some { o with sr := some (A.length, X.length) } := by
      rw [e0]
      unfold Os.put
      rw [if_pos (by rcases hX with h | h; exact .inl h.typ; exact .inr h.typ)]
      simp [hn]
    refine ⟨{ o with sr := some (A.length, X.length) }, h1.trans ((parse_next hx hp).trans (by rw [List.length_append])), ⟨.inr ⟨_, rfl, cut_at A X C, ne_of_two hw2⟩, h2.rr, h2.ts⟩⟩
theorem Goes.rr {L A X C s t : List Int} (hL : L = A ++ (X ++ C)) (h : Goes L A s [] t) (hX : X = [] ∨ Wo X 7) : Goes L (A ++ X) s X t := by
  rcases hX with rfl | hX
  · rw [List.append_nil]; exact h
  · obtain ⟨o, h1, h2⟩ := h
    have hn : o.rr = none := by
      rcases h2.rr with ⟨a, _⟩ | ⟨_, _, _, a⟩
      · exact a
      · exact absurd rfl a
    subst hL
    have hw2 := hX.two
    have hx : nx (A ++ (X ++ C)) A.length = .opt X.length := nx_at A X C hX (by decide) (by decide)
    have e0 := getD_at A X C 0 (by omega)
    rw [Nat.add_zero, hX.typ] at e0
    have hp : o.put ((A ++ (X ++ C)).getD A.length 0) (A.length, X.length) = some { o with rr := some (A.length, X.length) } := by
      rw [e0]
      simp [Os.put, hn]
    exact ⟨{ o with rr := some (A.length, X.length) }, h1.trans ((parse_next hx hp).trans (by rw [List.length_append])), ⟨h2.sr, .inr ⟨_, rfl, cut_at A X C, ne_of_two hw2⟩, h2.ts⟩⟩
theorem Goes.ts {L A X C s r : List Int} (hL : L = A ++ (X ++ C)) (h : Goes L A s r []) (hX : X = [] ∨ Wo X 68) : Goes L (A ++ X) s r X := by
  rcases hX with rfl | hX
  · rw [List.append_nil]; exact h
  · obtain ⟨o, h1, h2⟩ := h
    have hn : o.ts = none := by
      rcases h2.ts with ⟨a, _⟩ | ⟨_, _, _, a⟩
      · exact a
      · exact absurd rfl a
    subst hL
    have hw2 := hX.two
    have hx : nx (A ++ (X ++ C)) A.length = .opt X.length := nx_at A X C hX (by decide) (by decide)
    have e0 := getD_at A X C 0 (by omega)
    rw [Nat.add_zero, hX.typ] at e0
    have hp : o.put ((A ++ (X ++ C)).getD A.length 0) (A.length, X.length) = some { o with ts := some (A.length, X.length) } := by
      rw [e0]
      simp [Os.put, hn]
    exact ⟨{ o with ts := some (A.length, X.length) }, h1.trans ((parse_next hx hp).trans (by rw [List.length_append])), ⟨h2.sr, h2.rr, .inr ⟨_, rfl, cut_at A X C, ne_of_two hw2⟩⟩⟩
/-- An option of no kind that is kept. -/
theorem Goes.other {L A X C s r t : List Int} {k : Int} (hL : L = A ++ (X ++ C)) (h : Goes L A s r t) (hX : X = [] ∨ Wo X k) (hk : k ≠ 0 ∧ k ≠ 1 ∧ k ≠ 131 ∧ k ≠ 137 ∧ k ≠ 7 ∧ k ≠ 68) : Goes L (A ++ X) s r t := by
  rcases hX with rfl | hX
  · rw [List.append_nil]; exact h
  · obtain ⟨o, h1, h2⟩ := h
    subst hL
    have hw2 := hX.two
    have hx : nx (A ++ (X ++ C)) A.length = .opt X.length := nx_at A X C hX hk.1 hk.2.1
    have e0 := getD_at A X C 0 (by omega)
    rw [Nat.add_zero, hX.typ] at e0
    have hp : o.put ((A ++ (X ++ C)).getD A.length 0) (A.length, X.length) = some o := by
      rw [e0]
      simp [Os.put, hk]
    exact ⟨o, h1.trans ((parse_next hx hp).trans (by rw [List.length_append])), h2⟩
theorem Goes.nop {L A C s r t : List Int} (hL : L = A ++ (1 :: C)) (h : Goes L A s r t) : Goes L (A ++ [1]) s r t := by
  obtain ⟨o, h1, h2⟩ := h
  subst hL
  have e0 : (A ++ (1 :: C)).getD A.length 0 = 1 := by simp [List.getD]
  have hx : nx (A ++ (1 :: C)) A.length = .opt 1 := by
    unfold nx
    rw [if_neg (by simp), e0, if_neg (by decide), if_pos rfl]
  have hp : o.put ((A ++ (1 :: C)).getD A.length 0) (A.length, 1) = some o := by
    rw [e0]
    simp [Os.put]
  exact ⟨o, h1.trans ((parse_next hx hp).trans (by rw [List.length_append]; rfl)), h2⟩
/-- The end. -/
theorem Goes.done {L A C s r t : List Int} (hL : L = A ++ C) (h : Goes L A s r t) (hC : C = [] ∨ C.getD 0 1 = 0) : ∃ o, parse L 0 {} = some o ∧ Got L o s r t := by
  obtain ⟨o, h1, h2⟩ := h
  refine ⟨o, h1.trans (parse_done o ?_), h2⟩
  subst hL
  unfold nx
  rcases hC with rfl | hC
  · rw [if_pos (by simp)]
  · cases C with
    | nil => rw [if_pos (by simp)]
    | cons c C =>
      have hc : c = 0 := by simpa [List.getD] using hC
      subst hc
      rw [if_neg (by simp), if_pos (by simp [List.getD])]
/-- reply, once the parts are known. -/
theorem reply_skip {L src self s r t : List Int} {ms : Int} {o : Os} (hp : parse L 0 {} = some o) (hg : Got L o s r t) (hs : s ≠ []) (h : route s src = .skip) : reply L src self ms = .skip := by
  rcases hg.sr with ⟨_, b1⟩ | ⟨x1, a1, b1, _⟩
  · exact absurd b1 hs
  · unfold reply
    simp [hp, a1, b1, h]
theorem reply_bad {L src self s r t a b dst : List Int} {ms : Int} {o : Os} (hp : parse L 0 {} = some o) (hg : Got L o s r t) (hs : (s = [] ∧ a = [] ∧ dst = src) ∨ (s ≠ [] ∧ route s src = .ok a dst)) (hr : (r = [] ∧ b = []) ∨ (r ≠ [] ∧ record r self = some b)) (ht : t ≠ []) (h : stamp t self ms = none) : reply L src self ms = .bad := by
  rcases hg.ts with ⟨_, b3⟩ | ⟨x3, a3, b3, _⟩
  · exact absurd b3 ht
  · unfold reply
    rcases hg.sr with ⟨a1, b1⟩ | ⟨x1, a1, b1, c1⟩ <;> rcases hg.rr with ⟨a2, b2⟩ | ⟨x2, a2, b2, c2⟩ <;> rcases hs with ⟨d1, d2, d3⟩ | ⟨d1, d2⟩ <;> rcases hr with ⟨f1, f2⟩ | ⟨f1, f2⟩ <;> first | (exact absurd b1 d1) | (exact absurd b2 f1) | (exact absurd d1 c1) | (exact absurd f1 c2) | simp [*]
theorem reply_ok {L src self s r t a b c dst : List Int} {ms : Int} {o : Os} (hp : parse L 0 {} = some o) (hg : Got L o s r t) (hs : (s = [] ∧ a = [] ∧ dst = src) ∨ (s ≠ [] ∧ route s src = .ok a dst)) (hr : (r = [] ∧ b = []) ∨ (r ≠ [] ∧ record r self = some b)) (ht : (t = [] ∧ c = []) ∨ (t ≠ [] ∧ stamp t self ms = some c)) : reply L src self ms = .ok (a ++ b ++ c ++ pad (a ++ b ++ c).length 3) dst := by
  unfold reply
  rcases hg.sr with ⟨a1, b1⟩ | ⟨x1, a1, b1, c1⟩ <;> rcases hg.rr with ⟨a2, b2⟩ | ⟨x2, a2, b2, c2⟩ <;> rcases hg.ts with ⟨a3, b3⟩ | ⟨x3, a3, b3, c3⟩ <;> rcases hs with ⟨d1, d2, d3⟩ | ⟨d1, d2⟩ <;> rcases hr with ⟨f1, f2⟩ | ⟨f1, f2⟩ <;> rcases ht with ⟨g1, g2⟩ | ⟨g1, g2⟩ <;> first | (exact absurd b1 d1) | (exact absurd b2 f1) | (exact absurd b3 g1) | (exact absurd d1 c1) | (exact absurd f1 c2) | (exact absurd g1 c3) | simp [*]
end Go.Proofs.YbulkblgyDoor
