/- LawS3105BModel: the plain law: what ReplyIPv4Options answers to the list put together. -/
import Derived.Test.YbulkblgyDoorMPt
namespace Go.Proofs.YbulkblgyDoor

/-- A source route, what is to come of it, where to, and whether it is used up. -/
def PS (src sr wsr dst : List Int) (done : Bool) : Prop := (sr = [] ∧ wsr = [] ∧ dst = src ∧ done = true) ∨ ((Wo sr 131 ∨ Wo sr 137) ∧ ((done = false ∧ route sr src = .skip) ∨ (done = true ∧ route sr src = .ok wsr dst)))
def PR (self rr wrr : List Int) : Prop := (rr = [] ∧ wrr = []) ∨ (Wo rr 7 ∧ record rr self = some wrr)
def PT (self : List Int) (ms : Int) (ts wts : List Int) (bad : Bool) : Prop := (ts = [] ∧ wts = [] ∧ bad = false) ∨ (Wo ts 68 ∧ ((bad = true ∧ stamp ts self ms = none) ∨ (bad = false ∧ stamp ts self ms = some wts)))
theorem PS.wo {src sr wsr dst : List Int} {done : Bool} (h : PS src sr wsr dst done) : sr = [] ∨ Wo sr 131 ∨ Wo sr 137 := by
  rcases h with h | h
  · exact .inl h.1
  · exact .inr h.1
theorem PR.wo {self rr wrr : List Int} (h : PR self rr wrr) : rr = [] ∨ Wo rr 7 := by
  rcases h with h | h
  · exact .inl h.1
  · exact .inr h.1
theorem PT.wo {self : List Int} {ms : Int} {ts wts : List Int} {bad : Bool} (h : PT self ms ts wts bad) : ts = [] ∨ Wo ts 68 := by
  rcases h with h | h
  · exact .inl h.1
  · exact .inr h.1
theorem model_reply (k lead : Nat) {src self sr wsr dst rr wrr ts wts : List Int} {ms : Int} {done bad ex tr : Bool} (hs : PS src sr wsr dst done) (hr : PR self rr wrr) (ht : PT self ms ts wts bad) (L : List Int) (hL : L = listB lead (pickB k sr rr ts).1 (pickB k sr rr ts).2.1 (pickB k sr rr ts).2.2 ex tr) :
    reply L src self ms = if done = false then .skip else if bad = true then .bad else .ok (wsr ++ wrr ++ wts ++ pad (wsr ++ wrr ++ wts).length 3) dst := by
  obtain ⟨o, hp, hg⟩ := parse_list k lead sr rr ts ex tr hs.wo hr.wo ht.wo L hL
  have hr' : (rr = [] ∧ wrr = []) ∨ (rr ≠ [] ∧ record rr self = some wrr) := by
    rcases hr with h | ⟨h1, h2⟩
    · exact .inl h
    · exact .inr ⟨ne_of_two h1.two, h2⟩
  have hsn : (Wo sr 131 ∨ Wo sr 137) → sr ≠ [] := fun h => by rcases h with h | h <;> exact ne_of_two h.two
  cases done with
  | false =>
    rw [if_pos rfl]
    rcases hs with ⟨_, _, _, h⟩ | ⟨h1, ⟨_, h2⟩ | ⟨h2, _⟩⟩
    · exact absurd h (by simp)
    · exact reply_skip hp hg (hsn h1) h2
    · exact absurd h2 (by simp)
  | true =>
    rw [if_neg (by simp)]
    have hs' : (sr = [] ∧ wsr = [] ∧ dst = src) ∨ (sr ≠ [] ∧ route sr src = .ok wsr dst) := by
      rcases hs with ⟨h1, h2, h3, _⟩ | ⟨h1, ⟨h2, _⟩ | ⟨_, h2⟩⟩
      · exact .inl ⟨h1, h2, h3⟩
      · exact absurd h2 (by simp)
      · exact .inr ⟨hsn h1, h2⟩
    cases bad with
    | true =>
      rw [if_pos rfl]
      rcases ht with ⟨_, _, h⟩ | ⟨h1, ⟨_, h2⟩ | ⟨h2, _⟩⟩
      · exact absurd h (by simp)
      · exact reply_bad hp hg hs' hr' (ne_of_two h1.two) h2
      · exact absurd h2 (by simp)
    | false =>
      rw [if_neg (by simp)]
      have ht' : (ts = [] ∧ wts = []) ∨ (ts ≠ [] ∧ stamp ts self ms = some wts) := by
        rcases ht with ⟨h1, h2, _⟩ | ⟨h1, ⟨h2, _⟩ | ⟨_, h2⟩⟩
        · exact .inl ⟨h1, h2⟩
        · exact absurd h2 (by simp)
        · exact .inr ⟨ne_of_two h1.two, h2⟩
      exact reply_ok hp hg hs' hr' ht'
/-- The padding, one byte at a time. -/
theorem pad_go (Y : List Int) (k : Nat) (h : Y.length % 4 ≠ 0) : (Y ++ [0]) ++ pad (Y ++ [0]).length k = Y ++ pad Y.length (k + 1) := by
  rw [pad, if_neg h, List.length_append, List.append_assoc]
  rfl
end Go.Proofs.YbulkblgyDoor
