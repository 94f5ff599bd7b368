/- LawS3105B*: what the option functions compute, as plain functions over bytes. -/
import Derived.Laws.CopyOwn
namespace Go.Proofs.YbulkblgyDoor

/-- What lies next in an option list: its end, something unreadable, an option of length l. -/
inductive Nx
  | done
  | bad
  | opt (l : Nat)

def nx (L : List Int) (p : Nat) : Nx :=
  if L.length ≤ p then .done
  else if L.getD p 0 = 0 then .done
  else if L.getD p 0 = 1 then .opt 1
  else if L.length < p + 2 ∨ L.getD (p + 1) 0 < 2 ∨ (L.length : Int) < p + L.getD (p + 1) 0 then .bad
  else .opt (L.getD (p + 1) 0).toNat

theorem nx_opt {L : List Int} {p l : Nat} (h : nx L p = .opt l) : 0 < l ∧ p + l ≤ L.length ∧ (L.getD p 0 ≠ 1 → 2 ≤ l) := by
  unfold nx at h
  split at h
  · simp at h
  · split at h
    · simp at h
    · split at h
      · simp only [Nx.opt.injEq] at h
        subst h
        exact ⟨by omega, by omega, fun h => by contradiction⟩
      · split at h
        · simp at h
        · simp only [Nx.opt.injEq] at h
          subst h
          rename_i h1
          simp only [not_or] at h1
          exact ⟨by omega, by omega, fun _ => by omega⟩

/-- The options kept: where each lies and how long it is. -/
structure Os where
  sr : Option (Nat × Nat) := none
  rr : Option (Nat × Nat) := none
  ts : Option (Nat × Nat) := none

/-- Keep the option of type t; none when there is one of its kind. -/
def Os.put (o : Os) (t : Int) (x : Nat × Nat) : Option Os :=
  if t = 131 ∨ t = 137 then (if o.sr.isSome then none else some { o with sr := some x })
  else if t = 7 then (if o.rr.isSome then none else some { o with rr := some x })
  else if t = 68 then (if o.ts.isSome then none else some { o with ts := some x })
  else some o

def parse (L : List Int) (p : Nat) (o : Os) : Option Os :=
  match _h : nx L p with
  | .done => some o
  | .bad => none
  | .opt l => match o.put (L.getD p 0) (p, l) with
    | none => none
    | some o' => parse L (p + l) o'
termination_by L.length - p
decreasing_by
  have := nx_opt _h
  omega

theorem parse_done {L : List Int} {p : Nat} (o : Os) (h : nx L p = .done) : parse L p o = some o := by
  rw [parse]; split <;> simp_all
theorem parse_bad {L : List Int} {p : Nat} (o : Os) (h : nx L p = .bad) : parse L p o = none := by
  rw [parse]; split <;> simp_all
theorem parse_twice {L : List Int} {p l : Nat} (o : Os) (h : nx L p = .opt l) (h2 : o.put (L.getD p 0) (p, l) = none) : parse L p o = none := by
  rw [parse]; split <;> simp_all
theorem parse_next {L : List Int} {p l : Nat} {o o' : Os} (h : nx L p = .opt l) (h2 : o.put (L.getD p 0) (p, l) = some o') : parse L p o = parse L (p + l) o' := by
  rw [parse]; split <;> simp_all

/-- An entry's place in an option. -/
inductive En
  | bad
  | full
  | room (at_ : Nat)

def entry (R : List Int) (first size : Nat) : En :=
  if R.getD 2 0 < first then .bad
  else if (R.length : Int) < R.getD 2 0 then .full
  else if (R.length : Int) < R.getD 2 0 - 1 + size then .bad
  else .room ((R.getD 2 0).toNat - 1)

def record (R self : List Int) : Option (List Int) :=
  if R.length < 3 then none
  else match entry R 4 4 with
    | .bad => none
    | .full => some R
    | .room a => some ((splice R a self).set 2 ((R.getD 2 0 + 4) % 256))

def msB (ms : Int) : List Int := [ms / 16777216, ms / 65536 % 256, ms / 256 % 256, ms % 256]
def stamp (T self : List Int) (ms : Int) : Option (List Int) :=
  if T.length < 4 then none
  else
    let f := T.getD 3 0 % 16
    if f = 0 ∨ f = 1 ∨ f = 3 then
      let size := if f = 0 then 4 else 8
      match entry T 5 size with
      | .bad => none
      | .full => if T.getD 3 0 / 16 = 15 then none else some (T.set 3 ((T.getD 3 0 + 16) % 256))
      | .room a =>
        if f = 3 ∧ (T.drop a).take 4 ≠ self then some T
        else
          let T1 := if f = 1 then splice T a self else T
          some ((splice T1 (a + size - 4) (msB ms)).set 2 ((T.getD 2 0 + size) % 256))
    else none

/-- The hops but the last, the last first: k of them. -/
def turned (H : List Int) (last : Nat) : Nat → List Int
  | 0 => []
  | k + 1 => turned H last k ++ (H.drop (last - 4 * k - 4)).take 4

inductive Rt
  | bad
  | skip
  | ok (out dst : List Int)
def route (S src : List Int) : Rt :=
  if ((S.length : Int) - 3).tmod 4 ≠ 0 ∨ S.getD 2 0 < 4 then .bad
  else if S.getD 2 0 ≤ S.length then .skip
  else if S.length = 3 then .ok [] src
  else .ok (S.getD 0 0 :: S.getD 1 0 :: 4 :: (turned (S.drop 3) (S.length - 7) ((S.length - 7) / 4) ++ src)) (S.drop (S.length - 4))

def pad : Nat → Nat → List Int
  | _, 0 => []
  | n, k + 1 => if n % 4 = 0 then [] else 0 :: pad (n + 1) k

def cut (L : List Int) (x : Nat × Nat) : List Int := (L.drop x.1).take x.2

/-- ReplyIPv4Options' answer. -/
def reply (L src self : List Int) (ms : Int) : Rt :=
  match parse L 0 {} with
  | none => .bad
  | some o =>
    match (match o.sr with | none => Rt.ok [] src | some x => route (cut L x) src) with
    | .bad => .bad
    | .skip => .skip
    | .ok a dst =>
      match (match o.rr with | none => some [] | some x => record (cut L x) self) with
      | none => .bad
      | some b =>
        match (match o.ts with | none => some [] | some x => stamp (cut L x) self ms) with
        | none => .bad
        | some c => .ok (a ++ b ++ c ++ pad (a ++ b ++ c).length 3) dst

def lenOf (x : Option (Nat × Nat)) : Nat := (x.map (·.2)).getD 0
structure Os.ok (L : List Int) (p : Nat) (o : Os) : Prop where
  sr : ∀ a l, o.sr = some (a, l) → a + l ≤ L.length ∧ 2 ≤ l ∧ (L.getD a 0 = 131 ∨ L.getD a 0 = 137)
  rr : ∀ a l, o.rr = some (a, l) → a + l ≤ L.length ∧ 2 ≤ l ∧ L.getD a 0 = 7
  ts : ∀ a l, o.ts = some (a, l) → a + l ≤ L.length ∧ 2 ≤ l ∧ L.getD a 0 = 68
  sum : lenOf o.sr + lenOf o.rr + lenOf o.ts ≤ p
  le : p ≤ L.length

theorem Os.ok_none (L : List Int) : Os.ok L 0 {} := ⟨by simp, by simp, by simp, by simp [lenOf], by omega⟩
theorem Os.ok_put {L : List Int} {p l : Nat} {o o' : Os} (h : o.ok L p) (hn : nx L p = .opt l) (hp : o.put (L.getD p 0) (p, l) = some o') : o'.ok L (p + l) := by
  obtain ⟨h0, h1, h2⟩ := nx_opt hn
  have hs := h.sum
  unfold Os.put at hp
  split at hp
  · rename_i hk
    split at hp
    · simp at hp
    · rename_i hq
      simp only [Option.some.injEq] at hp
      subst hp
      simp only [Bool.not_eq_true, Option.isSome_eq_false_iff, Option.isNone_iff_eq_none] at hq
      refine ⟨?_, h.rr, h.ts, ?_, h1⟩
      · intro a l' e
        simp only [Option.some.injEq, Prod.mk.injEq] at e
        obtain ⟨rfl, rfl⟩ := e
        exact ⟨h1, h2 (by omega), hk⟩
      · simp [lenOf, hq] at hs ⊢; omega
  · split at hp
    · rename_i hk
      split at hp
      · simp at hp
      · rename_i hq
        simp only [Option.some.injEq] at hp
        subst hp
        simp only [Bool.not_eq_true, Option.isSome_eq_false_iff, Option.isNone_iff_eq_none] at hq
        refine ⟨h.sr, ?_, h.ts, ?_, h1⟩
        · intro a l' e
          simp only [Option.some.injEq, Prod.mk.injEq] at e
          obtain ⟨rfl, rfl⟩ := e
          exact ⟨h1, h2 (by omega), hk⟩
        · simp [lenOf, hq] at hs ⊢; omega
    · split at hp
      · rename_i hk
        split at hp
        · simp at hp
        · rename_i hq
          simp only [Option.some.injEq] at hp
          subst hp
          simp only [Bool.not_eq_true, Option.isSome_eq_false_iff, Option.isNone_iff_eq_none] at hq
          refine ⟨h.sr, h.rr, ?_, ?_, h1⟩
          · intro a l' e
            simp only [Option.some.injEq, Prod.mk.injEq] at e
            obtain ⟨rfl, rfl⟩ := e
            exact ⟨h1, h2 (by omega), hk⟩
          · simp [lenOf, hq] at hs ⊢; omega
      · simp only [Option.some.injEq] at hp
        subst hp
        exact ⟨h.sr, h.rr, h.ts, by omega, h1⟩

theorem parse_ok (L : List Int) : ∀ (n p : Nat) (o o' : Os), L.length - p = n → o.ok L p → parse L p o = some o' → ∃ q, o'.ok L q := by
  intro n
  induction n using Nat.strongRecOn with
  | _ n ih =>
    intro p o o' hn ho hp
    cases hx : nx L p with
    | done => rw [parse_done o hx] at hp; simp at hp; subst hp; exact ⟨p, ho⟩
    | bad => rw [parse_bad o hx] at hp; simp at hp
    | opt l =>
      cases hq : o.put (L.getD p 0) (p, l) with
      | none => rw [parse_twice o hx hq] at hp; simp at hp
      | some o2 =>
        rw [parse_next hx hq] at hp
        have := nx_opt hx
        exact ih (L.length - (p + l)) (by omega) (p + l) o2 o' rfl (Os.ok_put ho hx hq) hp

theorem splice_len {α : Type} (L : List α) (off : Nat) (cs : List α) (h : off + cs.length ≤ L.length) : (splice L off cs).length = L.length := length_splice L off cs h
theorem splice_getD (L : List Int) (off : Nat) (cs : List Int) (j : Nat) (hj : j < off) (hl : off ≤ L.length) : (splice L off cs).getD j 0 = L.getD j 0 := by
  unfold splice
  simp only [List.getD_eq_getElem?_getD]
  rw [List.getElem?_append_left (by simp; omega), List.getElem?_take_of_lt hj]

theorem entry_room {R : List Int} {first size a : Nat} (hf : 1 ≤ first) (h : entry R first size = .room a) : first - 1 ≤ a ∧ a + size ≤ R.length ∧ (a : Int) = R.getD 2 0 - 1 := by
  unfold entry at h
  split at h
  · simp at h
  · split at h
    · simp at h
    · split at h
      · simp at h
      · simp only [En.room.injEq] at h
        omega

theorem record_len {R self R' : List Int} (hs : self.length = 4) (h : record R self = some R') : R'.length = R.length ∧ R'.getD 0 0 = R.getD 0 0 ∧ 3 ≤ R.length := by
  unfold record at h
  split at h
  · simp at h
  · split at h
    · simp at h
    · simp at h; subst h; exact ⟨rfl, rfl, by omega⟩
    · rename_i a he
      obtain ⟨h1, h2, _⟩ := entry_room (by omega) he
      simp at h
      subst h
      refine ⟨by rw [List.length_set, splice_len _ _ _ (by omega)], ?_, by omega⟩
      have := splice_getD R a self 0 (by omega) (by omega)
      simp only [List.getD_eq_getElem?_getD] at this ⊢
      rw [List.getElem?_set_ne (by omega)]
      exact this

theorem stamp_len {T self T' : List Int} {ms : Int} (hs : self.length = 4) (h : stamp T self ms = some T') : T'.length = T.length ∧ T'.getD 0 0 = T.getD 0 0 ∧ 4 ≤ T.length := by
  unfold stamp at h
  split at h
  · simp at h
  · rename_i h4
    simp only at h
    split at h
    · have hsz : ∃ size, size = (if T.getD 3 0 % 16 = 0 then 4 else 8) ∧ (size = 4 ∨ size = 8) ∧ (T.getD 3 0 % 16 = 1 → size = 8) := ⟨_, rfl, by split <;> simp, fun h => by rw [if_neg (by omega)]⟩
      obtain ⟨size, hsz, h48, h81⟩ := hsz
      rw [← hsz] at h
      split at h
      · simp at h
      · split at h
        · simp at h
        · simp at h
          subst h
          refine ⟨by simp, ?_, by omega⟩
          simp only [List.getD_eq_getElem?_getD]
          rw [List.getElem?_set_ne (by omega)]
      · rename_i a he
        obtain ⟨h1, h2, _⟩ := entry_room (by omega) he
        split at h
        · simp at h; subst h; exact ⟨rfl, rfl, by omega⟩
        · simp only [Option.some.injEq] at h
          subst h
          have hT1 : ∀ T1, T1 = (if T.getD 3 0 % 16 = 1 then splice T a self else T) → T1.length = T.length ∧ T1.getD 0 0 = T.getD 0 0 := by
            intro T1 e
            split at e
            · subst e; exact ⟨splice_len _ _ _ (by have := h81 (by assumption); omega), splice_getD _ _ _ _ (by omega) (by omega)⟩
            · subst e; exact ⟨rfl, rfl⟩
          obtain ⟨e1, e2⟩ := hT1 _ rfl
          have hm : (msB ms).length = 4 := rfl
          refine ⟨by rw [List.length_set, splice_len _ _ _ (by omega), e1], ?_, by omega⟩
          have := splice_getD _ (a + size - 4) (msB ms) 0 (by omega) (by omega : a + size - 4 ≤ (if T.getD 3 0 % 16 = 1 then splice T a self else T).length)
          rw [e2] at this
          rw [← this]
          simp only [List.getD_eq_getElem?_getD]
          rw [List.getElem?_set_ne (by omega)]
    · simp at h

theorem turned_len (H : List Int) (last : Nat) : ∀ k, 4 * k ≤ last → last ≤ H.length → (turned H last k).length = 4 * k
  | 0, _, _ => rfl
  | k + 1, h, h' => by
    rw [turned, List.length_append, turned_len H last k (by omega) h', List.length_take, List.length_drop]; omega
theorem route_ok {S src out dst : List Int} (hs : src.length = 4) (h : route S src = .ok out dst) : (out = [] ∧ dst = src) ∨ (out.length = S.length ∧ 7 ≤ S.length ∧ out.getD 0 0 = S.getD 0 0) := by
  unfold route at h
  split at h
  · simp at h
  · rename_i h1
    simp only [not_or, Int.not_lt, Decidable.not_not] at h1
    split at h
    · simp at h
    · rename_i h2
      split at h
      · simp only [Rt.ok.injEq] at h
        exact .inl ⟨h.1.symm, h.2.symm⟩
      · rename_i h3
        simp only [Rt.ok.injEq] at h
        obtain ⟨rfl, _⟩ := h
        have h7 : 7 ≤ S.length ∧ S.length % 4 = 3 := by
          have : 3 ≤ S.length := by
            rcases Nat.lt_or_ge S.length 3 with hlt | hge
            · have : S.getD 2 0 = 0 := by rw [List.getD_eq_getElem?_getD, List.getElem?_eq_none (by omega)]; rfl
              omega
            · exact hge
          have e := h1.1
          rw [Int.tmod_eq_emod_of_nonneg (by omega)] at e
          omega
        right
        refine ⟨?_, h7.1, by simp⟩
        simp only [List.length_cons, List.length_append]
        rw [turned_len _ _ _ (by omega) (by simp; omega), hs]
        omega
theorem pad_len : ∀ k n, (pad n k).length ≤ k ∧ (n + k ≥ 4 * ((n + 3) / 4) → (n + (pad n k).length) % 4 = 0)
  | 0, n => by simp [pad]; omega
  | k + 1, n => by
    rw [pad]
    split
    · simp; omega
    · have := pad_len k (n + 1)
      simp only [List.length_cons]
      refine ⟨by omega, fun h => ?_⟩
      have := this.2 (by omega)
      omega
theorem pad_nil {n k : Nat} (h : n % 4 = 0) : pad n k = [] := by cases k <;> simp [pad, h]

theorem cut_len {L : List Int} {a l : Nat} (h : a + l ≤ L.length) : (cut L (a, l)).length = l := by simp [cut]; omega
theorem cut_getD {L : List Int} {a l : Nat} (j : Nat) (hj : j < l) : (cut L (a, l)).getD j 0 = L.getD (a + j) 0 := by
  simp [cut, List.getD_eq_getElem?_getD, List.getElem?_take_of_lt hj, List.getElem?_drop]

theorem reply_raw {L src self out dst : List Int} {ms : Int} (hs : src.length = 4) (hf : self.length = 4) (h : reply L src self ms = .ok out dst) :
    out.length ≤ L.length + 3 ∧ out.length % 4 = 0 ∧ (out = [] → dst = src) ∧ (out ≠ [] → out.getD 0 0 = 131 ∨ out.getD 0 0 = 137 ∨ out.getD 0 0 = 7 ∨ out.getD 0 0 = 68) := by
  unfold reply at h
  split at h
  · simp at h
  · rename_i o ho
    obtain ⟨q, hok⟩ := parse_ok L _ 0 {} o rfl (Os.ok_none L) ho
    split at h
    · simp at h
    · simp at h
    · rename_i a d ha
      split at h
      · simp at h
      · rename_i b hb
        split at h
        · simp at h
        · rename_i c hc
          simp only [Rt.ok.injEq] at h
          obtain ⟨hout, rfl⟩ := h
          have hsum := hok.sum
          have hle := hok.le
          have A : (a = [] ∧ d = src) ∨ (a.length = lenOf o.sr ∧ 7 ≤ a.length ∧ (a.getD 0 0 = 131 ∨ a.getD 0 0 = 137)) := by
            cases hx : o.sr with
            | none => rw [hx] at ha; simp at ha; exact .inl ⟨ha.1, ha.2.symm⟩
            | some x =>
              obtain ⟨p, l⟩ := x
              rw [hx] at ha
              obtain ⟨k1, k2, k3⟩ := hok.sr p l hx
              rcases route_ok hs ha with k | ⟨k4, k5, k6⟩
              · exact .inl k
              · rw [cut_len k1] at k4 k5
                rw [cut_getD 0 (by omega)] at k6
                right
                exact ⟨by simp [lenOf]; exact k4, by omega, by rw [k6]; simpa using k3⟩
          have B : b = [] ∨ (b.length = lenOf o.rr ∧ 3 ≤ b.length ∧ b.getD 0 0 = 7) := by
            cases hx : o.rr with
            | none => rw [hx] at hb; simp at hb; exact .inl hb
            | some x =>
              obtain ⟨p, l⟩ := x
              rw [hx] at hb
              obtain ⟨k1, k2, k3⟩ := hok.rr p l hx
              obtain ⟨k4, k5, k6⟩ := record_len hf hb
              rw [cut_len k1] at k4 k6
              rw [cut_getD 0 (by omega)] at k5
              exact .inr ⟨by simp [lenOf]; exact k4, by omega, by rw [k5]; simpa using k3⟩
          have C : c = [] ∨ (c.length = lenOf o.ts ∧ 4 ≤ c.length ∧ c.getD 0 0 = 68) := by
            cases hx : o.ts with
            | none => rw [hx] at hc; simp at hc; exact .inl hc
            | some x =>
              obtain ⟨p, l⟩ := x
              rw [hx] at hc
              obtain ⟨k1, k2, k3⟩ := hok.ts p l hx
              obtain ⟨k4, k5, k6⟩ := stamp_len hf hc
              rw [cut_len k1] at k4 k6
              rw [cut_getD 0 (by omega)] at k5
              exact .inr ⟨by simp [lenOf]; exact k4, by omega, by rw [k5]; simpa using k3⟩
          obtain ⟨P1, P2⟩ := pad_len 3 (a ++ b ++ c).length
          have P3 := P2 (by omega)
          have la : a.length ≤ lenOf o.sr := by rcases A with ⟨rfl, _⟩ | ⟨k, _⟩ <;> first | omega | simp
          have lb : b.length ≤ lenOf o.rr := by rcases B with rfl | ⟨k, _⟩ <;> first | omega | simp
          have lc : c.length ≤ lenOf o.ts := by rcases C with rfl | ⟨k, _⟩ <;> first | omega | simp
          have hlen : out.length = (a ++ b ++ c).length + (pad (a ++ b ++ c).length 3).length := by rw [← hout, List.length_append]
          refine ⟨?_, by rw [hlen]; exact P3, ?_, ?_⟩
          · rw [hlen]; simp only [List.length_append] at P1 ⊢; omega
          · intro e
            rcases A with ⟨_, k⟩ | ⟨_, k, _⟩
            · exact k
            · rw [e] at hlen; simp at hlen; omega
          · intro hne
            rw [← hout]
            rcases A with ⟨rfl, _⟩ | ⟨_, k1, k2⟩
            · rcases B with rfl | ⟨_, k1, k2⟩
              · rcases C with rfl | ⟨_, k1, k2⟩
                · exact absurd (by rw [← hout]; simp [pad]) hne
                · cases c with
                  | nil => simp at k1
                  | cons x c => simp at k2 ⊢; omega
              · cases b with
                | nil => simp at k1
                | cons x b => simp at k2 ⊢; omega
            · cases a with
              | nil => simp at k1
              | cons x a => simp at k2 ⊢; omega
end Go.Proofs.YbulkblgyDoor
