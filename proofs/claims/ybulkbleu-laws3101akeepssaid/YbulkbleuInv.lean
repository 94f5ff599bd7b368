/- LawS3101AKeeps: what the rounds keep: the map, the model array and templatesSize agree. -/
import Derived.Test.YbulkbleuPut
namespace Go.Proofs.Ybulkbleu
open Go.RowKit Go.Maps

/-- One entry of the model: the template's block, and how many fields it has. -/
abbrev Ent := Option (Nat × Nat)
def entVal : Ent → Int
  | some (_, l) => 256 + 80 * (l : Int)
  | _ => 0
def entOne : Ent → Nat
  | some _ => 1
  | _ => 0
def tot (ms : Nat → Ent) : Nat → Int
  | 0 => 0
  | n + 1 => tot ms n + entVal (ms n)
def cnt (ms : Nat → Ent) : Nat → Nat
  | 0 => 0
  | n + 1 => cnt ms n + entOne (ms n)
def upd (ms : Nat → Ent) (k : Nat) (v : Ent) : Nat → Ent := fun i => if i = k then v else ms i

theorem upd_same (ms : Nat → Ent) (k : Nat) (v : Ent) : upd ms k v k = v := by simp [upd]
theorem upd_other (ms : Nat → Ent) {k i : Nat} (v : Ent) (h : i ≠ k) : upd ms k v i = ms i := by simp [upd, h]

theorem tot_far (ms : Nat → Ent) (k : Nat) (v : Ent) : ∀ n, n ≤ k → tot (upd ms k v) n = tot ms n
  | 0, _ => rfl
  | n + 1, h => by simp only [tot]; rw [tot_far ms k v n (by omega), upd_other ms v (by omega)]
theorem tot_upd (ms : Nat → Ent) (k : Nat) (v : Ent) : ∀ n, k < n → tot (upd ms k v) n = tot ms n - entVal (ms k) + entVal v
  | 0, h => by omega
  | n + 1, h => by
    simp only [tot]
    by_cases e : k = n
    · subst e; rw [tot_far ms k v k (Nat.le_refl _), upd_same]; omega
    · rw [tot_upd ms k v n (by omega), upd_other ms v (by omega)]; omega
theorem cnt_far (ms : Nat → Ent) (k : Nat) (v : Ent) : ∀ n, n ≤ k → cnt (upd ms k v) n = cnt ms n
  | 0, _ => rfl
  | n + 1, h => by simp only [cnt]; rw [cnt_far ms k v n (by omega), upd_other ms v (by omega)]
theorem cnt_upd (ms : Nat → Ent) (k : Nat) (v : Ent) : ∀ n, k < n → cnt (upd ms k v) n + entOne (ms k) = cnt ms n + entOne v
  | 0, h => by omega
  | n + 1, h => by
    simp only [cnt]
    by_cases e : k = n
    · subst e; rw [cnt_far ms k v k (Nat.le_refl _), upd_same]; omega
    · have := cnt_upd ms k v n (by omega); rw [upd_other ms v (by omega)]; omega
theorem tot_bd (ms : Nat → Ent) (h : ∀ i, i < 8 → ∀ b l, ms i = some (b, l) → l ≤ 15) : ∀ n, n ≤ 8 → 0 ≤ tot ms n ∧ tot ms n ≤ 1456 * n
  | 0, _ => by simp [tot]
  | n + 1, hn => by
    have ih := tot_bd ms h n (by omega)
    have e : 0 ≤ entVal (ms n) ∧ entVal (ms n) ≤ 1456 := by
      cases hm : ms n with
      | none => simp [entVal]
      | some p => obtain ⟨b, l⟩ := p; have := h n (by omega) b l hm; simp only [entVal]; omega
    simp only [tot]; omega
theorem cnt_le (ms : Nat → Ent) : ∀ n, cnt ms n ≤ n
  | 0 => Nat.le_refl _
  | n + 1 => by
    have := cnt_le ms n
    have e : entOne (ms n) ≤ 1 := by cases ms n <;> simp [entOne]
    simp only [cnt]; omega

def entPtr : Ent → Value
  | some (b, _) => .pointer (some ⟨b, 0, none⟩)
  | _ => .pointer none
def entDat : Ent → DataW Unit
  | some (b, _) => .lit (.int .i64 b)
  | _ => .nil

/-- What holds at the head of round k: the world wr, begun at w. -/
structure Inv (w wr : World) (base : Int) (k : Nat) (ms : Nat → Ent) (D : DataW Unit) : Prop where
  own : wr.ownsMap Yba.prog 37 ptrElem w.heap.size k D
  dom1 : wr.cell? ⟨w.heap.size + 1, 1, none⟩ = some (.map (some w.heap.size))
  dom9 : wr.cell? ⟨w.heap.size + 1, 9, none⟩ = some (.int .i64 (base + tot ms 8))
  frz9 : wr.frozen? ⟨w.heap.size + 1, 9, none⟩ = false
  mod : ∀ i, i < 8 → wr.cell? ⟨w.heap.size + 1 + 1, i, none⟩ = some (entPtr (ms i))
  frzm : ∀ i, wr.frozen? ⟨w.heap.size + 1 + 1, i, none⟩ = false
  tem : ∀ i, i < 8 → ∀ b l, ms i = some (b, l) → l ≤ 15 ∧ w.heap.size + 3 ≤ b ∧ b < wr.heap.size ∧ ∃ fa fc, wr.cell? ⟨b, 1, none⟩ = some (.slice fa l fc)
  hat : ∀ i : Nat, i < 8 → D.atKey (K i) .nil = entDat (ms i)
  hhas : ∀ i : Nat, i < 8 → has D (K i) = (ms i).isSome
  hsz : Maps.size D = cnt ms 8
  below : Below w.heap.size w wr
  big : w.heap.size + 3 ≤ wr.heap.size

theorem Inv.alloc {w wr : World} {base : Int} {k : Nat} {ms : Nat → Ent} {D : DataW Unit} (h : Inv w wr base k ms D) (c : Array Value) (t : TypeId) : Inv w (wr.alloc (.cells c t)) base k ms D := by
  have hb := h.big
  have hs : (wr.alloc (.cells c t)).heap.size = wr.heap.size + 1 := by simp
  refine ⟨h.own.alloc _, ?_, ?_, ?_, fun i hi => ?_, fun i => ?_, fun i hi b l e => ?_, h.hat, h.hhas, h.hsz, h.below.alloc (by omega) _, by omega⟩
  · rw [World.cell?_alloc_past _ _ _ (by omega)]; exact h.dom1
  · rw [World.cell?_alloc_past _ _ _ (by omega)]; exact h.dom9
  · rw [frozen?_alloc_cells]; exact h.frz9
  · rw [World.cell?_alloc_past _ _ _ (by omega)]; exact h.mod i hi
  · rw [frozen?_alloc_cells]; exact h.frzm i
  · obtain ⟨h1, h2, h3, fa, fc, h4⟩ := h.tem i hi b l e
    exact ⟨h1, h2, by omega, fa, fc, by rw [World.cell?_alloc_past _ _ _ h3]; exact h4⟩

theorem K_ne {i j : Nat} (h : i ≠ j) : K (i : Int) ≠ K (j : Int) := by
  intro e
  simp only [Lit.int.injEq] at e
  omega

theorem K_wf {j : Nat} (hj : j < 8) : (K (j : Int)).wf = true := by
  have e : (K (j : Int)).wf = decide (IntKind.u16.min ≤ (j : Int) ∧ (j : Int) ≤ IntKind.u16.max) := by simp [Lit.wf]
  rw [e]
  refine decide_eq_true ⟨?_, ?_⟩
  · show (0 : Int) ≤ j; omega
  · show (j : Int) ≤ 65535; omega

/-- 'd.put(t)' in the round, and the store 'model[k] = t' behind it. -/
theorem put3 {w wr : World} {base : Int} {k : Nat} {ms : Nat → Ent} {D : DataW Unit} (h : Inv w wr base k ms D) (hk : k ≤ 1024) (hb1 : -1099511627776 < base) (hb2 : base < 1099511627776) (j : Nat) (hj : j < 8) (tb r : Nat) (fa : Option Addr) (hr : r ≤ 15)
    (ht : w.heap.size + 3 ≤ tb) (htl : tb < wr.heap.size) (t0 : wr.cell? ⟨tb, 0, none⟩ = some (.int .u16 (j : Int))) (t1 : wr.cell? ⟨tb, 1, none⟩ = some (.slice fa r r)) :
    Calls Yba.prog 5 #[.pointer (some ⟨w.heap.size + 1, 0, none⟩), .pointer (some ⟨tb, 0, none⟩)] wr fun e w' => e = .returned (.tuple #[]) ∧
      (∃ v, w'.cell? ⟨w.heap.size + 1 + 1, j, none⟩ = some v) ∧ w'.frozen? ⟨w.heap.size + 1 + 1, j, none⟩ = false ∧
      ∃ D', Inv w (w'.setCell ⟨w.heap.size + 1 + 1, j, none⟩ (.pointer (some ⟨tb, 0, none⟩))) base (k + 1) (upd ms j (some (tb, r))) D' := by
  have wi : (K (j : Int)).wf = true := K_wf hj
  have htb := tot_bd ms (fun i hi b l e => (h.tem i hi b l e).1) 8 (Nat.le_refl _)
  obtain ⟨s0, hs0, hrem⟩ : ∃ s0 : Int, s0 = base + tot ms 8 - entVal (ms j) ∧ Hid (Calls Yba.prog 6 #[.pointer (some ⟨w.heap.size + 1, 0, none⟩), .int .u16 (j : Int)] wr fun e w' => e = .returned (.tuple #[]) ∧ RemPost (w.heap.size + 1) w.heap.size k D j s0 wr w') := by
    have hh := h.hhas j hj
    have ha := h.hat j hj
    cases hm : ms j with
    | none =>
      rw [hm] at hh
      exact ⟨base + tot ms 8, by simp [entVal], rem_absent _ _ _ _ _ _ _ wi h.dom1 h.dom9 h.own hh⟩
    | some p =>
      obtain ⟨ob, l⟩ := p
      rw [hm] at ha
      obtain ⟨h1, h2, h3, fo, fc, h4⟩ := h.tem j hj ob l hm
      exact ⟨base + tot ms 8 - (256 + 80 * l), by simp [entVal], rem_there _ _ _ _ _ ob fo l fc _ _ wi h.dom1 h.dom9 h.frz9 (by omega) (by omega) h.own ha h4 (by omega)⟩
  have hv : 0 ≤ entVal (ms j) ∧ entVal (ms j) ≤ 1456 := by
    cases hm : ms j with
    | none => simp [entVal]
    | some p => obtain ⟨b, l⟩ := p; have := (h.tem j hj b l hm).1; simp only [entVal]; omega
  refine (put_core (w.heap.size + 1) w.heap.size tb k D j fa r r s0 wr wi (by omega) h.dom1 h.frz9 (by omega) (by omega) (by omega) t0 t1 (by omega) hrem).mono ?_
  rintro e w' ⟨rfl, hp⟩
  obtain ⟨D', ho', ha1, ha2, hh1, hh2, hsz'⟩ := hp.own
  have hT := hp.turn
  have cm : ∀ i, i < 8 → w'.cell? ⟨w.heap.size + 1 + 1, i, none⟩ = some (entPtr (ms i)) := fun i hi => by rw [hT.cells _ (by simp)]; exact h.mod i hi
  refine ⟨rfl, ⟨_, cm j hj⟩, by rw [hT.frozen]; exact h.frzm j, D', ?_⟩
  have other : ∀ a : Addr, a ≠ ⟨w.heap.size + 1 + 1, j, none⟩ → a ≠ ⟨w.heap.size + 1, 9, none⟩ → (w'.setCell ⟨w.heap.size + 1 + 1, j, none⟩ (.pointer (some ⟨tb, 0, none⟩))).cell? a = wr.cell? a := fun a h1 h2 => by
    rw [World.cell?_setCell_other _ _ _ _ (fun e => h1 e.symm)]; exact hT.cells a h2
  refine ⟨ho'.setCell (by simp; omega) _, ?_, ?_, ?_, fun i hi => ?_, fun i => ?_, fun i hi b l e => ?_, fun i hi => ?_, fun i hi => ?_, ?_, ?_, ?_⟩
  · rw [other _ (by simp) (by simp)]; exact h.dom1
  · rw [World.cell?_setCell_other _ _ _ _ (by simp), hT.nine, tot_upd ms j _ 8 hj, hs0]
    simp only [entVal]
    congr 2
    omega
  · rw [World.frozen?_setCell, hT.frozen]; exact h.frz9
  · by_cases e : i = j
    · subst e; rw [World.cell?_setCell_same _ _ _ (cm i hi), upd_same]; rfl
    · rw [other _ (fun c => e (congrArg Addr.off c)) (by simp), upd_other ms _ e]; exact h.mod i hi
  · rw [World.frozen?_setCell, hT.frozen]; exact h.frzm i
  · by_cases ei : i = j
    · subst ei
      rw [upd_same] at e
      simp only [Option.some.injEq, Prod.mk.injEq] at e
      obtain ⟨rfl, rfl⟩ := e
      refine ⟨hr, ht, by rw [World.size_setCell, hT.size]; exact htl, fa, r, ?_⟩
      rw [other _ (by simp) (by simp)]; exact t1
    · rw [upd_other ms _ ei] at e
      obtain ⟨h1, h2, h3, fo, fc, h4⟩ := h.tem i hi b l e
      refine ⟨h1, h2, by rw [World.size_setCell, hT.size]; exact h3, fo, fc, ?_⟩
      rw [other _ (fun c => by have := congrArg Addr.block c; simp at this; omega) (by simp)]; exact h4
  · by_cases e : i = j
    · subst e; rw [upd_same]; exact ha1
    · rw [upd_other ms _ e, ha2 _ (K_ne e)]; exact h.hat i hi
  · by_cases e : i = j
    · subst e; rw [upd_same]; exact hh1
    · rw [upd_other ms _ e, hh2 _ (K_ne e)]; exact h.hhas i hi
  · have hc := cnt_upd ms j (some (tb, r)) 8 hj
    rw [h.hhas j hj, h.hsz] at hsz'
    have e1 : (if (ms j).isSome = true then 1 else 0) = entOne (ms j) := by cases ms j <;> rfl
    rw [e1] at hsz'
    simp only [entOne] at hc hsz'
    omega
  · exact Below.setCell (h.below.trans (hT.below _ (by omega) (Nat.le_refl _))) (by simp; omega) _
  · rw [World.size_setCell, hT.size]; exact h.big

end Go.Proofs.Ybulkbleu
