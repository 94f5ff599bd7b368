/- LawS3105B*: parseIPv4Options. -/
import Derived.Test.YbulkblgyDoorEnt
import Derived.Deep.AppendLies
import Derived.Stop.IfaceNil
namespace Go.Proofs.YbulkblgyDoor
open Go.RowKit

theorem equalIn25n (w : World) (d : Nat) : (Op.equalIn (d + 1) 25 (.slice none 0 0) (.slice none 0 0)).run Ybad.prog w = .ok true w := by simp [Op.equalIn, run_underlying Ybad.underlying25]
theorem equalIn25s (w : World) (d : Nat) (a : Addr) (n c : Nat) : (Op.equalIn (d + 1) 25 (.slice (some a) n c) (.slice none 0 0)).run Ybad.prog w = .ok false w := by simp [Op.equalIn, run_underlying Ybad.underlying25]
@[go_sem] theorem eql25n (w : World) : (binOp .eql 25 (.slice none 0 0) (.slice none 0 0)).run Ybad.prog w = .ok (.bool true) w := by
  simp only [binOp]
  simp [Op.equal, Op.maxDepth, equalIn25n w 9999]
@[go_sem] theorem eql25s (w : World) (a : Addr) (n c : Nat) : (binOp .eql 25 (.slice (some a) n c) (.slice none 0 0)).run Ybad.prog w = .ok (.bool false) w := by
  simp only [binOp]
  simp [Op.equal, Op.maxDepth, equalIn25s w 9999]
@[go_sem] theorem neq25n (w : World) : (binOp .neq 25 (.slice none 0 0) (.slice none 0 0)).run Ybad.prog w = .ok (.bool false) w := by
  simp only [binOp]
  simp [Op.equal, Op.maxDepth, equalIn25n w 9999]
@[go_sem] theorem neq25s (w : World) (a : Addr) (n c : Nat) : (binOp .neq 25 (.slice (some a) n c) (.slice none 0 0)).run Ybad.prog w = .ok (.bool true) w := by
  simp only [binOp]
  simp [Op.equal, Op.maxDepth, equalIn25s w 9999]
def slen : Value → Nat
  | .slice _ n _ => n
  | _ => 0
/-- How an option kept reads in memory. -/
def SV (v : Value) (g : Nat) (x : Option (Nat × Nat)) : Prop := match x with
  | none => v = .slice none 0 0
  | some (a, l) => ∃ c, v = .slice (some ⟨g, a, none⟩) l c ∧ l ≤ c
theorem SV.shape {v : Value} {g : Nat} {x : Option (Nat × Nat)} (h : SV v g x) : ∃ a n c, v = .slice a n c := by
  cases x with
  | none => exact ⟨_, _, _, h⟩
  | some x => obtain ⟨c, h, _⟩ := h; exact ⟨_, _, _, h⟩
theorem cell3 {w : World} {b : Nat} {t : TypeId} {v0 v1 v2 : Value} (h : w.heap[b]? = some (.cells #[v0, v1, v2] t (0, 0))) :
    w.cell? ⟨b, 0, none⟩ = some v0 ∧ w.cell? ⟨b, 1, none⟩ = some v1 ∧ w.cell? ⟨b, 2, none⟩ = some v2 ∧ w.frozen? ⟨b, 0, none⟩ = false ∧ w.frozen? ⟨b, 1, none⟩ = false ∧ w.frozen? ⟨b, 2, none⟩ = false := by
  simp [World.cell?, World.frozen?, h]

structure PSt (w wr : World) (s0 : Value) (g : Nat) (L : List Int) (p : Nat) (o : Os) (v0 v1 v2 : Value) : Prop where
  at_ : SAt s0 g L p
  grown : w.grownBy wr none
  blk : wr.heap[w.heap.size + 1]? = some (.cells #[v0, v1, v2] 52 (0, 0))
  res : wr.heap[w.heap.size]? = some (.cells #[.slice none 0 0, .slice none 0 0, .slice none 0 0] 52 (0, 0))
  sr : SV v0 g o.sr
  rr : SV v1 g o.rr
  ts : SV v2 g o.ts
  same : parse L p o = parse L 0 {}

theorem PSt.put {w wr wq : World} {s0 r : Value} {g p l j c : Nat} {L : List Int} {o o' : Os} {v0 v1 v2 u0 u1 u2 : Value} (h : PSt w wr s0 g L p o v0 v1 v2) (hx : nx L p = .opt l) (hq : wr.grownBy wq none) (hr : SAt r g L (p + l))
    (hp : o.put (L.getD p 0) (p, l) = some o') (hb : (#[v0, v1, v2] : Array Value).setIfInBounds j (.slice (some ⟨g, p, none⟩) l c) = #[u0, u1, u2]) (k0 : SV u0 g o'.sr) (k1 : SV u1 g o'.rr) (k2 : SV u2 g o'.ts) :
    PSt w (wq.setCell ⟨w.heap.size + 1, j, none⟩ (.slice (some ⟨g, p, none⟩) l c)) r g L (p + l) o' u0 u1 u2 := by
  have hl1 : w.heap.size + 1 < wr.heap.size := (Array.getElem?_eq_some_iff.1 h.blk).1
  have hb1 : wq.heap[w.heap.size + 1]? = some (.cells #[v0, v1, v2] 52 (0, 0)) := by rw [hq.block _ hl1 (by simp)]; exact h.blk
  refine ⟨hr, gb_new (gb_trans h.grown hq) (gb_set _ _ _ _) (by omega), ?_, ?_, k0, k1, k2, ?_⟩
  · rw [heap_setCell_same _ _ _ _ _ _ hb1, hb]
  · rw [Below.heap_setCell _ _ _ _ (by simp), hq.block _ (by omega) (by simp)]; exact h.res
  · rw [← parse_next hx hp]; exact h.same
theorem PSt.pass {w wr wq : World} {s0 r : Value} {g p l : Nat} {L : List Int} {o : Os} {v0 v1 v2 : Value} (h : PSt w wr s0 g L p o v0 v1 v2) (hx : nx L p = .opt l) (hq : wr.grownBy wq none) (hr : SAt r g L (p + l))
    (hp : o.put (L.getD p 0) (p, l) = some o) : PSt w wq r g L (p + l) o v0 v1 v2 := by
  have hl1 : w.heap.size + 1 < wr.heap.size := (Array.getElem?_eq_some_iff.1 h.blk).1
  refine ⟨hr, gb_trans h.grown hq, ?_, ?_, h.sr, h.rr, h.ts, ?_⟩
  · rw [hq.block _ hl1 (by simp)]; exact h.blk
  · rw [hq.block _ (by omega) (by simp)]; exact h.res
  · rw [← parse_next hx hp]; exact h.same
theorem SAt.slen {v : Value} {g p : Nat} {L : List Int} (h : SAt v g L p) : slen v = L.length - p := by
  obtain ⟨a, c, rfl, _⟩ := h; rfl

def ParsePost (g : Nat) (eb : Value) (e : Ending) : Option Os → Prop
  | none => e = .returned (.tuple #[.agg #[.slice none 0 0, .slice none 0 0, .slice none 0 0], .iface 67 eb])
  | some o => ∃ v0 v1 v2, e = .returned (.tuple #[.agg #[v0, v1, v2], .nilIface]) ∧ SV v0 g o.sr ∧ SV v1 g o.rr ∧ SV v2 g o.ts
theorem PSt.after {w wr w1 : World} {s0 : Value} {g p : Nat} {L : List Int} {o : Os} {v0 v1 v2 : Value} (h : PSt w wr s0 g L p o v0 v1 v2) (hq : wr.grownBy w1 none) : w1.heap[w.heap.size + 1]? = some (.cells #[v0, v1, v2] 52 (0, 0)) ∧ w1.heap[w.heap.size]? = some (.cells #[.slice none 0 0, .slice none 0 0, .slice none 0 0] 52 (0, 0)) := by
  have hl1 : w.heap.size + 1 < wr.heap.size := (Array.getElem?_eq_some_iff.1 h.blk).1
  exact ⟨by rw [hq.block _ hl1 (by simp)]; exact h.blk, by rw [hq.block _ (by omega) (by simp)]; exact h.res⟩
theorem gb_store3 (w w1 : World) (h : w.grownBy w1 none) (a b c : Value) : w.grownBy (((w1.setCell ⟨w.heap.size, 0, none⟩ a).setCell ⟨w.heap.size, 1, none⟩ b).setCell ⟨w.heap.size, 2, none⟩ c) none :=
  gb_new h (gb_trans (gb_trans (gb_set _ _ _ _) (gb_set _ _ _ _)) (gb_set _ _ _ _)) (Nat.le_refl _)
set_option maxRecDepth 100000 in
set_option maxHeartbeats 4000000 in
theorem parse_any (g : Nat) (L : List Int) (v : Value) (eb : Value) (w : World) (hR : Rd w g L) (hv : SAt v g L 0) (h1 : w.cell? ⟨1, 0, none⟩ = some (.iface 67 eb)) (hz : 1 < w.heap.size) :
    Calls Ybad.prog 10 #[v] w fun e w' => ParsePost g eb e (parse L 0 {}) ∧ w.grownBy w' none := by
  have hP0 : PSt w ((w.alloc (.cells #[.slice none 0 0, .slice none 0 0, .slice none 0 0] 52)).alloc (.cells #[.slice none 0 0, .slice none 0 0, .slice none 0 0] 52)) v g L 0 {} (.slice none 0 0) (.slice none 0 0) (.slice none 0 0) := by
    refine ⟨hv, gb_trans (gb_alloc _ _ _) (gb_alloc _ _ _), ?_, ?_, rfl, rfl, rfl, rfl⟩
    · have := heap_alloc_new (w.alloc (.cells #[.slice none 0 0, .slice none 0 0, .slice none 0 0] 52)) (.cells #[.slice none 0 0, .slice none 0 0, .slice none 0 0] 52)
      simpa using this
    · rw [heap_alloc_old _ _ (by simp)]
      exact heap_alloc_new w _
  go_enter Ybad.func10, Ybad.ntmps10
  go_wp2
  go_loopw [0] (fun s0 wr => ∃ p o v0 v1 v2, PSt w wr s0 g L p o v0 v1 v2) (fun s0 _ => slen s0)
  case atStart => exact ⟨0, {}, _, _, _, hP0⟩
  case round =>
    clear hP0 hv
    obtain ⟨p, o, v0, v1, v2, hP⟩ := hrel
    have hRr := hR.kept hP.grown (by simp)
    have h1r : wr.cell? ⟨1, 0, none⟩ = some (.iface 67 eb) := (hP.grown.cell_far ⟨1, 0, none⟩ hz (by simp)).trans h1
    have hn1 : ¬ 1 = w.heap.size := by omega
    have hn2 : ¬ w.heap.size = 1 := by omega
    have hz1 : 1 < wr.heap.size := Nat.lt_of_lt_of_le hz hP.grown.size
    have hlr : w.heap.size + 1 < wr.heap.size := (Array.getElem?_eq_some_iff.1 hP.blk).1
    cases hx : nx L p with
    | done =>
      obtain ⟨a0, n0, d0, rfl⟩ := hP.sr.shape
      obtain ⟨a1, n1, d1, rfl⟩ := hP.rr.shape
      obtain ⟨a2, n2, d2, rfl⟩ := hP.ts.shape
      have hpd := hP.same.symm.trans (parse_done o hx)

      go_wp2_with (go_at_call 14; refine (next_done g p L _ _ hRr hP.at_ hx).mono ?_; rintro e w1 ⟨rfl, hg1⟩; obtain ⟨b0, b1, b2, _, _, _⟩ := cell3 (hP.after hg1).1; obtain ⟨r0, r1, r2, z0, z1, z2⟩ := cell3 (hP.after hg1).2)
      simp [bodyPost, results, Ybad.results10, go_sem, r0, r1, r2, hpd, ParsePost]
      exact ⟨⟨_, _, _, ⟨rfl, rfl, rfl⟩, hP.sr, hP.rr, hP.ts⟩, gb_store3 _ _ (gb_trans hP.grown hg1) _ _ _⟩
    | bad =>
      have hpd := hP.same.symm.trans (parse_bad o hx)

      go_wp2_with (go_at_call 14; refine (next_bad g p L _ eb _ hRr hP.at_ hx h1r).mono ?_; rintro e w1 ⟨rfl, hg1⟩; obtain ⟨r0, r1, r2, z0, z1, z2⟩ := cell3 (hP.after hg1).2)
      simp [bodyPost, results, Ybad.results10, go_sem, r0, r1, r2, hpd, ParsePost]
      exact gb_store3 _ _ (gb_trans hP.grown hg1) _ _ _
    | opt l =>
      obtain ⟨l0, lp, l2⟩ := nx_opt hx
      have hpl : p < L.length := by omega
      have kb := hRr.cellD p hpl
      have hby := hRr.byte p
      have hm : slen u0 = L.length - p := hP.at_.slen
      have Hl := hide l0
      have Hlp := hide lp
      have HP := hide hP
      have kl : 0 < l := l0
      clear l2 lp h1 hR hz
      by_cases hk : L.getD p 0 = 131
      · skip
        cases ho : o.sr with
        | some x =>
          have hpt : o.put (L.getD p 0) (p, l) = none := by rw [hk]; simp [Os.put, ho]
          have hpd := hP.same.symm.trans (parse_twice o hx hpt)
          have hs := hP.sr
          rw [ho] at hs
          obtain ⟨xa, xl⟩ := x
          obtain ⟨xc, hxv, _⟩ := hs
          subst hxv
          rw [hk] at kb
          go_wp2_with (go_at_call 14; refine (next_opt g p l L _ _ hRr hP.at_ hx).mono ?_; rintro e w1 ⟨⟨c, r, rfl, hc, hr⟩, hg1⟩; obtain ⟨b0, b1, b2, y0, y1, y2⟩ := cell3 (hP.after hg1).1; obtain ⟨r0, r1, r2, z0, z1, z2⟩ := cell3 (hP.after hg1).2; have kq := (hg1.cell_far ⟨g, p, none⟩ hRr.lt (by simp)).trans kb; have h1q := (hg1.cell_far ⟨1, 0, none⟩ hz1 (by simp)).trans h1r)
          go_region
          all_goals go_wp2
          all_goals
            simp [bodyPost, results, Ybad.results10, go_sem, r0, r1, r2, hpd, ParsePost]
            exact gb_store3 _ _ (gb_trans hP.grown (gb_trans hg1 (gb_drew _ _))) _ _ _
        | none =>
          have hpt : o.put (L.getD p 0) (p, l) = some { o with sr := some (p, l) } := by rw [hk]; simp [Os.put, ho]
          have hs := hP.sr
          rw [ho] at hs
          have hs2 : v0 = .slice none 0 0 := hs
          subst hs2
          rw [hk] at kb
          go_wp2_with (go_at_call 14; refine (next_opt g p l L _ _ hRr hP.at_ hx).mono ?_; rintro e w1 ⟨⟨c, r, rfl, hc, hr⟩, hg1⟩; obtain ⟨b0, b1, b2, y0, y1, y2⟩ := cell3 (hP.after hg1).1; obtain ⟨r0, r1, r2, z0, z1, z2⟩ := cell3 (hP.after hg1).2; have kq := (hg1.cell_far ⟨g, p, none⟩ hRr.lt (by simp)).trans kb; have h1q := (hg1.cell_far ⟨1, 0, none⟩ hz1 (by simp)).trans h1r)
          exact ⟨⟨p + l, _, _, _, _, hP.put hx hg1 hr hpt rfl (⟨_, rfl, hc⟩) (hP.rr) (hP.ts)⟩, by show slen r < slen u0; rw [hr.slen, hm]; omega⟩
      · have ne131 : (L.getD p 0 == 131) = false := beq_eq_false_iff_ne.2 hk
        have nk131 := hk
        clear hk
        by_cases hk : L.getD p 0 = 137
        · skip
          cases ho : o.sr with
          | some x =>
            have hpt : o.put (L.getD p 0) (p, l) = none := by rw [hk]; simp [Os.put, ho]
            have hpd := hP.same.symm.trans (parse_twice o hx hpt)
            have hs := hP.sr
            rw [ho] at hs
            obtain ⟨xa, xl⟩ := x
            obtain ⟨xc, hxv, _⟩ := hs
            subst hxv
            rw [hk] at kb
            go_wp2_with (go_at_call 14; refine (next_opt g p l L _ _ hRr hP.at_ hx).mono ?_; rintro e w1 ⟨⟨c, r, rfl, hc, hr⟩, hg1⟩; obtain ⟨b0, b1, b2, y0, y1, y2⟩ := cell3 (hP.after hg1).1; obtain ⟨r0, r1, r2, z0, z1, z2⟩ := cell3 (hP.after hg1).2; have kq := (hg1.cell_far ⟨g, p, none⟩ hRr.lt (by simp)).trans kb; have h1q := (hg1.cell_far ⟨1, 0, none⟩ hz1 (by simp)).trans h1r)
            go_region
            all_goals go_wp2
            all_goals
              simp [bodyPost, results, Ybad.results10, go_sem, r0, r1, r2, hpd, ParsePost]
              exact gb_store3 _ _ (gb_trans hP.grown (gb_trans hg1 (gb_drew _ _))) _ _ _
          | none =>
            have hpt : o.put (L.getD p 0) (p, l) = some { o with sr := some (p, l) } := by rw [hk]; simp [Os.put, ho]
            have hs := hP.sr
            rw [ho] at hs
            have hs2 : v0 = .slice none 0 0 := hs
            subst hs2
            rw [hk] at kb
            go_wp2_with (go_at_call 14; refine (next_opt g p l L _ _ hRr hP.at_ hx).mono ?_; rintro e w1 ⟨⟨c, r, rfl, hc, hr⟩, hg1⟩; obtain ⟨b0, b1, b2, y0, y1, y2⟩ := cell3 (hP.after hg1).1; obtain ⟨r0, r1, r2, z0, z1, z2⟩ := cell3 (hP.after hg1).2; have kq := (hg1.cell_far ⟨g, p, none⟩ hRr.lt (by simp)).trans kb; have h1q := (hg1.cell_far ⟨1, 0, none⟩ hz1 (by simp)).trans h1r)
            exact ⟨⟨p + l, _, _, _, _, hP.put hx hg1 hr hpt rfl (⟨_, rfl, hc⟩) (hP.rr) (hP.ts)⟩, by show slen r < slen u0; rw [hr.slen, hm]; omega⟩
        · have ne137 : (L.getD p 0 == 137) = false := beq_eq_false_iff_ne.2 hk
          have nk137 := hk
          clear hk
          by_cases hk : L.getD p 0 = 7
          · skip
            cases ho : o.rr with
            | some x =>
              have hpt : o.put (L.getD p 0) (p, l) = none := by rw [hk]; simp [Os.put, ho]
              have hpd := hP.same.symm.trans (parse_twice o hx hpt)
              have hs := hP.rr
              rw [ho] at hs
              obtain ⟨xa, xl⟩ := x
              obtain ⟨xc, hxv, _⟩ := hs
              subst hxv
              rw [hk] at kb
              go_wp2_with (go_at_call 14; refine (next_opt g p l L _ _ hRr hP.at_ hx).mono ?_; rintro e w1 ⟨⟨c, r, rfl, hc, hr⟩, hg1⟩; obtain ⟨b0, b1, b2, y0, y1, y2⟩ := cell3 (hP.after hg1).1; obtain ⟨r0, r1, r2, z0, z1, z2⟩ := cell3 (hP.after hg1).2; have kq := (hg1.cell_far ⟨g, p, none⟩ hRr.lt (by simp)).trans kb; have h1q := (hg1.cell_far ⟨1, 0, none⟩ hz1 (by simp)).trans h1r)
              go_region
              all_goals go_wp2
              all_goals
                simp [bodyPost, results, Ybad.results10, go_sem, r0, r1, r2, hpd, ParsePost]
                exact gb_store3 _ _ (gb_trans hP.grown (gb_trans hg1 (gb_drew _ _))) _ _ _
            | none =>
              have hpt : o.put (L.getD p 0) (p, l) = some { o with rr := some (p, l) } := by rw [hk]; simp [Os.put, ho]
              have hs := hP.rr
              rw [ho] at hs
              have hs2 : v1 = .slice none 0 0 := hs
              subst hs2
              rw [hk] at kb
              go_wp2_with (go_at_call 14; refine (next_opt g p l L _ _ hRr hP.at_ hx).mono ?_; rintro e w1 ⟨⟨c, r, rfl, hc, hr⟩, hg1⟩; obtain ⟨b0, b1, b2, y0, y1, y2⟩ := cell3 (hP.after hg1).1; obtain ⟨r0, r1, r2, z0, z1, z2⟩ := cell3 (hP.after hg1).2; have kq := (hg1.cell_far ⟨g, p, none⟩ hRr.lt (by simp)).trans kb; have h1q := (hg1.cell_far ⟨1, 0, none⟩ hz1 (by simp)).trans h1r)
              exact ⟨⟨p + l, _, _, _, _, hP.put hx hg1 hr hpt rfl (hP.sr) (⟨_, rfl, hc⟩) (hP.ts)⟩, by show slen r < slen u0; rw [hr.slen, hm]; omega⟩
          · have ne7 : (L.getD p 0 == 7) = false := beq_eq_false_iff_ne.2 hk
            have nk7 := hk
            clear hk
            by_cases hk : L.getD p 0 = 68
            · skip
              cases ho : o.ts with
              | some x =>
                have hpt : o.put (L.getD p 0) (p, l) = none := by rw [hk]; simp [Os.put, ho]
                have hpd := hP.same.symm.trans (parse_twice o hx hpt)
                have hs := hP.ts
                rw [ho] at hs
                obtain ⟨xa, xl⟩ := x
                obtain ⟨xc, hxv, _⟩ := hs
                subst hxv
                rw [hk] at kb
                go_wp2_with (go_at_call 14; refine (next_opt g p l L _ _ hRr hP.at_ hx).mono ?_; rintro e w1 ⟨⟨c, r, rfl, hc, hr⟩, hg1⟩; obtain ⟨b0, b1, b2, y0, y1, y2⟩ := cell3 (hP.after hg1).1; obtain ⟨r0, r1, r2, z0, z1, z2⟩ := cell3 (hP.after hg1).2; have kq := (hg1.cell_far ⟨g, p, none⟩ hRr.lt (by simp)).trans kb; have h1q := (hg1.cell_far ⟨1, 0, none⟩ hz1 (by simp)).trans h1r)
                go_region
                all_goals go_wp2
                all_goals
                  simp [bodyPost, results, Ybad.results10, go_sem, r0, r1, r2, hpd, ParsePost]
                  exact gb_store3 _ _ (gb_trans hP.grown (gb_trans hg1 (gb_drew _ _))) _ _ _
              | none =>
                have hpt : o.put (L.getD p 0) (p, l) = some { o with ts := some (p, l) } := by rw [hk]; simp [Os.put, ho]
                have hs := hP.ts
                rw [ho] at hs
                have hs2 : v2 = .slice none 0 0 := hs
                subst hs2
                rw [hk] at kb
                go_wp2_with (go_at_call 14; refine (next_opt g p l L _ _ hRr hP.at_ hx).mono ?_; rintro e w1 ⟨⟨c, r, rfl, hc, hr⟩, hg1⟩; obtain ⟨b0, b1, b2, y0, y1, y2⟩ := cell3 (hP.after hg1).1; obtain ⟨r0, r1, r2, z0, z1, z2⟩ := cell3 (hP.after hg1).2; have kq := (hg1.cell_far ⟨g, p, none⟩ hRr.lt (by simp)).trans kb; have h1q := (hg1.cell_far ⟨1, 0, none⟩ hz1 (by simp)).trans h1r)
                exact ⟨⟨p + l, _, _, _, _, hP.put hx hg1 hr hpt rfl (hP.sr) (hP.rr) (⟨_, rfl, hc⟩)⟩, by show slen r < slen u0; rw [hr.slen, hm]; omega⟩
            · have ne68 : (L.getD p 0 == 68) = false := beq_eq_false_iff_ne.2 hk
              have nk68 := hk
              clear hk
              have hpt : o.put (L.getD p 0) (p, l) = some o := by simp only [Os.put, nk131, nk137, nk7, nk68]; simp
              generalize hgx : L.getD p 0 = x at kb ne131 ne137 ne7 ne68
              clear nk131 nk137 nk7 nk68 hby hgx
              go_wp2_with (go_at_call 14; refine (next_opt g p l L _ _ hRr hP.at_ hx).mono ?_; rintro e w1 ⟨⟨c, r, rfl, hc, hr⟩, hg1⟩; obtain ⟨b0, b1, b2, y0, y1, y2⟩ := cell3 (hP.after hg1).1; obtain ⟨r0, r1, r2, z0, z1, z2⟩ := cell3 (hP.after hg1).2; have kq := (hg1.cell_far ⟨g, p, none⟩ hRr.lt (by simp)).trans kb; have h1q := (hg1.cell_far ⟨1, 0, none⟩ hz1 (by simp)).trans h1r)
              exact ⟨⟨p + l, _, _, _, _, hP.pass hx hg1 hr hpt⟩, by show slen r < slen u0; rw [hr.slen, hm]; omega⟩
end Go.Proofs.YbulkblgyDoor
