/- (*PcapngReader).describeInterface in a big-endian section. -/
import Derived.Test.YbulkbleuFmtDesc
namespace Go.Proofs.YbulkbleuFmt
open Go.RowKit Go.Extern.Stop Go.Stop Go.Extern
attribute [local go_sem ↓] Go.wp_at_zero Go.wp_at_succ

set_option maxRecDepth 100000 in
set_option maxHeartbeats 4000000 in
theorem describe_big (F : Interp) (pb : Nat) (g o n c : Nat) (hc : n ≤ c) (hn5 : n ≤ 10000) (f : Nat → Int) (hf : Byte f) (m : Nat) (xs : List Value) (w : World) (hF : F.answers w.tape) (hn : 8 ≤ n)
    (hB : Hid (Bytes w g o n f)) (hgp : g < pb) (hm : m ≤ 100) (hR : Reader w pb 99 m xs) :
    Calls Ybaf.prog 21 #[.pointer (some ⟨pb, 0, none⟩), .slice (some ⟨g, o, none⟩) n c] w fun e w' => Described w pb 99 m xs (getN f 0 2 true) (getN f 4 4 true) (parse f n true n 8 1000000 0) e w' := by
  have hl : ¬ (n : Int) < 8 := by omega
  have h4 : (4 : Int) ≤ (n : Int) := by omega
  have h4c : (4 : Int) ≤ (c : Int) := by omega
  have hnc : (n : Int) ≤ (c : Int) := by omega
  have r1 := hR.ord
  have hlt := hR.lt
  have hg : g < w.heap.size := by omega
  have hf4 : Byte (fun i => f (4 + i)) := fun i => hf _
  go_enter Ybaf.func21, Ybaf.ntmps21
  go_wp2
  go_cut [5] (fun p wc => ∃ ib, p = .pointer (some ⟨ib, 0, none⟩) ∧ InAt w wc ib (getN f 0 2 true) (getN (fun i => f (4 + i)) 0 4 true) 1000000 0)
  case first =>
    go_region_held3 (fun w' => w'.cell? ⟨pb, 1, none⟩ = some (.iface 99 (.agg #[])) ∧ Below w.heap.size w w') (first
        | (with_reducible exact keepD (keep0 r1))
        | (with_reducible exact keepD (keepA r1 (Below.refl _ _) _))
        | (with_reducible exact keepA r1 (Below.refl _ _) _)
        | (go_split_ands; with_reducible exact keepS (by with_reducible assumption) (by with_reducible assumption) hlt hb2)
        | (with_reducible exact keepS r1 (Below.refl _ _) hlt hb1)
        | (go_split_ands; with_reducible exact keepS (by with_reducible assumption) (by with_reducible assumption) hlt hb1)
        | (go_split_ands; with_reducible exact keepA (by with_reducible assumption) (by with_reducible assumption) _)
        | (go_split_ands; with_reducible exact keepY _ (by with_reducible assumption) (by with_reducible assumption) (by omega) hlt)
        | (go_split_ands; with_reducible (refine keepC ?_ hlt ?_); with_reducible (refine keepC ?_ hlt ?_); with_reducible (refine keepC ?_ hlt ?_); with_reducible (refine keepC ?_ hlt ?_); with_reducible exact ⟨by with_reducible assumption, by with_reducible assumption⟩; all_goals (first | exact Nat.le_refl _ | (simp; omega))))
      (first | (go_at_call 75; refine (be16_any g o n c f hf _ (hide (hB.out.below hg (by first | (with_reducible assumption) | (go_split_ands; with_reducible assumption) | (with_reducible exact (Below.refl _ _).drew)))) (by omega)).mono ?_; rintro e w1 ⟨rfl, hb1⟩; have hbs1 := hb1.size; (try simp at hbs1); (try have hbl1 : w.heap.size < w1.heap.size := by omega); obtain ⟨hcc1, hff1⟩ := bcell hb1) | (go_at_call 76; refine (be32_any g (o + 4) (n - 4) (c - 4) _ hf4 _ (hide ((hB.out.from 4).below hg (by first | (with_reducible assumption) | (go_split_ands; with_reducible assumption) | (with_reducible exact (Below.refl _ _).drew)))) (by omega)).mono ?_; rintro e w2 ⟨rfl, hb2⟩; have hbs2 := hb2.size; (try simp at hbs2); (try have hbl2 : w.heap.size < w2.heap.size := by omega); obtain ⟨hcc2, hff2⟩ := bcell hb2))
    all_goals (go_wp2_with fail; go_meet; go_split_ands; refine ⟨_, rfl, ?_⟩)
    · exact inAt_new (by with_reducible assumption) (by omega)
    · refine inAt_set (by with_reducible assumption) hbs1 (by rw [hcc2 _ _ (by simp)]; simp; rfl) (by rw [hcc2 _ _ (by simp)]; simp; rfl) (by rw [hcc2 _ _ (by simp)]; simp; rfl) (by rw [hcc2 _ _ (by simp)]; simp; rfl) (fun j => ?_)
      rw [hff2 _ _ (by simp), frozen?_alloc_cells]; simp [World.frozen?]
    · refine inAt_set (by with_reducible assumption) (Nat.le_refl _) (by rw [hcc2 _ _ hbl1, hcc1 _ _ (by simp)]; simp; rfl) (by rw [hcc2 _ _ hbl1, hcc1 _ _ (by simp)]; simp; rfl) (by rw [hcc2 _ _ hbl1, hcc1 _ _ (by simp)]; simp; rfl) (by rw [hcc2 _ _ hbl1, hcc1 _ _ (by simp)]; simp; rfl) (fun j => ?_)
      rw [hff2 _ _ hbl1, hff1 _ _ (by simp)]
      show (w.alloc _).frozen? _ = false
      rw [frozen?_alloc_cells]; simp [World.frozen?]
  case rest =>
    obtain ⟨ib, rfl, hI⟩ := hcut
    have h8 : (8 : Int) ≤ (n : Int) := by omega
    have h8c : (8 : Int) ≤ (c : Int) := by omega
    obtain ⟨a8, ha8, Ha8⟩ : ∃ a8, (if c = 8 then some (⟨g, o, none⟩ : Addr) else some ⟨g, o + 8, none⟩) = a8 ∧ Hid (8 < n → a8 = some ⟨g, o + 8, none⟩) := ⟨_, rfl, fun h => by rw [if_neg (by omega)]⟩
    have e4 : getN (fun i => f (4 + i)) 0 4 true = getN f 4 4 true := getN_from f 4 0 4 true
    rw [e4] at hI
    clear e4
    generalize hRR : parse f n true n 8 1000000 0 = R
    have HR := hide hRR
    clear hRR
    go_wp2
    clear ha8 h8 h8c
    go_loopw [6] (fun s6 wr => ∃ (i fuel : Nat) (u d : Int) (a : Option Addr), 8 ≤ i ∧ i ≤ n ∧ n ≤ fuel + i ∧ s6 = .slice a (n - i) (c - i) ∧ Hid (i < n → a = some ⟨g, o + i, none⟩) ∧ InAt w wr ib (getN f 0 2 true) (getN f 4 4 true) u d ∧ Hid (parse f n true fuel i u d = R)) (fun s6 _ => lenOf s6)
    case atStart => exact ⟨8, n, 1000000, 0, a8, by omega, by omega, by omega, rfl, Ha8, hI, HR⟩
    case round =>
      obtain ⟨i, fuel, u, d, a, hi8, hin, hfu, rfl, Ha, hI2, HP⟩ := hrel
      clear hI Ha8
      by_cases hi4 : i + 4 ≤ n
      · have ha := Ha.out (by omega)
        subst ha
        clear Ha
        have hlt2 : pb < wr.heap.size := Nat.lt_of_lt_of_le hlt hI2.below.size
        have q1 : wr.cell? ⟨pb, 1, none⟩ = some (.iface 99 (.agg #[])) := (hI2.below.cell (p := ⟨pb, 1, none⟩) hlt).trans r1
        have hB1 : Hid (Bytes wr g (o + i) (n - i) (fun j => f (i + j))) := (hB.out.below hg hI2.below).from i
        have hB2 : Hid (Bytes wr g (o + i + 2) (n - i - 2) (fun j => f (i + 2 + j))) := fun j hj => by
          have := hB1.out (2 + j) (by omega)
          show wr.cell? ⟨g, o + i + 2 + j, none⟩ = some (.int .u8 (f (i + 2 + j)))
          rw [show o + i + 2 + j = o + i + (2 + j) by omega, show i + 2 + j = i + (2 + j) by omega]
          exact this
        have hgl : g < wr.heap.size := Nat.lt_of_lt_of_le hg hI2.below.size
        obtain ⟨code, hcd, Hcd, hcd0, hcd1⟩ : ∃ code : Int, getN (fun j => f (i + j)) 0 2 true = code ∧ Hid (getN f i 2 true = code) ∧ 0 ≤ code ∧ code < 65536 := ⟨_, rfl, (getN_from f i 0 2 true).symm, (get2_bd (fun j => hf _) 0 true).1, (get2_bd (fun j => hf _) 0 true).2⟩
        obtain ⟨l, hle, Hle, hl1⟩ : ∃ l : Nat, getN (fun j => f (i + 2 + j)) 0 2 true = (l : Int) ∧ Hid (getN f (i + 2) 2 true = (l : Int)) ∧ l < 65536 := by
          have hb := get2_bd (f := fun j => f (i + 2 + j)) (fun j => hf _) 0 true
          refine ⟨(getN (fun j => f (i + 2 + j)) 0 2 true).toNat, by omega, ?_, by omega⟩
          have := getN_from f (i + 2) 0 2 true
          rw [Nat.add_zero] at this
          show _ = _
          omega
        have hfi : Byte (fun j => f (i + j)) := fun j => hf _
        have hfi2 : Byte (fun j => f (i + 2 + j)) := fun j => hf _
        have t1 : (4 : Int) ≤ ((n - i : Nat) : Int) := by omega
        have t2 : (2 : Int) ≤ ((n - i : Nat) : Int) := by omega
        have t3 : ((n - i : Nat) : Int) ≤ ((c - i : Nat) : Int) := by omega
        have t4 : ¬ (c - i = 2) := by omega
        go_wp2
        go_cut [7, 8] (fun s7 s8 wk => s7 = .int .u16 code ∧ s8 = .int .i64 l ∧ Below wr.heap.size wr wk)
        case first =>
          go_region_held3 (fun w' => w'.cell? ⟨pb, 1, none⟩ = some (.iface 99 (.agg #[])) ∧ Below wr.heap.size wr w') (first
              | (with_reducible exact keepD (keep0 q1))
              | (go_split_ands; with_reducible exact keepS (by with_reducible assumption) (by with_reducible assumption) hlt2 hb2)
              | (go_split_ands; with_reducible exact keepS (by with_reducible assumption) (by with_reducible assumption) hlt2 hb1))
            (first
              | (go_at_call_of 75 (Value.slice (some ⟨g, o + i, none⟩) (n - i) (c - i)); refine (be16_any g (o + i) (n - i) (c - i) _ hfi _ (hide (hB1.out.below hgl (by first | (with_reducible assumption) | (go_split_ands; with_reducible assumption) | (with_reducible exact (Below.refl _ _).drew)))) (by omega)).mono ?_; rintro e w1 ⟨rfl, hb1⟩)
              | (go_at_call 75; refine (be16_any g (o + i + 2) (n - i - 2) (c - i - 2) _ hfi2 _ (hide (hB2.out.below hgl (by first | (with_reducible assumption) | (go_split_ands; with_reducible assumption) | (with_reducible exact (Below.refl _ _).drew)))) (by omega)).mono ?_; rintro e w2 ⟨rfl, hb2⟩))
          go_wp2_with fail
          go_meet
          exact ⟨rfl, congrArg (Value.int IntKind.i64) (IntWalk.i64_in _ ⟨by omega, by omega⟩), by go_split_ands; with_reducible assumption⟩
        case rest =>
        obtain ⟨rfl, rfl, hS⟩ := hcut
        have hI3 := hI2.later hS
        have hB3 : Hid (Bytes wc g (o + i) (n - i) (fun j => f (i + j))) := hB1.out.below hgl hS
        have htp : F.answers wc.tape := by rw [hI3.below.tape]; exact hF
        have hgc : g < wc.heap.size := Nat.lt_of_lt_of_le hgl hS.size
        clear hI2 q1 hB1 hB2 hfi hfi2 hcd hle hS
        obtain ⟨fuel', rfl⟩ : ∃ k, fuel = k + 1 := ⟨fuel - 1, by omega⟩
        by_cases h0 : code = 0
        · subst h0
          have hRR : Hid (R = some (u, d)) := by
            show _ = _
            rw [← HP.out]; exact parse_stop hi4 Hcd.out
          clear HP hB3
          go_wp2
          have hRx := hR.later hI3.below
          obtain ⟨v, c2, hown⟩ := hRx.ifs
          have f2 := hRx.frz
          have hne := ownBlock_ne hown
          have hltx := hRx.lt
          obtain ⟨i0, hi0, hz0, hz1, hz2⟩ := info_parts info61
          have k0 := hI3.c0
          have k1 := hI3.c1
          have k2 := hI3.c2
          have k3 := hI3.c3
          have hibl := hI3.lt
          have hbw : Below pb w wc := hI3.below.mono (by omega)
          have hown2 : Hid (((wc.alloc (.cells #[.int .u16 (getN f 0 2 true), .int .u32 (getN f 4 4 true), .int .u64 u, .int .i64 d] 61)).drew).ownsRow (pb + 1) 61 4 v m xs) := (hown.alloc _).drew
          have hnews := hide (news1 wc #[.int .u16 (getN f 0 2 true), .int .u32 (getN f 4 4 true), .int .u64 u, .int .i64 d] 61)
          clear hI3 hR
          go_region_law (refine step_append_lies _ (by rfl) _ _ _ (by rfl) (pb + 1) 61 i0 _ 4 24 Ybaf.underlying110 hi0 hz0 hz1 hz2 rfl (by omega) v m xs (by rfl) hown2.out ⟨wc.heap.size, 0, none⟩ 1 1 [.int .u16 (getN f 0 2 true), .int .u32 (getN f 4 4 true), .int .u64 u, .int .i64 d] (by rfl) (by rfl) (unhide hnews) (by simp [Value.oneCell']) (by omega) (by unfold maxLen; omega) (by omega) (by simp; omega) (wc.heap.size + 1) (by simp) ?_; intro g' cap w9 hown1 hgrow hat hltg; have z1 : w9.cell? ⟨pb, 2, none⟩ = some v := (by rw [hgrow.cell_far _ (by simp; omega) hne]; go_keep); have z2 : w9.frozen? ⟨pb, 2, none⟩ = false := (by rw [hgrow.frozen_far _ (by simp; omega) hne]; rw [World.frozen?_drew, frozen?_alloc_cells]; exact f2))
          all_goals
            have hgw : wc.grownBy w9 v.ownBlock := ((World.grownBy_alloc wc _ _).trans (grownBy_drew _ _)).trans hgrow
            have hR1 := hide (hRx.push hne hgw hown1)
            have hb1 := hide (Below.setCell (hbw.grown hgw (by omega) (fun j hj => by have := (hown.lt j hj).1; omega)) (p := ⟨pb, 2, none⟩) (Nat.le_refl _) (.slice (some ⟨g', 0, none⟩) (m + 1) cap))
            go_wp2
            go_ret
            rw [HR.out, hRR.out]
            exact ⟨unhide hb1, rfl, unhide hR1⟩
        by_cases hlong : n < i + 4 + l
        · have hRR : Hid (R = none) := by
            show _ = _
            rw [← HP.out]; exact parse_long hi4 (by rw [Hcd.out]; exact h0) (by rw [Hle.out]; simpa using hlong)
          have z0 : (code == 0) = false := beq_eq_false_iff_ne.2 h0
          have z1 : (((n - i : Nat) : Int) < 4 + (l : Int)) := by omega
          clear HP hB3
          go_wp2_with (go_at_call 24; refine (errorf_one F _ 3 (.int .i64 l) 100 false (shape3, digits 8 ((l : Int) % 2 ^ 64).toNat) wc.heap.size (wc.alloc (.cells #[.iface 3 (.int .i64 l)] 20)) htp (fun _ => by kernel_rfl) (op3_100 l) rfl (by simp)).mono ?_; rintro e w3 ⟨⟨v, rfl⟩, hb3⟩)
          go_ret
          rw [HR.out, hRR.out]
          have hbw : Below w.heap.size w w3 := (hI3.below.alloc hI3.below.size _).trans (hb3.mono (by have := hI3.below.size; simp; omega))
          exact ⟨hbw.mono (by omega), ⟨_, rfl⟩, hR.later hbw⟩
        obtain ⟨q, ean, Hq⟩ : ∃ q : Nat, bits .andNot .i64 ((l : Int) + 3) 3 = (q : Int) ∧ q = (l + 3) / 4 * 4 := ⟨(l + 3) / 4 * 4, i64_andNot3 (l + 3) (by omega), rfl⟩
        have hq1 : q ≤ 65540 := by omega
        have HQ := hide Hq
        clear Hq
        have z0 : (code == 0) = false := beq_eq_false_iff_ne.2 h0
        have z1 : ¬ (((n - i : Nat) : Int) < 4 + (l : Int)) := by omega
        have z2 : (4 : Int) + (l : Int) ≤ ((c - i : Nat) : Int) := by omega
        obtain ⟨av, hav, Hav⟩ : ∃ av, (if c - i = 4 then some (⟨g, o + i, none⟩ : Addr) else some ⟨g, o + i + 4, none⟩) = av ∧ Hid (0 < l → av = some ⟨g, o + i + 4, none⟩) := ⟨_, rfl, fun h => by rw [if_neg (by omega)]⟩
        have hI3c2 := hI3.c2
        have hI3c3 := hI3.c3
        have hI3f := hI3.frz
        -- where the next option begins
        obtain ⟨st, an, hst4, hstn, Hst, Han, hmin⟩ : ∃ (st : Nat) (an : Option Addr), 4 ≤ st ∧ st ≤ n - i ∧ Hid (i + st = nextI i l n) ∧ Hid (i + st < n → an = some ⟨g, o + (i + st), none⟩) ∧
            ((¬ ((n - i : Nat) : Int) < 4 + (q : Int) ∧ (4 : Int) + (q : Int) ≤ ((n - i : Nat) : Int) ∧ st = 4 + q ∧ (if c - i = 4 + q then some (⟨g, o + i, none⟩ : Addr) else some ⟨g, o + i + (4 + q), none⟩) = an) ∨
             (((n - i : Nat) : Int) < 4 + (q : Int) ∧ ¬ (4 : Int) + (q : Int) ≤ ((n - i : Nat) : Int) ∧ st = n - i ∧ (if c - i = n - i then some (⟨g, o + i, none⟩ : Addr) else some ⟨g, o + i + (n - i), none⟩) = an)) := by
          have hq := HQ.out
          by_cases hm : n - i < 4 + q
          · refine ⟨n - i, _, by omega, by omega, ?_, ?_, .inr ⟨by omega, by omega, rfl, rfl⟩⟩
            · show _ = _
              unfold nextI; rw [← hq]; omega
            · intro h; omega
          · refine ⟨4 + q, _, by omega, by omega, ?_, ?_, .inl ⟨by omega, by omega, rfl, rfl⟩⟩
            · show _ = _
              unfold nextI; rw [← hq]; omega
            · intro h; rw [if_neg (by omega), Nat.add_assoc]
        by_cases h9 : code = 9 ∧ l = 1
        · obtain ⟨rfl, rfl⟩ := h9
          have ean2 : bits .andNot .i64 (4 : Int) 3 = (q : Int) := by simpa using ean
          have hv0 : Hid (wc.cell? ⟨g, o + i + 4, none⟩ = some (.int .u8 (f (i + 4)))) := hB3.out 4 (by omega)
          have hcv := hv0.out
          have hav2 := Hav.out (by omega)
          rw [hav2] at hav
          have hfb := hf (i + 4)
          clear Hav hB3 hav2
          by_cases hok : unitsOk (f (i + 4)) = true
          · have HP2 : Hid (parse f n true fuel' (i + st) (unitsV (f (i + 4))) d = R) := by
              show _ = _
              rw [← HP.out, parse_units hi4 (by rw [Hle.out]; simpa using hlong) Hcd.out (by rw [Hle.out]; rfl) hok, Hst.out, Hle.out]
              rfl
            have HI4 := hide (hI3.units (unitsV (f (i + 4))))
            clear HP hI3
            rcases hmin with ⟨m1, m2, rfl, han⟩ | ⟨m1, m2, rfl, han⟩
            all_goals
              go_wp2_with (go_at_call 35; refine (stamp_any _ hfb.1 hfb.2 _).mono ?_; rintro e w3 ⟨rfl, hw3⟩; have hw3' := hw3.symm; subst hw3')
              exact ⟨⟨_, fuel', _, _, an, by omega, by omega, by omega, slice_eq (by omega) (by omega), Han, unhide HI4, HP2⟩, by simp [lenOf]; omega⟩
          · have hok' : unitsOk (f (i + 4)) = false := by simpa using hok
            have hRR : Hid (R = none) := by
              show _ = _
              rw [← HP.out, parse_fine hi4 (by rw [Hle.out]; simpa using hlong) Hcd.out (by rw [Hle.out]; rfl) hok']
            clear HP hok
            rcases hmin with ⟨m1, m2, rfl, han⟩ | ⟨m1, m2, rfl, han⟩
            all_goals
              go_wp2_with (first | (go_at_call 35; refine (stamp_any _ hfb.1 hfb.2 _).mono ?_; rintro e w3 ⟨rfl, hw3⟩; have hw3' := hw3.symm; subst hw3') | (go_at_call 24; refine (errorf_one F _ 5 (.int .u8 (f (i + 4))) 120 true (shape5, digits 8 ((f (i + 4)) % 2 ^ 64).toNat) wc.heap.size (wc.alloc (.cells #[.iface 5 (.int .u8 (f (i + 4)))] 20)) htp (fun _ => by kernel_rfl) (op5_120 _) rfl (by simp)).mono ?_; rintro e w3 ⟨⟨v, rfl⟩, hb3⟩))
              go_ret
              rw [HR.out, hRR.out]
              have hbw : Below w.heap.size w w3 := (hI3.below.alloc hI3.below.size _).trans (hb3.mono (by have := hI3.below.size; simp; omega))
              exact ⟨hbw.mono (by omega), ⟨_, rfl⟩, hR.later hbw⟩
        by_cases h14 : code = 14 ∧ l = 8
        · obtain ⟨rfl, rfl⟩ := h14
          have ean2 : bits .andNot .i64 (11 : Int) 3 = (q : Int) := by simpa using ean
          have hav2 := Hav.out (by omega)
          rw [hav2] at hav
          have hB8 : Hid (Bytes wc g (o + i + 4) 8 (fun j => f (i + 4 + j))) := fun j hj => by
            have := hB3.out (4 + j) (by omega)
            show wc.cell? ⟨g, o + i + 4 + j, none⟩ = some (.int .u8 (f (i + 4 + j)))
            rw [show o + i + 4 + j = o + i + (4 + j) by omega, show i + 4 + j = i + (4 + j) by omega]
            exact this
          have q1 : wc.cell? ⟨pb, 1, none⟩ = some (.iface 99 (.agg #[])) := (hI3.below.cell (p := ⟨pb, 1, none⟩) hlt).trans r1
          obtain ⟨x, hx, Hx, hx0, hx1⟩ : ∃ x : Int, getN (fun j => f (i + 4 + j)) 0 8 true = x ∧ Hid (getN f (i + 4) 8 true = x) ∧ 0 ≤ x ∧ x < 18446744073709551616 := ⟨_, rfl, (getN_from f (i + 4) 0 8 true).symm, (get8_bd (fun j => hf _) 0 true).1, (get8_bd (fun j => hf _) 0 true).2⟩
          have hf8 : Byte (fun j => f (i + 4 + j)) := fun j => hf _
          have HP2 : Hid (parse f n true fuel' (i + st) u (toI64 x) = R) := by
            show _ = _
            rw [← HP.out, parse_offset hi4 (by rw [Hle.out]; simpa using hlong) Hcd.out (by rw [Hle.out]; rfl), Hst.out, Hle.out, Hx.out]
            rfl
          have hw64 := wrap64_toI64 x
          clear HP Hav hB3 hav2
          rcases hmin with ⟨m1, m2, rfl, han⟩ | ⟨m1, m2, rfl, han⟩
          all_goals
            go_wp2_with (go_at_call 77; refine (be64_any g (o + i + 4) 8 (c - i - 4) _ hf8 _ hB8 (by omega)).mono ?_; rintro e w3 ⟨rfl, hb3⟩; obtain ⟨hcc, hff⟩ := bcell hb3; have hl3 := hI3.lt)
            have HI4 := hide ((hI3.later hb3).offset (toI64 x))
            exact ⟨⟨_, fuel', _, _, an, by omega, by omega, by omega, slice_eq (by omega) (by omega), Han, unhide HI4, HP2⟩, by simp [lenOf]; omega⟩
        have HP2 : Hid (parse f n true fuel' (i + st) u d = R) := by
          show _ = _
          rw [← HP.out, parse_other hi4 (by rw [Hcd.out]; exact h0) (by rw [Hle.out]; simpa using hlong) (by rw [Hcd.out, Hle.out]; omega) (by rw [Hcd.out, Hle.out]; omega), Hst.out, Hle.out]
          rfl
        clear HP Hav hB3 hI3c2 hI3c3
        have HI4 := hide hI3
        clear hI3
        have hcase : ((code == 9) = false ∧ (code == 14) = false) ∨ (code = 9 ∧ ((l : Int) == 1) = false) ∨ (code = 14 ∧ ((l : Int) == 8) = false) := by
          by_cases e9 : code = 9
          · exact .inr (.inl ⟨e9, beq_eq_false_iff_ne.2 (by omega)⟩)
          · by_cases e14 : code = 14
            · exact .inr (.inr ⟨e14, beq_eq_false_iff_ne.2 (by omega)⟩)
            · exact .inl ⟨beq_eq_false_iff_ne.2 e9, beq_eq_false_iff_ne.2 e14⟩
        clear h9 h14
        rcases hcase with ⟨y1, y2⟩ | ⟨rfl, y1⟩ | ⟨rfl, y1⟩
        all_goals
          rcases hmin with ⟨m1, m2, rfl, han⟩ | ⟨m1, m2, rfl, han⟩
          all_goals
            go_wp2
            try rw [han]
            exact ⟨⟨_, fuel', _, _, an, by omega, by omega, by omega, slice_eq (by omega) (by omega), Han, unhide HI4, HP2⟩, by simp [lenOf]; omega⟩
      · have hRR : Hid (R = some (u, d)) := by
          show _ = _
          rw [← HP.out]; exact parse_end (by omega)
        have z1 : decide ((4 : Int) ≤ ((n - i : Nat) : Int)) = false := decide_eq_false (by omega)
        clear HP Ha
        go_wp2
        have hRx := hR.later hI2.below
        obtain ⟨v, c2, hown⟩ := hRx.ifs
        have f2 := hRx.frz
        have hne := ownBlock_ne hown
        have hltx := hRx.lt
        obtain ⟨i0, hi0, hz0, hz1, hz2⟩ := info_parts info61
        have k0 := hI2.c0
        have k1 := hI2.c1
        have k2 := hI2.c2
        have k3 := hI2.c3
        have hibl := hI2.lt
        have hbw : Below pb w wr := hI2.below.mono (by omega)
        have hown2 : Hid (((wr.alloc (.cells #[.int .u16 (getN f 0 2 true), .int .u32 (getN f 4 4 true), .int .u64 u, .int .i64 d] 61)).drew).ownsRow (pb + 1) 61 4 v m xs) := (hown.alloc _).drew
        have hnews := hide (news1 wr #[.int .u16 (getN f 0 2 true), .int .u32 (getN f 4 4 true), .int .u64 u, .int .i64 d] 61)
        clear hI2 hR
        go_region_law (refine step_append_lies _ (by rfl) _ _ _ (by rfl) (pb + 1) 61 i0 _ 4 24 Ybaf.underlying110 hi0 hz0 hz1 hz2 rfl (by omega) v m xs (by rfl) hown2.out ⟨wr.heap.size, 0, none⟩ 1 1 [.int .u16 (getN f 0 2 true), .int .u32 (getN f 4 4 true), .int .u64 u, .int .i64 d] (by rfl) (by rfl) (unhide hnews) (by simp [Value.oneCell']) (by omega) (by unfold maxLen; omega) (by omega) (by simp; omega) (wr.heap.size + 1) (by simp) ?_; intro g' cap w9 hown1 hgrow hat hltg; have z1 : w9.cell? ⟨pb, 2, none⟩ = some v := (by rw [hgrow.cell_far _ (by simp; omega) hne]; go_keep); have z2 : w9.frozen? ⟨pb, 2, none⟩ = false := (by rw [hgrow.frozen_far _ (by simp; omega) hne]; rw [World.frozen?_drew, frozen?_alloc_cells]; exact f2))
        all_goals
          have hgw : wr.grownBy w9 v.ownBlock := ((World.grownBy_alloc wr _ _).trans (grownBy_drew _ _)).trans hgrow
          have hR1 := hide (hRx.push hne hgw hown1)
          have hb1 := hide (Below.setCell (hbw.grown hgw (by omega) (fun j hj => by have := (hown.lt j hj).1; omega)) (p := ⟨pb, 2, none⟩) (Nat.le_refl _) (.slice (some ⟨g', 0, none⟩) (m + 1) cap))
          go_wp2
          go_ret
          rw [HR.out, hRR.out]
          exact ⟨unhide hb1, rfl, unhide hR1⟩

end Go.Proofs.YbulkbleuFmt
