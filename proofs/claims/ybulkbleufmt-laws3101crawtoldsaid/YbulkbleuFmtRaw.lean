/- LawS3101CRaw: the walk. -/
import Derived.Test.YbulkbleuFmtUse
namespace Go.Proofs.YbulkbleuFmt
open Go.RowKit Go.Extern.Stop Go.Stop Go.Extern

set_option maxRecDepth 100000 in
set_option maxHeartbeats 4000000 in
theorem raw_pos (F : Interp) (g o n cap : Nat) (hn : 0 < n) (hn5 : n ≤ 4096) (f : Nat → Int) (hf : Byte f) (big : Bool) (k : Int) (hk0 : 0 ≤ k) (hk1 : k ≤ 255) (w : World) (hF : F.answers w.tape)
    (hB : Hid (Bytes w g o n f)) (hg : g < w.heap.size) :
    Calls Ybaf.prog 5 #[.slice (some ⟨g, o, none⟩) n cap, .bool big, .int .u8 k] w fun e w' => e = .returned (.bool true) ∧ Below w.heap.size w w' := by
  have hl : ¬ (4096 : Int) < (n : Int) := by omega
  go_enter Ybaf.func5, Ybaf.ntmps5
  go_upto_if 24 with fail
  go_cut [7] (fun s7 wk => ∃ a b c d, s7 = .bool (modelR f n big).isSome ∧ InAt w wk w.heap.size a b c d ∧ Wanted f big (modelR f n big) a b c d)
  case first =>
    by_cases hn8 : n < 8
    · have hl8 : (n : Int) < 8 := by omega
      have hmR : modelR f n big = none := by unfold modelR; rw [if_pos (by omega)]
      have HM := hide hmR
      clear hmR
      go_wp2
      go_meet
      exact ⟨0, 0, 0, 0, by rw [HM.out]; rfl, inAt_new ((Below.refl _ w).alloc (Nat.le_refl _) _) (Nat.le_refl _), fun u' x' e => by rw [HM.out] at e; cases e⟩
    · have hl8 : ¬ (n : Int) < 8 := by omega
      have hn8' : 8 ≤ n := by omega
      have hA := get2_bd hf 0 big
      have hB4 := get4_bd hf 4 big
      have hbw : Hid (Bytes (w.alloc (.cells #[.int .u16 0, .int .u32 0, .int .u64 0, .int .i64 0] 61)) g o n f) := hB.out.below hg ((Below.refl _ w).alloc (Nat.le_refl _) _)
      have hmR : modelR f n big = parse f n big n 8 1000000 0 := by unfold modelR; rw [if_neg (by omega)]
      generalize hRR : parse f n big n 8 1000000 0 = R at hmR
      have HR := hide hRR
      have HM := hide hmR
      clear hRR hmR
      go_wp2_with (go_at_call 18; refine (get_int g o n cap f hf _ _ big _ hbw (by omega) (by omega) (by omega) (by omega) (by omega)).mono ?_; rintro e w3 ⟨rfl, rfl⟩)
      have hI0 := inAt_new (w := w) (w2 := w) (a := getN f 0 2 big) (b := getN f 4 4 big) (c := 1000000) (d := 0) ((Below.refl _ w).alloc (Nat.le_refl _) _) (Nat.le_refl _)
      clear hbw
      generalize hA' : getN f 0 2 big = A at *
      generalize hB' : getN f 4 4 big = B at *
      have HA := hide hA'
      have HB := hide hB'
      clear hA' hB'
      go_loopw [7, 9] (fun s7 s9 wr => s7 = .bool true ∧ ∃ (i fuel : Nat) (u d : Int), 8 ≤ i ∧ i ≤ n ∧ n ≤ fuel + i ∧ s9 = .int .i64 i ∧ InAt w wr w.heap.size A B u d ∧ Hid (parse f n big fuel i u d = R)) (fun _ s9 _ => n - (intOf s9).toNat)
      case atStart => exact ⟨rfl, 8, n, 1000000, 0, by omega, by omega, by omega, rfl, hI0, HR⟩
      case round =>
        obtain ⟨rfl, i, fuel, u, d, hi8, hin, hfu, rfl, hI2, HP⟩ := hrel
        by_cases hi4 : i + 4 ≤ n
        · obtain ⟨fuel', rfl⟩ : ∃ k, fuel = k + 1 := ⟨fuel - 1, by omega⟩
          have hB1 : Hid (Bytes wr g o n f) := hB.out.below hg hI2.below
          obtain ⟨code, hcd, hcd0, hcd1⟩ : ∃ code : Int, getN f i 2 big = code ∧ 0 ≤ code ∧ code < 65536 := ⟨_, rfl, get2_bd hf i big⟩
          obtain ⟨l, hle, hl1⟩ : ∃ l : Nat, getN f (i + 2) 2 big = (l : Int) ∧ l < 65536 := ⟨(getN f (i + 2) 2 big).toNat, by have := get2_bd hf (i + 2) big; omega, by have := get2_bd hf (i + 2) big; omega⟩
          have Hcd := hide hcd
          have Hle := hide hle
          by_cases h0 : code = 0
          · subst h0
            have hRR : Hid (R = some (u, d)) := by
              show _ = _
              rw [← HP.out]; exact parse_stop hi4 Hcd.out
            clear HP
            go_wp2_with (go_at_call 18; refine (get_int g o n cap f hf _ _ big _ hB1 (by omega) (by omega) (by omega) (by omega) (by omega)).mono ?_; rintro e w3 ⟨rfl, rfl⟩)
            go_meet; exact ⟨A, B, u, d, by rw [HM.out, hRR.out]; rfl, hI2, fun u' x' e => by rw [HM.out, hRR.out] at e; simp only [Option.some.injEq, Prod.mk.injEq] at e; exact ⟨HA.out.symm, HB.out.symm, e.1, e.2⟩⟩
          have z0 : (code == 0) = false := beq_eq_false_iff_ne.2 h0
          by_cases hlong : n < i + 4 + l
          · have hRR : Hid (R = none) := by
              show _ = _
              rw [← HP.out]; exact parse_long hi4 (by rw [Hcd.out]; exact h0) (by rw [Hle.out]; simpa using hlong)
            have z1 : ((n : Int) < (i : Int) + 4 + (l : Int)) := by omega
            clear HP
            go_wp2_with (go_at_call 18; refine (get_int g o n cap f hf _ _ big _ hB1 (by omega) (by omega) (by omega) (by omega) (by omega)).mono ?_; rintro e w3 ⟨rfl, rfl⟩)
            go_meet; exact ⟨A, B, u, d, by rw [HM.out, hRR.out]; rfl, hI2, fun u' x' e => by rw [HM.out, hRR.out] at e; cases e⟩
          have z1 : ¬ ((n : Int) < (i : Int) + 4 + (l : Int)) := by omega
          obtain ⟨q, hq, Hq⟩ : ∃ q : Nat, ((l : Int) + 3) / 4 * 4 = (q : Int) ∧ q = (l + 3) / 4 * 4 := ⟨(l + 3) / 4 * 4, by omega, rfl⟩
          have HQ := hide Hq
          have hq1 : q ≤ 65540 := by omega
          clear Hq
          obtain ⟨nx, hnx4, hnxn, Hnx, hmin⟩ : ∃ nx : Nat, i + 4 ≤ nx ∧ nx ≤ n ∧ Hid (nx = nextI i l n) ∧ (((n : Int) < (i : Int) + 4 + (q : Int) ∧ n = nx) ∨ (¬ (n : Int) < (i : Int) + 4 + (q : Int) ∧ i + 4 + q = nx)) := by
            have hq := HQ.out
            by_cases hm : n < i + 4 + q
            · exact ⟨n, by omega, by omega, (show _ = _ by unfold nextI; rw [← hq]; omega), .inl ⟨by omega, rfl⟩⟩
            · exact ⟨i + 4 + q, by omega, by omega, (show _ = _ by unfold nextI; rw [← hq]; omega), .inr ⟨by omega, rfl⟩⟩
          by_cases h9 : code = 9 ∧ l = 1
          · obtain ⟨rfl, rfl⟩ := h9
            have hcv := hB1.out (i + 4) (by omega)
            have hfb := hf (i + 4)
            have hin4 : (i : Int) + 4 < (n : Int) := by omega
            by_cases hok : unitsOk (f (i + 4)) = true
            · have HP2 : Hid (parse f n big fuel' nx (unitsV (f (i + 4))) d = R) := by
                show _ = _
                rw [← HP.out, parse_units hi4 (by rw [Hle.out]; simpa using hlong) Hcd.out (by rw [Hle.out]; rfl) hok, Hnx.out, Hle.out]
                rfl
              have c2 := hI2.c2
              have f2 := hI2.frz 2
              have HI4 := hide (hI2.units (unitsV (f (i + 4))))
              clear HP
              rcases hmin with ⟨m1, rfl⟩ | ⟨m1, rfl⟩
              all_goals
                go_wp2_with (first | (go_at_call 18; refine (get_int g o n cap f hf _ _ big _ hB1 (by omega) (by omega) (by omega) (by omega) (by omega)).mono ?_; rintro e w3 ⟨rfl, rfl⟩) | (go_at_call 19; refine (units_any' _ hfb.1 hfb.2 _).mono ?_; rintro e w3 ⟨rfl, rfl⟩))
                exact ⟨⟨rfl, _, fuel', _, _, by omega, by omega, by omega, by first | rfl | go_num, unhide HI4, HP2⟩, by simp [intOf]; omega⟩
            · have hok' : unitsOk (f (i + 4)) = false := by simpa using hok
              have hRR : Hid (R = none) := by
                show _ = _
                rw [← HP.out, parse_fine hi4 (by rw [Hle.out]; simpa using hlong) Hcd.out (by rw [Hle.out]; rfl) hok']
              clear HP hok
              rcases hmin with ⟨m1, rfl⟩ | ⟨m1, rfl⟩
              all_goals
                go_wp2_with (first | (go_at_call 18; refine (get_int g o n cap f hf _ _ big _ hB1 (by omega) (by omega) (by omega) (by omega) (by omega)).mono ?_; rintro e w3 ⟨rfl, rfl⟩) | (go_at_call 19; refine (units_any' _ hfb.1 hfb.2 _).mono ?_; rintro e w3 ⟨rfl, rfl⟩))
                go_meet; exact ⟨A, B, u, d, by rw [HM.out, hRR.out]; rfl, hI2, fun u' x' e => by rw [HM.out, hRR.out] at e; cases e⟩
          by_cases h14 : code = 14 ∧ l = 8
          · obtain ⟨rfl, rfl⟩ := h14
            obtain ⟨x, hx, hx0, hx1⟩ : ∃ x : Int, getN f (i + 4) 8 big = x ∧ 0 ≤ x ∧ x < 18446744073709551616 := ⟨_, rfl, get8_bd hf (i + 4) big⟩
            have HP2 : Hid (parse f n big fuel' nx u (toI64 x) = R) := by
              show _ = _
              rw [← HP.out, parse_offset hi4 (by rw [Hle.out]; simpa using hlong) Hcd.out (by rw [Hle.out]; rfl), Hnx.out, Hle.out, hx]
              rfl
            have hw64 := wrap64_toI64 x
            have c3 := hI2.c3
            have f3 := hI2.frz 3
            have HI4 := hide (hI2.offset (toI64 x))
            clear HP
            rcases hmin with ⟨m1, rfl⟩ | ⟨m1, rfl⟩
            all_goals go_wp2_with (go_at_call 18; refine (get_int g o n cap f hf _ _ big _ hB1 (by omega) (by omega) (by omega) (by omega) (by omega)).mono ?_; rintro e w3 ⟨rfl, rfl⟩)
            all_goals exact ⟨⟨rfl, _, fuel', _, _, by omega, by omega, by omega, by first | rfl | go_num, unhide HI4, HP2⟩, by simp [intOf]; omega⟩
          have HP2 : Hid (parse f n big fuel' nx u d = R) := by
            show _ = _
            rw [← HP.out, parse_other hi4 (by rw [Hcd.out]; exact h0) (by rw [Hle.out]; simpa using hlong) (by rw [Hcd.out, Hle.out]; omega) (by rw [Hcd.out, Hle.out]; omega), Hnx.out, Hle.out]
            rfl
          clear HP
          have hcase : ((code == 9) = false ∧ (code == 14) = false) ∨ (code = 9 ∧ ((l : Int) == 1) = false) ∨ (code = 14 ∧ ((l : Int) == 8) = false) := by
            by_cases e9 : code = 9
            · exact .inr (.inl ⟨e9, beq_eq_false_iff_ne.2 (by omega)⟩)
            · by_cases e14 : code = 14
              · exact .inr (.inr ⟨e14, beq_eq_false_iff_ne.2 (by omega)⟩)
              · exact .inl ⟨beq_eq_false_iff_ne.2 e9, beq_eq_false_iff_ne.2 e14⟩
          clear h9 h14
          rcases hcase with ⟨y1, y2⟩ | ⟨rfl, y1⟩ | ⟨rfl, y1⟩
          all_goals
            rcases hmin with ⟨m1, rfl⟩ | ⟨m1, rfl⟩
            all_goals
              go_wp2_with (go_at_call 18; refine (get_int g o n cap f hf _ _ big _ hB1 (by omega) (by omega) (by omega) (by omega) (by omega)).mono ?_; rintro e w3 ⟨rfl, rfl⟩)
              exact ⟨⟨rfl, _, fuel', _, _, by omega, by omega, by omega, by first | rfl | go_num, hI2, HP2⟩, by simp [intOf]; omega⟩
        · have hRR : Hid (R = some (u, d)) := by
            show _ = _
            rw [← HP.out]; exact parse_end (by omega)
          have z1 : decide ((4 : Int) ≤ (n : Int) - (i : Int)) = false := decide_eq_false (by omega)
          clear HP
          go_wp2
          go_meet; exact ⟨A, B, u, d, by rw [HM.out, hRR.out]; rfl, hI2, fun u' x' e => by rw [HM.out, hRR.out] at e; simp only [Option.some.injEq, Prod.mk.injEq] at e; exact ⟨HA.out.symm, HB.out.symm, e.1, e.2⟩⟩
  case rest =>
    obtain ⟨a, b, c, d, rfl, hI, hW⟩ := hcut
    generalize hRR : modelR f n big = R at *
    have HR := hide hRR
    clear hRR
    have hmk := run_bytes wc n (by omega)
    have hm3 : (k % 4).toNat ≤ 3 := by omega
    go_upto_region 27 with fail
    clear hmk
    have hcb : (wc.alloc (.cells (madeCells #[.int .u8 0] n) 5)).heap[wc.heap.size]? = some (.cells (madeCells #[.int .u8 0] n).toList.toArray 5 (0, 0)) := by
      have := heap_alloc_new wc (.cells (madeCells #[.int .u8 0] n) 5)
      simpa using this
    have Hcb := hide hcb
    clear hcb
    have hBc : Hid (Bytes (wc.alloc (.cells (madeCells #[.int .u8 0] n) 5)) g o n f) := hB.out.below hg (hI.below.alloc hI.below.size _)
    have hlenC : (madeCells #[Value.int .u8 0] n).toList.length = n := by simp [size_madeCells]
    have HlenC := hide hlenC
    clear hlenC
    go_wp2_with ((with_reducible show wpList _ _ _ ({ dst := some 109, op := _, type := _, pos := _, after := _, guard := _ } :: _) _ _); refine wpList_copy_splice (by rfl) (.tmp 107) (.tmp 108) 24 24 (by rfl) 5 Ybaf.underlying24 infoB1 (some ⟨wc.heap.size, 0, none⟩) (some ⟨g, o, none⟩) n n n cap (by rfl) (by rfl) wc.heap.size 0 (madeCells #[.int .u8 0] n).toList 5 Hcb.out (byteCells f n) (by rw [byteCells_len]; exact (Nat.min_self n).symm) (fun _ => ⟨rfl, _, rfl, hBc.out.src⟩) (by rw [byteCells_len, HlenC.out]; omega) (byteCells_one f n) wc.heap.size wc ((Below.refl _ _).alloc (Nat.le_refl _) _) (Nat.le_refl _) ?_; intro w2 Hrow hb2)
    have hB2 : Hid (Bytes w2 wc.heap.size 0 n f) := Bytes.of_block Hrow.out (fun i hi => by
      simp only [splice, List.take_zero, List.nil_append]
      rw [List.getElem?_append_left (by rw [byteCells_len]; exact hi)]
      exact byteCells_get f n hi)
    have hlt2 : wc.heap.size < w2.heap.size := (Array.getElem?_eq_some_iff.1 Hrow.out).1
    have hI2 := hI.later hb2
    have hB2' : Hid (Bytes w2 g o n f) := hB.out.below hg hI2.below
    clear Hrow Hcb hBc HlenC hI hB
    refine (reader_any big k hk0 hk1 _).mono ?_
    rintro e w3 ⟨rfl, hb3, hR3⟩
    have hI3 := hI2.later hb3
    have hB3 : Hid (Bytes w3 wc.heap.size 0 n f) := hB2.out.below hlt2 hb3
    have hB3' : Hid (Bytes w3 g o n f) := hB2'.out.below (Nat.lt_of_lt_of_le hg hI2.below.size) hb3
    have hF3 : F.answers w3.tape := by rw [hI3.below.tape]; exact hF
    go_wp2_with fail
    refine (desc_any F w2.heap.size wc.heap.size 0 n n (Nat.le_refl _) (by omega) f hf big (k % 4).toNat (priors (k % 4).toNat) w3 hF3 hB3 hlt2 (by omega) hR3).mono ?_
    rintro e w4 hD
    rw [HR.out] at hD
    obtain ⟨ev, rfl, hb4, hE⟩ := hD.ret
    have hI4s : w.heap.size < w2.heap.size := Nat.lt_of_lt_of_le hI2.lt (Nat.le_refl _)
    have hB4 : Hid (Bytes w4 wc.heap.size 0 n f) := hB3.out.below hlt2 hb4
    have hB4' : Hid (Bytes w4 g o n f) := hB3'.out.below (by omega) hb4
    have hcell : ∀ j, w4.cell? ⟨w.heap.size, j, none⟩ = w3.cell? ⟨w.heap.size, j, none⟩ := fun j => hb4.cell (p := ⟨w.heap.size, j, none⟩) hI4s
    have k0 := (hcell 0).trans hI3.c0
    have k1 := (hcell 1).trans hI3.c1
    have k2 := (hcell 2).trans hI3.c2
    have k3 := (hcell 3).trans hI3.c3
    have hbw : Below w.heap.size w w4 := hI3.below.trans (hb4.mono (by omega))
    have hs4 : w2.heap.size < w4.heap.size := Nat.lt_of_lt_of_le hR3.lt hb4.size
    clear hcell hD hb4 hb3 hb2 hB2 hB2' hB3 hB3' hI2 hI3 hR3 hF3
    go_wp2
    go_loopw [18] (fun s wr => ∃ i : Nat, i ≤ n ∧ s = .int .i64 i ∧ ∃ j, wr = w4.drewN j) (fun s _ => n - (intOf s).toNat)
    case atStart => exact ⟨0, by omega, rfl, 0, rfl⟩
    case round =>
      obtain ⟨i, hin, rfl, j, rfl⟩ := hrel
      by_cases hlt : i < n
      · have ci : w4.cell? ⟨wc.heap.size, i, none⟩ = some (.int .u8 (f i)) := by
          have := hB4.out i hlt
          rw [Nat.zero_add] at this
          exact this
        have bi : w4.cell? ⟨g, o + i, none⟩ = some (.int .u8 (f i)) := hB4'.out i hlt
        have hil : (i : Int) < (n : Int) := by omega
        have hi0 : (0 : Int) ≤ (i : Int) := by omega
        go_wp2
        go_quiet (fail)
        go_wp2
        exact ⟨⟨i + 1, by omega, by go_num, _, rfl⟩, by simp [intOf]; omega⟩
      · have q0 : w4.cell? ⟨w.heap.size, 0, none⟩ = some (.int .u16 a) := k0
        have q1 : w4.cell? ⟨w.heap.size, 1, none⟩ = some (.int .u32 b) := k1
        have q2 : w4.cell? ⟨w.heap.size, 2, none⟩ = some (.int .u64 c) := k2
        have q3 : w4.cell? ⟨w.heap.size, 3, none⟩ = some (.int .i64 d) := k3
        go_wp2_with fail
        refine (check_any w2.heap.size (ordT big) k hk0 hk1 R ev (getN f 0 2 big) (getN f 4 4 big) a b c d (w4.drewN j) hW (hE.drewN j)).mono ?_
        rintro e w5 ⟨rfl, hb5⟩
        go_wp2
        go_ret
        exact ⟨rfl, (below_drewN hbw j).trans (hb5.mono (below_drewN hbw j).size)⟩

set_option maxRecDepth 100000 in
set_option maxHeartbeats 1000000 in
theorem raw_zero (F : Interp) (ao : Option Addr) (n cap : Nat) (hn0 : Hid (n = 0)) (hn5 : n ≤ 4096) (f : Nat → Int) (hf : Byte f) (big : Bool) (k : Int) (hk0 : 0 ≤ k) (hk1 : k ≤ 255) (w : World) (hF : F.answers w.tape) :
    Calls Ybaf.prog 5 #[.slice ao n cap, .bool big, .int .u8 k] w fun e w' => e = .returned (.bool true) ∧ Below w.heap.size w w' := by
  have hl : ¬ (4096 : Int) < (n : Int) := by omega
  go_enter Ybaf.func5, Ybaf.ntmps5
  go_upto_if 24 with fail
  go_cut [7] (fun s7 wk => ∃ a b c d, s7 = .bool (modelR f n big).isSome ∧ InAt w wk w.heap.size a b c d ∧ Wanted f big (modelR f n big) a b c d)
  case first =>
    have hl8 : (n : Int) < 8 := by have := hn0.out; omega
    have hmR : modelR f n big = none := by unfold modelR; rw [if_pos (by have := hn0.out; omega)]
    have HM := hide hmR
    clear hmR
    go_wp2
    go_meet
    exact ⟨0, 0, 0, 0, by rw [HM.out]; rfl, inAt_new ((Below.refl _ w).alloc (Nat.le_refl _) _) (Nat.le_refl _), fun u' x' e => by rw [HM.out] at e; cases e⟩
  case rest =>
    obtain ⟨a, b, c, d, rfl, hI, hW⟩ := hcut
    generalize hRR : modelR f n big = R at *
    have HR := hide hRR
    clear hRR
    have hmk := run_bytes wc n (by omega)
    have hm3 : (k % 4).toNat ≤ 3 := by omega
    go_upto_region 27 with fail
    clear hmk
    have hcb : (wc.alloc (.cells (madeCells #[.int .u8 0] n) 5)).heap[wc.heap.size]? = some (.cells (madeCells #[.int .u8 0] n).toList.toArray 5 (0, 0)) := by
      have := heap_alloc_new wc (.cells (madeCells #[.int .u8 0] n) 5)
      simpa using this
    have Hcb := hide hcb
    clear hcb
    have hlenC : (madeCells #[Value.int .u8 0] n).toList.length = n := by simp [size_madeCells]
    have HlenC := hide hlenC
    clear hlenC
    go_wp2_with ((with_reducible show wpList _ _ _ ({ dst := some 109, op := _, type := _, pos := _, after := _, guard := _ } :: _) _ _); refine wpList_copy_splice (by rfl) (.tmp 107) (.tmp 108) 24 24 (by rfl) 5 Ybaf.underlying24 infoB1 (some ⟨wc.heap.size, 0, none⟩) ao n n n cap (by rfl) (by rfl) wc.heap.size 0 (madeCells #[.int .u8 0] n).toList 5 Hcb.out (byteCells f n) (by rw [byteCells_len]; exact (Nat.min_self n).symm) (fun h => by rw [byteCells_len, hn0.out] at h; omega) (by rw [byteCells_len, HlenC.out]; omega) (byteCells_one f n) wc.heap.size wc ((Below.refl _ _).alloc (Nat.le_refl _) _) (Nat.le_refl _) ?_; intro w2 Hrow hb2)
    have hB2 : Hid (Bytes w2 wc.heap.size 0 n f) := Bytes.of_block Hrow.out (fun i hi => by
      simp only [splice, List.take_zero, List.nil_append]
      rw [List.getElem?_append_left (by rw [byteCells_len]; exact hi)]
      exact byteCells_get f n hi)
    have hlt2 : wc.heap.size < w2.heap.size := (Array.getElem?_eq_some_iff.1 Hrow.out).1
    have hI2 := hI.later hb2
    clear Hrow Hcb HlenC hI
    refine (reader_any big k hk0 hk1 _).mono ?_
    rintro e w3 ⟨rfl, hb3, hR3⟩
    have hI3 := hI2.later hb3
    have hB3 : Hid (Bytes w3 wc.heap.size 0 n f) := hB2.out.below hlt2 hb3
    have hF3 : F.answers w3.tape := by rw [hI3.below.tape]; exact hF
    go_wp2_with fail
    refine (desc_any F w2.heap.size wc.heap.size 0 n n (Nat.le_refl _) (by omega) f hf big (k % 4).toNat (priors (k % 4).toNat) w3 hF3 hB3 hlt2 (by omega) hR3).mono ?_
    rintro e w4 hD
    rw [HR.out] at hD
    obtain ⟨ev, rfl, hb4, hE⟩ := hD.ret
    have hI4s : w.heap.size < w2.heap.size := Nat.lt_of_lt_of_le hI2.lt (Nat.le_refl _)
    have hB4 : Hid (Bytes w4 wc.heap.size 0 n f) := hB3.out.below hlt2 hb4
    have hcell : ∀ j, w4.cell? ⟨w.heap.size, j, none⟩ = w3.cell? ⟨w.heap.size, j, none⟩ := fun j => hb4.cell (p := ⟨w.heap.size, j, none⟩) hI4s
    have k0 := (hcell 0).trans hI3.c0
    have k1 := (hcell 1).trans hI3.c1
    have k2 := (hcell 2).trans hI3.c2
    have k3 := (hcell 3).trans hI3.c3
    have hbw : Below w.heap.size w w4 := hI3.below.trans (hb4.mono (by omega))
    have hs4 : w2.heap.size < w4.heap.size := Nat.lt_of_lt_of_le hR3.lt hb4.size
    clear hcell hD hb4 hb3 hb2 hB2 hB3 hI2 hI3 hR3 hF3
    go_wp2
    go_loopw [18] (fun s wr => ∃ i : Nat, i ≤ n ∧ s = .int .i64 i ∧ ∃ j, wr = w4.drewN j) (fun s _ => n - (intOf s).toNat)
    case atStart => exact ⟨0, by omega, rfl, 0, rfl⟩
    case round =>
      obtain ⟨i, hin, rfl, j, rfl⟩ := hrel
      by_cases hlt : i < n
      · exact absurd hlt (by rw [hn0.out]; omega)
      · have q0 : w4.cell? ⟨w.heap.size, 0, none⟩ = some (.int .u16 a) := k0
        have q1 : w4.cell? ⟨w.heap.size, 1, none⟩ = some (.int .u32 b) := k1
        have q2 : w4.cell? ⟨w.heap.size, 2, none⟩ = some (.int .u64 c) := k2
        have q3 : w4.cell? ⟨w.heap.size, 3, none⟩ = some (.int .i64 d) := k3
        go_wp2_with fail
        refine (check_any w2.heap.size (ordT big) k hk0 hk1 R ev (getN f 0 2 big) (getN f 4 4 big) a b c d (w4.drewN j) hW (hE.drewN j)).mono ?_
        rintro e w5 ⟨rfl, hb5⟩
        go_wp2
        go_ret
        exact ⟨rfl, (below_drewN hbw j).trans (hb5.mono (below_drewN hbw j).size)⟩

/-- Of more than 4096 bytes the law returns at once. -/
theorem raw_long (ao : Option Addr) (n cap : Nat) (hn : 4096 < n) (big : Bool) (k : Int) (w : World) :
    Calls Ybaf.prog 5 #[.slice ao n cap, .bool big, .int .u8 k] w fun e w' => e = .returned (.bool true) ∧ Below w.heap.size w w' := by
  have hl : (4096 : Int) < (n : Int) := by omega
  go_enter Ybaf.func5, Ybaf.ntmps5
  go_wp2
  go_ret
  exact ⟨rfl, Below.refl _ _⟩

/-- What the walk is told of a slice of bytes that came in. -/
def IsBytes (w : World) (a : Option Addr) (n : Nat) : Prop := n = 0 ∨ ∃ g o f, a = some ⟨g, o, none⟩ ∧ g < w.heap.size ∧ Byte f ∧ Bytes w g o n f

theorem raw_any (F : Interp) (a : Option Addr) (n cap : Nat) (big : Bool) (k : Int) (hk0 : 0 ≤ k) (hk1 : k ≤ 255) (w : World) (hF : F.answers w.tape) (h : IsBytes w a n) :
    Calls Ybaf.prog 5 #[.slice a n cap, .bool big, .int .u8 k] w fun e w' => e = .returned (.bool true) ∧ Below w.heap.size w w' := by
  by_cases hn : n ≤ 4096
  · rcases h with h0 | ⟨g, o, f, rfl, hg, hf, hB⟩
    · exact raw_zero F a n cap h0 hn (fun _ => 0) (fun _ => ⟨Int.le_refl _, (by decide : (0 : Int) ≤ 255)⟩) big k hk0 hk1 w hF
    · rcases Nat.eq_zero_or_pos n with h0 | h0
      · exact raw_zero F _ n cap h0 hn (fun _ => 0) (fun _ => ⟨Int.le_refl _, (by decide : (0 : Int) ≤ 255)⟩) big k hk0 hk1 w hF
      · exact raw_pos F g o n cap h0 hn f hf big k hk0 hk1 w hF hB hg
  · exact raw_long a n cap (by omega) big k w

end Go.Proofs.YbulkbleuFmt
