/- LawS3101BFailingWriter: the law's own walk. -/
import Derived.Test.YbulkbleuFmtFw0
import Derived.Deep.DeepMust
namespace Go.Proofs.YbulkbleuFmt.B
open Go.RowKit Go.Maps Go.Extern.Stop Go.Stop Go.Extern
theorem neq30 (w : World) (a : Addr) : (binOp .neq 30 (.iface 102 (.pointer (some a))) (.iface 102 (.pointer (some a)))).run Ybaf.prog w = .ok (.bool false) w := by
  obtain ⟨i, hi, hcmp⟩ := Option.map_eq_some_iff.1 isComp
  obtain ⟨j, hj, hjs⟩ := Option.map_eq_some_iff.1 isSize
  simp only [binOp]
  simp [Op.equal, Op.maxDepth, run_equalIn_iface_ptr_same w 9998 a Ybaf.underlying30 Ybaf.underlying102 hi hcmp hj]

theorem Ans.zero {w' : World} {a : Addr} {ev : Value} {c1 j : Nat} {e : Ending} (h : Ans w' a ev c1 j e) (h0 : c1 = 0) : ∃ qb, e = .returned (.iface 119 (.pointer (some ⟨qb, 0, none⟩))) ∧ w'.cell? ⟨qb, 1, none⟩ = some (.iface 102 (.pointer (some a))) := by
  rcases h with ⟨_, h⟩ | ⟨h, _⟩ | ⟨h, _⟩
  · exact h
  · omega
  · omega
theorem Ans.takes {w' : World} {a : Addr} {ev : Value} {c1 j : Nat} {e : Ending} (h : Ans w' a ev c1 j e) (h0 : j < c1) : e = .returned .nilIface := by
  rcases h with ⟨_, h⟩ | ⟨_, _, h⟩ | ⟨_, _, h⟩
  · omega
  · exact h
  · omega
theorem Ans.errs {w' : World} {a : Addr} {ev : Value} {c1 j : Nat} {e : Ending} (h : Ans w' a ev c1 j e) (h0 : 0 < c1) (h1 : c1 ≤ j) : e = .returned (.iface 102 ev) := by
  rcases h with ⟨_, h⟩ | ⟨_, _, h⟩ | ⟨_, _, h⟩
  · omega
  · omega
  · exact h
theorem key_wf {tn : Nat} (h : tn < 65536) : (K tn).wf = true := by simp [Lit.wf, IntKind.min, IntKind.max, IntKind.signed, IntKind.bits]; omega

set_option maxRecDepth 100000 in
set_option maxHeartbeats 1000000 in
theorem fw_any {F : Interp} (W : World) (x nr ml sd : Int) (x0 : 0 ≤ x) (x1 : x < 65536) (nr0 : 0 ≤ nr) (nr1 : nr < 65536) (ml0 : 0 ≤ ml) (ml1 : ml < 65536) (sd0 : 0 ≤ sd) (sd1 : sd ≤ 255) (a b : Option Addr) (n ca m cb : Nat) (ha : Hid (IsWords W a n)) (hb : Hid (IsOctets W b m)) (a0 : Addr) (tx : ByteArray)
    (g0 : W.cell? ⟨0, 0, none⟩ = some (.iface 102 (.pointer (some a0)))) (hat : W.cell? a0 = some (.string tx)) (ht : F.answers W.tape) :
    Calls Ybaf.prog 4 #[.int .u16 x, .slice a n ca, .slice b m cb, .int .u16 nr, .int .u16 ml, .int .u8 sd] W fun e w' => e = .returned (.bool true) ∧ Below W.heap.size W w' := by
  obtain ⟨tn, htn, ht0, ht1⟩ : ∃ tn : Nat, 256 + x % 1000 = tn ∧ 256 ≤ tn ∧ tn < 65536 := ⟨(256 + x % 1000).toNat, by omega, by omega, by omega⟩
  obtain ⟨N, hN, hN1⟩ : ∃ N : Nat, nr % 300 = N ∧ N < 300 := ⟨(nr % 300).toNat, by omega, by omega⟩
  obtain ⟨mx, hmx, hmx0, hmx1⟩ : ∃ mx : Nat, 40 + ml % 512 = mx ∧ 40 ≤ mx ∧ mx < 552 := ⟨(40 + ml % 512).toNat, by omega, by omega, by omega⟩
  have hW0 : 0 < W.heap.size := World.block_lt_of_cell? _ _ g0
  have hWa : a0.block < W.heap.size := World.block_lt_of_cell? _ _ hat
  go_enter Ybaf.func4, Ybaf.ntmps4
  go_upto_if 57 with (first
    | (go_at_call 7; go_must (refine (fields_any a b n ca m cb _ ha hb).mono ?_); rintro e w1 ⟨fs, hfw, hk1, hk4, rfl, hb1, hz1, hF1⟩; have HF := hide hF1; have HW := hide hfw)
    | (go_at_call 8; go_must (refine (template_any W.heap.size tn fs _ HF HW hk1 hk4 hz1).mono ?_); rintro e w2 ⟨rfl, hb2, hz2, hT2⟩; have hbd := sumL_bd fs hfw; obtain ⟨R, hR⟩ : ∃ R : Nat, sumL fs = R := ⟨(sumL fs).toNat, by omega⟩)
    | (go_at_call 9; go_must (refine (sizes_any W.heap.size fs.length fs _ (hide hT2.fs) HW hk4).mono ?_); rintro e w3 ⟨rfl, rfl⟩))
  rw [hR] at hbd
  have HR := hide hR
  obtain ⟨c1, hc1⟩ : ∃ c1 : Nat, c1 = (mx - (24 + (4 + 4 * fs.length))) / R := ⟨_, rfl⟩
  have HC := hide hc1
  have c1b : c1 ≤ 552 := by rw [hc1]; exact Nat.le_trans (Nat.div_le_self _ _) (by omega)
  clear hc1
  go_cut [20] (fun s20 wk => s20 = .int .i64 c1 ∧ w2 = wk)
  case first =>
    by_cases hge : R ≤ (mx : Int) - 24 - (4 + 4 * fs.length)
    · have hq : Int.tdiv ((mx : Int) - 24 - (4 + 4 * fs.length)) R = c1 := by
        rw [HC.out, show (mx : Int) - 24 - (4 + 4 * fs.length) = ((mx - (24 + (4 + 4 * fs.length)) : Nat) : Int) by omega]
        simp
      have hne : ¬ (R : Int) = 0 := by omega
      go_wp2
      go_meet
      exact ⟨rfl, rfl⟩
    · have h0 : c1 = 0 := by
        rw [HC.out]
        exact Nat.div_eq_of_lt (by omega)
      subst h0
      go_wp2
      go_meet
      exact ⟨rfl, rfl⟩
  case rest =>
    obtain ⟨rfl, rfl⟩ := hcut
    go_wp2_with (first
      | (go_at_call 17; go_must (refine (new_any _ _).mono ?_); rintro e w3 ⟨rfl, rfl⟩)
      | (go_at_call 10; go_must (refine (newWriter_any _ _ mx _ (by omega) (by omega)).mono ?_); rintro e w3 ⟨rfl, rfl⟩))
    have hsz : (w2.alloc (.cells #[.string { data := #[122, 122, 32, 119, 114, 105, 116, 101, 32, 102, 97, 105, 108, 115] }] 104)).heap.size = w2.heap.size + 1 := by simp
    have hM := made_any (w2.alloc (.cells #[.string { data := #[122, 122, 32, 119, 114, 105, 116, 101, 32, 102, 97, 105, 108, 115] }] 104)) #[.slice none 0 0, .int .i64 0, .iface 102 (.pointer (some ⟨w2.heap.size, 0, none⟩))] 0 mx
    unfold madeW at hM
    rw [hsz] at hM
    have hb3 : Below w2.heap.size w2 (w2.alloc (.cells #[.string { data := #[122, 122, 32, 119, 114, 105, 116, 101, 32, 102, 97, 105, 108, 115] }] 104)) := (Below.refl _ w2).alloc (Nat.le_refl _) _
    generalize newWriterW _ _ _ _ = w5 at *
    generalize (w2.alloc (.cells #[.string { data := #[122, 122, 32, 119, 114, 105, 116, 101, 32, 102, 97, 105, 108, 115] }] 104)) = w3 at *
    have hbW3 : Below W.heap.size W w3 := (hb1.trans (hb2.mono (by omega))).trans (hb3.mono (by omega))
    have hT3 : Tpl w3 w1.heap.size W.heap.size tn fs := by
      have hc : ∀ j, w3.cell? ⟨w1.heap.size, j, none⟩ = w2.cell? ⟨w1.heap.size, j, none⟩ := fun j => hb3.cell (p := ⟨w1.heap.size, j, none⟩) hz2
      exact ⟨(hc 0).trans hT2.c0, (hc 1).trans hT2.c1, (hc 2).trans hT2.c2, hT2.fs.below (by omega) hb3⟩
    have hE := env_made (F := F) (a := a0) (tx := tx) hM hT3 hz1 (by omega) hW0 hWa ((hbW3.cell (p := ⟨0, 0, none⟩) hW0).trans g0) ((hbW3.cell (p := a0) hWa).trans hat) (by rw [hbW3.tape]; exact ht)
    have hS := st_made (tb := w1.heap.size) (T := 4 + 4 * fs.length) (r := R) (c1 := c1) (tid := tn) hM (by omega) (by omega)
    rw [hsz] at hE hS
    have hbW5 : Below W.heap.size W w5 := hbW3.trans (hM.below.mono (by rw [hsz]; omega))
    have h5 : w2.heap.size + 4 < w5.heap.size := by have := hM.size; omega
    have hWl : W.heap.size < w2.heap.size := by omega
    clear hM hT3 hb3 hsz hbW3 hT2 hb2 hz2
    generalize hE0 : w2.heap.size = E at *
    have hF5 : Far w5 w5 (E + 1 + 3) (E + 1 + 2) (E + 1) := ⟨Nat.le_refl _, fun _ _ _ _ => rfl, fun _ _ => rfl, fun _ _ => rfl, fun _ => rfl, rfl, rfl, rfl⟩
    go_loopw [24] (fun s24 wr => ∃ j : Nat, j ≤ N ∧ s24 = .int .i64 j ∧ Far w5 wr (E + 1 + 3) (E + 1 + 2) (E + 1) ∧ St wr (E + 1 + 3) (E + 1 + 2) (E + 1) w1.heap.size (4 + 4 * fs.length) R tn c1 j) (fun s24 _ => N - (intOf s24).toNat)
    case atStart => exact ⟨0, by omega, rfl, hF5, hS⟩
    case round =>
      obtain ⟨j, hj, rfl, hFr, hSr⟩ := hrel
      clear hS hF5
      have hEr := hE.far hFr
      have hszr := hFr.size
      by_cases hjN : j < N
      · have hFs : Hid (FsAt wr W.heap.size fs) := hide hEr.tpl.fs
        have hil : (j : Int) < (N : Int) := by omega
        rcases (by omega : c1 = 0 ∨ j < c1 ∨ (0 < c1 ∧ c1 ≤ j)) with h0 | h0 | ⟨h0, h1⟩
        · have HZ := hide h0
          have hz0 : ((c1 : Int) == 0) = true := by simp [h0]
          clear h0
          go_wp2_with (first
            | (go_at_call 12; go_must (refine (values_any W.heap.size fs.length fs j sd _ hFs HW hk4 (by omega) (by omega) sd0 sd1).mono ?_); rintro e w6 ⟨rfl, hb6, hz6, hV6⟩; have hE6 := hEr.far (Far.below hb6 (by omega) (by omega) (by omega)); have hS6 := hSr.below hb6 (by omega) (by omega); have hfl := fits_flat fs (valRows (sd + j * 31) 0 fs) (valRows_fits _ _ _ HW.out) HW.out)
            | (go_at_call 11; go_must (refine (rec_any (c := fs.length) hE6 hS6 (valRows (sd + j * 31) 0 fs) (key_wf ht1) HW hk4 (by omega) (by omega) hV6.inside (Nat.le_refl _) hz6 (by omega) (hide (valRows_fits _ _ _ HW.out)) (by rw [HR.out] at hfl; omega) (fun g n cap hc => hSr.buf g n cap ((hb6.cell (p := ⟨E + 1 + 2, 7, none⟩) (by show E + 1 + 2 < _; omega)).symm.trans hc)) (by omega) HC.out (by omega) hmx0 (by omega)).mono ?_); rintro e w7 ⟨hF7, hS7, hA7⟩; obtain ⟨qb, rfl, hq7⟩ := hA7.zero HZ.out; have hE7 := hE6.far hF7; have gg := hE7.g0)
            | (go_at_call 13; go_must (refine (is_wrap qb a0 _ hq7).mono ?_); rintro e w8 ⟨rfl, rfl⟩))
          exact ⟨⟨j + 1, by omega, by go_num, hFr.trans ((Far.below hb6 (by omega) (by omega) (by omega)).trans hF7), hS7⟩, by simp [intOf]; omega⟩
        · have hz0 : ((c1 : Int) == 0) = false := beq_eq_false_iff_ne.2 (by omega)
          have hz1 : (j : Int) < (c1 : Int) := by omega
          go_wp2_with (first
            | (go_at_call 12; go_must (refine (values_any W.heap.size fs.length fs j sd _ hFs HW hk4 (by omega) (by omega) sd0 sd1).mono ?_); rintro e w6 ⟨rfl, hb6, hz6, hV6⟩; have hE6 := hEr.far (Far.below hb6 (by omega) (by omega) (by omega)); have hS6 := hSr.below hb6 (by omega) (by omega); have hfl := fits_flat fs (valRows (sd + j * 31) 0 fs) (valRows_fits _ _ _ HW.out) HW.out)
            | (go_at_call 11; go_must (refine (rec_any (c := fs.length) hE6 hS6 (valRows (sd + j * 31) 0 fs) (key_wf ht1) HW hk4 (by omega) (by omega) hV6.inside (Nat.le_refl _) hz6 (by omega) (hide (valRows_fits _ _ _ HW.out)) (by rw [HR.out] at hfl; omega) (fun g n cap hc => hSr.buf g n cap ((hb6.cell (p := ⟨E + 1 + 2, 7, none⟩) (by show E + 1 + 2 < _; omega)).symm.trans hc)) (by omega) HC.out (by omega) hmx0 (by omega)).mono ?_); rintro e w7 ⟨hF7, hS7, hA7⟩; obtain rfl := hA7.takes h0))
          exact ⟨⟨j + 1, by omega, by go_num, hFr.trans ((Far.below hb6 (by omega) (by omega) (by omega)).trans hF7), hS7⟩, by simp [intOf]; omega⟩
        · have hz0 : ((c1 : Int) == 0) = false := beq_eq_false_iff_ne.2 (by omega)
          have hz1 : ¬ (j : Int) < (c1 : Int) := by omega
          have hne := fun w => neq30 w ⟨E, 0, none⟩
          go_wp2_with (first
            | (go_at_call 12; go_must (refine (values_any W.heap.size fs.length fs j sd _ hFs HW hk4 (by omega) (by omega) sd0 sd1).mono ?_); rintro e w6 ⟨rfl, hb6, hz6, hV6⟩; have hE6 := hEr.far (Far.below hb6 (by omega) (by omega) (by omega)); have hS6 := hSr.below hb6 (by omega) (by omega); have hfl := fits_flat fs (valRows (sd + j * 31) 0 fs) (valRows_fits _ _ _ HW.out) HW.out)
            | (go_at_call 11; go_must (refine (rec_any (c := fs.length) hE6 hS6 (valRows (sd + j * 31) 0 fs) (key_wf ht1) HW hk4 (by omega) (by omega) hV6.inside (Nat.le_refl _) hz6 (by omega) (hide (valRows_fits _ _ _ HW.out)) (by rw [HR.out] at hfl; omega) (fun g n cap hc => hSr.buf g n cap ((hb6.cell (p := ⟨E + 1 + 2, 7, none⟩) (by show E + 1 + 2 < _; omega)).symm.trans hc)) (by omega) HC.out (by omega) hmx0 (by omega)).mono ?_); rintro e w7 ⟨hF7, hS7, hA7⟩; obtain rfl := hA7.errs h0 h1))
          exact ⟨⟨j + 1, by omega, by go_num, hFr.trans ((Far.below hb6 (by omega) (by omega) (by omega)).trans hF7), hS7⟩, by simp [intOf]; omega⟩
      · obtain rfl : N = j := by omega
        have hil : ¬ (N : Int) < (N : Int) := by omega
        have z0 := hEr.z0
        have z1 := hSr.1
        have hbr : Below W.heap.size w5 wr := ⟨hFr.os, hFr.tape, hFr.output, hFr.size, fun k hk => hFr.block k (by omega) (by omega) (by omega)⟩
        have hbW := hbW5.trans hbr
        by_cases hcc : 0 < c1 ∧ c1 < N
        · have y1 : (c1 : Int) > 0 := by omega
          have y2 : (N : Int) > (c1 : Int) := by omega
          have y3 : fails c1 N = N - c1 := by simp only [fails]; rw [if_neg (by omega)]
          have y4 : ((N - c1 : Nat) : Int) = (N : Int) - (c1 : Int) := by omega
          rw [y3, y4] at z1
          go_wp2
          go_ret
          exact ⟨rfl, hbW⟩
        · have y3 : fails c1 N = 0 := by simp only [fails]; split <;> omega
          rw [y3] at z1
          by_cases hc0 : 0 < c1
          · have y1 : (c1 : Int) > 0 := by omega
            have y2 : ¬ (N : Int) > (c1 : Int) := by omega
            go_wp2
            go_ret
            exact ⟨rfl, hbW⟩
          · have y1 : ¬ (c1 : Int) > 0 := by omega
            go_wp2
            go_ret
            exact ⟨rfl, hbW⟩
end Go.Proofs.YbulkbleuFmt.B
