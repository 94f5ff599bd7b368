/- LawS3101BMessages: the law's model of the messages. -/
import Derived.Test.YbulkbleuFmtMod0
import Derived.Test.YbulkbleuFmtWok
import Derived.Deep.DeepMust
namespace Go.Proofs.YbulkbleuFmt.B
open Go.RowKit

theorem Buf.low {w : World} {B B' : Nat} {v : Value} {L : List Int} (h : Buf w B v L) (hB : B' ≤ B) : Buf w B' v L := by
  obtain ⟨g, cap, cur, e, h1, h2⟩ := h
  exact ⟨g, cap, cur, e, Nat.le_trans hB h1, h2⟩
/-- What n records make. -/
def OutIs (tid : Int) (fs : List (Int × Int)) (ex dm sd : Int) (c1 c2 n : Nat) (out : List (List Int)) : Prop := (n = 0 ∧ out = []) ∨ ∃ k q, n = startM c1 c2 k + q ∧ 1 ≤ q ∧ q ≤ capM c1 c2 k ∧ out = fullB tid fs ex dm sd c1 c2 k ++ [packB tid fs ex dm sd c1 c2 k q]
/-- The model's loop. -/
def ModSt (tid : Int) (fs : List (Int × Int)) (ex dm sd : Int) (c1 c2 n j : Nat) (first : Bool) (out : List (List Int)) : Prop :=
  (∃ i, j = startM c1 c2 i ∧ j ≤ n ∧ first = isFirst i ∧ out = fullB tid fs ex dm sd c1 c2 i) ∨ (j = n ∧ OutIs tid fs ex dm sd c1 c2 n out)
theorem ModSt.done {tid : Int} {fs : List (Int × Int)} {ex dm sd : Int} {c1 c2 n : Nat} {first : Bool} {out : List (List Int)} (h : ModSt tid fs ex dm sd c1 c2 n n first out) (h1 : 1 ≤ c1) (h2 : 1 ≤ c2) : OutIs tid fs ex dm sd c1 c2 n out := by
  rcases h with ⟨i, e1, _, _, e3⟩ | ⟨_, h⟩
  · cases i with
    | zero => exact .inl ⟨e1, e3⟩
    | succ i =>
      refine .inr ⟨i, capM c1 c2 i, by rw [e1, startM_succ], ?_, Nat.le_refl _, e3⟩
      cases i <;> simp [capM] <;> omega
  · exact h

set_option maxRecDepth 100000 in
set_option maxHeartbeats 4000000 in
theorem model_any (fb : Nat) (tid : Int) (fs : List (Int × Int)) (n mx r c1 c2 : Nat) (sd dm ex : Int) (w : World) (hF : Hid (FsAt w fb fs)) (hwf : Hid (FsWf fs)) (hk1 : 1 ≤ fs.length) (hk : fs.length ≤ 4) (hfb : fb < w.heap.size) (t0 : 0 ≤ tid) (t1 : tid < 65536) (hr : sumL fs = r) (hn : n ≤ 300) (hmx0 : 40 ≤ mx) (hmx : mx ≤ 600) (hc1 : Hid (c1 = (mx - (24 + (4 + 4 * fs.length))) / r)) (hc2 : Hid (c2 = (mx - 20) / r)) (h1 : 1 ≤ c1) (sd0 : 0 ≤ sd) (sd1 : sd ≤ 255) (d0 : 0 ≤ dm) (d1 : dm < 4294967296) (e0 : 0 ≤ ex) (e1 : ex < 4294967296) :
    Calls Ybaf.prog 15 #[.int .u16 tid, .slice (some ⟨fb, 0, none⟩) fs.length fs.length, .int .i64 n, .int .i64 mx, .int .u8 sd, .int .u32 dm, .int .u32 ex] w fun e w' => Below w.heap.size w w' ∧ ∃ mv vs out, e = .returned mv ∧ Msgs w' w.heap.size 0 mv vs out ∧ OutIs tid fs ex dm sd c1 c2 n out := by
  have hbd := sumL_bd fs hwf.out
  rw [hr] at hbd
  have HR := hide hr
  have hr0 : 0 < r := by omega
  have m1 : r * c1 ≤ mx - (24 + (4 + 4 * fs.length)) := by rw [hc1.out]; exact Nat.mul_div_le _ _
  have m2 : r * c2 ≤ mx - 20 := by rw [hc2.out]; exact Nat.mul_div_le _ _
  have hc12 : c1 ≤ c2 := by rw [hc1.out, hc2.out]; exact Nat.div_le_div_right (by omega)
  have q1 : Int.tdiv ((mx : Int) - 24 - (4 + 4 * fs.length)) r = c1 := by
    have : r * 1 ≤ r * c1 := Nat.mul_le_mul_left r h1
    rw [hc1.out, show (mx : Int) - 24 - (4 + 4 * fs.length) = ((mx - (24 + (4 + 4 * fs.length)) : Nat) : Int) by omega]
    simp
  have q2 : Int.tdiv ((mx : Int) - 20) r = c2 := by
    rw [hc2.out, show (mx : Int) - 20 = ((mx - 20 : Nat) : Int) by omega]
    simp
  have hne : ¬ (r : Int) = 0 := by omega
  have hb2 : c2 ≤ 600 := by rw [hc2.out]; exact Nat.le_trans (Nat.div_le_self _ _) (by omega)
  have HM := hide (And.intro m1 m2)
  clear m1 m2
  go_enter Ybaf.func15, Ybaf.ntmps15
  go_wp2_with (go_at_call 9; go_must (refine (sizes_any fb fs.length fs _ hF hwf hk).mono ?_); rintro e w3 ⟨rfl, rfl⟩)
  clear hr
  go_loopw [17, 18, 19] (fun s17 s18 s19 wr => ∃ (j : Nat) (first : Bool) (out : List (List Int)) (vs : List Value), s18 = .int .i64 j ∧ s19 = .bool first ∧ Below w.heap.size w wr ∧ Msgs wr w.heap.size 0 s17 vs out ∧ j ≤ n ∧ out.length ≤ j ∧ ModSt tid fs ex dm sd c1 c2 n j first out) (fun _ s18 _ _ => n - (intOf s18).toNat)
  case atStart => exact ⟨0, true, [], [], rfl, rfl, Below.refl _ _, Msgs.nil _ _ _, by omega, by simp, .inl ⟨0, rfl, by omega, rfl, rfl⟩⟩
  case round =>
    obtain ⟨j, first, out, vs, rfl, rfl, hbw, hms, hjn, hol, hst⟩ := hrel
    obtain ⟨wo, rfl⟩ : ∃ wo, wo = wr := ⟨wr, rfl⟩
    by_cases hlt : j < n
    · have hil : (j : Int) < (n : Int) := by omega
      obtain ⟨i, hi1, hi2, hi3⟩ : ∃ i, j = startM c1 c2 i ∧ first = isFirst i ∧ out = fullB tid fs ex dm sd c1 c2 i := by
        rcases hst with ⟨i, a, _, b, c⟩ | ⟨a, _⟩
        · exact ⟨i, a, b, c⟩
        · omega
      have HI := hide (And.intro hi1 (And.intro hi2 hi3))
      obtain ⟨cc, hcc⟩ : ∃ cc, cc = capM c1 c2 i := ⟨_, rfl⟩
      have hcf : cc = if first then c1 else c2 := by rw [hcc, hi2]; cases i <;> rfl
      obtain ⟨q, hq, hq1, hq2, hq3⟩ : ∃ q, q = min cc (n - j) ∧ 1 ≤ q ∧ q ≤ cc ∧ j + q ≤ n := ⟨_, rfl, by rw [hcf]; split <;> omega, by omega, by omega⟩
      have HQ := hide (And.intro hcc hq)
      have HCF := hide hcf
      clear hst hi1 hi2 hi3 hcc hcf hq
      go_upto_if 39 with fail
      go_cut [20] (fun s20 wk => s20 = .int .i64 cc ∧ wo = wk)
      case first =>
        cases first with
        | true =>
          have hcf := HCF.out
          simp only [if_true] at hcf
          subst hcf
          go_wp2
          go_meet
          exact ⟨rfl, rfl⟩
        | false =>
          have hcf := HCF.out
          simp only [Bool.false_eq_true, if_false] at hcf
          subst hcf
          go_wp2
          go_meet
          exact ⟨rfl, rfl⟩
      case rest =>
        obtain ⟨rfl, rfl⟩ := hcut
        go_upto_if 50 with fail
        go_cut [20] (fun s20 wk => s20 = .int .i64 q ∧ wo = wk)
        case first =>
          by_cases hgt : n - j < cc
          · have hqe : q = n - j := by have := HQ.out.2; omega
            have hg1 : (cc : Int) > (n : Int) - (j : Int) := by omega
            have hg2 : ((n - j : Nat) : Int) = (n : Int) - (j : Int) := by omega
            subst hqe
            go_wp2
            go_meet
            exact ⟨by rw [hg2], rfl⟩
          · have hqe : q = cc := by have := HQ.out.2; omega
            have hg1 : ¬ (cc : Int) > (n : Int) - (j : Int) := by omega
            subst hqe
            go_wp2
            go_meet
            exact ⟨rfl, rfl⟩
        case rest =>
          obtain ⟨rfl, rfl⟩ := hcut
          have hql : ¬ (q : Int) < 1 := by omega
          have hmk : (Instr.makeSlice 24 (.int .i64 16) (.int .i64 16)).run Ybaf.prog wo = .ok (.slice (some ⟨wo.heap.size, 0, none⟩) 16 16) (wo.alloc (.cells (madeCells #[.int .u8 0] 16) 5)) := run_b16 wo 16 (by omega)
          obtain ⟨Z, hZe⟩ : ∃ Z : List Int, Z = List.replicate 16 0 := ⟨_, rfl⟩
          have hbl := bld_made wo
          rw [← hZe] at hbl
          have hZ : Z.length = 16 := by rw [hZe]; simp
          have HZ := hide hZe
          clear hZe
          go_upto_if 58 with fail
          clear hmk
          generalize hw1 : (wo.alloc (.cells (madeCells #[.int .u8 0] 16) 5)) = w1 at *
          have hFw : FsAt w1 fb fs := by rw [← hw1]; exact (hF.out.below hfb hbw).below (Nat.lt_of_lt_of_le hfb hbw.size) ((Below.refl _ wo).alloc (Nat.le_refl _) _)
          clear hw1
          have hBw : w.heap.size ≤ wo.heap.size := hbw.size
          generalize hB0 : wo.heap.size = B at *
          have hfB : fb < B := by omega
          go_cut [21] (fun s21 wk => Bld wo wk B s21 (Z ++ tplS first tid fs))
          case first =>
            cases first with
            | false =>
              go_wp2
              go_meet
              simpa [tplS] using hbl
            | true =>
              have hwt : IntKind.u16.wrap (4 + (4 + 4 * (fs.length : Int))) = 4 + (4 + 4 * (fs.length : Int)) := IntWalk.u16_in _ ⟨by omega, by omega⟩
              have hwk : IntKind.u16.wrap (fs.length : Int) = (fs.length : Int) := IntWalk.u16_in _ ⟨by omega, by omega⟩
              go_upto_region 16 with (go_at_call 32; go_must (refine (app16 B _ Z 2 _ hbl.1 (by omega) (by omega) (by omega) hbl.2.2).mono ?_; rintro e wa ⟨va, rfl, ha⟩; have hla := hbl.ext ha; obtain ⟨ga, ca, na, rfl⟩ := ha.body.shape))
              go_upto_region 17 with (go_at_call 32; go_must (refine (app16 B _ (Z ++ be16 2) (4 + (4 + 4 * (fs.length : Int))) _ hla.1 (by omega) (by omega) (by rw [List.length_append, be16_len]; omega) hla.2.2).mono ?_; rintro e wb ⟨vb, rfl, hb⟩; have hlb := hla.ext hb; obtain ⟨gb, cb, nb, rfl⟩ := hb.body.shape))
              go_upto_region 18 with (go_at_call 32; go_must (refine (app16 B _ (Z ++ be16 2 ++ be16 (4 + (4 + 4 * (fs.length : Int)))) tid _ hlb.1 t0 t1 (by rw [List.length_append, List.length_append, be16_len, be16_len]; omega) hlb.2.2).mono ?_; rintro e wd ⟨vd, rfl, hd⟩; have hld := hlb.ext hd; obtain ⟨gd, cd, nd, rfl⟩ := hd.body.shape))
              go_upto_region 19 with (go_at_call 32; go_must (refine (app16 B _ (Z ++ be16 2 ++ be16 (4 + (4 + 4 * (fs.length : Int))) ++ be16 tid) fs.length _ hld.1 (by omega) (by omega) (by rw [List.length_append, List.length_append, List.length_append, be16_len, be16_len, be16_len]; omega) hld.2.2).mono ?_; rintro e we ⟨ve, rfl, he⟩; have hle := hld.ext he; obtain ⟨ge, ce, ne, rfl⟩ := he.body.shape))
              obtain ⟨LT, hLT⟩ : ∃ LT, LT = Z ++ be16 2 ++ be16 (4 + (4 + 4 * (fs.length : Int))) ++ be16 tid ++ be16 fs.length := ⟨_, rfl⟩
              rw [← hLT] at hle
              have hLTl : LT.length = 24 := by rw [hLT]; simp only [List.length_append, be16_len]; omega
              have HLT := hide hLT
              clear hLT ha hb hd he hla hlb hld hbl
              go_wp2
              go_loopw [21, 22] (fun s21 s22 wk => ∃ i : Nat, i ≤ fs.length ∧ s22 = .int .i64 i ∧ Bld wo wk B s21 (LT ++ specB (fs.take i))) (fun _ s22 _ => fs.length - (intOf s22).toNat)
              case atStart => exact ⟨0, by omega, rfl, by simpa [specB] using hle⟩
              case round =>
                obtain ⟨i', hi', rfl, hbi⟩ := hrel
                clear hle
                by_cases hil2 : i' < fs.length
                · have hil3 : (i' : Int) < (fs.length : Int) := by omega
                  obtain ⟨wx, rfl⟩ : ∃ wx, wx = wr := ⟨wr, rfl⟩
                  have hFx : FsAt wx fb fs := (hF.out.below hfb hbw).below hfB hbi.2.1
                  obtain ⟨_, x1, x2⟩ := hFx i' hil2
                  have hw1 := hwf.out _ (List.getElem_mem hil2)
                  have HT : Hid (specB (fs.take (i' + 1)) = specB (fs.take i') ++ (be16 (fs[i']).1 ++ be16 (fs[i']).2)) := by
                    show _ = _
                    rw [List.take_succ_eq_append_getElem hil2, specB_snoc]
                  have hsl : (specB (fs.take i')).length ≤ 16 := by rw [specB_len, List.length_take]; omega
                  generalize hff : fs[i'] = f at *
                  have HF0 := hide hff
                  clear hff
                  obtain ⟨f0, f1, f2, f3⟩ := hw1
                  have x1d : wx.drew.cell? ⟨fb, i' * 3 + 1, none⟩ = some (.int .u16 f.1) := x1
                  have hbd1 := hbi.drew
                  have hLl : (LT ++ specB (fs.take i')).length ≤ 40 := by rw [List.length_append]; omega
                  obtain ⟨gx, cx, nx, rfl⟩ := hbi.1.shape
                  generalize hLS : LT ++ specB (fs.take i') = LS at *
                  have HLS := hide hLS
                  clear hLS
                  have hbq := hbd1.1
                  have hBq := hbd1.2.2
                  go_upto_region 22 with fail
                  go_cut [21] (fun s21 wk => Bld wo wk B s21 (LS ++ be16 f.1))
                  case first =>
                    go_region_with (go_at_call 32; (with_reducible refine Calls.mono (app16 B _ LS f.1 wx.drew hbq f0 f1 (by omega) hBq) ?_); rintro e wy ⟨vy, rfl, hy⟩; obtain ⟨gy, cy, ny, rfl⟩ := hy.body.shape; have hly := Bld.ext hbd1 hy)
                    all_goals
                      go_wp2_with fail
                      go_meet
                      exact hly
                  case rest =>
                    have hb3 := hcut
                    obtain ⟨wz, rfl⟩ : ∃ wz, wz = wc := ⟨wc, rfl⟩
                    have hFz : FsAt wz fb fs := (hF.out.below hfb hbw).below hfB hb3.2.1
                    obtain ⟨_, y1, y2⟩ := hFz i' hil2
                    rw [HF0.out] at y2
                    have y2d : wz.drew.cell? ⟨fb, i' * 3 + 2, none⟩ = some (.int .u16 f.2) := y2
                    have hbd2 := hb3.drew
                    obtain ⟨gz, cz, nz, rfl⟩ := hb3.1.shape
                    have hbq2 := hbd2.1
                    have hBq2 := hbd2.2.2
                    have hLq : (LS ++ be16 f.1).length ≤ 100 := by rw [List.length_append, be16_len]; omega
                    clear hcut hbd1 hbq hBq x1 x2 x1d
                    go_upto_region 23 with fail
                    go_region_with (go_at_call 32; (with_reducible refine Calls.mono (app16 B _ (LS ++ be16 f.1) f.2 wz.drew hbq2 (by omega) (by omega) (by omega) hBq2) ?_); rintro e wy ⟨vy, rfl, hy⟩; obtain ⟨gy, cy, ny, rfl⟩ := hy.body.shape; have hly := Bld.ext hbd2 hy)
                    all_goals
                      go_wp2
                      refine ⟨⟨i' + 1, by omega, by go_num, ?_⟩, by simp [intOf]; omega⟩
                      rw [HT.out, ← List.append_assoc, ← List.append_assoc, HLS.out]
                      exact hly
                · obtain rfl : fs.length = i' := by omega
                  have hil3 : ¬ (fs.length : Int) < (fs.length : Int) := by omega
                  go_wp2
                  go_meet
                  rw [List.take_length, HLT.out] at hbi
                  have e1 : (4 : Int) + ((tplB tid fs).length : Int) = 4 + (4 + 4 * (fs.length : Int)) := by rw [tplB_len]; omega
                  have e2 : tplS true tid fs = be16 2 ++ (be16 (4 + (4 + 4 * (fs.length : Int))) ++ (be16 tid ++ (be16 fs.length ++ specB fs))) := by unfold tplS; rw [if_pos rfl, e1]; rfl
                  rw [e2]
                  simpa only [List.append_assoc] using hbi
          case rest =>
            have hb1 := hcut
            obtain ⟨w2, rfl⟩ : ∃ w2, w2 = wc := ⟨wc, rfl⟩
            clear hcut hbl hFw
            obtain ⟨P, hP⟩ : ∃ P : Nat, (r : Int) * (q : Int) = (P : Int) := ⟨r * q, by simp⟩
            have hPn : P = r * q := by exact_mod_cast hP.symm
            have hPb : P + lenS first fs ≤ 600 := by
              have h3 := HM.out
              have h4 := HCF.out
              have h5 : r * q ≤ r * cc := Nat.mul_le_mul_left r hq2
              rw [hPn]
              unfold lenS
              cases first
              · simp only [Bool.false_eq_true, if_false] at h4 ⊢
                rw [h4] at h5
                omega
              · simp only [if_true] at h4 ⊢
                rw [h4] at h5
                have : r * 1 ≤ r * c1 := Nat.mul_le_mul_left r h1
                omega
            have HPn := hide hPn
            clear hPn
            obtain ⟨LT, hLT⟩ : ∃ LT, LT = Z ++ tplS first tid fs := ⟨_, rfl⟩
            rw [← hLT] at hb1
            have hLTl : LT.length = 16 + lenS first fs := by rw [hLT, List.length_append, tplS_len, hZ]
            have HLT := hide hLT
            clear hLT
            have hwp : IntKind.u16.wrap (4 + (P : Int)) = 4 + (P : Int) := IntWalk.u16_in _ ⟨by omega, by omega⟩
            obtain ⟨g2, cp2, n2, rfl⟩ := hb1.1.shape
            go_upto_region 25 with (go_at_call 32; go_must (refine (app16 B _ LT tid _ hb1.1 t0 t1 (by omega) hb1.2.2).mono ?_; rintro e wa ⟨va, rfl, ha⟩; have hla := hb1.ext ha; obtain ⟨ga, ca, na, rfl⟩ := ha.body.shape))
            go_upto_region 26 with (go_at_call 32; go_must (refine (app16 B _ (LT ++ be16 tid) (4 + (P : Int)) _ hla.1 (by omega) (by omega) (by rw [List.length_append, be16_len]; omega) hla.2.2).mono ?_; rintro e wb ⟨vb, rfl, hb⟩; have hlb := hla.ext hb; obtain ⟨gb, cb, nb, rfl⟩ := hb.body.shape))
            obtain ⟨LU, hLU⟩ : ∃ LU, LU = LT ++ be16 tid ++ be16 (4 + (P : Int)) := ⟨_, rfl⟩
            rw [← hLU] at hlb
            have hLUl : LU.length = 20 + lenS first fs := by rw [hLU, List.length_append, List.length_append, be16_len, be16_len]; omega
            have HLU := hide hLU
            clear hLU ha hb hla hb1
            go_wp2
            go_loopw [21, 23] (fun s21 s23 wk => ∃ x : Nat, x ≤ q ∧ s23 = .int .i64 ((j + x : Nat) : Int) ∧ Bld wo wk B s21 (LU ++ recsB sd fs j x)) (fun _ s23 _ => j + q - (intOf s23).toNat)
            case atStart => exact ⟨0, by omega, rfl, by simpa [recsB] using hlb⟩
            case round =>
              obtain ⟨x, hx, rfl, hbx⟩ := hrel
              clear hlb
              obtain ⟨wx, rfl⟩ : ∃ wx, wx = wr := ⟨wr, rfl⟩
              have hrl := recsB_len sd fs j hwf.out HR.out x
              have hrx : r * x ≤ P := by rw [HPn.out]; exact Nat.mul_le_mul_left r hx
              by_cases hxq : x < q
              · have hil4 : ((j + x : Nat) : Int) < (j : Int) + (q : Int) := by omega
                have hFx : Hid (FsAt wx fb fs) := (hF.out.below hfb hbw).below hfB hbx.2.1
                have hfx : fb < wx.heap.size := Nat.lt_of_lt_of_le hfB hbx.2.2
                have hLX : (LU ++ recsB sd fs j x).length ≤ 700 := by rw [List.length_append]; omega
                have HRS : Hid (recsB sd fs j (x + 1) = recsB sd fs j x ++ recB sd fs (j + x)) := rfl
                obtain ⟨LX, hLXe⟩ : ∃ LX, LX = LU ++ recsB sd fs j x := ⟨_, rfl⟩
                rw [← hLXe] at hbx hLX
                have HLX := hide hLXe
                clear hLXe
                obtain ⟨gx, cx, nx, rfl⟩ := hbx.1.shape
                have hgx := (hbx.1.lt gx rfl).2
                go_upto_region 30 with (go_at_call 12; go_must (refine (values_any fb fs.length fs (j + x) sd _ hFx hwf hk hfx (by omega) sd0 sd1).mono ?_; rintro e wy ⟨rfl, hby, hzy, hVy⟩))
                have hbY := hbx.below hby
                have hrw := valRows_len (sd + ((j + x : Nat) : Int) * 31) 0 fs
                have hfit := valRows_fits (sd + ((j + x : Nat) : Int) * 31) fs 0 hwf.out
                have HRB : Hid (recB sd fs (j + x) = (valRows (sd + ((j + x : Nat) : Int) * 31) 0 fs).flatten) := rfl
                have hVI : ValsIn wy.heap.size wy wx.heap.size (valRows (sd + ((j + x : Nat) : Int) * 31) 0 fs) := hVy
                generalize valRows (sd + ((j + x : Nat) : Int) * 31) 0 fs = rows at *
                obtain ⟨N, hN⟩ : ∃ N, N = wy.heap.size := ⟨_, rfl⟩
                rw [← hN] at hVI
                have hNy : N ≤ wy.heap.size := by omega
                have hvN : wx.heap.size < N := by omega
                obtain ⟨vb, hvb⟩ : ∃ vb, vb = wx.heap.size := ⟨_, rfl⟩
                rw [← hvb] at hVI hvN hgx ⊢
                have HB : Hid (B ≤ wx.heap.size) := hbx.2.2
                have Hvb := hide hvb
                clear hvb hN hVy hby hzy hbx hFx hfx
                go_wp2
                go_loopw [21, 25] (fun s21 s25 wk => ∃ i' : Nat, i' ≤ fs.length ∧ s25 = .int .i64 i' ∧ Bld wo wk B s21 (LX ++ (rows.take i').flatten) ∧ ValsIn N wk vb rows ∧ N ≤ wk.heap.size ∧ ∀ k', s21.ownBlock = some k' → k' < vb ∨ N ≤ k') (fun _ s25 _ => fs.length - (intOf s25).toNat)
                case atStart => exact ⟨0, by omega, rfl, by simpa using hbY, hVI, hNy, fun k' hk' => .inl (by simp [Value.ownBlock] at hk'; omega)⟩
                case round =>
                  obtain ⟨i', hi', rfl, hbi, hVi, hNi, howi⟩ := hrel
                  clear hbY hVI hNy
                  obtain ⟨wz, rfl⟩ : ∃ wz, wz = wr := ⟨wr, rfl⟩
                  by_cases hil2 : i' < fs.length
                  · have hil3 : (i' : Int) < (fs.length : Int) := by omega
                    obtain ⟨gi, gi1, gi2, gi3, gi4⟩ := hVi i' (by omega)
                    have HT : Hid (rows.take (i' + 1) = rows.take i' ++ [rows[i']'(by omega)]) := List.take_succ_eq_append_getElem (by omega)
                    have hrl2 : ((rows[i']'(by omega)).length : Int) ≤ 8 := by
                      have := hfit.2 i' hil2 (by omega)
                      have := (hwf.out _ (List.getElem_mem hil2)).2.2.2
                      omega
                    have hflt : ((rows.take i').flatten).length ≤ 100 := by
                      have h1 := fits_flat fs rows hfit hwf.out
                      have h2 : rows.flatten = (rows.take i').flatten ++ (rows.drop i').flatten := by rw [← List.flatten_append, List.take_append_drop]
                      have h3 := HR.out
                      rw [h2, List.length_append] at h1
                      omega
                    have hnews : Hid (∀ j u, ((rows[i']'(by omega)).map (Value.int .u8))[j]? = some u → wz.cell? ((⟨gi, 0, none⟩ : Addr).add j) = some u) := fun j u hu => by
                      have hj : j < (rows[i']'(by omega)).length := by have := (List.getElem?_eq_some_iff.1 hu).1; simpa using this
                      rw [Addr.add_lit, Nat.zero_add]
                      have := gi4 j hj
                      simp [List.getElem?_eq_getElem hj] at hu
                      rw [← hu]
                      exact this
                    generalize rows[i']'(by omega) = row at *
                    have hLl : (LX ++ (rows.take i').flatten).length ≤ 900 := by rw [List.length_append]; omega
                    obtain ⟨LY, hLY⟩ : ∃ LY, LY = LX ++ (rows.take i').flatten := ⟨_, rfl⟩
                    rw [← hLY] at hbi hLl
                    have HLY := hide hLY
                    clear hLY gi4
                    obtain ⟨gz, cz, nz, rfl⟩ := hbi.1.shape
                    have hbz := hbi.1
                    have hBz := hbi.2.2
                    go_wp2_with (at_builtin; go_must (refine wpList_app wz rfl _ _ rfl B _ LY row rfl hbz ⟨gi, 0, none⟩ row.length row.length rfl rfl hnews.out (by omega) hBz ?_; intro v' w' hE))
                    refine ⟨⟨i' + 1, by omega, by go_num, ?_, ?_, ?_, ?_⟩, by simp [intOf]; omega⟩
                    · have := Bld.ext hbi hE
                      rw [HT.out, List.flatten_append, ← List.append_assoc, ← HLY.out]
                      simpa using this
                    · exact hVi.kept hNi (by omega) hE.grown howi
                    · exact Nat.le_trans hNi hE.grown.size
                    · intro k' hk'
                      rcases hE.lies with ⟨e1, _⟩ | ⟨y, e1, e2⟩
                      · exact howi k' (e1.symm.trans hk')
                      · rw [e1] at hk'
                        have := Option.some.inj hk'
                        right
                        omega
                  · obtain rfl : fs.length = i' := by omega
                    have hil3 : ¬ (fs.length : Int) < (fs.length : Int) := by omega
                    have hbF : Bld wo wz B u21 (LU ++ recsB sd fs j (x + 1)) := by
                      rw [HRS.out, ← List.append_assoc, ← HLX.out, HRB.out]
                      rw [← hrw, List.take_length] at hbi
                      exact hbi
                    clear hbi hVi
                    go_wp2
                    exact ⟨⟨x + 1, by omega, by go_num, hbF⟩, by simp [intOf]; omega⟩
              · obtain rfl : q = x := by omega
                have hil4 : ¬ ((j + q : Nat) : Int) < (j : Int) + (q : Int) := by omega
                have hil5 : ¬ ((j : Int) + (q : Int)) < (j : Int) + (q : Int) := by omega
                have hrq : (recsB sd fs j q).length = P := by rw [hrl, HPn.out]
                obtain ⟨LB, hLB⟩ : ∃ LB, LB = LU ++ recsB sd fs j q := ⟨_, rfl⟩
                rw [← hLB] at hbx
                have hLBl : LB.length = 20 + lenS first fs + P := by rw [hLB, List.length_append, hrq]; omega
                have HLB := hide hLB
                have HLBl := hide hLBl
                have hLB1 : LB.length ≤ 700 := by omega
                have hLB2 : 16 ≤ LB.length := by omega
                clear hLB hrl hrx hLBl
                obtain ⟨gx, cx, rfl⟩ := hbx.1.shape2
                have hgx := hbx.1.lt gx rfl
                have hmk2 : (Instr.makeSlice 24 (.int .i64 0) (.int .i64 16)).run Ybaf.prog wx = .ok (.slice (some ⟨wx.heap.size, 0, none⟩) 0 16) (wx.alloc (.cells (madeCells #[.int .u8 0] 16) 5)) := run_b16 wx 0 (by omega)
                obtain ⟨L0, hL0e⟩ : ∃ L0 : List Int, L0 = [] := ⟨_, rfl⟩
                have hbh : Bld wx (wx.alloc (.cells (madeCells #[.int .u8 0] 16) 5)) wx.heap.size (.slice (some ⟨wx.heap.size, 0, none⟩) 0 16) L0 := ⟨by rw [hL0e]; exact buf_made wx 0 16 (by omega) (by omega), (Below.refl _ wx).alloc (Nat.le_refl _) _, by simp⟩
                have HL0 := hide hL0e
                have hL0 : L0.length ≤ 0 := by rw [hL0e]; simp
                clear hL0e
                have hwl : IntKind.u16.wrap (LB.length : Int) = (LB.length : Int) := IntWalk.u16_in _ ⟨by omega, by omega⟩
                have hwj : IntKind.u32.wrap (j : Int) = (j : Int) := IntWalk.u32_in _ ⟨by omega, by omega⟩
                go_upto_region 35 with fail
                clear hmk2
                generalize (wx.alloc (.cells (madeCells #[.int .u8 0] 16) 5)) = wh at *
                obtain ⟨B2, hB2⟩ : ∃ B2, B2 = wx.heap.size := ⟨_, rfl⟩
                rw [← hB2] at hbh ⊢
                have HB2 := hide hB2
                clear hB2
                go_upto_region 36 with (go_at_call 32; go_must (refine (app16 B2 _ L0 10 _ hbh.1 (by omega) (by omega) (by omega) hbh.2.2).mono ?_; rintro e wa ⟨va, rfl, ha⟩; have hla := hbh.ext ha; obtain ⟨ga, ca, na, rfl⟩ := ha.body.shape))
                obtain ⟨L1, hL1e⟩ : ∃ L1, L1 = L0 ++ be16 10 := ⟨_, rfl⟩
                rw [← hL1e] at hla
                have hL1 : L1.length ≤ 2 := by rw [hL1e, List.length_append, be16_len]; omega
                have HL1 := hide hL1e
                clear hL1e
                go_upto_region 37 with (go_at_call 32; go_must (refine (app16 B2 _ L1 LB.length _ hla.1 (by omega) (by omega) (by omega) hla.2.2).mono ?_; rintro e wb ⟨vb, rfl, hb⟩; have hlb := hla.ext hb; obtain ⟨gb, cb, nb, rfl⟩ := hb.body.shape))
                obtain ⟨L2, hL2e⟩ : ∃ L2, L2 = L1 ++ be16 (LB.length : Int) := ⟨_, rfl⟩
                rw [← hL2e] at hlb
                have hL2 : L2.length ≤ 4 := by rw [hL2e, List.length_append, be16_len]; omega
                have HL2 := hide hL2e
                clear hL2e
                go_upto_region 38 with (go_at_call 33; go_must (refine (app32 B2 _ L2 ex _ hlb.1 e0 e1 (by omega) hlb.2.2).mono ?_; rintro e wd ⟨vd, rfl, hd⟩; have hld := hlb.ext hd; obtain ⟨gd, cd, nd, rfl⟩ := hd.body.shape))
                obtain ⟨L3, hL3e⟩ : ∃ L3, L3 = L2 ++ be32 ex := ⟨_, rfl⟩
                rw [← hL3e] at hld
                have hL3 : L3.length ≤ 8 := by rw [hL3e, List.length_append, be32_len]; omega
                have HL3 := hide hL3e
                clear hL3e
                go_upto_region 39 with (go_at_call 33; go_must (refine (app32 B2 _ L3 j _ hld.1 (by omega) (by omega) (by omega) hld.2.2).mono ?_; rintro e we ⟨ve, rfl, he⟩; have hle := hld.ext he; obtain ⟨ge, ce, ne, rfl⟩ := he.body.shape))
                obtain ⟨L4, hL4e⟩ : ∃ L4, L4 = L3 ++ be32 (j : Int) := ⟨_, rfl⟩
                rw [← hL4e] at hle
                have hL4 : L4.length ≤ 12 := by rw [hL4e, List.length_append, be32_len]; omega
                have HL4 := hide hL4e
                clear hL4e
                go_upto_region 40 with (go_at_call 33; go_must (refine (app32 B2 _ L4 dm _ hle.1 d0 d1 (by omega) hle.2.2).mono ?_; rintro e wf ⟨vf, rfl, hf⟩; have hlf := hle.ext hf; obtain ⟨gf, cf, nf, rfl⟩ := hf.body.shape))
                obtain ⟨L5, hL5e⟩ : ∃ L5, L5 = L4 ++ be32 dm := ⟨_, rfl⟩
                rw [← hL5e] at hlf
                have hL5 : L5.length = 16 := by rw [hL5e, List.length_append, be32_len, HL4.out, List.length_append, be32_len, HL3.out, List.length_append, be32_len, HL2.out, List.length_append, be16_len, HL1.out, List.length_append, be16_len, HL0.out]; rfl
                have HL5 := hide hL5e
                clear hL5e
                have hbB : Buf wf B (.slice (some ⟨gx, 0, none⟩) LB.length cx) LB := hbx.1.below (fun k' hk' => by simp [Value.ownBlock] at hk'; rw [HB2.out]; omega) hlf.2.1
                obtain rfl : nf = L5.length := by
                  obtain ⟨_, _, _, e, _⟩ := hlf.1
                  simp only [Value.slice.injEq] at e
                  exact e.2.1
                have hbH := hlf.1
                clear ha hb hd he hf hla hlb hld hle
                have HL5l := hide hL5
                clear hL5
                have hml : out.length ≤ 1000 := by omega
                have hown0 : wf.ownsRow w.heap.size 24 1 u17 out.length vs := ownsRow_same hms.own fun k' e => (hlf.2.1.block k' (by have := (hms.own.lt k' e).2; have := hbx.2.2; rw [HB2.out]; omega)).trans (hbx.2.1.block k' (by have := (hms.own.lt k' e).2; omega))
                have hne17 : u17.ownBlock ≠ some gx := fun e => by have := (hms.own.lt gx e).2; omega
                have hBw2 : w.heap.size ≤ wf.heap.size := by have := hlf.2.2; have := hbx.2.2; have := HB2.out; omega
                have HMS := hide hms
                clear hms
                go_wp2_with (first
                  | (refine wpList_hdr wf rfl _ _ rfl B B2 gx cx gf cf LB L5 rfl rfl hbB hbH HL5l.out hLB2 ?_; intro u3 w3 hb3 hg3; have hown3 := hown0.kept hg3 (.inr hne17); have hBw3 : w.heap.size ≤ w3.heap.size := (by have := hg3.size; omega))
                  | (at_builtin; go_must (refine wpList_msg w3 rfl _ _ rfl w.heap.size u17 (.slice (some ⟨gx, 0, none⟩) LB.length cx) rfl out.length vs rfl hown3 _ 1 _ (by first | rfl | simp) rfl rfl hml hBw3 ?_; intro rg rcap w4 ho4 hg4 hl4)))
                have hms := HMS.out
                obtain ⟨hi1, hi2, hi3⟩ := HI.out
                obtain ⟨hcc, hqm⟩ := HQ.out
                have hbo : Below B wo w3 := (hbx.2.1.trans (hlf.2.1.mono (by rw [HB2.out]; exact hbx.2.2))).grown hg3 (by have := hlf.2.2; have := hbx.2.2; have := HB2.out; omega) (fun k' e => by have := Option.some.inj e; omega)
                have hs3 : B ≤ w3.heap.size := by have := hg3.size; have := hlf.2.2; have := hbx.2.2; have := HB2.out; omega
                have hal : (w3.alloc (.cells #[.slice (some ⟨gx, 0, none⟩) LB.length cx] 24)).heap.size = w3.heap.size + 1 := by simp
                have hM : L5 ++ LB.drop 16 = msgB first tid fs ex dm j (recsB sd fs j q) := by
                  unfold msgB hdrB
                  rw [HL5.out, HL4.out, HL3.out, HL2.out, HL1.out, HL0.out, HLBl.out, HLB.out, HLU.out, HLT.out, hrq]
                  simp only [List.nil_append, List.append_assoc]
                  congr 5
                  rw [← hZ, List.drop_left]
                  norm_cast
                rw [hM] at hb3
                have hb3' : Buf (w3.alloc (.cells #[.slice (some ⟨gx, 0, none⟩) LB.length cx] 24)) w.heap.size (.slice (some ⟨gx, 0, none⟩) LB.length cx) (msgB first tid fs ex dm j (recsB sd fs j q)) := (hb3.low hBw).alloc _
                have hmsN := Msgs.push (w := wo) (w1 := w3.alloc (.cells #[.slice (some ⟨gx, 0, none⟩) LB.length cx] 24)) hms (fun k' c1 c2 c3 => (heap_alloc_old w3 _ (by omega)).trans (hbo.block k' (by omega))) (by omega) (by omega) hb3' gx rfl (by omega) ho4 hg4 (hl4.imp (fun e => e.symm) (fun e => by rw [hal, e]; rfl))
                refine ⟨⟨j + q, false, _, _, by go_num, rfl, ?_, hmsN, hq3, by rw [List.length_append]; simp; omega, ?_⟩, by simp [intOf]; omega⟩
                · have h1 : Below w.heap.size w (w3.alloc (.cells #[.slice (some ⟨gx, 0, none⟩) LB.length cx] 24)) := (hbw.trans (hbo.mono hBw)).alloc (by omega) _
                  exact h1.grown hg4 (by omega) (fun k' e => (hms.own.lt k' e).1)
                · have hpk : msgB first tid fs ex dm j (recsB sd fs j q) = packB tid fs ex dm sd c1 c2 i q := by unfold packB; rw [← hi1, ← hi2]
                  by_cases hqc : q = cc
                  · left
                    exact ⟨i + 1, by rw [startM_succ, ← hi1, ← hcc, hqc], hq3, rfl, by rw [fullB, ← hi3, hpk, hqc, hcc]⟩
                  · right
                    have hqn : j + q = n := by omega
                    exact ⟨hqn, .inr ⟨i, q, by rw [← hi1]; exact hqn.symm, hq1, by rw [← hcc]; exact hq2, by rw [← hi3, hpk]⟩⟩
    · obtain rfl : j = n := by omega
      have hil : ¬ (j : Int) < (j : Int) := by omega
      have hfin := hst.done h1 (by omega)
      go_wp2
      go_ret
      exact ⟨hbw, _, rfl, vs, out, hms, hfin⟩
end Go.Proofs.YbulkbleuFmt.B
