/- LawS3101BMessages: the law's own walk. -/
import Derived.Test.YbulkbleuFmtMLaw0
import Derived.Deep.DeepMust
namespace Go.Proofs.YbulkbleuFmt.B
open Go.RowKit Go.Maps Go.Extern.Stop Go.Stop Go.Extern

theorem key_wf' {tn : Nat} (h : tn < 65536) : (K tn).wf = true := by simp [Lit.wf, IntKind.min, IntKind.max, IntKind.signed, IntKind.bits]; omega
theorem Msgs.form {w : World} {B gb : Nat} {mv : Value} {vs : List Value} {out : List (List Int)} (h : Msgs w B gb mv vs out) : ∃ a c, mv = .slice a out.length c := by
  rcases h.own.2 with ⟨rfl, e⟩ | ⟨g, cap, cur, rfl, _⟩
  · exact ⟨none, 0, by rw [e]⟩
  · exact ⟨_, _, rfl⟩
theorem Msgs.elem {w : World} {B gb : Nat} {a : Option Addr} {c : Nat} {vs : List Value} {out : List (List Int)} (h : Msgs w B gb (.slice a out.length c) vs out) (i : Nat) (hi : i < out.length) : ∃ g, a = some ⟨g, 0, none⟩ ∧ g < w.heap.size ∧ ∃ u, w.cell? ⟨g, i, none⟩ = some u ∧ Buf w B u out[i] := by
  rcases h.own.2 with ⟨_, e⟩ | ⟨g, cap, cur, e, _, hg, _⟩
  · omega
  · simp only [Value.slice.injEq] at e
    obtain ⟨u, hu, hb, _⟩ := h.each i hi
    refine ⟨g, e.1, (Array.getElem?_eq_some_iff.1 hg).1, u, ?_, hb⟩
    rw [e.1] at h
    have := h.own.cells (g := g) rfl i u hu
    simpa [Addr.add_lit] using this
theorem outs_one {tid : Int} {fs : List (Int × Int)} {ex dm sd : Int} {c1 c2 n : Nat} {o1 o2 : List (List Int)} (h1 : OutIs tid fs ex dm sd c1 c2 n o1) (h2 : OutIs tid fs ex dm sd c1 c2 n o2) : o1 = o2 := by
  rcases h1 with ⟨a1, a2⟩ | ⟨k, q, a1, a2, a3, a4⟩ <;> rcases h2 with ⟨b1, b2⟩ | ⟨k', q', b1, b2, b3, b4⟩
  · rw [a2, b2]
  · omega
  · omega
  · obtain ⟨rfl, rfl⟩ := packs_one (a1.symm.trans b1) a2 a3 b2 b3
    rw [a4, b4]
theorem outs_len {tid : Int} {fs : List (Int × Int)} {ex dm sd : Int} {c1 c2 n : Nat} {o : List (List Int)} (h : OutIs tid fs ex dm sd c1 c2 n o) (h1 : 1 ≤ c1) (h2 : 1 ≤ c2) : o.length ≤ n := by
  rcases h with ⟨rfl, rfl⟩ | ⟨k, q, a1, a2, a3, a4⟩
  · simp
  · rw [a4, List.length_append, fullB_len]
    have : ∀ k, k ≤ startM c1 c2 k := by
      intro k
      induction k with
      | zero => omega
      | succ k ih =>
        rw [startM_succ]
        have : 1 ≤ capM c1 c2 k := by cases k <;> simp [capM] <;> omega
        omega
    have := this k
    simp
    omega

set_option maxRecDepth 100000 in
theorem eq_wide (B B' : Nat) (u v : Value) (L : List Int) (w : World) (hu : Buf w B u L) (hv : Buf w B' v L) :
    Calls Ybaf.prog 16 #[u, v] w fun e w' => e = .returned (.bool true) ∧ Below w.heap.size w w' := by
  obtain ⟨g, cap, rfl⟩ : ∃ g cap, u = .slice (some ⟨g, 0, none⟩) L.length cap := by obtain ⟨g, cap, cur, rfl, _⟩ := hu; exact ⟨_, _, rfl⟩
  obtain ⟨g', cap', rfl⟩ : ∃ g cap, v = .slice (some ⟨g, 0, none⟩) L.length cap := by obtain ⟨g, cap, cur, rfl, _⟩ := hv; exact ⟨_, _, rfl⟩
  have hl : L.length ≤ 9223372036854775807 := by
    obtain ⟨_, _, _, e, _, _, h1, h2, _⟩ := hu
    unfold maxLen at h2
    omega
  have hg := (hu.lt g rfl).2
  have hg' := (hv.lt g' rfl).2
  go_enter Ybaf.func16, Ybaf.ntmps16
  go_wp2
  go_loopw [5] (fun s5 wr => ∃ i : Nat, i ≤ L.length ∧ s5 = .int .i64 i ∧ Below w.heap.size w wr) (fun s5 _ => L.length - (intOf s5).toNat)
  case atStart => exact ⟨0, by omega, rfl, Below.refl _ _⟩
  case round =>
    obtain ⟨i, hi, rfl, hb⟩ := hrel
    by_cases hlt : i < L.length
    · have p1 : wr.cell? ⟨g, i, none⟩ = some (.int .u8 L[i]) := (hb.cell (p := ⟨g, i, none⟩) hg).trans (hu.cell i hlt).1
      have p2 : wr.cell? ⟨g', i, none⟩ = some (.int .u8 L[i]) := (hb.cell (p := ⟨g', i, none⟩) hg').trans (hv.cell i hlt).1
      have hil : (i : Int) < (L.length : Int) := by omega
      generalize L[i] = x at *
      go_wp2
      go_quiet (fail)
      go_wp2
      exact ⟨⟨i + 1, by omega, by go_num, hb.os, hb.tape, hb.output, hb.size, hb.block⟩, by simp [intOf]; omega⟩
    · have hil : ¬ (i : Int) < (L.length : Int) := by omega
      go_wp2
      go_ret
      exact ⟨rfl, hb⟩
set_option maxRecDepth 100000 in
set_option maxHeartbeats 2000000 in
theorem msg_any {F : Interp} (W : World) (x nr ml sd dm ex : Int) (x0 : 0 ≤ x) (x1 : x < 65536) (nr0 : 0 ≤ nr) (nr1 : nr < 65536) (ml0 : 0 ≤ ml) (ml1 : ml < 65536) (sd0 : 0 ≤ sd) (sd1 : sd ≤ 255) (d0 : 0 ≤ dm) (d1 : dm < 4294967296) (e0 : 0 ≤ ex) (e1 : ex < 4294967296) (a b : Option Addr) (n ca m cb : Nat) (ha : Hid (IsWords W a n)) (hb : Hid (IsOctets W b m)) (a0 : Addr) (tx : ByteArray)
    (g0 : W.cell? ⟨0, 0, none⟩ = some (.iface 102 (.pointer (some a0)))) (hat : W.cell? a0 = some (.string tx)) (ht : F.answers W.tape) :
    Calls Ybaf.prog 3 #[.int .u16 x, .slice a n ca, .slice b m cb, .int .u16 nr, .int .u16 ml, .int .u8 sd, .int .u32 dm, .int .u32 ex] W fun e w' => e = .returned (.bool true) ∧ Below W.heap.size W w' := by
  obtain ⟨tn, htn, ht0, ht1⟩ : ∃ tn : Nat, 256 + x % 1000 = tn ∧ 256 ≤ tn ∧ tn < 65536 := ⟨(256 + x % 1000).toNat, by omega, by omega, by omega⟩
  obtain ⟨N, hN, hN1⟩ : ∃ N : Nat, nr % 300 = N ∧ N < 300 := ⟨(nr % 300).toNat, by omega, by omega⟩
  obtain ⟨mx, hmx, hmx0, hmx1⟩ : ∃ mx : Nat, 40 + ml % 512 = mx ∧ 40 ≤ mx ∧ mx < 552 := ⟨(40 + ml % 512).toNat, by omega, by omega, by omega⟩
  have hW0 : 0 < W.heap.size := World.block_lt_of_cell? _ _ g0
  have hWa : a0.block < W.heap.size := World.block_lt_of_cell? _ _ hat
  go_enter Ybaf.func3, Ybaf.ntmps3
  go_upto_region 9 with (first
    | (go_at_call 7; go_must (refine (fields_any a b n ca m cb _ ha hb).mono ?_); rintro e w1 ⟨fs, hfw, hk1, hk4, rfl, hb1, hz1, hF1⟩; have HF := hide hF1; have HW := hide hfw)
    | (go_at_call 8; go_must (refine (template_any W.heap.size tn fs _ HF HW hk1 hk4 hz1).mono ?_); rintro e w2 ⟨rfl, hb2, hz2, hT2⟩; have hbd := sumL_bd fs hfw; obtain ⟨R, hR⟩ : ∃ R : Nat, sumL fs = R := ⟨(sumL fs).toNat, by omega⟩)
    | (go_at_call 9; go_must (refine (sizes_any W.heap.size fs.length fs _ (hide hT2.fs) HW hk4).mono ?_); rintro e w3 ⟨rfl, rfl⟩))
  rw [hR] at hbd
  have HR := hide hR
  have hM := made_any w2 zrow dm mx
  unfold madeW at hM
  have hc3 := (hM.cell 3).trans rfl
  have hf3 : (newWriterW (.pointer (some ⟨w2.heap.size, 0, none⟩)) dm mx (w2.alloc (.cells zrow 38))).frozen? ⟨w2.heap.size + 2, 3, none⟩ = false := frozen_of_row _ _ 3 _ _ hM.m
  have hbW2 : Below W.heap.size W w2 := hb1.trans (hb2.mono (by omega))
  have hE := envM_made (F := F) (ex := ex) (a := a0) (tx := tx) hM hT2 hz1 hz2 hW0 hWa ((hbW2.cell (p := ⟨0, 0, none⟩) hW0).trans g0) ((hbW2.cell (p := a0) hWa).trans hat) (by rw [hbW2.tape]; exact ht)
  have hS := stZ_made (ex := ex) hM (by omega) (by omega)
  have hbW5 : Below W.heap.size W ((newWriterW (.pointer (some ⟨w2.heap.size, 0, none⟩)) dm mx (w2.alloc (.cells zrow 38))).setCell ⟨w2.heap.size + 2, 3, none⟩ (.int .u32 ex)) := (hbW2.trans (hM.below.mono hbW2.size)).setCell (by show W.heap.size ≤ w2.heap.size + 2; have := hbW2.size; omega) _
  have h5 : w2.heap.size + 3 < ((newWriterW (.pointer (some ⟨w2.heap.size, 0, none⟩)) dm mx (w2.alloc (.cells zrow 38))).setCell ⟨w2.heap.size + 2, 3, none⟩ (.int .u32 ex)).heap.size := by rw [World.size_setCell]; have := hM.size; omega
  have hWl : W.heap.size < w2.heap.size := by omega
  clear hM hT2 hb2 hz2
  by_cases hTL : mx < 24 + (4 + 4 * fs.length) + R
  · have hgt : (24 : Int) + (4 + 4 * (fs.length : Int)) + (R : Int) > (mx : Int) := by omega
    go_wp2_with (go_at_call 10; go_must (refine (newWriter_any _ _ mx _ (by omega) (by omega)).mono ?_); rintro e w3 ⟨rfl, rfl⟩)
    generalize hw6 : World.setCell _ _ _ = w6
    have hE6 : EnvM F w6 (w2.heap.size + 3) (w2.heap.size + 2) w1.heap.size W.heap.size w2.heap.size (w2.heap.size + 1) mx dm ex tn fs a0 tx := by rw [← hw6]; exact hE
    have hS6 : StZ w6 (w2.heap.size + 3) (w2.heap.size + 2) w2.heap.size (w2.heap.size + 1) (w2.heap.size + 3) mx (List.replicate 16 0) 0 := by rw [← hw6]; exact hS
    have hbW6 : Below W.heap.size W w6 := by rw [← hw6]; exact hbW5
    have h6 : w2.heap.size + 3 < w6.heap.size := by rw [← hw6]; exact h5
    clear hE hS hbW5 h5 hc3 hf3 hw6
    generalize w2.heap.size = E at *
    go_loopw [28] (fun s28 wr => ∃ j : Nat, j ≤ N ∧ s28 = .int .i64 j ∧ FarM w6 wr (E + 3) (E + 2) E (E + 1) ∧ StZ wr (E + 3) (E + 2) E (E + 1) (E + 3) mx (List.replicate 16 0) 0) (fun s28 _ => N - (intOf s28).toNat)
    case atStart => exact ⟨0, by omega, rfl, FarM.refl _ _ _ _ _, hS6⟩
    case round =>
      obtain ⟨j, hj, rfl, hFr, hSr⟩ := hrel
      clear hS6
      have hEr := hE6.far hFr
      have hszr := hFr.size
      by_cases hjN : j < N
      · have hFs : Hid (FsAt wr W.heap.size fs) := hide hEr.tpl.fs
        have hil : (j : Int) < (N : Int) := by omega
        have hgv := (hSr.buf.lt (E + 3) rfl).2
        have HSr := hide hSr
        clear hSr
        go_wp2_with (first
          | (go_at_call 12; go_must (refine (values_any W.heap.size fs.length fs j sd _ hFs HW hk4 (by omega) (by omega) sd0 sd1).mono ?_); rintro e w7 ⟨rfl, hb7, hz7, hV7⟩; have hF7 := (Far.below (B := E + 3) (mb := E + 2) (zb := E) hb7 (by omega) (by omega) (by omega)).m (E + 1); have hE7 := hEr.far hF7; have hfl := fits_flat fs (valRows (sd + j * 31) 0 fs) (valRows_fits _ _ _ HW.out) HW.out)
          | (go_at_call 11; go_must (refine (zero_long hE7 (HSr.out.below (by omega) (by omega) (by omega) (by omega) (by omega) (by omega) hb7) wr.heap.size fs.length w7.heap.size (valRows (sd + j * 31) 0 fs) (key_wf' ht1) HW hk4 (by omega) (by omega) hV7.inside (Nat.le_refl _) hz7 (by omega) hgv (hide (valRows_fits _ _ _ HW.out)) (by rw [HR.out] at hfl; show mx < 20 + (4 + (4 + 4 * fs.length)) + _; omega)).mono ?_); rintro e w8 ⟨⟨qb, rfl, hq8⟩, hF8, hS8⟩; have hE8 := hE7.far hF8; have gg := hE8.g0)
          | (go_at_call 13; go_must (refine (is_wrap qb a0 _ hq8).mono ?_); rintro e w9 ⟨rfl, rfl⟩))
        exact ⟨⟨j + 1, by omega, by go_num, hFr.trans (hF7.trans hF8), hS8⟩, by simp [intOf]; omega⟩
      · obtain rfl : N = j := by omega
        have hil : ¬ (N : Int) < (N : Int) := by omega
        have z1 := hSr.sur.z1
        have c7 := hSr.mc.c7
        rw [show (List.replicate 16 (0 : Int)).length = 16 from List.length_replicate] at c7
        have hbr : Below W.heap.size w6 wr := ⟨hFr.os, hFr.tape, hFr.output, hFr.size, fun k hk => hFr.block k (by omega) (by omega) (by omega) (by omega)⟩
        have hbW := hbW6.trans hbr
        clear hSr
        go_wp2_with (go_at_call 14; go_must (refine (flush_none (E + 2) (E + 3) mx _ c7).mono ?_); rintro e w9 ⟨rfl, rfl⟩)
        go_ret
        exact ⟨rfl, hbW⟩
  · have hgt : ¬ ((24 : Int) + (4 + 4 * (fs.length : Int)) + (R : Int) > (mx : Int)) := by omega
    go_wp2_with (go_at_call 10; go_must (refine (newWriter_any _ _ mx _ (by omega) (by omega)).mono ?_); rintro e w3 ⟨rfl, rfl⟩)
    generalize hw6 : World.setCell _ _ _ = w6
    have hE6 : EnvM F w6 (w2.heap.size + 3) (w2.heap.size + 2) w1.heap.size W.heap.size w2.heap.size (w2.heap.size + 1) mx dm ex tn fs a0 tx := by rw [← hw6]; exact hE
    have hS6 : StZ w6 (w2.heap.size + 3) (w2.heap.size + 2) w2.heap.size (w2.heap.size + 1) (w2.heap.size + 3) mx (List.replicate 16 0) 0 := by rw [← hw6]; exact hS
    have hbW6 : Below W.heap.size W w6 := by rw [← hw6]; exact hbW5
    have h6 : w2.heap.size + 3 < w6.heap.size := by rw [← hw6]; exact h5
    clear hE hS hbW5 h5 hc3 hf3 hw6
    generalize w2.heap.size = E at *
    obtain ⟨c1, hc1⟩ : ∃ c1 : Nat, c1 = (mx - (24 + (4 + 4 * fs.length))) / R := ⟨_, rfl⟩
    obtain ⟨c2, hc2⟩ : ∃ c2 : Nat, c2 = (mx - 20) / R := ⟨_, rfl⟩
    have hc1p : 1 ≤ c1 := by rw [hc1]; exact (Nat.le_div_iff_mul_le (by omega)).2 (by omega)
    have hc2p : 1 ≤ c2 := by rw [hc2]; exact (Nat.le_div_iff_mul_le (by omega)).2 (by omega)
    have H1 := hide hc1
    have H2 := hide hc2
    clear hc1 hc2
    have hL0 : MLoop w6 (E + 3) (E + 2) E (E + 1) w1.heap.size tn fs ex dm sd c1 c2 0 := .inl ⟨rfl, _, _, _, _, hS6⟩
    clear hS6
    go_loopw [28] (fun s28 wr => ∃ j : Nat, j ≤ N ∧ s28 = .int .i64 j ∧ FarM w6 wr (E + 3) (E + 2) E (E + 1) ∧ MLoop wr (E + 3) (E + 2) E (E + 1) w1.heap.size tn fs ex dm sd c1 c2 j) (fun s28 _ => N - (intOf s28).toNat)
    case atStart => exact ⟨0, by omega, rfl, FarM.refl _ _ _ _ _, hL0⟩
    case round =>
      obtain ⟨j, hj, rfl, hFr, hSr⟩ := hrel
      clear hL0
      have hEr := hE6.far hFr
      have hszr := hFr.size
      have HSr := hide hSr
      clear hSr
      by_cases hjN : j < N
      · have hFs : Hid (FsAt wr W.heap.size fs) := hide hEr.tpl.fs
        have hil : (j : Int) < (N : Int) := by omega
        go_wp2_with (first
          | (go_at_call 12; go_must (refine (values_any W.heap.size fs.length fs j sd _ hFs HW hk4 (by omega) (by omega) sd0 sd1).mono ?_); rintro e w7 ⟨rfl, hb7, hz7, hV7⟩)
          | (go_at_call 11; go_must (refine (mrec hEr HSr.out hb7 hz7 hV7 fs.length (key_wf' ht1) HW hk4 (by omega) (by omega) HR.out (by omega) H1.out H2.out hc1p (by omega) (by omega) d0 d1 e0 e1).mono ?_); rintro e w8 ⟨rfl, hF8, hS8⟩))
        exact ⟨⟨j + 1, by omega, by go_num, hFr.trans hF8, hS8⟩, by simp [intOf]; omega⟩
      · obtain rfl : N = j := by omega
        have hil : ¬ (N : Int) < (N : Int) := by omega
        have hFs0 : FsAt wr W.heap.size fs := hEr.tpl.fs
        go_upto_region 27 with (first
          | (go_at_call 14; go_must (refine (mflush hEr HSr.out (key_wf' ht1) HW HR.out (by omega) H1.out H2.out hc1p (by omega) (by omega) d0 d1 e0 e1).mono ?_); rintro e w9 ⟨rfl, hF9, gm, mv, vs, out, z0, z1, hms, hout⟩; have hE9 := hEr.far hF9; have hs9 := hF9.size)
          | (go_at_call 15; go_must (refine (model_any W.heap.size tn fs N mx R c1 c2 sd dm ex _ (hide hE9.tpl.fs) HW hk1 hk4 (by omega) (by omega) (by omega) HR.out (by omega) hmx0 (by omega) H1 H2 hc1p sd0 sd1 d0 d1 e0 e1).mono ?_); rintro e wA ⟨hbA, mw, vw, ow, rfl, hmw, how⟩))
        obtain rfl := outs_one hout how
        have hol := outs_len hout hc1p hc2p
        have hmsA : Msgs wA (E + 3) gm mv vs out := hms.keep (fun k _ h2 _ => hbA.block k h2) (.inl rfl)
        have hEl : E < w9.heap.size := by omega
        have y0 : wA.cell? ⟨E, 0, none⟩ = some mv := (hbA.cell (p := ⟨E, 0, none⟩) hEl).trans z0
        have y1 : wA.cell? ⟨E, 1, none⟩ = some (.int .i64 out.length) := (hbA.cell (p := ⟨E, 1, none⟩) hEl).trans z1
        obtain ⟨aM, cM, rfl⟩ := hmsA.form
        obtain ⟨aW, cW, rfl⟩ := hmw.form
        have hlA : E < wA.heap.size := Nat.lt_of_lt_of_le hEl hbA.size
        have hbr : Below W.heap.size w6 wA := (⟨hFr.os, hFr.tape, hFr.output, hFr.size, fun k hk => hFr.block k (by omega) (by omega) (by omega) (by omega)⟩ : Below W.heap.size w6 wr).trans ((⟨hF9.os, hF9.tape, hF9.output, hF9.size, fun k hk => hF9.block k (by omega) (by omega) (by omega) (by omega)⟩ : Below W.heap.size wr w9).trans (hbA.mono (by omega)))
        have hbW := hbW6.trans hbr
        have hWA : W.heap.size ≤ wA.heap.size := by have := hbA.size; omega
        clear z0 z1 hms hout how
        go_wp2
        go_loopw [31] (fun s31 wr => ∃ i : Nat, i ≤ out.length ∧ s31 = .int .i64 i ∧ Below wA.heap.size wA wr) (fun s31 _ => out.length - (intOf s31).toNat)
        case atStart => exact ⟨0, by omega, rfl, Below.refl _ _⟩
        case round =>
          obtain ⟨i, hi, rfl, hbi⟩ := hrel
          obtain ⟨wx, rfl⟩ : ∃ wx, wx = wr := ⟨wr, rfl⟩
          by_cases hlt : i < out.length
          · have hil2 : (i : Int) < (out.length : Int) := by omega
            obtain ⟨gM, rfl, hgM, uM, pM, bM⟩ := hmsA.elem i hlt
            obtain ⟨gW, rfl, hgW, uW, pW, bW⟩ := hmw.elem i hlt
            have x0 : wx.drew.cell? ⟨E, 0, none⟩ = some (.slice (some ⟨gM, 0, none⟩) out.length cM) := (hbi.cell (p := ⟨E, 0, none⟩) hlA).trans y0
            have x1 : wx.drew.cell? ⟨gM, i, none⟩ = some uM := (hbi.cell (p := ⟨gM, i, none⟩) hgM).trans pM
            have x2 : wx.drew.cell? ⟨gW, i, none⟩ = some uW := (hbi.cell (p := ⟨gW, i, none⟩) hgW).trans pW
            have bM' : Buf wx.drew (E + 3) uM out[i] := bM.below (fun k e => (bM.lt k e).2) hbi.drew
            have bW' : Buf wx.drew w9.heap.size uW out[i] := bW.below (fun k e => (bW.lt k e).2) hbi.drew
            have hbd := hbi.drew
            obtain ⟨gu, cu, nu, rfl⟩ := bM'.shape
            obtain ⟨gv, cv, nv, rfl⟩ := bW'.shape
            have heq := eq_wide _ _ _ _ _ wx.drew bW' bM'
            clear bM bW bM' bW' pM pW
            go_upto_region 32 with fail
            go_cut [146] (fun s146 wk => s146 = .bool false ∧ Below wA.heap.size wA wk)
            case first =>
              go_region_with (go_at_call 16; (with_reducible refine Calls.mono heq ?_); rintro e wy ⟨rfl, hby⟩; have hbz := hbd.trans (hby.mono hbd.size))
              all_goals
                go_wp2_with fail
                go_meet
                exact ⟨rfl, hbz⟩
            case rest =>
              obtain ⟨rfl, hbz⟩ := hcut
              go_wp2
              exact ⟨⟨i + 1, by omega, by go_num, hbz⟩, by simp [intOf]; omega⟩
          · have hil2 : ¬ (i : Int) < (out.length : Int) := by omega
            go_wp2
            go_ret
            exact ⟨rfl, hbW.trans (hbi.mono hWA)⟩
end Go.Proofs.YbulkbleuFmt.B
