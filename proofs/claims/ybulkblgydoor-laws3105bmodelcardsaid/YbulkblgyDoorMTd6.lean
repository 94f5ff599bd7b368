/- LawS3105BModel: the walk: what the call answered. -/
import Derived.Test.YbulkblgyDoorMTd
namespace Go.Proofs.YbulkblgyDoor
open Go.RowKit
set_option maxRecDepth 100000 in
set_option maxHeartbeats 40000000 in
theorem partD_6 : partsD.p6 := by
  delta partsD
  intro I
  set_option tactic.hygienic false in intros
  obtain ⟨TB, kk, xx, zo, rfl, hTB, hgk, hto, rfl, hout⟩ := hcut
  obtain ⟨wK, hwK⟩ : ∃ wK, wK = wc := ⟨_, rfl⟩
  subst hwK
  have g9K : w9.grownBy wK none := gb_new HgMi.out hgk (by rw [Hbb.out]; exact Nat.le_refl _)
  have hCk := HC9.out.kept g9K
  have hIoK := HIo9.out.kept g9K
  have hIsK := HI9.out.kept g9K
  have hTK := HT9.out.kept g9K (by simp)
  have hSWK := HSW9.out.kept g9K
  have hSWRK := HSWR9.out.kept g9K
  have hSWTK := HSWT9.out.kept g9K
  have gK := hCk.grown
  have k0 := (gK.cell_far ⟨0, 0, none⟩ (by show 0 < _; omega) (by simp)).trans Hgl.out.1
  have k1 := (gK.cell_far ⟨1, 0, none⟩ (by show 1 < _; omega) (by simp)).trans Hgl.out.2.1
  have k2 := (gK.cell_far ⟨2, 0, none⟩ (by show 2 < _; omega) (by simp)).trans Hgl.out.2.2
  have zk2 : 2 < wK.heap.size := Nat.lt_of_lt_of_le (by omega) gK.size
  have hLB := HLB.out
  have hmr := model_reply k ld hPS hPR hPT L hLB
  rw [← Hrp.out] at hmr
  have Hmr := hide hmr
  have HN2 := hide HN.out
  obtain ⟨i67, hi67, hcmp⟩ := Option.map_eq_some_iff.1 comp67
  obtain ⟨j87, hj87, hjs⟩ := Option.map_eq_some_iff.1 size87
  have e38n : ∀ u, (Op.equalIn 9999 38 (.agg #[.int .u64 0, .int .u64 0]) (.agg #[.int .u64 0, .int .u64 0])).run Ybad.prog u = .ok true u := fun u => by simpa using equalIn38 u 9997 0 0
  have e41n : ∀ u, (Op.equalIn 9999 41 (.agg #[.pointer none]) (.agg #[.pointer none])).run Ybad.prog u = .ok true u := fun u => equalIn41nil u 9997
  have eqb : ∀ u, (binOp .eql 45 (.iface 67 (.pointer (some ab))) (.iface 67 (.pointer (some ab)))).run Ybad.prog u = .ok (.bool true) u := fun u => run_eql_iface_ptr_same (P := Ybad.prog) u ab Ybad.underlying45 Ybad.underlying67 hi67 hcmp hj87
  have eqm : ∀ u, (binOp .eql 45 (.iface 67 (.pointer (some am))) (.iface 67 (.pointer (some am)))).run Ybad.prog u = .ok (.bool true) u := fun u => run_eql_iface_ptr_same (P := Ybad.prog) u am Ybad.underlying45 Ybad.underlying67 hi67 hcmp hj87
  have HIoK := hide hIoK
  have HIsK := hide hIsK
  have HTK := hide hTK
  have HSWK := hide hSWK
  have HSWRK := hide hSWRK
  have HSWTK := hide hSWTK
  have HgK := hide gK
  have hn10 : n ≤ 10000 := by omega
  clear hmr hLB hIoK hIsK hTK hSWK hSWRK hSWTK gK hCk g9K hPS hPR hPT HS HG2 HG0 HRg HRi gd2 ge2 gd ge sd se HCr HgMi HC9 HT9 HSW9 HSWR9 HSWT9 HIo9 HI9 HNL Hlc HP HQ hlbb hil' hi' hrow htbb
  cases hdone : done with
  | false =>
    have hmr := Hmr.out
    rw [hdone, if_pos rfl] at hmr
    rw [hmr] at hout
    obtain ⟨rfl, rfl, rfl, rfl⟩ := hout
    clear hmr Hmr eqb k1 k2
    go_wp2_with (go_at_call 7; go_must (with_reducible refine Calls.mono (eq_any ao a9 n co c9 L _ HN2.out hn10 HIoK.out HIsK.out) ?_); rintro e we ⟨rfl, hge⟩; have k0e := (hge.cell_far ⟨0, 0, none⟩ (by show 0 < _; omega) (by simp)).trans k0; have hlte : TB < we.heap.size := Nat.lt_of_lt_of_le (heap_lt hto) hge.size; have hlt0 : 0 < we.heap.size := Nat.lt_of_lt_of_le (Nat.lt_trans (by decide) zk2) hge.size; obtain ⟨t0, t1, t2, _, _, _⟩ := cell3 ((hge.block _ (heap_lt hto) (by simp)).trans hto))
    go_ret
    exact ⟨rfl, gb_trans HgK.out (gb_trans hge (gb_alloc _ _ _))⟩
  | true =>
    cases hbad : bad with
    | true =>
      have hmr := Hmr.out
      rw [hdone, hbad, if_neg (by simp), if_pos rfl] at hmr
      rw [hmr] at hout
      obtain ⟨rfl, rfl, rfl, rfl⟩ := hout
      clear hmr Hmr eqm k0 k2
      go_wp2_with (go_at_call 7; go_must (with_reducible refine Calls.mono (eq_any ao a9 n co c9 L _ HN2.out hn10 HIoK.out HIsK.out) ?_); rintro e we ⟨rfl, hge⟩; have k1e := (hge.cell_far ⟨1, 0, none⟩ (by show 1 < _; omega) (by simp)).trans k1; have hlte : TB < we.heap.size := Nat.lt_of_lt_of_le (heap_lt hto) hge.size; have hlt1 : 1 < we.heap.size := Nat.lt_of_lt_of_le (Nat.lt_trans (by decide) zk2) hge.size; obtain ⟨t0, t1, t2, _, _, _⟩ := cell3 ((hge.block _ (heap_lt hto) (by simp)).trans hto))
      go_ret
      exact ⟨rfl, gb_trans HgK.out (gb_trans hge (gb_alloc _ _ _))⟩
    | false =>
      have hmr := Hmr.out
      rw [hdone, hbad, if_neg (by simp), if_neg (by simp)] at hmr
      rw [hmr] at hout
      clear hmr eqb eqm e38n e41n k0 k1
      obtain ⟨X, hX⟩ : ∃ X, X = wsr ++ wrr ++ wts := ⟨_, rfl⟩
      rw [← hX] at hout
      obtain ⟨out, hoe⟩ : ∃ out, out = X ++ pad X.length 3 := ⟨_, rfl⟩
      rw [← hoe] at hout
      obtain ⟨d0, d1, d2, d3, rfl⟩ : ∃ d0 d1 d2 d3, dst = [d0, d1, d2, d3] := by
        match dst, hdl with
        | [x0, x1, x2, x3], _ => exact ⟨x0, x1, x2, x3, rfl⟩
      obtain ⟨rfl, rfl, rfl, rfl, hRo⟩ := hout
      have hnl : numL [d0, d1, d2, d3] = num4 d0 d1 d2 d3 := rfl
      rw [hnl] at hto
      have hXl : X.length ≤ 154 := by rw [hX]; simp; omega
      have hpl := pad_len 3 X.length
      obtain ⟨o, ho⟩ : ∃ o, out.length = o := ⟨_, rfl⟩
      have ho1 : o ≤ 157 := by rw [← ho, hoe, List.length_append]; have := hpl.1; omega
      have hoN : o ≤ N := by
        have hr := Hmr.out
        rw [hdone, hbad, if_neg (by simp), if_neg (by simp), ← hX, ← hoe, Hrp.out] at hr
        obtain ⟨m2, _, _, _⟩ := reply_raw rfl rfl hr
        have := HNn.out
        have := HN2.out
        omega
      rw [ho]
      have HXe := hide hX
      have Hoe := hide hoe
      have Ho := hide ho
      have Hpl := hide hpl
      have hsp : splice (List.replicate N (170 : Int)) 0 out = out ++ List.replicate (N - o) 170 := by rw [← ho]; simp [splice]
      have hlen : (splice (List.replicate N (170 : Int)) 0 out).length = N := by rw [hsp]; simp [ho]; omega
      have hc17 : ∀ i, o ≤ i → i < N → wK.cell? ⟨bb, i, none⟩ = some (.int .u8 170) := by
        intro i hi1 hi2
        have := hRo.cellD i (by omega)
        rw [this, hsp, List.getD_eq_getElem?_getD, List.getElem?_append_right (by omega), List.getElem?_replicate_of_lt (by omega)]
        rfl
      have hIb : InB wK (some ⟨bb, 0, none⟩) out := fun _ => ⟨bb, 0, rfl, hRo.lt, fun i hi => by
        have := hRo.cellD i (by rw [hlen]; omega)
        rw [Nat.zero_add, this, hsp, List.getD_eq_getElem?_getD, List.getElem?_append_left hi, ← List.getD_eq_getElem?_getD]⟩
      have hlk : bb < wK.heap.size := hRo.lt
      have HIb := hide hIb
      have Hc := hide hc17
      clear hIb hc17 hRo hsp hlen hX hoe ho hpl
      obtain ⟨a5, c5, rfl, hc5, hI5⟩ := HSWK.out.form
      obtain ⟨a6, c6, rfl, hc6, hI6⟩ := HSWRK.out.form
      obtain ⟨a7, c7, rfl, hc7, hI7⟩ := HSWTK.out.form
      have hb5 := hide HSWK.out.bytes
      have hb6 := hide HSWRK.out.bytes
      have hb7 := hide HSWTK.out.bytes
      have HI5 := hide hI5
      have HI6 := hide hI6
      have HI7 := hide hI7
      clear hc5 hc6 hc7 hI5 hI6 hI7 HSWK HSWRK HSWTK
      go_upto_region 132 with (go_at_call 7; go_must (with_reducible refine Calls.mono (eq_any ao a9 n co c9 L _ HN2.out hn10 HIoK.out HIsK.out) ?_); rintro e we ⟨rfl, hge⟩; have hlte : TB < we.heap.size := Nat.lt_of_lt_of_le (heap_lt hto) hge.size)
      have gZ : wK.grownBy (we.alloc (.cells #[.int .u64 0, .int .u64 0, .pointer none] 43)) none := gb_trans hge (gb_alloc _ _ _)
      generalize we.alloc (.cells #[.int .u64 0, .int .u64 0, .pointer none] 43) = wz at *
      have HgZ := hide gZ
      have HI5z := hide (HI5.out.kept gZ)
      have HI6z := hide (HI6.out.kept gZ)
      have HI7z := hide (HI7.out.kept gZ)
      obtain ⟨Bz, hBz⟩ : ∃ Bz, wz.heap.size = Bz := ⟨_, rfl⟩
      have HBz := hide hBz
      clear hBz gZ HI5 HI6 HI7 hge hlte
      have Hl1 := hide (show ([] : List Int).length + wsr.length ≤ 100000 by simp; omega)
      go_upto_region 133 with (at_builtin; refine wpList_app wz rfl _ _ rfl Bz (.slice none 0 0) [] rfl (Sl.nil _ _) a5 wsr.length c5 wsr rfl rfl hb5.out HI5z.out (by rw [HBz.out]; exact Nat.le_refl _) Hl1.out ?_; rintro v1 wx1 hS1 hg1)
      rw [List.nil_append] at hS1
      have hz1 : wz.grownBy wx1 none := hg1
      have HI6y := hide (HI6z.out.kept hz1)
      have HBy := hide (show Bz ≤ wx1.heap.size by have := hz1.size; have := HBz.out; omega)
      have HS1 := hide hS1
      have Hl2 := hide (show wsr.length + wrr.length ≤ 100000 by omega)
      have Hz1 := hide hz1
      clear hS1 hg1 hz1 HI5z HI6z
      go_upto_region 134 with (at_builtin; refine wpList_app wx1 rfl _ _ rfl Bz v1 wsr rfl HS1.out a6 wrr.length c6 wrr rfl rfl hb6.out HI6y.out HBy.out Hl2.out ?_; rintro v2 wx2 hS2 hg2)
      have hz2' : wz.grownBy wx2 none := HS1.out.gb Hz1.out (by rw [HBz.out]; exact Nat.le_refl _) hg2
      have HI7x := hide (HI7z.out.kept hz2')
      have HBx := hide (show Bz ≤ wx2.heap.size by have := hz2'.size; have := HBz.out; omega)
      have HS2 := hide hS2
      have Hl3 := hide (show (wsr ++ wrr).length + wts.length ≤ 100000 by simp; omega)
      have Hz2 := hide hz2'
      clear hS2 hg2 hz2' HI7z HI6y HS1 HBy Hz1
      go_upto_region 135 with (at_builtin; refine wpList_app wx2 rfl _ _ rfl Bz v2 (wsr ++ wrr) rfl HS2.out a7 wts.length c7 wts rfl rfl hb7.out HI7x.out HBx.out Hl3.out ?_; rintro v3 wx3 hS3 hg3)
      have hz3 : wz.grownBy wx3 none := HS2.out.gb Hz2.out (by rw [HBz.out]; exact Nat.le_refl _) hg3
      rw [← HXe.out] at hS3
      clear hg3 HI7x HS2 HBx Hz2
      have hst3 : 4 * ((X.length + 3) / 4) ≤ X.length + 3 := by omega
      go_loopw [45] (fun s45 wr => ∃ (Wt : List Int) (kp : Nat), Sl wr Bz s45 Wt ∧ Hid (Wt ++ pad Wt.length kp = out) ∧ Wt.length ≤ 157 ∧ 4 * ((Wt.length + 3) / 4) ≤ Wt.length + kp ∧ wz.grownBy wr none) (fun s45 _ => 160 - lenV s45)
      case atStart => exact ⟨X, 3, hS3, hide Hoe.out.symm, by omega, hst3, hz3⟩
      case round => as_aux_lemma =>
        obtain ⟨Wt, kp, hSt, hWo, hW1, hkp, hgt⟩ := hrel
        obtain ⟨wt, hwt⟩ : ∃ wt, wt = wr := ⟨_, rfl⟩
        subst hwt
        obtain ⟨aw, cw, rfl, hcw, hIw⟩ := hSt.form
        clear hS3 hz3 hst3
        obtain ⟨m, hm⟩ : ∃ m, Wt.length = m := ⟨_, rfl⟩
        rw [hm] at hkp hW1 ⊢
        obtain ⟨r, hr, hrm⟩ : ∃ r : Nat, (m : Int) % 4 = (r : Int) ∧ r = m % 4 := ⟨m % 4, by omega, rfl⟩
        have Hm := hide hm
        have Hrm := hide hrm
        clear hm hrm
        by_cases hr0 : r = 0
        · subst hr0
          have hWe : Wt = out := by
            have := hWo.out
            rwa [pad_nil (by rw [Hm.out]; exact Hrm.out.symm), List.append_nil] at this
          obtain rfl : m = o := by rw [← Hm.out, hWe, Ho.out]
          subst hWe
          have hgKt := gb_trans HgZ.out hgt
          have HIbt := hide (HIb.out.kept hgKt)
          have HIwt := hide hIw
          have hmN : (m : Int) ≤ (N : Int) := by omega
          have hmN2 : ¬ (m : Int) > (N : Int) := by omega
          have HgKt := hide hgKt
          have hm10 : m ≤ 10000 := by omega
          clear hWo hSt hIw hkp hcw hgKt hgt HIb
          go_upto_region 140 with (go_at_call 7; go_must (with_reducible refine Calls.mono (eq_any (some ⟨bb, 0, none⟩) aw m N cw Wt _ Hm.out hm10 HIbt.out HIwt.out) ?_); rintro e wf ⟨rfl, hgf⟩)
          have gF : wK.grownBy wf none := gb_trans HgKt.out hgf
          clear hgf HIbt HIwt HgKt
          go_loopw [46] (fun s46 wl => ∃ i : Nat, m ≤ i ∧ i ≤ N ∧ s46 = .int .i64 i ∧ wl = wf) (fun s46 _ => N - (intOf s46).toNat)
          case atStart => exact ⟨m, Nat.le_refl _, hoN, rfl, rfl⟩
          case round => as_aux_lemma =>
            obtain ⟨i, hi1, hi2, rfl, rfl⟩ := hrel
            by_cases hlt : i < N
            · have hil : (i : Int) < (N : Int) := by omega
              have ci := (gF.cell_far ⟨bb, i, none⟩ hlk (by simp)).trans (Hc.out i hi1 hlt)
              go_wp2
              exact ⟨⟨i + 1, by omega, by omega, by go_num, by first | rfl | trivial⟩, by simp [intOf]; omega⟩
            · have hiN : N = i := by omega
              subst hiN
              have hil : ¬ (N : Int) < (N : Int) := by omega
              have hto2 := (gF.block _ (heap_lt hto) (by simp)).trans hto
              obtain ⟨t0, t1, t2, _, _, _⟩ := cell3 hto2
              have hTt := HTK.out.kept gF (by simp)
              have s0 := hTt.cellD 0 (by simp)
              have s1 := hTt.cellD 1 (by simp)
              have s2 := hTt.cellD 2 (by simp)
              have s3 := hTt.cellD 3 (by simp)
              have db0 := hTt.bytes d0 (by simp)
              have db1 := hTt.bytes d1 (by simp)
              have db2 := hTt.bytes d2 (by simp)
              have db3 := hTt.bytes d3 (by simp)
              have htl' := hTt.lt
              simp only [List.getD_cons_zero, List.getD_cons_succ] at s0 s1 s2 s3
              have e38 : ∀ u, (Op.equalIn 9999 38 (.agg #[.int .u64 0, .int .u64 (num4 d0 d1 d2 d3)]) (.agg #[.int .u64 0, .int .u64 (num4 d0 d1 d2 d3)])).run Ybad.prog u = .ok true u := fun u => by simpa using equalIn38 u 9997 (num4 d0 d1 d2 d3) (num4 d0 d1 d2 d3)
              have e41 : ∀ u, (Op.equalIn 9999 41 (.agg #[.pointer (some za)]) (.agg #[.pointer (some za)])).run Ybad.prog u = .ok true u := fun u => equalIn41 u 9997 za
              have z2 : wr.drew.cell? ⟨2, 0, none⟩ = some (.pointer (some za)) := (gF.cell_far ⟨2, 0, none⟩ zk2 (by simp)).trans k2
              have zz2 : 2 < wr.drew.heap.size := Nat.lt_of_lt_of_le zk2 gF.size
              have hTl : TB < wr.heap.size := heap_lt hto2
              have Hto2 := hide hto2
              have HTt := hide hTt
              clear hto2 hTt hto k2
              go_wp2_with fail
              go_region_with (go_at_call 9; (with_reducible refine Calls.mono (from4 d0 d1 d2 d3 za wr.drew z2 zz2 db0.1 db0.2 db1.1 db1.2 db2.1 db2.2 db3.1 db3.2) ?_); rintro e wy ⟨rfl, hgy⟩; obtain ⟨t0', t1', t2', _, _, _⟩ := cell3 ((hgy.block _ hTl (by simp)).trans Hto2.out))
              all_goals go_wp2
              all_goals
                go_ret
                exact ⟨rfl, gb_trans HgK.out (gb_trans gF (gb_trans (gb_drew _ _) hgy))⟩
        · have hrn : ((r : Int) == 0) = false := by rw [beq_eq_false_iff_ne]; omega
          have hrn2 : ((r : Int) != 0) = true := by simp; omega
          obtain ⟨kq, rfl⟩ : ∃ kq, kp = kq + 1 := ⟨kp - 1, by have := Hrm.out; omega⟩
          have hgo := pad_go Wt kq (by rw [Hm.out]; have := Hrm.out; omega)
          have HI1 := hide (show InB (wt.alloc (.cells #[.int .u8 0] 5)) (some ⟨wt.heap.size, 0, none⟩) [0] from inB_new wt [0])
          have HBl := hide (show Bz ≤ (wt.alloc (.cells #[.int .u8 0] 5)).heap.size by have := hgt.size; have := HBz.out; simp; omega)
          have HS1 := hide (hSt.kept (gb_alloc wt (.cells #[.int .u8 0] 5) none))
          rw [Hm.out] at HS1
          have Hgi := hide (gb_trans hgt (gb_alloc wt (.cells #[.int .u8 0] 5) none))
          have Hgo := hide hgo
          have Hkp := hide hkp
          have Hml := hide (show Wt.length + 1 ≤ 100000 by rw [Hm.out]; omega)
          have hol : m + 1 ≤ 157 := by
            have h1 := congrArg List.length hWo.out
            rw [← hgo, List.length_append, List.length_append, Ho.out, Hm.out] at h1
            simp at h1
            omega
          have Hr0 := hide hr0
          clear hgo hkp hSt hIw hcw hgt hr0
          go_wp2_with (at_builtin; refine wpList_app (wt.alloc (.cells #[.int .u8 0] 5)) rfl _ _ rfl Bz _ Wt rfl HS1.out (some ⟨wt.heap.size, 0, none⟩) 1 1 [0] rfl rfl (by simp) HI1.out HBl.out Hml.out ?_; rintro v' w' hS' hg')
          obtain ⟨av, cv, rfl, _, _⟩ := hS'.form
          refine ⟨⟨Wt ++ [0], kq, hS', hide (by rw [Hgo.out]; exact hWo.out), by simp [Hm.out]; omega, ?_, HS1.out.gb Hgi.out (by rw [HBz.out]; exact Nat.le_refl _) hg'⟩, ?_⟩
          · rw [List.length_append, Hm.out]
            have := Hkp.out
            have := Hrm.out
            have := Hr0.out
            simp only [List.length_cons, List.length_nil]
            omega
          · simp [lenV, Hm.out]; omega
end Go.Proofs.YbulkblgyDoor
