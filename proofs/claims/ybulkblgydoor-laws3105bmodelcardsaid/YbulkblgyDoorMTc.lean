/- LawS3105BModel: the walk: the Timestamp. -/
import Derived.Test.YbulkblgyDoorMTrunk
namespace Go.Proofs.YbulkblgyDoor
open Go.RowKit
/-- This part, but for 4 smaller ones. -/
structure PartsC (T : Prop) where
  p0 : Prop
  p1 : Prop
  p2 : Prop
  p3 : Prop
  go : Box p0 → Box p1 → Box p2 → Box p3 → T
set_option maxRecDepth 100000 in
set_option maxHeartbeats 40000000 in
noncomputable def partsC : PartsC parts.c := ⟨_, _, _, _,  fun box0 box1 box2 box3 => by
  delta parts
  intro I
  set_option tactic.hygienic false in intros
  cases hs : I.hasTS with
  | false =>
    have f12 : w4.cell? ⟨ib, 12, none⟩ = some (.bool false) := (hC4.cell 12).trans (by rw [← hs]; rfl)
    go_wp2
    go_meet
    exact ⟨[], [], false, .inl ⟨rfl, rfl, rfl⟩, by simp, by simp, gb_refl _ _, rfl, Sl.nil _ _, Sl.nil _ _⟩
  | true =>
    have f12 : w4.cell? ⟨ib, 12, none⟩ = some (.bool true) := (hC4.cell 12).trans (by rw [← hs]; rfl)
    clear hPS hPR hSs4 hSw4 hSr4 hSwr4 hT4 hsl hwl hdl hrrl hwrl
    go_upto_region 61 with fail
    have hgF : w4.grownBy (w4.alloc (.cells #[.int .u8 0, .int .u8 1, .int .u8 3] 29)) none := gb_alloc _ _ _
    have hF : (w4.alloc (.cells #[.int .u8 0, .int .u8 1, .int .u8 3] 29)).heap[w4.heap.size]? = some (.cells #[.int .u8 0, .int .u8 1, .int .u8 3] 29 (0, 0)) := heap_alloc_new _ _
    have hC5 := hC4.kept hgF
    have HG45 := hide hgF
    rw [HB4.out] at hF ⊢
    generalize (w4.alloc (.cells #[.int .u8 0, .int .u8 1, .int .u8 3] 29)) = w5 at *
    have hB5 : B4 < w5.heap.size := (Array.getElem?_eq_some_iff.1 hF).1
    have m0 : w5.cell? ⟨B4, 0, none⟩ = some (.int .u8 0) := by simp [World.cell?, hF]
    have m1 : w5.cell? ⟨B4, 1, none⟩ = some (.int .u8 1) := by simp [World.cell?, hF]
    have m2 : w5.cell? ⟨B4, 2, none⟩ = some (.int .u8 3) := by simp [World.cell?, hF]
    have f21 : w5.cell? ⟨ib, 21, none⟩ = some (.int .u8 I.tsFlag) := (hC5.cell 21).trans rfl
    obtain ⟨l0, l1⟩ := hA.tsf
    obtain ⟨fi, hfi, hfi3⟩ : ∃ fi : Nat, I.tsFlag % 3 = (fi : Int) ∧ fi < 3 := ⟨(I.tsFlag % 3).toNat, by omega, by omega⟩
    obtain ⟨f, hf⟩ : ∃ f : Nat, (fi = 0 ∧ f = 0) ∨ (fi = 1 ∧ f = 1) ∨ (fi = 2 ∧ f = 3) := by
      rcases (show fi = 0 ∨ fi = 1 ∨ fi = 2 by omega) with h | h | h
      · exact ⟨0, .inl ⟨h, rfl⟩⟩
      · exact ⟨1, .inr (.inl ⟨h, rfl⟩)⟩
      · exact ⟨3, .inr (.inr ⟨h, rfl⟩)⟩
    have hf3 : f = 0 ∨ f = 1 ∨ f = 3 := by rcases hf with h | h | h <;> omega
    have Hf := hide hf
    have Hf3 := hide hf3
    clear hf hf3 hF f12 hgF
    have HC5 := hide hC5
    clear hC5
    go_cut [24] from 234 to 239 (fun s24 wk => s24 = .int .u8 f ∧ w5 = wk)
    case first =>
      rcases Hf.out with ⟨rfl, rfl⟩ | ⟨rfl, rfl⟩ | ⟨rfl, rfl⟩
      · go_wp2
        go_meet; exact ⟨rfl, rfl⟩
      · go_wp2
        go_meet; exact ⟨rfl, rfl⟩
      · go_wp2
        go_meet; exact ⟨rfl, rfl⟩
    case rest =>
      obtain ⟨rfl, rfl⟩ := hcut
      clear m0 m1 m2 f21 hfi
      obtain ⟨z, hz⟩ : ∃ z : Nat, z = szT f := ⟨_, rfl⟩
      have hz48 : (f = 0 ∧ z = 4) ∨ (¬ f = 0 ∧ z = 8) := by
        unfold szT at hz
        by_cases h0 : f = 0
        · left; rw [if_pos h0] at hz; exact ⟨h0, hz⟩
        · right; rw [if_neg h0] at hz; exact ⟨h0, hz⟩
      have Hz := hide hz
      have Hz48 := hide hz48
      clear hz hz48
      go_upto_if 241 with fail
      go_cut [25] from 240 to 241 (fun s25 wk => s25 = .int .i64 z ∧ w5 = wk)
      case first =>
        rcases Hz48.out with ⟨rfl, rfl⟩ | ⟨h0, rfl⟩
        · go_wp2
          go_meet; exact ⟨rfl, rfl⟩
        · have hb0 : ((f : Int) == 0) = false := by simpa using h0
          go_wp2
          go_meet; exact ⟨rfl, rfl⟩
      case rest =>
        obtain ⟨rfl, rfl⟩ := hcut
        have hC5 := HC5.out
        have f22 : w5.cell? ⟨ib, 22, none⟩ = some (.int .u8 I.tsSlots) := (hC5.cell 22).trans rfl
        have f23 : w5.cell? ⟨ib, 23, none⟩ = some (.int .u8 I.tsUsed) := (hC5.cell 23).trans rfl
        have f24 : w5.cell? ⟨ib, 24, none⟩ = some (.int .u8 I.tsOver) := (hC5.cell 24).trans rfl
        obtain ⟨l2, l3⟩ := hA.tss
        obtain ⟨l4, l5⟩ := hA.tsu
        obtain ⟨l6, l7⟩ := hA.tso
        obtain ⟨s, hss, hs9⟩ : ∃ s : Nat, I.tsSlots % 10 = (s : Int) ∧ s ≤ 9 := ⟨(I.tsSlots % 10).toNat, by omega, by omega⟩
        obtain ⟨u, huu, hus⟩ : ∃ u : Nat, I.tsUsed % ((s : Int) + 1) = u ∧ u ≤ s := ⟨(I.tsUsed % ((s : Int) + 1)).toNat, by have := Int.emod_nonneg I.tsUsed (show ((s : Int) + 1) ≠ 0 by omega); omega, by have := Int.emod_lt_of_pos I.tsUsed (show (0 : Int) < (s : Int) + 1 by omega); omega⟩
        obtain ⟨o, hoo, ho16⟩ : ∃ o : Nat, I.tsOver % 16 = (o : Int) ∧ o < 16 := ⟨(I.tsOver % 16).toNat, by omega, by omega⟩
        obtain ⟨P, hP⟩ : ∃ P : Nat, P = z * s := ⟨_, rfl⟩
        obtain ⟨R, hR⟩ : ∃ R : Nat, R = z * u := ⟨_, rfl⟩
        have hPi : (z : Int) * (s : Int) = (P : Int) := by rw [hP]; push_cast; rfl
        have hRi : (z : Int) * (u : Int) = (R : Int) := by rw [hR]; push_cast; rfl
        have hP72 : P ≤ 72 := by
          rw [hP]
          exact Nat.mul_le_mul (show z ≤ 8 by rcases Hz48.out with ⟨_, h⟩ | ⟨_, h⟩ <;> omega) hs9
        have hRP : R ≤ P := by rw [hR, hP]; exact Nat.mul_le_mul_left z hus
        have hRz : u < s → R + z ≤ P := fun h => by
          rw [hR, hP]
          have := Nat.mul_le_mul_left z (show u + 1 ≤ s from h)
          rwa [Nat.mul_succ] at this
        have HP := hide hP
        have HR := hide hR
        have HRz := hide hRz
        clear hP hR hRz
        obtain ⟨M, hM⟩ : ∃ M : Nat, (4 : Int) + (P : Int) = M := ⟨4 + P, by omega⟩
        obtain ⟨Q, hQ⟩ : ∃ Q : Nat, (5 : Int) + (R : Int) = Q := ⟨5 + R, by omega⟩
        have HMb := hide (show M = 4 + P by omega)
        have HQb := hide (show Q = 5 + R by omega)
        have hM2 : M ≤ 76 := by omega
        have hQ1 : Q ≤ 77 := by omega
        have hmk := run_bytes w5 M (by omega)
        have hR0 := made_row w5 M
        have hgA : w5.grownBy (w5.alloc (.cells (madeCells #[.int .u8 0] M) 5)) none := gb_alloc _ _ _
        have hwM : IntKind.u8.wrap (M : Int) = (M : Int) := IntWalk.u8_in _ ⟨by omega, by omega⟩
        have hwQ : IntKind.u8.wrap (Q : Int) = (Q : Int) := IntWalk.u8_in _ ⟨by omega, by omega⟩
        go_upto_region 69 with fail
        clear hmk
        obtain ⟨g, hg⟩ : ∃ g, w5.heap.size = g := ⟨_, rfl⟩
        rw [hg] at hR0 ⊢
        have HG5 := hide hg
        generalize (w5.alloc (.cells (madeCells #[.int .u8 0] M) 5)) = w6 at *
        have hgB : B4 < g := by omega
        have hig : ib < g := by omega
        have hwg : w.heap.size ≤ g := by have := Hib.out; omega
        have hC6 := hC5.kept hgA
        have hg46 : w4.grownBy w6 none := gb_trans HG45.out hgA
        clear hg f22 f23 f24 l0 l1 l2 l3 l4 l5 l6 l7 hfi3
        rw [hss, huu, hoo]
        clear hss huu hoo
        have f26 : w6.cell? ⟨ib, 26, none⟩ = some (.slice I.ta I.tn I.tc) := (hC6.cell 26).trans rfl
        have gd : w6.grownBy w6.drew none := gb_drew _ _
        have hIr := hide ((hA.tin.kept hC6.grown).kept gd)
        have hRd := hR0.kept gd (by simp)
        have Hner := hide (show 0 < I.tn → ∀ b o, I.ta = some ⟨b, o, none⟩ → b ≠ g from fun hp b o e => by
          obtain ⟨b', o', e', hb', _⟩ := hA.tin (by rw [hA.tl]; exact hp)
          rw [e] at e'
          simp only [Option.some.injEq, Addr.mk.injEq] at e'
          omega)
        have hrl := hide hA.tl
        have hrn := hide hA.tn
        have hrb := hide hA.tb
        have hMP : M - 4 = P := by have := HMb.out; omega
        have HMP := hide hMP
        have HM2 := hide hM2
        have HP72 := hide hP72
        have hN3 := hide (show 4 + P ≤ (List.replicate M (0 : Int)).length by rw [List.length_replicate]; omega)
        clear hMP
        go_cut [21] from 260 to 264 (fun s21 wk => s21 = .slice (some ⟨g, 0, none⟩) M M ∧ Row wk g 5 (splice (List.replicate M 0) 4 (fillB td 2 P)) ∧ w6.grownBy wk (some g))
        case first =>
          rename_i yQ0 yK1 ya2 yJ3 yK4 ya5 ya6
          revert I w hops rd td hA hw za ab am ca cm ta tm Hgl Hca Hcm Hne ib h hh9 hhn HH w1 Hib u50 u51 tb hit w2 u4 u5 u8 u9 u10 u11 u12 u13 u14 u54 u55 u56 u57 u58 u59 u60 u61 u62 u63 u64 u65 u66 u67 u68 u69 u70 u71 u72 u73 u74 u75 u76 u77 u78 u79 u80 u81 u82 u83 u84 u85 u86 u87 u88 u89 u90 u91 u92 u93 u94 u95 u96 u97 u98 u99 u100 u101 u102 u103 u104 u105 u106 u107 u108 u109 u110 u111 u112 u113 u114 u115 u116 u117 u118 u119 u120 u121 u122 u123 u124 u125 u126 u127 u128 u129 u130 u131 u132 u133 u134 u135 u136 u137 u138 u139 u140 u141 u142 u143 u144 u145 u146 u147 u148 u149 u150 u151 u152 u153 u154 u155 u156 u157 u158 u159 u160 u161 u162 u163 u164 u165 u166 u167 u168 u169 u170 u171 sr wsr dst done w3 B3 u15 u16 u17 u18 u19 u172 u173 u174 u175 u176 u177 u178 u179 u180 u181 u182 u183 u184 u185 u186 u187 u188 u189 u190 u191 u192 u193 u194 u195 u196 u197 u198 u199 u200 u201 u202 u203 u204 u205 u206 u207 u208 u209 u210 u211 u212 u213 u214 u215 u216 u217 u218 u219 u220 u221 u222 u223 u224 u225 u226 u227 u228 u229 u230 rr wrr w4 hC4 K kk B4 hiB4 HB4 J KK jj jk hs w5 HG45 hB5 fi f Hf Hf3 HC5 u234 u235 u236 u237 u238 u239 z Hz Hz48 u240 u241 hC5 s hs9 u hus o ho16 P R hPi hRi hP72 hRP HP HR HRz M hM Q hQ HMb HQb hM2 hQ1 hwM hwQ g HG5 w6 hgA hR0 hgB hig hwg hC6 hg46 f26 gd hIr hRd Hner hrl hrn hrb HMP HM2 HP72 hN3 yQ0 yK1 ya2 yJ3 yK4 ya5 ya6
          exact box0.out
        case rest =>
          obtain ⟨rfl, hRf, hgf⟩ := hcut
          obtain ⟨w7, hw7⟩ : ∃ w7, w7 = wc := ⟨_, rfl⟩
          subst hw7
          clear hRd hR0 gd f26 hIr Hner hrl hrn hrb hN3
          have hDl := fillB_len td 2 P
          obtain ⟨D, hD⟩ : ∃ D, D = fillB td 2 P := ⟨_, rfl⟩
          rw [← hD] at hRf hDl
          have HD := hide hD
          clear hD
          have hM4 : 4 ≤ M := by have := HMb.out; omega
          have hspl : (splice (List.replicate M (0 : Int)) 4 D).length = M := by rw [length_splice _ _ _ (by rw [hDl]; simp; have := HMb.out; omega)]; simp
          have c0 := hRf.cellD 0 (by omega)
          have c1 := hRf.cellD 1 (by omega)
          have c2 := hRf.cellD 2 (by omega)
          have c3 := hRf.cellD 3 (by omega)
          have z0 := hRf.frozen 0
          have z1 := hRf.frozen 1
          have z2 := hRf.frozen 2
          have z3 := hRf.frozen 3
          obtain ⟨V, hV⟩ : ∃ V : Nat, V = o * 16 + f := ⟨_, rfl⟩
          have hbits : bits BinOp.or IntKind.u8 ((o : Int) * 16) (f : Int) = (V : Int) := by rw [hV]; exact bits_or f o Hf3.out ho16
          have hV256 : V < 256 := by rcases Hf3.out with h | h | h <;> omega
          have HV := hide hV
          clear hV
          obtain ⟨a, hai⟩ : ∃ a : Nat, (4 : Int) + (R : Int) = (a : Int) := ⟨4 + R, by omega⟩
          have Ha := hide (show a = 4 + R by omega)
          have haM : a ≤ M := by have := HMb.out; have := Ha.out; omega
          have hR4 := (((hRf.set 0 (by omega) 68 (by omega) (by omega)).set 1 (by rw [List.length_set]; omega) M (by omega) (by omega)).set 2 (by rw [List.length_set, List.length_set]; omega) Q (by omega) (by omega)).set 3 (by rw [List.length_set, List.length_set, List.length_set]; omega) V (by omega) (by omega)
          have hTT : ((((splice (List.replicate M (0 : Int)) 4 D).set 0 68).set 1 (M : Int)).set 2 (Q : Int)).set 3 (V : Int) = tsB f o s u D := by
            have e : List.replicate M (0 : Int) = List.replicate (4 + P) 0 := by rw [HMb.out]
            rw [e, head4f P _ _ _ _ D hDl, tsB, HMb.out, HQb.out, HV.out, HP.out, HR.out, Hz.out]
          rw [hTT] at hR4
          have htl : ∀ D' : List Int, D'.length = P → (tsB f o s u D').length = M := fun D' h => by simp only [tsB, List.length_cons, h]; have := HMb.out; omega
          have hP8 := hR4.pr (by rw [htl D hDl]; omega)
          rw [htl D hDl] at hP8
          have hg8 : w7.grownBy ((((w7.setCell ⟨g, 0, none⟩ (.int .u8 68)).setCell ⟨g, 1, none⟩ (.int .u8 M)).setCell ⟨g, 2, none⟩ (.int .u8 Q)).setCell ⟨g, 3, none⟩ (.int .u8 V)) (some g) := gb_trans (gb_trans (gb_trans (gb_set _ _ _ _) (gb_set _ _ _ _)) (gb_set _ _ _ _)) (gb_set _ _ _ _)
          have hG8 := gb_new hg46 (gb_trans hgf hg8) (by rw [HB4.out]; omega)
          have HTL := hide htl
          have HP8 := hide hP8
          have HG8 := hide hG8
          have HDl := hide hDl
          clear hP8 hG8 hg8 hR4 hTT hspl hRf htl hDl
          go_upto_region 75 with fail
          generalize ((((w7.setCell ⟨g, 0, none⟩ (.int .u8 68)).setCell ⟨g, 1, none⟩ (.int .u8 M)).setCell ⟨g, 2, none⟩ (.int .u8 Q)).setCell ⟨g, 3, none⟩ (.int .u8 V)) = w8 at *
          have hC8 := hC4.kept HG8.out
          clear c0 c1 c2 c3 z0 z1 z2 z3 hM hQ hwM hwQ hPi hRi hbits hai hgA hgf hC5 hC6 hg46 HC5 HG45
          obtain ⟨cnd, hcnd⟩ : ∃ cnd : Bool, (cnd = true ∧ f = 3 ∧ I.tsMatch = true ∧ u < s) ∨ (cnd = false ∧ ¬ (f = 3 ∧ I.tsMatch = true ∧ u < s)) := by
            by_cases h : f = 3 ∧ I.tsMatch = true ∧ u < s
            · exact ⟨true, .inl ⟨rfl, h⟩⟩
            · exact ⟨false, .inr ⟨rfl, h⟩⟩
          have Hcnd := hide hcnd
          clear hcnd
          go_cut [299] from 289 to 298 (fun s299 wk => s299 = .bool cnd ∧ w8 = wk)
          case first =>
            rename_i yQ0 yK1 ya2 yK3 ya4 yJ5 yK6 ya7 ya8
            revert I w hops rd td hA hw za ab am ca cm ta tm Hgl Hca Hcm Hne ib h hh9 hhn HH w1 Hib u50 u51 tb hit w2 u4 u5 u8 u9 u10 u11 u12 u13 u14 u54 u55 u56 u57 u58 u59 u60 u61 u62 u63 u64 u65 u66 u67 u68 u69 u70 u71 u72 u73 u74 u75 u76 u77 u78 u79 u80 u81 u82 u83 u84 u85 u86 u87 u88 u89 u90 u91 u92 u93 u94 u95 u96 u97 u98 u99 u100 u101 u102 u103 u104 u105 u106 u107 u108 u109 u110 u111 u112 u113 u114 u115 u116 u117 u118 u119 u120 u121 u122 u123 u124 u125 u126 u127 u128 u129 u130 u131 u132 u133 u134 u135 u136 u137 u138 u139 u140 u141 u142 u143 u144 u145 u146 u147 u148 u149 u150 u151 u152 u153 u154 u155 u156 u157 u158 u159 u160 u161 u162 u163 u164 u165 u166 u167 u168 u169 u170 u171 sr wsr dst done w3 B3 u15 u16 u17 u18 u19 u172 u173 u174 u175 u176 u177 u178 u179 u180 u181 u182 u183 u184 u185 u186 u187 u188 u189 u190 u191 u192 u193 u194 u195 u196 u197 u198 u199 u200 u201 u202 u203 u204 u205 u206 u207 u208 u209 u210 u211 u212 u213 u214 u215 u216 u217 u218 u219 u220 u221 u222 u223 u224 u225 u226 u227 u228 u229 u230 rr wrr w4 hC4 K kk B4 hiB4 HB4 J KK jj jk hs w5 hB5 fi f Hf Hf3 u234 u235 u236 u237 u238 u239 z Hz Hz48 u240 u241 s hs9 u hus o ho16 P R hP72 hRP HP HR HRz M Q HMb HQb hM2 hQ1 g HG5 w6 hgB hig hwg HMP HM2 HP72 u260 u261 u262 u263 u264 w7 D HD hM4 V hV256 HV a Ha haM HTL HDl w8 HP8 HG8 hC8 cnd Hcnd yQ0 yK1 ya2 yK3 ya4 yJ5 yK6 ya7 ya8
            exact box1.out
          case rest =>
            obtain ⟨rfl, rfl⟩ := hcut
            go_upto_if 299 with fail
            go_cut [30] from 300 to 312 (fun _ wk => ∃ D', D'.length = P ∧ Pr wk g M (tsB f o s u D') ∧ w8.grownBy wk (some g))
            case first =>
              rename_i yQ0 yK1 ya2 yJ3 yK4 ya5 ya6
              revert I w hops rd td hA hw za ab am ca cm ta tm Hgl Hca Hcm Hne ib h hh9 hhn HH w1 Hib u50 u51 tb hit w2 u4 u5 u8 u9 u10 u11 u12 u13 u14 u54 u55 u56 u57 u58 u59 u60 u61 u62 u63 u64 u65 u66 u67 u68 u69 u70 u71 u72 u73 u74 u75 u76 u77 u78 u79 u80 u81 u82 u83 u84 u85 u86 u87 u88 u89 u90 u91 u92 u93 u94 u95 u96 u97 u98 u99 u100 u101 u102 u103 u104 u105 u106 u107 u108 u109 u110 u111 u112 u113 u114 u115 u116 u117 u118 u119 u120 u121 u122 u123 u124 u125 u126 u127 u128 u129 u130 u131 u132 u133 u134 u135 u136 u137 u138 u139 u140 u141 u142 u143 u144 u145 u146 u147 u148 u149 u150 u151 u152 u153 u154 u155 u156 u157 u158 u159 u160 u161 u162 u163 u164 u165 u166 u167 u168 u169 u170 u171 sr wsr dst done w3 B3 u15 u16 u17 u18 u19 u172 u173 u174 u175 u176 u177 u178 u179 u180 u181 u182 u183 u184 u185 u186 u187 u188 u189 u190 u191 u192 u193 u194 u195 u196 u197 u198 u199 u200 u201 u202 u203 u204 u205 u206 u207 u208 u209 u210 u211 u212 u213 u214 u215 u216 u217 u218 u219 u220 u221 u222 u223 u224 u225 u226 u227 u228 u229 u230 rr wrr w4 hC4 K kk B4 hiB4 HB4 J KK jj jk hs w5 hB5 fi f Hf Hf3 u234 u235 u236 u237 u238 u239 z Hz Hz48 u240 u241 s hs9 u hus o ho16 P R hP72 hRP HP HR HRz M Q HMb HQb hM2 hQ1 g HG5 w6 hgB hig hwg HMP HM2 HP72 u260 u261 u262 u263 u264 w7 D HD hM4 V hV256 HV a Ha haM HTL HDl w8 HP8 HG8 hC8 cnd Hcnd u289 u290 u291 u292 u293 u294 u295 u296 u297 u298 yQ0 yK1 ya2 yJ3 yK4 ya5 ya6
              exact box2.out
            case rest =>
              rename_i yQ0 yK1 ya2
              revert I w hops rd td hA hw za ab am ca cm ta tm Hgl Hca Hcm Hne ib h hh9 hhn HH w1 Hib u50 u51 tb hit w2 u4 u5 u8 u9 u10 u11 u12 u13 u14 u54 u55 u56 u57 u58 u59 u60 u61 u62 u63 u64 u65 u66 u67 u68 u69 u70 u71 u72 u73 u74 u75 u76 u77 u78 u79 u80 u81 u82 u83 u84 u85 u86 u87 u88 u89 u90 u91 u92 u93 u94 u95 u96 u97 u98 u99 u100 u101 u102 u103 u104 u105 u106 u107 u108 u109 u110 u111 u112 u113 u114 u115 u116 u117 u118 u119 u120 u121 u122 u123 u124 u125 u126 u127 u128 u129 u130 u131 u132 u133 u134 u135 u136 u137 u138 u139 u140 u141 u142 u143 u144 u145 u146 u147 u148 u149 u150 u151 u152 u153 u154 u155 u156 u157 u158 u159 u160 u161 u162 u163 u164 u165 u166 u167 u168 u169 u170 u171 sr wsr dst done w3 B3 u15 u16 u17 u18 u19 u172 u173 u174 u175 u176 u177 u178 u179 u180 u181 u182 u183 u184 u185 u186 u187 u188 u189 u190 u191 u192 u193 u194 u195 u196 u197 u198 u199 u200 u201 u202 u203 u204 u205 u206 u207 u208 u209 u210 u211 u212 u213 u214 u215 u216 u217 u218 u219 u220 u221 u222 u223 u224 u225 u226 u227 u228 u229 u230 rr wrr w4 hC4 K kk B4 hiB4 HB4 J KK jj jk hs w5 hB5 fi f Hf Hf3 u234 u235 u236 u237 u238 u239 z Hz Hz48 u240 u241 s hs9 u hus o ho16 P R hP72 hRP HP HR HRz M Q HMb HQb hM2 hQ1 g HG5 w6 hgB hig hwg HMP HM2 HP72 u260 u261 u262 u263 u264 w7 D HD hM4 V hV256 HV a Ha haM HTL HDl w8 HP8 HG8 hC8 cnd Hcnd u289 u290 u291 u292 u293 u294 u295 u296 u297 u298 wc u30 u300 u301 u302 u303 u304 u305 u306 u307 u308 u309 u310 u311 u312 hcut yQ0 yK1 ya2
              exact box3.out⟩
end Go.Proofs.YbulkblgyDoor
