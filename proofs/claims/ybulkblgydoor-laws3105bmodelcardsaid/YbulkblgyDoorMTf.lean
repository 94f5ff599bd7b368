/- LawS3105BModel: the walk: the Timestamp: addresses given ahead. -/
import Derived.Test.YbulkblgyDoorMTe
namespace Go.Proofs.YbulkblgyDoor
open Go.RowKit
/-- This part, but for 3 smaller ones. -/
structure PartsF (T : Prop) where
  p0 : Prop
  p1 : Prop
  p2 : Prop
  go : Box p0 → Box p1 → Box p2 → T
set_option maxRecDepth 100000 in
set_option maxHeartbeats 40000000 in
noncomputable def partsF : PartsF partsE.p4 := ⟨_, _, _,  fun box0 box1 box2 => by
  delta partsE
  intro I
  set_option tactic.hygienic false in intros
  have hz8 : z = 8 := by rw [Hz.out, h3]; rfl
  have ha8 : a + 8 ≤ M := by have := HMb.out; have := Ha.out; omega
  have hb0 : ((f : Int) == 0) = false := by rw [beq_eq_false_iff_ne]; omega
  have hb1 : ((f : Int) == 1) = false := by rw [beq_eq_false_iff_ne]; omega
  have H3 := hide h3
  have HZ8 := hide hz8
  clear h3 hz8
  obtain ⟨a4, ha4⟩ : ∃ a4 : Nat, (a : Int) + 4 = (a4 : Int) := ⟨a + 4, by omega⟩
  have ha4n : a4 = a + 4 := by omega
  have hwa4 : IntKind.i64.wrap (a4 : Int) = (a4 : Int) := IntWalk.i64_in _ (by omega)
  have Ha4 := hide ha4n
  have ha44 : a4 + 4 ≤ M := by omega
  have hai : (a4 : Int) ≤ (M : Int) := by omega
  have hai0 : (a : Int) ≤ (a4 : Int) := by omega
  have hMa : ¬ M = a := by omega
  have hsub : a4 - a = 4 := by omega
  clear ha4n
  have hX4 : ((T.drop a).take 4).length = 4 := by rw [List.length_take, List.length_drop, HTl.out]; omega
  have hIX : InB w10.drew (some ⟨g, a, none⟩) ((T.drop a).take 4) := fun _ => ⟨g, a, rfl, HPt.out.lt, fun i hi => by
    have h1 := HPt.out.cellD (a + i) (by rw [HTl.out]; omega)
    have h2 : ((T.drop a).take 4).getD i 0 = T.getD (a + i) 0 := by
      simp only [List.getD]
      rw [List.getElem?_take_of_lt (by omega), List.getElem?_drop]
    rw [h2]
    exact h1⟩
  have hIS : InB w10.drew (some ⟨ib, 4, none⟩) [I.q0, I.q1, I.q2, I.q3] := fun _ => ⟨ib, 4, rfl, HC10.out.lt, fun i hi => (HC10.out.cell (4 + i)).trans (I.selfCell i (by simpa using hi))⟩
  have HX4 := hide hX4
  have HIX := hide hIX
  have HIS := hide hIS
  clear hX4 hIX hIS
  go_upto_region 86 with fail
  go_cut [333] from 326 to 332 (fun s333 wk => s333 = .bool (decide ((T.drop a).take 4 = [I.q0, I.q1, I.q2, I.q3])) ∧ w10.grownBy wk none)
  case first =>
    rename_i yK0 ya1 yJ2 yK3 ya4 ya5
    revert I w hops rd td hA hw za ab am ca cm ta tm Hgl Hca Hcm Hne ib h hh9 hhn HH yQ0 w1 Hib u50 u51 tb hit w2 u4 u5 u8 u9 u10 u11 u12 u13 u14 u54 u55 u56 u57 u58 u59 u60 u61 u62 u63 u64 u65 u66 u67 u68 u69 u70 u71 u72 u73 u74 u75 u76 u77 u78 u79 u80 u81 u82 u83 u84 u85 u86 u87 u88 u89 u90 u91 u92 u93 u94 u95 u96 u97 u98 u99 u100 u101 u102 u103 u104 u105 u106 u107 u108 u109 u110 u111 u112 u113 u114 u115 u116 u117 u118 u119 u120 u121 u122 u123 u124 u125 u126 u127 u128 u129 u130 u131 u132 u133 u134 u135 u136 u137 u138 u139 u140 u141 u142 u143 u144 u145 u146 u147 u148 u149 u150 u151 u152 u153 u154 u155 u156 u157 u158 u159 u160 u161 u162 u163 u164 u165 u166 u167 u168 u169 u170 u171 sr wsr dst done w3 B3 u15 u16 u17 u18 u19 u172 u173 u174 u175 u176 u177 u178 u179 u180 u181 u182 u183 u184 u185 u186 u187 u188 u189 u190 u191 u192 u193 u194 u195 u196 u197 u198 u199 u200 u201 u202 u203 u204 u205 u206 u207 u208 u209 u210 u211 u212 u213 u214 u215 u216 u217 u218 u219 u220 u221 u222 u223 u224 u225 u226 u227 u228 u229 u230 rr wrr w4 hC4 K kk B4 hiB4 HB4 J KK jj jk hs w5 hB5 fi f Hf Hf3 u234 u235 u236 u237 u238 u239 z Hz Hz48 u240 u241 s hs9 u hus o ho16 P R hP72 hRP HP HR HRz M Q HMb HQb hM2 hQ1 g HG5 w6 hgB hig hwg HMP HM2 HP72 u260 u261 u262 u263 u264 w7 D HD hM4 V hV256 HV a Ha haM HTL w8 cnd Hcnd u289 u290 u291 u292 u293 u294 u295 u296 u297 u298 u30 u300 u301 u302 u303 u304 u305 u306 u307 u308 u309 u310 u311 u312 D1 w9 T HT HTl HD1 Ht2 Ht3 w10 g' c hgg hle HSt HPt HG10 HC10 HP10 HDz HWo HFAR hms hlt hRzz f8 HCc ha8 hb0 hb1 H3 HZ8 a4 ha4 hwa4 Ha4 ha44 hai hai0 hMa hsub HX4 HIX HIS yK0 ya1 yJ2 yK3 ya4 ya5
    exact box0.out
  case rest =>
    obtain ⟨rfl, hgk⟩ := hcut
    obtain ⟨wb, hwb⟩ : ∃ wb, wb = wc := ⟨_, rfl⟩
    subst hwb
    have hca : ¬ c = a4 := by omega
    have f8b : wb.cell? ⟨ib, 8, none⟩ = some (.int .u32 I.ms) := HCc.out wb (gb_some _ hgk)
    have HPb := hide (HP10.out.kept hgk (by simp))
    have HPd := hide (HPb.out.kept (gb_drew wb none) (by simp))
    clear f8
    by_cases heq : (T.drop a).take 4 = [I.q0, I.q1, I.q2, I.q3]
    · rename_i yK0 ya1
      revert I w hops rd td hA hw za ab am ca cm ta tm Hgl Hca Hcm Hne ib h hh9 hhn HH yQ0 w1 Hib u50 u51 tb hit w2 u4 u5 u8 u9 u10 u11 u12 u13 u14 u54 u55 u56 u57 u58 u59 u60 u61 u62 u63 u64 u65 u66 u67 u68 u69 u70 u71 u72 u73 u74 u75 u76 u77 u78 u79 u80 u81 u82 u83 u84 u85 u86 u87 u88 u89 u90 u91 u92 u93 u94 u95 u96 u97 u98 u99 u100 u101 u102 u103 u104 u105 u106 u107 u108 u109 u110 u111 u112 u113 u114 u115 u116 u117 u118 u119 u120 u121 u122 u123 u124 u125 u126 u127 u128 u129 u130 u131 u132 u133 u134 u135 u136 u137 u138 u139 u140 u141 u142 u143 u144 u145 u146 u147 u148 u149 u150 u151 u152 u153 u154 u155 u156 u157 u158 u159 u160 u161 u162 u163 u164 u165 u166 u167 u168 u169 u170 u171 sr wsr dst done w3 B3 u15 u16 u17 u18 u19 u172 u173 u174 u175 u176 u177 u178 u179 u180 u181 u182 u183 u184 u185 u186 u187 u188 u189 u190 u191 u192 u193 u194 u195 u196 u197 u198 u199 u200 u201 u202 u203 u204 u205 u206 u207 u208 u209 u210 u211 u212 u213 u214 u215 u216 u217 u218 u219 u220 u221 u222 u223 u224 u225 u226 u227 u228 u229 u230 rr wrr w4 hC4 K kk B4 hiB4 HB4 J KK jj jk hs w5 hB5 fi f Hf Hf3 u234 u235 u236 u237 u238 u239 z Hz Hz48 u240 u241 s hs9 u hus o ho16 P R hP72 hRP HP HR HRz M Q HMb HQb hM2 hQ1 g HG5 w6 hgB hig hwg HMP HM2 HP72 u260 u261 u262 u263 u264 w7 D HD hM4 V hV256 HV a Ha haM HTL w8 cnd Hcnd u289 u290 u291 u292 u293 u294 u295 u296 u297 u298 u30 u300 u301 u302 u303 u304 u305 u306 u307 u308 u309 u310 u311 u312 D1 w9 T HT HTl HD1 Ht2 Ht3 w10 g' c hgg hle HSt HPt HG10 HC10 HP10 HDz HWo HFAR hms hlt hRzz HCc ha8 hb0 hb1 H3 HZ8 a4 ha4 hwa4 Ha4 ha44 hai hai0 hMa hsub HX4 HIX HIS u326 u327 u328 u329 u330 u331 u332 wb hgk hca f8b HPb HPd heq yK0 ya1
      exact box1.out
    · rename_i yK0 ya1
      revert I w hops rd td hA hw za ab am ca cm ta tm Hgl Hca Hcm Hne ib h hh9 hhn HH yQ0 w1 Hib u50 u51 tb hit w2 u4 u5 u8 u9 u10 u11 u12 u13 u14 u54 u55 u56 u57 u58 u59 u60 u61 u62 u63 u64 u65 u66 u67 u68 u69 u70 u71 u72 u73 u74 u75 u76 u77 u78 u79 u80 u81 u82 u83 u84 u85 u86 u87 u88 u89 u90 u91 u92 u93 u94 u95 u96 u97 u98 u99 u100 u101 u102 u103 u104 u105 u106 u107 u108 u109 u110 u111 u112 u113 u114 u115 u116 u117 u118 u119 u120 u121 u122 u123 u124 u125 u126 u127 u128 u129 u130 u131 u132 u133 u134 u135 u136 u137 u138 u139 u140 u141 u142 u143 u144 u145 u146 u147 u148 u149 u150 u151 u152 u153 u154 u155 u156 u157 u158 u159 u160 u161 u162 u163 u164 u165 u166 u167 u168 u169 u170 u171 sr wsr dst done w3 B3 u15 u16 u17 u18 u19 u172 u173 u174 u175 u176 u177 u178 u179 u180 u181 u182 u183 u184 u185 u186 u187 u188 u189 u190 u191 u192 u193 u194 u195 u196 u197 u198 u199 u200 u201 u202 u203 u204 u205 u206 u207 u208 u209 u210 u211 u212 u213 u214 u215 u216 u217 u218 u219 u220 u221 u222 u223 u224 u225 u226 u227 u228 u229 u230 rr wrr w4 hC4 K kk B4 hiB4 HB4 J KK jj jk hs w5 hB5 fi f Hf Hf3 u234 u235 u236 u237 u238 u239 z Hz Hz48 u240 u241 s hs9 u hus o ho16 P R hP72 hRP HP HR HRz M Q HMb HQb hM2 hQ1 g HG5 w6 hgB hig hwg HMP HM2 HP72 u260 u261 u262 u263 u264 w7 D HD hM4 V hV256 HV a Ha haM HTL w8 cnd Hcnd u289 u290 u291 u292 u293 u294 u295 u296 u297 u298 u30 u300 u301 u302 u303 u304 u305 u306 u307 u308 u309 u310 u311 u312 D1 w9 T HT HTl HD1 Ht2 Ht3 w10 g' c hgg hle HSt HPt HG10 HC10 HP10 HDz HWo HFAR hms hlt hRzz HCc ha8 hb0 hb1 H3 HZ8 a4 ha4 hwa4 Ha4 ha44 hai hai0 hMa hsub HX4 HIX HIS u326 u327 u328 u329 u330 u331 u332 wb hgk hca f8b HPb HPd heq yK0 ya1
      exact box2.out⟩
end Go.Proofs.YbulkblgyDoor
