/- LawS3105BModel: the walk: the Timestamp: what is wanted. -/
import Derived.Test.YbulkblgyDoorMTc
namespace Go.Proofs.YbulkblgyDoor
open Go.RowKit
/-- This part, but for 5 smaller ones. -/
structure PartsE (T : Prop) where
  p0 : Prop
  p1 : Prop
  p2 : Prop
  p3 : Prop
  p4 : Prop
  go : Box p0 → Box p1 → Box p2 → Box p3 → Box p4 → T
set_option maxRecDepth 100000 in
set_option maxHeartbeats 40000000 in
noncomputable def partsE : PartsE partsC.p3 := ⟨_, _, _, _, _,  fun box0 box1 box2 box3 box4 => by
  delta partsC
  intro I
  set_option tactic.hygienic false in intros
  obtain ⟨D1, hD1, hP9, hg9⟩ := hcut
  obtain ⟨w9, hw9⟩ : ∃ w9, w9 = wc := ⟨_, rfl⟩
  subst hw9
  have hG9 := gb_new HG8.out hg9 (by rw [HB4.out]; omega)
  obtain ⟨T, hT⟩ : ∃ T, T = tsB f o s u D1 := ⟨_, rfl⟩
  have hTl : T.length = M := by rw [hT]; exact HTL.out D1 hD1
  rw [← hT] at hP9
  have hI9 : InB w9 (some ⟨g, 0, none⟩) T := fun _ => ⟨g, 0, rfl, hP9.lt, fun i hi => by rw [Nat.zero_add]; exact hP9.cellD i hi⟩
  have HI9 := hide hI9
  have HT := hide hT
  have HTl := hide hTl
  have HG9 := hide hG9
  have HP9 := hide hP9
  have HD1 := hide hD1
  have ht2 : T.getD 2 0 = (Q : Int) := by rw [hT, tsB_2, HQb.out, HR.out, Hz.out]
  have ht3 : T.getD 3 0 = (V : Int) := by rw [hT, tsB_3, HV.out]
  have Ht2 := hide ht2
  have Ht3 := hide ht3
  clear hI9 hT hTl hG9 hP9 hD1 ht2 ht3 HP8 HG8 hC8 hg9 HDl
  go_upto_if 317 with (at_builtin; refine wpList_app w9 rfl _ _ rfl w9.heap.size (.slice none 0 0) [] rfl (Sl.nil _ _) (some ⟨g, 0, none⟩) M M T rfl HTl.out HP9.out.bytes HI9.out (Nat.le_refl _) (by simp; omega) ?_; rintro v' w10 hS10 hg10)
  rw [List.nil_append] at hS10
  have hg10' : w9.grownBy w10 none := hg10
  rcases hS10.view with ⟨_, e0⟩ | ⟨g', c, rfl, hgB', hP10⟩
  · exact absurd (congrArg List.length e0) (by rw [HTl.out]; simp; omega)
  · rw [HTl.out]
    have hgg : g < g' := by have := HP9.out.lt; omega
    have hle : M ≤ c := by rw [← HTl.out]; exact hP10.le
    have hPt := HP9.out.kept hg10' (by simp)
    have hSt : Sl w10 B4 (.slice (some ⟨g, 0, none⟩) M M) T := by
      have := hPt.sl (B := B4) (by omega)
      rwa [HTl.out] at this
    have hG10 := gb_trans HG9.out hg10'
    have hC10 := hC4.kept hG10
    have HSt := hide hSt
    have HPt := hide hPt
    have HG10 := hide hG10
    have HC10 := hide hC10
    have HP10 := hide hP10
    have HDz := hide (show D1.length = szT f * s by rw [HD1.out, HP.out, Hz.out])
    have HWo : Wo T 68 := by rw [HT.out]; exact tsB_wo HDz.out
    clear hSt hPt hG10 hC10 hg10 hg10' hS10 HP9 HI9 HG9 hgB' hP10
    have hfar : ∀ wq, w10.grownBy wq (some g') → w4.grownBy wq none ∧ Sl wq B4 (.slice (some ⟨g, 0, none⟩) M M) T := fun wq hq => ⟨gb_new HG10.out hq (by rw [HB4.out]; omega), HSt.out.far hq (by simp [Value.ownBlock]; omega)⟩
    have HFAR := hide hfar
    clear hfar
    have hms := hA.ms
    by_cases hus' : u = s
    · subst hus'
      by_cases h15 : o = 15
      · revert I w hops rd td hA hw za ab am ca cm ta tm Hgl Hca Hcm Hne ib h hh9 hhn HH yQ0 w1 Hib u50 u51 tb hit w2 u4 u5 u8 u9 u10 u11 u12 u13 u14 u54 u55 u56 u57 u58 u59 u60 u61 u62 u63 u64 u65 u66 u67 u68 u69 u70 u71 u72 u73 u74 u75 u76 u77 u78 u79 u80 u81 u82 u83 u84 u85 u86 u87 u88 u89 u90 u91 u92 u93 u94 u95 u96 u97 u98 u99 u100 u101 u102 u103 u104 u105 u106 u107 u108 u109 u110 u111 u112 u113 u114 u115 u116 u117 u118 u119 u120 u121 u122 u123 u124 u125 u126 u127 u128 u129 u130 u131 u132 u133 u134 u135 u136 u137 u138 u139 u140 u141 u142 u143 u144 u145 u146 u147 u148 u149 u150 u151 u152 u153 u154 u155 u156 u157 u158 u159 u160 u161 u162 u163 u164 u165 u166 u167 u168 u169 u170 u171 sr wsr dst done w3 B3 u15 u16 u17 u18 u19 u172 u173 u174 u175 u176 u177 u178 u179 u180 u181 u182 u183 u184 u185 u186 u187 u188 u189 u190 u191 u192 u193 u194 u195 u196 u197 u198 u199 u200 u201 u202 u203 u204 u205 u206 u207 u208 u209 u210 u211 u212 u213 u214 u215 u216 u217 u218 u219 u220 u221 u222 u223 u224 u225 u226 u227 u228 u229 u230 rr wrr w4 hC4 K kk B4 hiB4 HB4 J KK jj jk hs w5 hB5 fi f Hf Hf3 u234 u235 u236 u237 u238 u239 z Hz Hz48 u240 u241 u o ho16 P R hP72 hRP HR M Q HMb HQb hM2 hQ1 g HG5 w6 hgB hig hwg HMP HM2 HP72 u260 u261 u262 u263 u264 w7 D HD hM4 V hV256 HV a Ha haM w8 cnd u289 u290 u291 u292 u293 u294 u295 u296 u297 u298 u30 u300 u301 u302 u303 u304 u305 u306 u307 u308 u309 u310 u311 u312 D1 w9 T HTl HD1 Ht2 Ht3 w10 g' c hgg hle HSt HPt HG10 HC10 HP10 HWo HFAR hms hs9 hus HP HRz HTL Hcnd HT HDz h15
        exact box0.out
      · revert I w hops rd td hA hw za ab am ca cm ta tm Hgl Hca Hcm Hne ib h hh9 hhn HH yQ0 w1 Hib u50 u51 tb hit w2 u4 u5 u8 u9 u10 u11 u12 u13 u14 u54 u55 u56 u57 u58 u59 u60 u61 u62 u63 u64 u65 u66 u67 u68 u69 u70 u71 u72 u73 u74 u75 u76 u77 u78 u79 u80 u81 u82 u83 u84 u85 u86 u87 u88 u89 u90 u91 u92 u93 u94 u95 u96 u97 u98 u99 u100 u101 u102 u103 u104 u105 u106 u107 u108 u109 u110 u111 u112 u113 u114 u115 u116 u117 u118 u119 u120 u121 u122 u123 u124 u125 u126 u127 u128 u129 u130 u131 u132 u133 u134 u135 u136 u137 u138 u139 u140 u141 u142 u143 u144 u145 u146 u147 u148 u149 u150 u151 u152 u153 u154 u155 u156 u157 u158 u159 u160 u161 u162 u163 u164 u165 u166 u167 u168 u169 u170 u171 sr wsr dst done w3 B3 u15 u16 u17 u18 u19 u172 u173 u174 u175 u176 u177 u178 u179 u180 u181 u182 u183 u184 u185 u186 u187 u188 u189 u190 u191 u192 u193 u194 u195 u196 u197 u198 u199 u200 u201 u202 u203 u204 u205 u206 u207 u208 u209 u210 u211 u212 u213 u214 u215 u216 u217 u218 u219 u220 u221 u222 u223 u224 u225 u226 u227 u228 u229 u230 rr wrr w4 hC4 K kk B4 hiB4 HB4 J KK jj jk hs w5 hB5 fi f Hf Hf3 u234 u235 u236 u237 u238 u239 z Hz Hz48 u240 u241 u o ho16 P R hP72 hRP HR M Q HMb HQb hM2 hQ1 g HG5 w6 hgB hig hwg HMP HM2 HP72 u260 u261 u262 u263 u264 w7 D HD hM4 V hV256 HV a Ha haM w8 cnd u289 u290 u291 u292 u293 u294 u295 u296 u297 u298 u30 u300 u301 u302 u303 u304 u305 u306 u307 u308 u309 u310 u311 u312 D1 w9 T HTl HD1 Ht2 Ht3 w10 g' c hgg hle HSt HPt HG10 HC10 HP10 HWo HFAR hms hs9 hus HP HRz HTL Hcnd HT HDz h15
        exact box1.out
    · have hlt : u < s := by omega
      have hbus : ((u : Int) == (s : Int)) = false := by rw [beq_eq_false_iff_ne]; omega
      have hRzz := HRz.out hlt
      rw [hbus]
      clear hus' hbus
      have f8 : w10.cell? ⟨ib, 8, none⟩ = some (.int .u32 I.ms) := (HC10.out.cell 8).trans rfl
      have hCc : ∀ wq, w10.grownBy wq (some g') → wq.cell? ⟨ib, 8, none⟩ = some (.int .u32 I.ms) := fun wq hq => ((HC10.out.own hq (by omega)).cell 8).trans rfl
      have HCc := hide hCc
      clear hCc
      rcases Hf3.out with rfl | rfl | h3
      · revert I w hops rd td hA hw za ab am ca cm ta tm Hgl Hca Hcm Hne ib h hh9 hhn HH yQ0 w1 Hib u50 u51 tb hit w2 u4 u5 u8 u9 u10 u11 u12 u13 u14 u54 u55 u56 u57 u58 u59 u60 u61 u62 u63 u64 u65 u66 u67 u68 u69 u70 u71 u72 u73 u74 u75 u76 u77 u78 u79 u80 u81 u82 u83 u84 u85 u86 u87 u88 u89 u90 u91 u92 u93 u94 u95 u96 u97 u98 u99 u100 u101 u102 u103 u104 u105 u106 u107 u108 u109 u110 u111 u112 u113 u114 u115 u116 u117 u118 u119 u120 u121 u122 u123 u124 u125 u126 u127 u128 u129 u130 u131 u132 u133 u134 u135 u136 u137 u138 u139 u140 u141 u142 u143 u144 u145 u146 u147 u148 u149 u150 u151 u152 u153 u154 u155 u156 u157 u158 u159 u160 u161 u162 u163 u164 u165 u166 u167 u168 u169 u170 u171 sr wsr dst done w3 B3 u15 u16 u17 u18 u19 u172 u173 u174 u175 u176 u177 u178 u179 u180 u181 u182 u183 u184 u185 u186 u187 u188 u189 u190 u191 u192 u193 u194 u195 u196 u197 u198 u199 u200 u201 u202 u203 u204 u205 u206 u207 u208 u209 u210 u211 u212 u213 u214 u215 u216 u217 u218 u219 u220 u221 u222 u223 u224 u225 u226 u227 u228 u229 u230 rr wrr w4 hC4 K kk B4 hiB4 HB4 J KK jj jk hs w5 hB5 fi u234 u235 u236 u237 u238 u239 z u240 u241 s hs9 u hus o ho16 P R hP72 hRP HP HR HRz M Q HMb HQb hM2 hQ1 g HG5 w6 hgB hig hwg HMP HM2 HP72 u260 u261 u262 u263 u264 w7 D HD hM4 V hV256 a Ha haM w8 cnd u289 u290 u291 u292 u293 u294 u295 u296 u297 u298 u30 u300 u301 u302 u303 u304 u305 u306 u307 u308 u309 u310 u311 u312 D1 w9 T HTl HD1 Ht2 Ht3 w10 g' c hgg hle HSt HPt HG10 HC10 HP10 HWo HFAR hms hlt hRzz f8 HCc Hf Hf3 Hz Hz48 HV HTL Hcnd HT HDz
        exact box2.out
      · revert I w hops rd td hA hw za ab am ca cm ta tm Hgl Hca Hcm Hne ib h hh9 hhn HH yQ0 w1 Hib u50 u51 tb hit w2 u4 u5 u8 u9 u10 u11 u12 u13 u14 u54 u55 u56 u57 u58 u59 u60 u61 u62 u63 u64 u65 u66 u67 u68 u69 u70 u71 u72 u73 u74 u75 u76 u77 u78 u79 u80 u81 u82 u83 u84 u85 u86 u87 u88 u89 u90 u91 u92 u93 u94 u95 u96 u97 u98 u99 u100 u101 u102 u103 u104 u105 u106 u107 u108 u109 u110 u111 u112 u113 u114 u115 u116 u117 u118 u119 u120 u121 u122 u123 u124 u125 u126 u127 u128 u129 u130 u131 u132 u133 u134 u135 u136 u137 u138 u139 u140 u141 u142 u143 u144 u145 u146 u147 u148 u149 u150 u151 u152 u153 u154 u155 u156 u157 u158 u159 u160 u161 u162 u163 u164 u165 u166 u167 u168 u169 u170 u171 sr wsr dst done w3 B3 u15 u16 u17 u18 u19 u172 u173 u174 u175 u176 u177 u178 u179 u180 u181 u182 u183 u184 u185 u186 u187 u188 u189 u190 u191 u192 u193 u194 u195 u196 u197 u198 u199 u200 u201 u202 u203 u204 u205 u206 u207 u208 u209 u210 u211 u212 u213 u214 u215 u216 u217 u218 u219 u220 u221 u222 u223 u224 u225 u226 u227 u228 u229 u230 rr wrr w4 hC4 K kk B4 hiB4 HB4 J KK jj jk hs w5 hB5 fi u234 u235 u236 u237 u238 u239 z u240 u241 s hs9 u hus o ho16 P R hP72 hRP HP HR HRz M Q HMb HQb hM2 hQ1 g HG5 w6 hgB hig hwg HMP HM2 HP72 u260 u261 u262 u263 u264 w7 D HD hM4 V hV256 a Ha haM w8 cnd u289 u290 u291 u292 u293 u294 u295 u296 u297 u298 u30 u300 u301 u302 u303 u304 u305 u306 u307 u308 u309 u310 u311 u312 D1 w9 T HTl HD1 Ht2 Ht3 w10 g' c hgg hle HSt HPt HG10 HC10 HP10 HWo HFAR hms hlt hRzz f8 HCc Hf Hf3 Hz Hz48 HV HTL Hcnd HT HDz
        exact box3.out
      · revert I w hops rd td hA hw za ab am ca cm ta tm Hgl Hca Hcm Hne ib h hh9 hhn HH yQ0 w1 Hib u50 u51 tb hit w2 u4 u5 u8 u9 u10 u11 u12 u13 u14 u54 u55 u56 u57 u58 u59 u60 u61 u62 u63 u64 u65 u66 u67 u68 u69 u70 u71 u72 u73 u74 u75 u76 u77 u78 u79 u80 u81 u82 u83 u84 u85 u86 u87 u88 u89 u90 u91 u92 u93 u94 u95 u96 u97 u98 u99 u100 u101 u102 u103 u104 u105 u106 u107 u108 u109 u110 u111 u112 u113 u114 u115 u116 u117 u118 u119 u120 u121 u122 u123 u124 u125 u126 u127 u128 u129 u130 u131 u132 u133 u134 u135 u136 u137 u138 u139 u140 u141 u142 u143 u144 u145 u146 u147 u148 u149 u150 u151 u152 u153 u154 u155 u156 u157 u158 u159 u160 u161 u162 u163 u164 u165 u166 u167 u168 u169 u170 u171 sr wsr dst done w3 B3 u15 u16 u17 u18 u19 u172 u173 u174 u175 u176 u177 u178 u179 u180 u181 u182 u183 u184 u185 u186 u187 u188 u189 u190 u191 u192 u193 u194 u195 u196 u197 u198 u199 u200 u201 u202 u203 u204 u205 u206 u207 u208 u209 u210 u211 u212 u213 u214 u215 u216 u217 u218 u219 u220 u221 u222 u223 u224 u225 u226 u227 u228 u229 u230 rr wrr w4 hC4 K kk B4 hiB4 HB4 J KK jj jk hs w5 hB5 fi f Hf Hf3 u234 u235 u236 u237 u238 u239 z Hz Hz48 u240 u241 s hs9 u hus o ho16 P R hP72 hRP HP HR HRz M Q HMb HQb hM2 hQ1 g HG5 w6 hgB hig hwg HMP HM2 HP72 u260 u261 u262 u263 u264 w7 D HD hM4 V hV256 HV a Ha haM HTL w8 cnd Hcnd u289 u290 u291 u292 u293 u294 u295 u296 u297 u298 u30 u300 u301 u302 u303 u304 u305 u306 u307 u308 u309 u310 u311 u312 D1 w9 T HT HTl HD1 Ht2 Ht3 w10 g' c hgg hle HSt HPt HG10 HC10 HP10 HDz HWo HFAR hms hlt hRzz f8 HCc h3
        exact box4.out⟩
end Go.Proofs.YbulkblgyDoor
