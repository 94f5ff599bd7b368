/- LawS3105BModel: the walk: the list, the call, the comparison. -/
import Derived.Test.YbulkblgyDoorMTrunk
namespace Go.Proofs.YbulkblgyDoor
open Go.RowKit
/-- This part, but for 7 smaller ones. -/
structure PartsD (T : Prop) where
  p0 : Prop
  p1 : Prop
  p2 : Prop
  p3 : Prop
  p4 : Prop
  p5 : Prop
  p6 : Prop
  go : Box p0 → Box p1 → Box p2 → Box p3 → Box p4 → Box p5 → Box p6 → T
set_option maxRecDepth 100000 in
set_option maxHeartbeats 40000000 in
noncomputable def partsD : PartsD parts.d := ⟨_, _, _, _, _, _, _,  fun box0 box1 box2 box3 box4 box5 box6 => by
  delta parts
  intro I
  set_option tactic.hygienic false in intros
  obtain ⟨ts, wts, bad, hPT, htsl, hwtl, hG5, rfl, hSt, hSwt⟩ := hcut
  obtain ⟨w5, hw5⟩ : ∃ w5, w5 = wc := ⟨_, rfl⟩
  subst hw5
  have hC5 := hC4.kept hG5
  have hSs5 := hSs4.kept hG5
  have hSw5 := hSw4.kept hG5
  have hSr5 := hSr4.kept hG5
  have hSwr5 := hSwr4.kept hG5
  have hSt5 := hSt.up (show ib ≤ B4 by omega)
  have hSwt5 := hSwt.up (show ib ≤ B4 by omega)
  have hT5 := hT4.kept hG5 (by simp)
  clear hC4 hSs4 hSw4 hSr4 hSwr4 hSt hSwt hT4 hG5 HB4 hiB4
  obtain ⟨a0, cs, rfl, hcs, hIs⟩ := hSs5.form
  obtain ⟨a1, cr, rfl, hcr, hIr⟩ := hSr5.form
  obtain ⟨a2, ct, rfl, hct, hIt⟩ := hSt5.form
  have hbs := hSs5.bytes
  have hbr := hSr5.bytes
  have hbt := hSt5.bytes
  have HSW := hide hSw5
  have HSWR := hide hSwr5
  have HSWT := hide hSwt5
  have Hsl := hide hsl
  have Hrl := hide hrrl
  have Htl := hide htsl
  have HIs := hide hIs
  have HIr := hide hIr
  have HIt := hide hIt
  have Hbs := hide hbs
  have Hbr := hide hbr
  have Hbt := hide hbt
  clear hSs5 hSr5 hSt5 hcs hcr hct hSw5 hSwr5 hSwt5 hIs hIr hIt hbs hbr hbt
  go_upto_region 101 with fail
  obtain ⟨sel, hsel⟩ : ∃ sel : Nat → List Int, sel = fun i => if i = 0 then sr else if i = 1 then rr else ts := ⟨_, rfl⟩
  have hgW : w5.grownBy ((w5.alloc (.cells #[.slice a0 sr.length cs, .slice a1 rr.length cr, .slice a2 ts.length ct] 33)).alloc (.cells #[.int .i64 0, .int .i64 1, .int .i64 2, .int .i64 0, .int .i64 2, .int .i64 1, .int .i64 1, .int .i64 0, .int .i64 2, .int .i64 1, .int .i64 2, .int .i64 0, .int .i64 2, .int .i64 0, .int .i64 1, .int .i64 2, .int .i64 1, .int .i64 0] 35)) none := gb_trans (gb_alloc _ _ _) (gb_alloc _ _ _)
  have hbk0 : ((w5.alloc (.cells #[.slice a0 sr.length cs, .slice a1 rr.length cr, .slice a2 ts.length ct] 33)).alloc (.cells #[.int .i64 0, .int .i64 1, .int .i64 2, .int .i64 0, .int .i64 2, .int .i64 1, .int .i64 1, .int .i64 0, .int .i64 2, .int .i64 1, .int .i64 2, .int .i64 0, .int .i64 2, .int .i64 0, .int .i64 1, .int .i64 2, .int .i64 1, .int .i64 0] 35)).heap[w5.heap.size]? = some (.cells #[.slice a0 sr.length cs, .slice a1 rr.length cr, .slice a2 ts.length ct] 33 (0, 0)) := by
    rw [heap_alloc_old _ _ (by simp)]
    exact heap_alloc_new w5 _
  have hbk1 : ((w5.alloc (.cells #[.slice a0 sr.length cs, .slice a1 rr.length cr, .slice a2 ts.length ct] 33)).alloc (.cells #[.int .i64 0, .int .i64 1, .int .i64 2, .int .i64 0, .int .i64 2, .int .i64 1, .int .i64 1, .int .i64 0, .int .i64 2, .int .i64 1, .int .i64 2, .int .i64 0, .int .i64 2, .int .i64 0, .int .i64 1, .int .i64 2, .int .i64 1, .int .i64 0] 35)).heap[w5.heap.size + 1]? = some (.cells #[.int .i64 0, .int .i64 1, .int .i64 2, .int .i64 0, .int .i64 2, .int .i64 1, .int .i64 1, .int .i64 0, .int .i64 2, .int .i64 1, .int .i64 2, .int .i64 0, .int .i64 2, .int .i64 0, .int .i64 1, .int .i64 2, .int .i64 1, .int .i64 0] 35 (0, 0)) := by
    have := heap_alloc_new (w5.alloc (.cells #[.slice a0 sr.length cs, .slice a1 rr.length cr, .slice a2 ts.length ct] 33)) (.cells #[.int .i64 0, .int .i64 1, .int .i64 2, .int .i64 0, .int .i64 2, .int .i64 1, .int .i64 1, .int .i64 0, .int .i64 2, .int .i64 1, .int .i64 2, .int .i64 0, .int .i64 2, .int .i64 0, .int .i64 1, .int .i64 2, .int .i64 1, .int .i64 0] 35)
    simpa using this
  generalize ((w5.alloc (.cells #[.slice a0 sr.length cs, .slice a1 rr.length cr, .slice a2 ts.length ct] 33)).alloc (.cells #[.int .i64 0, .int .i64 1, .int .i64 2, .int .i64 0, .int .i64 2, .int .i64 1, .int .i64 1, .int .i64 0, .int .i64 2, .int .i64 1, .int .i64 2, .int .i64 0, .int .i64 2, .int .i64 0, .int .i64 1, .int .i64 2, .int .i64 1, .int .i64 0] 35)) = w6 at *
  obtain ⟨pb, hpb⟩ : ∃ pb, w5.heap.size = pb := ⟨_, rfl⟩
  rw [hpb] at hbk0 hbk1 ⊢
  obtain ⟨qb, hqb⟩ : ∃ qb, pb + 1 = qb := ⟨_, rfl⟩
  rw [hqb] at hbk1 ⊢
  have hC6 := hC5.kept hgW
  have hpart : ∀ j, j < 3 → ∃ a c, w6.cell? ⟨pb, j, none⟩ = some (.slice a (sel j).length c) ∧ InB w6 a (sel j) ∧ ∀ y ∈ sel j, 0 ≤ y ∧ y < 256 := by
    intro j hj
    rw [hsel]
    rcases (show j = 0 ∨ j = 1 ∨ j = 2 by omega) with rfl | rfl | rfl
    · exact ⟨a0, cs, by simp [World.cell?, hbk0], HIs.out.kept hgW, Hbs.out⟩
    · exact ⟨a1, cr, by simp [World.cell?, hbk0], HIr.out.kept hgW, Hbr.out⟩
    · exact ⟨a2, ct, by simp [World.cell?, hbk0], HIt.out.kept hgW, Hbt.out⟩
  have hsell : ∀ j, j < 3 → (sel j).length ≤ 76 := by
    intro j hj
    rw [hsel]
    rcases (show j = 0 ∨ j = 1 ∨ j = 2 by omega) with rfl | rfl | rfl
    · have := Hsl.out; simp; omega
    · have := Hrl.out; simp; omega
    · have := Htl.out; simp; omega
  have hT6 := hT5.kept hgW (by simp)
  obtain ⟨o0, o1⟩ := hA.ord
  obtain ⟨k, hk, hk6⟩ : ∃ k : Nat, I.order % 6 = (k : Int) ∧ k < 6 := ⟨(I.order % 6).toNat, by omega, by omega⟩
  have f27 : w6.cell? ⟨ib, 27, none⟩ = some (.int .u8 I.order) := (hC6.cell 27).trans rfl
  have hq6 : ∀ i v, (#[.int .i64 0, .int .i64 1, .int .i64 2, .int .i64 0, .int .i64 2, .int .i64 1, .int .i64 1, .int .i64 0, .int .i64 2, .int .i64 1, .int .i64 2, .int .i64 0, .int .i64 2, .int .i64 0, .int .i64 1, .int .i64 2, .int .i64 1, .int .i64 0] : Array Value)[i]? = some v → w6.cell? ⟨qb, i, none⟩ = some v := fun i v h => (cell_of_row _ _ _ _ _ _ hbk1).trans h
  have HQ6 := hide hq6
  have HP6 := hide hpart
  have HSL := hide hsell
  have Hsel := hide hsel
  have HSW6 := hide (HSW.out.kept hgW)
  have HSWR6 := hide (HSWR.out.kept hgW)
  have HSWT6 := hide (HSWT.out.kept hgW)
  have hqlt : qb < w6.heap.size := (Array.getElem?_eq_some_iff.1 hbk1).1
  have HI6 := hide (show InB w6 a0 sr ∧ InB w6 a1 rr ∧ InB w6 a2 ts from ⟨HIs.out.kept hgW, HIr.out.kept hgW, HIt.out.kept hgW⟩)
  clear hq6 hpart hsell hsel hbk0 hbk1 hgW hC5 hT5 HIs HIr HIt HSW HSWR HSWT hpb hqb
  go_cut [34] from 397 to 402 (fun s34 wk => ∃ rb i0 i1 i2, s34 = .pointer (some ⟨rb, 0, none⟩) ∧ i0 < 3 ∧ i1 < 3 ∧ i2 < 3 ∧ pickB k sr rr ts = (sel i0, sel i1, sel i2) ∧ wk.heap[rb]? = some (.cells #[.int .i64 ((i0 : Nat) : Int), .int .i64 ((i1 : Nat) : Int), .int .i64 ((i2 : Nat) : Int)] 34 (0, 0)) ∧ w6.grownBy wk none)
  case first =>
    rename_i yK0 ya1 yJ2 yK3 ya4 ya5
    revert I w hops rd td hA hw za ab am ca cm ta tm Hgl Hca Hcm Hne ib h hh9 hhn HH Q w1 Hib u50 u51 tb hit w2 u5 u8 u9 u10 u11 u12 u13 u14 u54 u55 u56 u57 u58 u59 u60 u61 u62 u63 u64 u65 u66 u67 u68 u69 u70 u71 u72 u73 u74 u75 u76 u77 u78 u79 u80 u81 u82 u83 u84 u85 u86 u87 u88 u89 u90 u91 u92 u93 u94 u95 u96 u97 u98 u99 u100 u101 u102 u103 u104 u105 u106 u107 u108 u109 u110 u111 u112 u113 u114 u115 u116 u117 u118 u119 u120 u121 u122 u123 u124 u125 u126 u127 u128 u129 u130 u131 u132 u133 u134 u135 u136 u137 u138 u139 u140 u141 u142 u143 u144 u145 u146 u147 u148 u149 u150 u151 u152 u153 u154 u155 u156 u157 u158 u159 u160 u161 u162 u163 u164 u165 u166 u167 u168 u169 u170 u171 sr wsr dst done hPS hsl hwl hdl w3 B3 u16 u17 u18 u19 u172 u173 u174 u175 u176 u177 u178 u179 u180 u181 u182 u183 u184 u185 u186 u187 u188 u189 u190 u191 u192 u193 u194 u195 u196 u197 u198 u199 u200 u201 u202 u203 u204 u205 u206 u207 u208 u209 u210 u211 u212 u213 u214 u215 u216 u217 u218 u219 u220 u221 u222 u223 u224 u225 u226 u227 u228 u229 u230 rr wrr hPR hrrl hwrl w4 B4 u22 u23 u24 u25 u26 u27 u28 u29 u30 u31 u231 u232 u233 u234 u235 u236 u237 u238 u239 u240 u241 u242 u243 u244 u245 u246 u247 u248 u249 u250 u251 u252 u253 u254 u255 u256 u257 u258 u259 u260 u261 u262 u263 u264 u265 u266 u267 u268 u269 u270 u271 u272 u273 u274 u275 u276 u277 u278 u279 u280 u281 u282 u283 u284 u285 u286 u287 u288 u289 u290 u291 u292 u293 u294 u295 u296 u297 u298 u299 u300 u301 u302 u303 u304 u305 u306 u307 u308 u309 u310 u311 u312 u313 u314 u315 u316 u317 u318 u319 u320 u321 u322 u323 u324 u325 u326 u327 u328 u329 u330 u331 u332 u333 u334 u335 u336 u337 u338 u339 u340 u341 u342 u343 u344 u345 u346 u347 u348 u349 u350 u351 u352 u353 u354 u355 u356 u357 u358 u359 u360 u361 u362 u363 u364 u365 u366 u367 u368 u369 u370 u371 u372 u373 u374 u375 u376 u377 u378 u379 u380 u381 u382 u383 u384 u385 ts wts bad hPT htsl hwtl w5 a0 cs a1 cr a2 ct Hsl Hrl Htl Hbs Hbr Hbt sel w6 pb qb hC6 hT6 o0 o1 k hk hk6 f27 HQ6 HP6 HSL Hsel HSW6 HSWR6 HSWT6 hqlt HI6 yK0 ya1 yJ2 yK3 ya4 ya5
    exact box0.out
  case rest =>
    obtain ⟨rb, i0, i1, i2, rfl, hi0, hi1, hi2, hpick, hrb, hg7⟩ := hcut
    obtain ⟨w7, hw7⟩ : ∃ w7, w7 = wc := ⟨_, rfl⟩
    subst hw7
    have hC7 := hC6.kept hg7
    have hT7 := hT6.kept hg7 (by simp)
    obtain ⟨X, hX⟩ : ∃ X : Nat → List Int, X = fun i => if i = 0 then sel i0 else if i = 1 then sel i1 else sel i2 := ⟨_, rfl⟩
    have hpp : ∀ i, i < 3 → ∃ (j : Nat) (a : Option Addr) (c : Nat), w7.cell? ⟨rb, i, none⟩ = some (.int .i64 (j : Int)) ∧ j < 3 ∧ w7.cell? ⟨pb, j, none⟩ = some (.slice a (X i).length c) ∧ InB w7 a (X i) ∧ (∀ y ∈ X i, 0 ≤ y ∧ y < 256) ∧ (X i).length ≤ 76 := by
      have key : ∀ j, j < 3 → ∃ (a : Option Addr) (c : Nat), w7.cell? ⟨pb, j, none⟩ = some (.slice a (sel j).length c) ∧ InB w7 a (sel j) ∧ (∀ y ∈ sel j, 0 ≤ y ∧ y < 256) ∧ (sel j).length ≤ 76 := fun j hj => by
        obtain ⟨a, c, e1, e2, e3⟩ := HP6.out j hj
        exact ⟨a, c, (hg7.cell_far ⟨pb, j, none⟩ (World.block_lt_of_cell? _ _ e1) (by simp)).trans e1, e2.kept hg7, e3, HSL.out j hj⟩
      intro i hi
      rw [hX]
      rcases (show i = 0 ∨ i = 1 ∨ i = 2 by omega) with rfl | rfl | rfl
      · obtain ⟨a, c, e1, e2, e3, e4⟩ := key i0 hi0
        exact ⟨i0, a, c, by simp [World.cell?, hrb], hi0, e1, e2, e3, e4⟩
      · obtain ⟨a, c, e1, e2, e3, e4⟩ := key i1 hi1
        exact ⟨i1, a, c, by simp [World.cell?, hrb], hi1, e1, e2, e3, e4⟩
      · obtain ⟨a, c, e1, e2, e3, e4⟩ := key i2 hi2
        exact ⟨i2, a, c, by simp [World.cell?, hrb], hi2, e1, e2, e3, e4⟩
    obtain ⟨Y, hY⟩ : ∃ Y : Nat → Nat → List Int, Y = fun l i => Nat.rec (List.replicate l (1 : Int)) (fun i r => r ++ (X i ++ (if i = 0 then exB I.extra else []))) i := ⟨_, rfl⟩
    have hY0 : ∀ l, Y l 0 = List.replicate l 1 := fun l => by subst hY; rfl
    have hYs : ∀ l i, Y l (i + 1) = Y l i ++ (X i ++ (if i = 0 then exB I.extra else [])) := fun l i => by subst hY; rfl
    obtain ⟨d0, d1⟩ := hA.lead
    obtain ⟨ld, hld, hld3⟩ : ∃ ld : Nat, I.lead % 3 = (ld : Int) ∧ ld < 3 := ⟨(I.lead % 3).toNat, by omega, by omega⟩
    have hXl : ∀ i, i < 3 → (X i).length ≤ 76 := fun i hi => by obtain ⟨_, _, _, _, _, _, _, _, h⟩ := hpp i hi; exact h
    have hexl : (exB I.extra).length ≤ 4 := by unfold exB; split <;> simp
    have hY1l : (Y ld 1).length ≤ 82 := by rw [hYs, hY0]; have := hXl 0 (by omega); simp; omega
    have hY2l : (Y ld 2).length ≤ 158 := by rw [hYs]; have := hXl 1 (by omega); simp; omega
    have hY3l : (Y ld 3).length ≤ 234 := by rw [hYs]; have := hXl 2 (by omega); simp; omega
    have hYl : ∀ i, i ≤ 3 → (Y ld i).length ≤ 234 := fun i hi => by
      rcases (show i = 0 ∨ i = 1 ∨ i = 2 ∨ i = 3 by omega) with rfl | rfl | rfl | rfl
      · rw [hY0]; simp; omega
      · omega
      · omega
      · omega
    have hLL : Y ld 3 ++ trB I.trail = listB ld (pickB k sr rr ts).1 (pickB k sr rr ts).2.1 (pickB k sr rr ts).2.2 I.extra I.trail := by
      rw [hYs, hYs, hYs, hY0, hpick, hX]
      simp [listB]
    obtain ⟨B7, hB7⟩ : ∃ B7, w7.heap.size = B7 := ⟨_, rfl⟩
    have hiB7 : ib < B7 := by have := hC7.lt; omega
    have Hpp := hide hpp
    have HY0 := hide hY0
    have HYs := hide hYs
    have HXl := hide hXl
    have HYl := hide hYl
    have HLL := hide hLL
    have HB7 := hide hB7
    have HC7 := hide hC7
    have HT7 := hide hT7
    have HSW7 := hide (HSW6.out.kept hg7)
    have HSWR7 := hide (HSWR6.out.kept hg7)
    have HSWT7 := hide (HSWT6.out.kept hg7)
    clear hpp hY0 hYs hXl hYl hLL hY hX hpick hrb hY1l hY2l hY3l hC7 hT7 hC6 hT6 f27 HQ6 HP6 HSW6 HSWR6 HSWT6 hB7 hexl HI6 hg7
    go_upto_region 104 with fail
    go_loopw [35, 36] (fun s35 s36 wr => ∃ i : Nat, i ≤ ld ∧ s36 = .int .i64 i ∧ Sl wr B7 s35 (List.replicate i 1) ∧ w7.grownBy wr none) (fun _ s36 _ => ld - (intOf s36).toNat)
    case atStart => exact ⟨0, by omega, rfl, Sl.nil _ _, gb_refl _ _⟩
    case round =>
      obtain ⟨i, hi, rfl, hSi, hgi⟩ := hrel
      obtain ⟨wa, hwa⟩ : ∃ wa, wa = wr := ⟨_, rfl⟩
      subst hwa
      have f9 : wa.cell? ⟨ib, 9, none⟩ = some (.int .u8 I.lead) := ((HC7.out.kept hgi).cell 9).trans rfl
      by_cases hlt : i < ld
      · rename_i yK0 ya1
        revert I w hops rd td hA hw za ab am ca cm ta tm Hgl Hca Hcm Hne ib h hh9 hhn HH Q w1 Hib u50 u51 tb hit w2 u5 u8 u9 u10 u11 u12 u13 u14 u54 u55 u56 u57 u58 u59 u60 u61 u62 u63 u64 u65 u66 u67 u68 u69 u70 u71 u72 u73 u74 u75 u76 u77 u78 u79 u80 u81 u82 u83 u84 u85 u86 u87 u88 u89 u90 u91 u92 u93 u94 u95 u96 u97 u98 u99 u100 u101 u102 u103 u104 u105 u106 u107 u108 u109 u110 u111 u112 u113 u114 u115 u116 u117 u118 u119 u120 u121 u122 u123 u124 u125 u126 u127 u128 u129 u130 u131 u132 u133 u134 u135 u136 u137 u138 u139 u140 u141 u142 u143 u144 u145 u146 u147 u148 u149 u150 u151 u152 u153 u154 u155 u156 u157 u158 u159 u160 u161 u162 u163 u164 u165 u166 u167 u168 u169 u170 u171 sr wsr dst done hPS hsl hwl hdl w3 B3 u16 u17 u18 u19 u172 u173 u174 u175 u176 u177 u178 u179 u180 u181 u182 u183 u184 u185 u186 u187 u188 u189 u190 u191 u192 u193 u194 u195 u196 u197 u198 u199 u200 u201 u202 u203 u204 u205 u206 u207 u208 u209 u210 u211 u212 u213 u214 u215 u216 u217 u218 u219 u220 u221 u222 u223 u224 u225 u226 u227 u228 u229 u230 rr wrr hPR hrrl hwrl w4 B4 u22 u23 u24 u25 u26 u27 u28 u29 u30 u31 u231 u232 u233 u234 u235 u236 u237 u238 u239 u240 u241 u242 u243 u244 u245 u246 u247 u248 u249 u250 u251 u252 u253 u254 u255 u256 u257 u258 u259 u260 u261 u262 u263 u264 u265 u266 u267 u268 u269 u270 u271 u272 u273 u274 u275 u276 u277 u278 u279 u280 u281 u282 u283 u284 u285 u286 u287 u288 u289 u290 u291 u292 u293 u294 u295 u296 u297 u298 u299 u300 u301 u302 u303 u304 u305 u306 u307 u308 u309 u310 u311 u312 u313 u314 u315 u316 u317 u318 u319 u320 u321 u322 u323 u324 u325 u326 u327 u328 u329 u330 u331 u332 u333 u334 u335 u336 u337 u338 u339 u340 u341 u342 u343 u344 u345 u346 u347 u348 u349 u350 u351 u352 u353 u354 u355 u356 u357 u358 u359 u360 u361 u362 u363 u364 u365 u366 u367 u368 u369 u370 u371 u372 u373 u374 u375 u376 u377 u378 u379 u380 u381 u382 u383 u384 u385 ts wts bad hPT htsl hwtl w5 a0 cs a1 cr a2 ct Hsl Hrl Htl Hbs Hbr Hbt sel w6 pb qb o0 o1 k hk hk6 HSL Hsel hqlt u397 u398 u399 u400 u401 u402 rb i0 i1 i2 hi0 hi1 hi2 w7 X Y d0 d1 ld hld hld3 B7 hiB7 Hpp HY0 HYs HXl HYl HLL HB7 HC7 HT7 HSW7 HSWR7 HSWT7 u35 u403 u404 u405 u406 u407 u408 u409 u410 u411 u412 u413 i hi wa hSi hgi f9 hlt yK0 ya1
        exact box1.out
      · obtain rfl : ld = i := by omega
        have hil : ¬ (ld : Int) < (ld : Int) := by omega
        go_upto_region 108 with fail
        clear f9 hld
        rw [← HY0.out ld] at hSi
        go_loopw [35, 37] (fun s35 s37 wr => ∃ i : Nat, i ≤ 3 ∧ s37 = .int .i64 i ∧ Sl wr B7 s35 (Y ld i) ∧ w7.grownBy wr none) (fun _ s37 _ => 3 - (intOf s37).toNat)
        case atStart => exact ⟨0, by omega, rfl, hSi, hgi⟩
        case round =>
          obtain ⟨i, hi3, rfl, hSj, hgj⟩ := hrel
          obtain ⟨wb, hwb⟩ : ∃ wb, wb = wr := ⟨_, rfl⟩
          subst hwb
          clear hSi hgi
          by_cases hlt3 : i < 3
          · rename_i yK0 yu351 yQ2 yK3 ya4 yK5 ya6
            revert I w hops rd td hA hw za ab am ca cm ta tm Hgl Hca Hcm Hne ib h hh9 hhn HH Q w1 Hib u50 u51 tb hit w2 u5 u8 u9 u10 u11 u12 u13 u14 u54 u55 u56 u57 u58 u59 u60 u61 u62 u63 u64 u65 u66 u67 u68 u69 u70 u71 u72 u73 u74 u75 u76 u77 u78 u79 u80 u81 u82 u83 u84 u85 u86 u87 u88 u89 u90 u91 u92 u93 u94 u95 u96 u97 u98 u99 u100 u101 u102 u103 u104 u105 u106 u107 u108 u109 u110 u111 u112 u113 u114 u115 u116 u117 u118 u119 u120 u121 u122 u123 u124 u125 u126 u127 u128 u129 u130 u131 u132 u133 u134 u135 u136 u137 u138 u139 u140 u141 u142 u143 u144 u145 u146 u147 u148 u149 u150 u151 u152 u153 u154 u155 u156 u157 u158 u159 u160 u161 u162 u163 u164 u165 u166 u167 u168 u169 u170 u171 sr wsr dst done hPS hsl hwl hdl w3 B3 u16 u17 u18 u19 u172 u173 u174 u175 u176 u177 u178 u179 u180 u181 u182 u183 u184 u185 u186 u187 u188 u189 u190 u191 u192 u193 u194 u195 u196 u197 u198 u199 u200 u201 u202 u203 u204 u205 u206 u207 u208 u209 u210 u211 u212 u213 u214 u215 u216 u217 u218 u219 u220 u221 u222 u223 u224 u225 u226 u227 u228 u229 u230 rr wrr hPR hrrl hwrl w4 B4 u22 u23 u24 u25 u26 u27 u28 u29 u30 u31 u231 u232 u233 u234 u235 u236 u237 u238 u239 u240 u241 u242 u243 u244 u245 u246 u247 u248 u249 u250 u251 u252 u253 u254 u255 u256 u257 u258 u259 u260 u261 u262 u263 u264 u265 u266 u267 u268 u269 u270 u271 u272 u273 u274 u275 u276 u277 u278 u279 u280 u281 u282 u283 u284 u285 u286 u287 u288 u289 u290 u291 u292 u293 u294 u295 u296 u297 u298 u299 u300 u301 u302 u303 u304 u305 u306 u307 u308 u309 u310 u311 u312 u313 u314 u315 u316 u317 u318 u319 u320 u321 u322 u323 u324 u325 u326 u327 u328 u329 u330 u331 u332 u333 u334 u335 u336 u337 u338 u339 u340 u341 u342 u343 u344 u345 u346 u347 u348 u349 u350 u351 u352 u353 u354 u355 u356 u357 u358 u359 u360 u361 u362 u363 u364 u365 u366 u367 u368 u369 u370 u371 u372 u373 u374 u375 u376 u377 u378 u379 u380 u381 u382 u383 u384 u385 ts wts bad hPT htsl hwtl w5 a0 cs a1 cr a2 ct Hsl Hrl Htl Hbs Hbr Hbt sel w6 pb qb o0 o1 k hk hk6 HSL Hsel hqlt u397 u398 u399 u400 u401 u402 rb i0 i1 i2 hi0 hi1 hi2 w7 X Y d0 d1 ld hld3 B7 hiB7 Hpp HY0 HYs HXl HYl HLL HB7 HC7 HT7 HSW7 HSWR7 HSWT7 u403 u404 u405 u406 u407 u408 u409 u410 u411 u412 u413 wa hi hlt hil u35 u414 u415 u416 u417 u418 u419 u420 u421 u422 u423 u424 u425 u426 u427 u428 u429 u430 u431 u432 u433 i hi3 wb hSj hgj hlt3 yK0 yu351 yQ2 yK3 ya4 yK5 ya6
            exact box2.out
          · obtain rfl : i = 3 := by omega
            have hil3 : ¬ ((3 : Nat) : Int) < 3 := by omega
            have f14 : wb.cell? ⟨ib, 14, none⟩ = some (.bool I.trail) := ((HC7.out.kept hgj).cell 14).trans rfl
            go_upto_if 435 with fail
            go_cut [35] from 434 to 438 (fun s35 wk => Sl wk B7 s35 (Y ld 3 ++ trB I.trail) ∧ w7.grownBy wk none)
            case first =>
              rename_i yK0 yu351 yQ2 yK3 ya4 yK5 yQ6 yK7 ya8 yK9 ya10 yJ11 yK12 ya13 ya14
              revert I w hops rd td hA hw za ab am ca cm ta tm Hgl Hca Hcm Hne ib h hh9 hhn HH Q w1 Hib u50 u51 tb hit w2 u5 u8 u9 u10 u11 u12 u13 u14 u54 u55 u56 u57 u58 u59 u60 u61 u62 u63 u64 u65 u66 u67 u68 u69 u70 u71 u72 u73 u74 u75 u76 u77 u78 u79 u80 u81 u82 u83 u84 u85 u86 u87 u88 u89 u90 u91 u92 u93 u94 u95 u96 u97 u98 u99 u100 u101 u102 u103 u104 u105 u106 u107 u108 u109 u110 u111 u112 u113 u114 u115 u116 u117 u118 u119 u120 u121 u122 u123 u124 u125 u126 u127 u128 u129 u130 u131 u132 u133 u134 u135 u136 u137 u138 u139 u140 u141 u142 u143 u144 u145 u146 u147 u148 u149 u150 u151 u152 u153 u154 u155 u156 u157 u158 u159 u160 u161 u162 u163 u164 u165 u166 u167 u168 u169 u170 u171 sr wsr dst done hPS hsl hwl hdl w3 B3 u16 u17 u18 u19 u172 u173 u174 u175 u176 u177 u178 u179 u180 u181 u182 u183 u184 u185 u186 u187 u188 u189 u190 u191 u192 u193 u194 u195 u196 u197 u198 u199 u200 u201 u202 u203 u204 u205 u206 u207 u208 u209 u210 u211 u212 u213 u214 u215 u216 u217 u218 u219 u220 u221 u222 u223 u224 u225 u226 u227 u228 u229 u230 rr wrr hPR hrrl hwrl w4 B4 u22 u23 u24 u25 u26 u27 u28 u29 u30 u31 u231 u232 u233 u234 u235 u236 u237 u238 u239 u240 u241 u242 u243 u244 u245 u246 u247 u248 u249 u250 u251 u252 u253 u254 u255 u256 u257 u258 u259 u260 u261 u262 u263 u264 u265 u266 u267 u268 u269 u270 u271 u272 u273 u274 u275 u276 u277 u278 u279 u280 u281 u282 u283 u284 u285 u286 u287 u288 u289 u290 u291 u292 u293 u294 u295 u296 u297 u298 u299 u300 u301 u302 u303 u304 u305 u306 u307 u308 u309 u310 u311 u312 u313 u314 u315 u316 u317 u318 u319 u320 u321 u322 u323 u324 u325 u326 u327 u328 u329 u330 u331 u332 u333 u334 u335 u336 u337 u338 u339 u340 u341 u342 u343 u344 u345 u346 u347 u348 u349 u350 u351 u352 u353 u354 u355 u356 u357 u358 u359 u360 u361 u362 u363 u364 u365 u366 u367 u368 u369 u370 u371 u372 u373 u374 u375 u376 u377 u378 u379 u380 u381 u382 u383 u384 u385 ts wts bad hPT htsl hwtl w5 a0 cs a1 cr a2 ct Hsl Hrl Htl Hbs Hbr Hbt sel w6 pb qb o0 o1 k hk hk6 HSL Hsel hqlt u397 u398 u399 u400 u401 u402 rb i0 i1 i2 hi0 hi1 hi2 w7 X Y d0 d1 ld hld3 B7 hiB7 Hpp HY0 HYs HXl HYl HLL HB7 HC7 HT7 HSW7 HSWR7 HSWT7 u403 u404 u405 u406 u407 u408 u409 u410 u411 u412 u413 wa hi hlt hil u35 u414 u415 u416 u417 u418 u419 u420 u421 u422 u423 u424 u425 u426 u427 u428 u429 u430 u431 u432 u433 wb hgj hi3 hSj hlt3 hil3 f14 yK0 yu351 yQ2 yK3 ya4 yK5 yQ6 yK7 ya8 yK9 ya10 yJ11 yK12 ya13 ya14
              exact box3.out
            case rest =>
              obtain ⟨hSL, hg8⟩ := hcut
              obtain ⟨w8, hw8⟩ : ∃ w8, w8 = wc := ⟨_, rfl⟩
              subst hw8
              obtain ⟨L, hL⟩ : ∃ L, L = Y ld 3 ++ trB I.trail := ⟨_, rfl⟩
              rw [← hL] at hSL
              obtain ⟨n, hn⟩ : ∃ n, L.length = n := ⟨_, rfl⟩
              have ht4 : (trB I.trail).length ≤ 4 := by unfold trB; split <;> simp
              have hn9 : n ≤ 238 := by rw [← hn, hL, List.length_append]; have := HYl.out 3 (by omega); omega
              have HLB := hide (hL.trans HLL.out)
              have hC8 := HC7.out.kept hg8
              have hT8 := HT7.out.kept hg8 (by simp)
              have HSW8 := hide (HSW7.out.kept hg8)
              have HSWR8 := hide (HSWR7.out.kept hg8)
              have HSWT8 := hide (HSWT7.out.kept hg8)
              obtain ⟨go, hSA, hRd, hgo2, hgolt⟩ := hSL.sat (d := ib) (by have := Hib.out; omega) hC8.lt
              obtain ⟨ao, co, rfl, hco, hIo⟩ := hSL.form
              have hbL := hSL.bytes
              rw [hn] at hSA ⊢
              have HN := hide hn
              have HSA := hide hSA
              have HRd := hide hRd
              have HbL := hide hbL
              have HIo := hide hIo
              have HC8 := hide hC8
              have HT8 := hide hT8
              have Hg8 := hide hg8
              have hgB8 : go < w8.heap.size := hgolt
              clear hn hSA hRd hbL hIo hC8 hT8 hg8 hSL hL ht4 hco hSj hgj f14 HC7 HT7 HSW7 HSWR7 HSWT7 Hpp HY0 HYs HXl HYl HLL Hsel HSL hgolt
              go_upto_region 116 with (at_builtin; refine wpList_app w8 rfl _ _ rfl w8.heap.size (.slice none 0 0) [] rfl (Sl.nil _ _) ao n co L rfl HN.out HbL.out HIo.out (Nat.le_refl _) (by simp; omega) ?_; rintro v38 w9 hS9 hg9)
              rw [List.nil_append] at hS9
              have hg9' : w8.grownBy w9 none := hg9
              obtain ⟨a9, c9, rfl, hc9, hI9⟩ := hS9.form
              rw [HN.out]
              have HI9 := hide hI9
              have HIo9 := hide (HIo.out.kept hg9')
              have HRd9 := hide (HRd.out.kept hg9' (by simp))
              have HC9 := hide (HC8.out.kept hg9')
              have HT9 := hide (HT8.out.kept hg9' (by simp))
              have HSW9 := hide (HSW8.out.kept hg9')
              have HSWR9 := hide (HSWR8.out.kept hg9')
              have HSWT9 := hide (HSWT8.out.kept hg9')
              have hgB9 : go < w9.heap.size := Nat.lt_of_lt_of_le hgB8 hg9'.size
              have htB9 := HT9.out.lt
              clear hS9 hg9 hg9' hc9 hI9 HSW8 HSWR8 HSWT8 HC8 HT8 HIo HRd hgB8 Hg8
              obtain ⟨N, hNn⟩ : ∃ N, N = n + 3 := ⟨_, rfl⟩
              have hNi : (n : Int) + 3 = (N : Int) := by omega
              have hmk := run_bytes w9 N (by omega)
              have hrow := made_row w9 N
              have gM : w9.grownBy (w9.alloc (.cells (madeCells #[.int .u8 0] N) 5)) none := gb_alloc _ _ _
              have HNn := hide hNn
              have hN3 : 3 ≤ N := by omega
              have hN9 : N ≤ 2000 := by omega
              clear hNn
              go_upto_region 118 with fail
              clear hmk
              obtain ⟨bb, hbb⟩ : ∃ bb, w9.heap.size = bb := ⟨_, rfl⟩
              rw [hbb] at hrow ⊢
              generalize w9.alloc (.cells (madeCells #[.int .u8 0] N) 5) = wm at *
              have hgbb : go ≠ bb := by omega
              have htbb : tb < bb := by omega
              have hibb : ib < bb := by omega
              have Hbb := hide hbb
              clear hbb hNi hgB9
              go_loopw [447] (fun s447 wr => ∃ i : Nat, i ≤ N ∧ s447 = .int .i64 i ∧ Row wr bb 5 (filled N i) ∧ wm.grownBy wr (some bb)) (fun s447 _ => N - (intOf s447).toNat)
              case atStart => exact ⟨0, by omega, rfl, by simpa [filled] using hrow, gb_refl _ _⟩
              case round =>
                obtain ⟨i, hi', rfl, hRi, hgi'⟩ := hrel
                obtain ⟨wb', hwb'⟩ : ∃ wb', wb' = wr := ⟨_, rfl⟩
                subst hwb'
                by_cases hlt' : i < N
                · rename_i yK0 yu351 yQ2 yK3 ya4 yK5 yQ6 yK7 ya8 yK9 ya10
                  revert I w hops rd td hA hw za ab am ca cm ta tm Hgl Hca Hcm Hne ib h hh9 hhn HH Q w1 Hib u50 u51 tb hit w2 u5 u8 u9 u10 u11 u12 u13 u14 u54 u55 u56 u57 u58 u59 u60 u61 u62 u63 u64 u65 u66 u67 u68 u69 u70 u71 u72 u73 u74 u75 u76 u77 u78 u79 u80 u81 u82 u83 u84 u85 u86 u87 u88 u89 u90 u91 u92 u93 u94 u95 u96 u97 u98 u99 u100 u101 u102 u103 u104 u105 u106 u107 u108 u109 u110 u111 u112 u113 u114 u115 u116 u117 u118 u119 u120 u121 u122 u123 u124 u125 u126 u127 u128 u129 u130 u131 u132 u133 u134 u135 u136 u137 u138 u139 u140 u141 u142 u143 u144 u145 u146 u147 u148 u149 u150 u151 u152 u153 u154 u155 u156 u157 u158 u159 u160 u161 u162 u163 u164 u165 u166 u167 u168 u169 u170 u171 sr wsr dst done hPS hsl hwl hdl w3 B3 u16 u17 u18 u19 u172 u173 u174 u175 u176 u177 u178 u179 u180 u181 u182 u183 u184 u185 u186 u187 u188 u189 u190 u191 u192 u193 u194 u195 u196 u197 u198 u199 u200 u201 u202 u203 u204 u205 u206 u207 u208 u209 u210 u211 u212 u213 u214 u215 u216 u217 u218 u219 u220 u221 u222 u223 u224 u225 u226 u227 u228 u229 u230 rr wrr hPR hrrl hwrl w4 B4 u22 u23 u24 u25 u26 u27 u28 u29 u30 u31 u231 u232 u233 u234 u235 u236 u237 u238 u239 u240 u241 u242 u243 u244 u245 u246 u247 u248 u249 u250 u251 u252 u253 u254 u255 u256 u257 u258 u259 u260 u261 u262 u263 u264 u265 u266 u267 u268 u269 u270 u271 u272 u273 u274 u275 u276 u277 u278 u279 u280 u281 u282 u283 u284 u285 u286 u287 u288 u289 u290 u291 u292 u293 u294 u295 u296 u297 u298 u299 u300 u301 u302 u303 u304 u305 u306 u307 u308 u309 u310 u311 u312 u313 u314 u315 u316 u317 u318 u319 u320 u321 u322 u323 u324 u325 u326 u327 u328 u329 u330 u331 u332 u333 u334 u335 u336 u337 u338 u339 u340 u341 u342 u343 u344 u345 u346 u347 u348 u349 u350 u351 u352 u353 u354 u355 u356 u357 u358 u359 u360 u361 u362 u363 u364 u365 u366 u367 u368 u369 u370 u371 u372 u373 u374 u375 u376 u377 u378 u379 u380 u381 u382 u383 u384 u385 ts wts bad hPT htsl hwtl w5 a0 cs a1 cr a2 ct Hsl Hrl Htl Hbs Hbr Hbt sel w6 pb qb o0 o1 k hk hk6 hqlt u397 u398 u399 u400 u401 u402 rb i0 i1 i2 hi0 hi1 hi2 w7 X Y d0 d1 ld hld3 B7 hiB7 HB7 u403 u404 u405 u406 u407 u408 u409 u410 u411 u412 u413 wa hi hlt hil u35 u414 u415 u416 u417 u418 u419 u420 u421 u422 u423 u424 u425 u426 u427 u428 u429 u430 u431 u432 u433 wb hi3 hlt3 u434 u435 u436 u437 u438 w8 L n hn9 HLB go hgo2 ao co HN HSA HbL w9 a9 c9 HI9 HIo9 HRd9 HC9 HT9 HSW9 HSWR9 HSWT9 htB9 N HNn hN3 hN9 hil3 bb wm gM hrow hgbb htbb hibb Hbb u40 u448 u449 u450 u451 u452 u453 i hi' wb' hRi hgi' hlt' yK0 yu351 yQ2 yK3 ya4 yK5 yQ6 yK7 ya8 yK9 ya10
                  exact box4.out
                · have hiN : N = i := by omega
                  subst hiN
                  rw [filled_all] at hRi
                  have hil' : ¬ (N : Int) < (N : Int) := by omega
                  go_upto_region 122 with fail
                  have gMi := gb_new gM hgi' (by rw [Hbb.out]; exact Nat.le_refl _)
                  have hCr := HC9.out.kept gMi
                  have hRg := (HRd9.out.kept gM (by simp)).kept hgi' (by simpa using hgbb)
                  have HgMi := hide gMi
                  have HCr := hide hCr
                  have hgw := hCr.grown
                  have hz2 : 2 < wb'.heap.size := Nat.lt_of_lt_of_le (by omega) hgw.size
                  have hG2 : ∀ u, wb'.grownBy u none → u.cell? ⟨2, 0, none⟩ = some (.pointer (some za)) ∧ 2 < u.heap.size := fun u hu => ⟨((gb_trans hgw hu).cell_far ⟨2, 0, none⟩ (by show 2 < _; omega) (by simp)).trans Hgl.out.2.2, Nat.lt_of_lt_of_le hz2 hu.size⟩
                  have hG0 : ∀ u, wb'.grownBy u none → u.cell? ⟨0, 0, none⟩ = some (.iface 67 (.pointer (some am))) ∧ u.cell? ⟨1, 0, none⟩ = some (.iface 67 (.pointer (some ab))) := fun u hu => ⟨((gb_trans hgw hu).cell_far ⟨0, 0, none⟩ (by show 0 < _; omega) (by simp)).trans Hgl.out.1, ((gb_trans hgw hu).cell_far ⟨1, 0, none⟩ (by show 1 < _; omega) (by simp)).trans Hgl.out.2.1⟩
                  have hS : ∀ u, wb'.grownBy u (some bb) → u.cell? ⟨ib, 0, none⟩ = some (.int .u8 I.p0) ∧ u.cell? ⟨ib, 1, none⟩ = some (.int .u8 I.p1) ∧ u.cell? ⟨ib, 2, none⟩ = some (.int .u8 I.p2) ∧ u.cell? ⟨ib, 3, none⟩ = some (.int .u8 I.p3) ∧ u.cell? ⟨ib, 4, none⟩ = some (.int .u8 I.q0) ∧ u.cell? ⟨ib, 5, none⟩ = some (.int .u8 I.q1) ∧ u.cell? ⟨ib, 6, none⟩ = some (.int .u8 I.q2) ∧ u.cell? ⟨ib, 7, none⟩ = some (.int .u8 I.q3) ∧ u.cell? ⟨ib, 8, none⟩ = some (.int .u32 I.ms) := fun u hu =>
                    have hc := hCr.own hu hibb
                    ⟨(hc.cell 0).trans rfl, (hc.cell 1).trans rfl, (hc.cell 2).trans rfl, (hc.cell 3).trans rfl, (hc.cell 4).trans rfl, (hc.cell 5).trans rfl, (hc.cell 6).trans rfl, (hc.cell 7).trans rfl, (hc.cell 8).trans rfl⟩
                  have HS := hide hS
                  have HG2 := hide hG2
                  have HG0 := hide hG0
                  have HRg := hide hRg
                  have HRi := hide hRi
                  have hlc : (List.replicate N (170 : Int)).length = N := by simp
                  have Hlc := hide hlc
                  have HNL := hide (show L.length + 3 ≤ N by rw [HN.out]; have := HNn.out; omega)
                  have hlbb : bb < wb'.heap.size := hRi.lt
                  have hbb2 : 2 < bb := by have := Hib.out; omega
                  have HP := hide hA.p
                  have HQ := hide hA.q
                  have pb0 := hA.p I.p0 (by simp)
                  have pb1 := hA.p I.p1 (by simp)
                  have pb2 := hA.p I.p2 (by simp)
                  have pb3 := hA.p I.p3 (by simp)
                  have qb0 := hA.q I.q0 (by simp)
                  have qb1 := hA.q I.q1 (by simp)
                  have qb2 := hA.q I.q2 (by simp)
                  have qb3 := hA.q I.q3 (by simp)
                  have hms := hA.ms
                  have gd : wb'.grownBy wb'.drew none := gb_drew _ _
                  have gd2 := hG2 _ gd
                  have ge : wb'.grownBy (wb'.alloc (.cells #[.int .u64 0, .int .u64 0, .pointer none] 43)).drew none := gb_trans (gb_alloc _ _ _) (gb_drew _ _)
                  have ge2 := hG2 _ ge
                  have sd := gb_some (some bb) gd
                  have se := gb_some (some bb) ge
                  clear hS hG2 hG0 hRg hRi hlc hCr hgw gMi gM hgi' HRd9
                  obtain ⟨rp, hrp⟩ : ∃ rp, rp = reply L [I.p0, I.p1, I.p2, I.p3] [I.q0, I.q1, I.q2, I.q3] I.ms := ⟨_, rfl⟩
                  have Hrp := hide hrp
                  clear hrp
                  go_cut [41, 42, 43] from 454 to 468 (fun s41 s42 s43 wk => ∃ TB k x zo, s42 = .pointer (some ⟨TB, 0, none⟩) ∧ wb'.heap.size ≤ TB ∧ wb'.grownBy wk (some bb) ∧ wk.heap[TB]? = some (.cells #[.int .u64 0, .int .u64 x, .pointer zo] 43 (0, 0)) ∧ s41 = .int .i64 k ∧ RForm bb (List.replicate N 170) za (.pointer (some ab)) (.pointer (some am)) k x zo s43 wk rp)
                  case first =>
                    rename_i yK0 yu351 yQ2 yK3 ya4 yK5 yQ6 yK7 ya8 yK9 yQ10 yK11 ya12 yK13 ya14 yJ15 yK16 ya17 ya18
                    revert I w hops rd td hA hw za ab am ca cm ta tm Hgl Hca Hcm Hne ib h hh9 hhn HH Q w1 Hib u50 u51 tb hit w2 u5 u8 u9 u10 u11 u12 u13 u14 u54 u55 u56 u57 u58 u59 u60 u61 u62 u63 u64 u65 u66 u67 u68 u69 u70 u71 u72 u73 u74 u75 u76 u77 u78 u79 u80 u81 u82 u83 u84 u85 u86 u87 u88 u89 u90 u91 u92 u93 u94 u95 u96 u97 u98 u99 u100 u101 u102 u103 u104 u105 u106 u107 u108 u109 u110 u111 u112 u113 u114 u115 u116 u117 u118 u119 u120 u121 u122 u123 u124 u125 u126 u127 u128 u129 u130 u131 u132 u133 u134 u135 u136 u137 u138 u139 u140 u141 u142 u143 u144 u145 u146 u147 u148 u149 u150 u151 u152 u153 u154 u155 u156 u157 u158 u159 u160 u161 u162 u163 u164 u165 u166 u167 u168 u169 u170 u171 sr wsr dst done hPS hsl hwl hdl w3 B3 u16 u17 u18 u19 u172 u173 u174 u175 u176 u177 u178 u179 u180 u181 u182 u183 u184 u185 u186 u187 u188 u189 u190 u191 u192 u193 u194 u195 u196 u197 u198 u199 u200 u201 u202 u203 u204 u205 u206 u207 u208 u209 u210 u211 u212 u213 u214 u215 u216 u217 u218 u219 u220 u221 u222 u223 u224 u225 u226 u227 u228 u229 u230 rr wrr hPR hrrl hwrl w4 B4 u22 u23 u24 u25 u26 u27 u28 u29 u30 u31 u231 u232 u233 u234 u235 u236 u237 u238 u239 u240 u241 u242 u243 u244 u245 u246 u247 u248 u249 u250 u251 u252 u253 u254 u255 u256 u257 u258 u259 u260 u261 u262 u263 u264 u265 u266 u267 u268 u269 u270 u271 u272 u273 u274 u275 u276 u277 u278 u279 u280 u281 u282 u283 u284 u285 u286 u287 u288 u289 u290 u291 u292 u293 u294 u295 u296 u297 u298 u299 u300 u301 u302 u303 u304 u305 u306 u307 u308 u309 u310 u311 u312 u313 u314 u315 u316 u317 u318 u319 u320 u321 u322 u323 u324 u325 u326 u327 u328 u329 u330 u331 u332 u333 u334 u335 u336 u337 u338 u339 u340 u341 u342 u343 u344 u345 u346 u347 u348 u349 u350 u351 u352 u353 u354 u355 u356 u357 u358 u359 u360 u361 u362 u363 u364 u365 u366 u367 u368 u369 u370 u371 u372 u373 u374 u375 u376 u377 u378 u379 u380 u381 u382 u383 u384 u385 ts wts bad hPT htsl hwtl w5 a0 cs a1 cr a2 ct Hsl Hrl Htl Hbs Hbr Hbt sel w6 pb qb o0 o1 k hk hk6 hqlt u397 u398 u399 u400 u401 u402 rb i0 i1 i2 hi0 hi1 hi2 w7 X Y d0 d1 ld hld3 B7 hiB7 HB7 u403 u404 u405 u406 u407 u408 u409 u410 u411 u412 u413 wa hi hlt hil u35 u414 u415 u416 u417 u418 u419 u420 u421 u422 u423 u424 u425 u426 u427 u428 u429 u430 u431 u432 u433 wb hi3 hlt3 u434 u435 u436 u437 u438 w8 L n hn9 HLB go hgo2 ao co HN HSA HbL w9 a9 c9 HI9 HIo9 HC9 HT9 HSW9 HSWR9 HSWT9 htB9 N HNn hN3 hN9 hil3 bb wm hrow hgbb htbb hibb Hbb u40 u448 u449 u450 u451 u452 u453 wb' hi' hlt' hil' HgMi HCr hz2 HS HG2 HG0 HRg HRi Hlc HNL hlbb hbb2 HP HQ pb0 pb1 pb2 pb3 qb0 qb1 qb2 qb3 hms gd gd2 ge ge2 sd se rp Hrp yK0 yu351 yQ2 yK3 ya4 yK5 yQ6 yK7 ya8 yK9 yQ10 yK11 ya12 yK13 ya14 yJ15 yK16 ya17 ya18
                    exact box5.out
                  case rest =>
                    rename_i yK0 yu351 yQ2 yK3 ya4 yK5 yQ6 yK7 ya8 yK9 yQ10 yK11 ya12 yK13 ya14
                    revert I w hops rd td hA hw za ab am ca cm ta tm Hgl Hca Hcm Hne ib h hh9 hhn HH Q w1 Hib u50 u51 tb hit w2 u5 u8 u9 u10 u11 u12 u13 u14 u54 u55 u56 u57 u58 u59 u60 u61 u62 u63 u64 u65 u66 u67 u68 u69 u70 u71 u72 u73 u74 u75 u76 u77 u78 u79 u80 u81 u82 u83 u84 u85 u86 u87 u88 u89 u90 u91 u92 u93 u94 u95 u96 u97 u98 u99 u100 u101 u102 u103 u104 u105 u106 u107 u108 u109 u110 u111 u112 u113 u114 u115 u116 u117 u118 u119 u120 u121 u122 u123 u124 u125 u126 u127 u128 u129 u130 u131 u132 u133 u134 u135 u136 u137 u138 u139 u140 u141 u142 u143 u144 u145 u146 u147 u148 u149 u150 u151 u152 u153 u154 u155 u156 u157 u158 u159 u160 u161 u162 u163 u164 u165 u166 u167 u168 u169 u170 u171 sr wsr dst done hPS hsl hwl hdl w3 B3 u16 u17 u18 u19 u172 u173 u174 u175 u176 u177 u178 u179 u180 u181 u182 u183 u184 u185 u186 u187 u188 u189 u190 u191 u192 u193 u194 u195 u196 u197 u198 u199 u200 u201 u202 u203 u204 u205 u206 u207 u208 u209 u210 u211 u212 u213 u214 u215 u216 u217 u218 u219 u220 u221 u222 u223 u224 u225 u226 u227 u228 u229 u230 rr wrr hPR hrrl hwrl w4 B4 u22 u23 u24 u25 u26 u27 u28 u29 u30 u31 u231 u232 u233 u234 u235 u236 u237 u238 u239 u240 u241 u242 u243 u244 u245 u246 u247 u248 u249 u250 u251 u252 u253 u254 u255 u256 u257 u258 u259 u260 u261 u262 u263 u264 u265 u266 u267 u268 u269 u270 u271 u272 u273 u274 u275 u276 u277 u278 u279 u280 u281 u282 u283 u284 u285 u286 u287 u288 u289 u290 u291 u292 u293 u294 u295 u296 u297 u298 u299 u300 u301 u302 u303 u304 u305 u306 u307 u308 u309 u310 u311 u312 u313 u314 u315 u316 u317 u318 u319 u320 u321 u322 u323 u324 u325 u326 u327 u328 u329 u330 u331 u332 u333 u334 u335 u336 u337 u338 u339 u340 u341 u342 u343 u344 u345 u346 u347 u348 u349 u350 u351 u352 u353 u354 u355 u356 u357 u358 u359 u360 u361 u362 u363 u364 u365 u366 u367 u368 u369 u370 u371 u372 u373 u374 u375 u376 u377 u378 u379 u380 u381 u382 u383 u384 u385 ts wts bad hPT htsl hwtl w5 a0 cs a1 cr a2 ct Hsl Hrl Htl Hbs Hbr Hbt sel w6 pb qb o0 o1 k hk hk6 hqlt u397 u398 u399 u400 u401 u402 rb i0 i1 i2 hi0 hi1 hi2 w7 X Y d0 d1 ld hld3 B7 hiB7 HB7 u403 u404 u405 u406 u407 u408 u409 u410 u411 u412 u413 wa hi hlt hil u35 u414 u415 u416 u417 u418 u419 u420 u421 u422 u423 u424 u425 u426 u427 u428 u429 u430 u431 u432 u433 wb hi3 hlt3 u434 u435 u436 u437 u438 w8 L n hn9 HLB go hgo2 ao co HN HSA HbL w9 a9 c9 HI9 HIo9 HC9 HT9 HSW9 HSWR9 HSWT9 htB9 N HNn hN3 hN9 hil3 bb wm hrow hgbb htbb hibb Hbb u40 u448 u449 u450 u451 u452 u453 wb' hi' hlt' hil' HgMi HCr hz2 HS HG2 HG0 HRg HRi Hlc HNL hlbb hbb2 HP HQ pb0 pb1 pb2 pb3 qb0 qb1 qb2 qb3 hms gd gd2 ge ge2 sd se rp Hrp wc u41 u42 u43 u454 u455 u456 u457 u458 u459 u460 u461 u462 u463 u464 u465 u466 u467 u468 hcut yK0 yu351 yQ2 yK3 ya4 yK5 yQ6 yK7 ya8 yK9 yQ10 yK11 ya12 yK13 ya14
                    exact box6.out⟩
end Go.Proofs.YbulkblgyDoor
