/- LawS3105BModel: the walk. -/
import Derived.Test.YbulkblgyDoorMForm
import Derived.Deep.RegionHeld3
import Derived.Deep.DeepCutAuto
import Derived.Deep.RegionLaw
import Derived.Deep.DeepMust
import Derived.BigQuiet
import Derived.Deep.QuietTactic
namespace Go.Proofs.YbulkblgyDoor
open Go.RowKit
/-- A slice's length. -/
def lenV : Value → Nat
  | .slice _ n _ => n
  | _ => 0
/-- What the walk shows. -/
def WalkSt : Prop := ∀ (I : Arg) (w : World) (hops : List (List Int)) (rd td : List Int) (_hA : AOk I w hops rd td) (_hw : 4 < w.heap.size) (za ab am : Addr) (ca cm : Array Value) (ta tm : TypeId) (_h0 : w.cell? ⟨0, 0, none⟩ = some (.iface 67 (.pointer (some am)))) (_h1 : w.cell? ⟨1, 0, none⟩ = some (.iface 67 (.pointer (some ab)))) (_h2 : w.cell? ⟨2, 0, none⟩ = some (.pointer (some za))) (_hne : ab ≠ am) (_hca : w.heap[ab.block]? = some (.cells ca ta (0, 0))) (_hcm : w.heap[am.block]? = some (.cells cm tm (0, 0))), Calls Ybad.prog 3 #[.agg I.cells] w fun e w' => e = .returned (.bool true) ∧ w.grownBy w' none
/-- A fact kept out of the walk's sight. -/
structure Box (p : Prop) : Prop where
  out : p
/-- The walk, but for four parts: the source route, the Record Route, the Timestamp, and what follows them. -/
structure Parts (T : Prop) where
  a : Prop
  b : Prop
  c : Prop
  d : Prop
  go : Box a → Box b → Box c → Box d → T
set_option maxRecDepth 100000 in
set_option maxHeartbeats 40000000 in
noncomputable def parts : Parts WalkSt := ⟨_, _, _, _, fun boxa boxb boxc boxd => by
  intro I w hops rd td hA hw za ab am ca cm ta tm h0 h1 h2 hne hca hcm
  have Hgl := hide (show w.cell? ⟨0, 0, none⟩ = some (.iface 67 (.pointer (some am))) ∧ w.cell? ⟨1, 0, none⟩ = some (.iface 67 (.pointer (some ab))) ∧ w.cell? ⟨2, 0, none⟩ = some (.pointer (some za)) from ⟨h0, h1, h2⟩)
  have Hca := hide hca
  have Hcm := hide hcm
  have Hne := hide hne
  clear h0 h1 h2 hca hcm hne
  have hbx := box27 I w
  have hC := Ctx.start w I
  obtain ⟨ib, hib⟩ : ∃ ib, ib = w.heap.size := ⟨_, rfl⟩
  obtain ⟨h, hh0⟩ : ∃ h, hops.length = h := ⟨_, rfl⟩
  have hh : (9 < I.hn ∧ h = 9) ∨ (I.hn ≤ 9 ∧ h = I.hn) := by have := hA.hl; omega
  have hh9 : h ≤ 9 := by omega
  have hhn : h ≤ I.hn := by omega
  have HH := hide hh0
  clear hh0
  go_enter Ybad.func3, Ybad.ntmps3
  go_upto_region 1 with fail
  clear hbx
  generalize (w.alloc (.cells I.cells 27)) = w1 at *
  rw [← hib] at hC ⊢
  have Hib := hide hib
  clear hib
  have f16 : w1.cell? ⟨ib, 16, none⟩ = some (.slice I.ha I.hn I.hc) := (hC.cell 16).trans rfl
  go_upto_if 51 with fail
  go_cut [3] from 50 to 51 (fun s3 wk => s3 = .int .i64 h ∧ w1 = wk)
  case first => as_aux_lemma =>
    rcases hh with ⟨h1, rfl⟩ | ⟨h1, rfl⟩
    · have z : (I.hn : Int) > 9 := by omega
      go_wp2
      go_meet; exact ⟨rfl, rfl⟩
    · have z : ¬ (I.hn : Int) > 9 := by omega
      go_wp2
      go_meet; exact ⟨rfl, rfl⟩
  case rest =>
    clear hh
    obtain ⟨rfl, rfl⟩ := hcut
    have f0 : w1.cell? ⟨ib, 0, none⟩ = some (.int .u8 I.p0) := (hC.cell 0).trans rfl
    have f1 : w1.cell? ⟨ib, 1, none⟩ = some (.int .u8 I.p1) := (hC.cell 1).trans rfl
    have f2 : w1.cell? ⟨ib, 2, none⟩ = some (.int .u8 I.p2) := (hC.cell 2).trans rfl
    have f3 : w1.cell? ⟨ib, 3, none⟩ = some (.int .u8 I.p3) := (hC.cell 3).trans rfl
    have f10 : w1.cell? ⟨ib, 10, none⟩ = some (.bool I.hasSR) := (hC.cell 10).trans rfl
    have hib1 := hC.lt
    go_upto_if 55 with fail
    have hg1 : w1.grownBy (w1.alloc (.cells #[.int .u8 I.p0, .int .u8 I.p1, .int .u8 I.p2, .int .u8 I.p3] 22)) none := gb_alloc _ _ _
    have hT : Row (w1.alloc (.cells #[.int .u8 I.p0, .int .u8 I.p1, .int .u8 I.p2, .int .u8 I.p3] 22)) w1.heap.size 22 [I.p0, I.p1, I.p2, I.p3] := ⟨heap_alloc_new _ _, hA.p⟩
    have hC2 := hC.kept hg1
    obtain ⟨tb, htb⟩ : ∃ tb, tb = w1.heap.size := ⟨_, rfl⟩
    rw [← htb] at hT ⊢
    have hit : ib < tb := by omega
    generalize (w1.alloc (.cells #[.int .u8 I.p0, .int .u8 I.p1, .int .u8 I.p2, .int .u8 I.p3] 22)) = w2 at *
    clear htb hC hg1 f0 f1 f2 f3 f10 f16 hib1
    go_cut [4, 5, 7, 8, 9, 10, 11, 12, 13, 14] from 54 to 171 (fun s4 s5 s7 _ _ _ _ _ _ _ wk => ∃ sr wsr dst done, PS [I.p0, I.p1, I.p2, I.p3] sr wsr dst done ∧ sr.length ≤ 39 ∧ wsr.length ≤ 39 ∧ dst.length = 4 ∧ Ctx w wk ib I ∧ Sl wk ib s4 sr ∧ Sl wk ib s5 wsr ∧ s7 = .bool done ∧ Row wk tb 22 dst)
    case first =>
      rename_i Q K kk J KK jj jk
      revert I w hops rd td hA hw za ab am ca cm ta tm Hgl Hca Hcm Hne ib h hh9 hhn HH w1 Hib u50 u51 tb hit w2 hC2 hT Q K kk J KK jj jk
      exact boxa.out
    case rest =>
      obtain ⟨sr, wsr, dst, done, hPS, hsl, hwl, hdl, hC3, hSs, hSw, rfl, hT3⟩ := hcut
      obtain ⟨w3, hw3⟩ : ∃ w3, w3 = wc := ⟨_, rfl⟩
      subst hw3
      clear hC2 hT
      have f11 : w3.cell? ⟨ib, 11, none⟩ = some (.bool I.hasRR) := (hC3.cell 11).trans rfl
      go_upto_if 173 with fail
      obtain ⟨B3, hB3⟩ : ∃ B3, w3.heap.size = B3 := ⟨_, rfl⟩
      have hiB3 : ib < B3 := by have := hC3.lt; omega
      have HB3 := hide hB3
      clear hB3 f11
      go_cut [15, 16, 17, 18, 19] from 172 to 230 (fun s15 s16 _ _ _ wk => ∃ rr wrr, PR [I.q0, I.q1, I.q2, I.q3] rr wrr ∧ rr.length ≤ 39 ∧ wrr.length ≤ 39 ∧ w3.grownBy wk none ∧ Sl wk B3 s15 rr ∧ Sl wk B3 s16 wrr)
      case first =>
        rename_i Q K kk J KK jj jk
        revert I w hops rd td hA hw za ab am ca cm ta tm Hgl Hca Hcm Hne ib h hh9 hhn HH w1 Hib u50 u51 tb hit w2 u4 u5 u8 u9 u10 u11 u12 u13 u14 u54 u55 u56 u57 u58 u59 u60 u61 u62 u63 u64 u65 u66 u67 u68 u69 u70 u71 u72 u73 u74 u75 u76 u77 u78 u79 u80 u81 u82 u83 u84 u85 u86 u87 u88 u89 u90 u91 u92 u93 u94 u95 u96 u97 u98 u99 u100 u101 u102 u103 u104 u105 u106 u107 u108 u109 u110 u111 u112 u113 u114 u115 u116 u117 u118 u119 u120 u121 u122 u123 u124 u125 u126 u127 u128 u129 u130 u131 u132 u133 u134 u135 u136 u137 u138 u139 u140 u141 u142 u143 u144 u145 u146 u147 u148 u149 u150 u151 u152 u153 u154 u155 u156 u157 u158 u159 u160 u161 u162 u163 u164 u165 u166 u167 u168 u169 u170 u171 sr wsr dst done hPS hsl hwl hdl w3 hC3 hSs hSw hT3 B3 hiB3 HB3 Q K kk J KK jj jk
        exact boxb.out
      case rest =>
        obtain ⟨rr, wrr, hPR, hrrl, hwrl, hG4, hSr, hSwr⟩ := hcut
        obtain ⟨w4, hw4⟩ : ∃ w4, w4 = wc := ⟨_, rfl⟩
        subst hw4
        have hC4 := hC3.kept hG4
        have hSs4 := hSs.kept hG4
        have hSw4 := hSw.kept hG4
        have hT4 := hT3.kept hG4 (by simp)
        have hB34 : w3.heap.size ≤ w4.heap.size := hG4.size
        have hSr4 := hSr.up (show ib ≤ B3 by omega)
        have hSwr4 := hSwr.up (show ib ≤ B3 by omega)
        clear hC3 hSs hSw hT3 hG4 hSr hSwr hB34 HB3 hiB3
        have f12 : w4.cell? ⟨ib, 12, none⟩ = some (.bool I.hasTS) := (hC4.cell 12).trans rfl
        go_upto_if 232 with fail
        obtain ⟨B4, hB4⟩ : ∃ B4, w4.heap.size = B4 := ⟨_, rfl⟩
        have hiB4 : ib < B4 := by have := hC4.lt; omega
        have HB4 := hide hB4
        clear hB4 f12
        go_cut [20, 21, 22, 23, 24, 25, 26, 27, 28, 29, 30, 31] from 231 to 385 (fun s20 s21 s22 _ _ _ _ _ _ _ _ _ wk => ∃ ts wts bad, PT [I.q0, I.q1, I.q2, I.q3] I.ms ts wts bad ∧ ts.length ≤ 76 ∧ wts.length ≤ 76 ∧ w4.grownBy wk none ∧ s20 = .bool bad ∧ Sl wk B4 s21 ts ∧ Sl wk B4 s22 wts)
        case first =>
          rename_i Q K kk J KK jj jk
          revert I w hops rd td hA hw za ab am ca cm ta tm Hgl Hca Hcm Hne ib h hh9 hhn HH w1 Hib u50 u51 tb hit w2 u4 u5 u8 u9 u10 u11 u12 u13 u14 u54 u55 u56 u57 u58 u59 u60 u61 u62 u63 u64 u65 u66 u67 u68 u69 u70 u71 u72 u73 u74 u75 u76 u77 u78 u79 u80 u81 u82 u83 u84 u85 u86 u87 u88 u89 u90 u91 u92 u93 u94 u95 u96 u97 u98 u99 u100 u101 u102 u103 u104 u105 u106 u107 u108 u109 u110 u111 u112 u113 u114 u115 u116 u117 u118 u119 u120 u121 u122 u123 u124 u125 u126 u127 u128 u129 u130 u131 u132 u133 u134 u135 u136 u137 u138 u139 u140 u141 u142 u143 u144 u145 u146 u147 u148 u149 u150 u151 u152 u153 u154 u155 u156 u157 u158 u159 u160 u161 u162 u163 u164 u165 u166 u167 u168 u169 u170 u171 sr wsr dst done hPS hsl hwl hdl w3 B3 u15 u16 u17 u18 u19 u172 u173 u174 u175 u176 u177 u178 u179 u180 u181 u182 u183 u184 u185 u186 u187 u188 u189 u190 u191 u192 u193 u194 u195 u196 u197 u198 u199 u200 u201 u202 u203 u204 u205 u206 u207 u208 u209 u210 u211 u212 u213 u214 u215 u216 u217 u218 u219 u220 u221 u222 u223 u224 u225 u226 u227 u228 u229 u230 rr wrr hPR hrrl hwrl w4 hC4 hSs4 hSw4 hT4 hSr4 hSwr4 B4 hiB4 HB4 Q K kk J KK jj jk
          exact boxc.out
        case rest =>
          rename_i Q K kk
          revert I w hops rd td hA hw za ab am ca cm ta tm Hgl Hca Hcm Hne ib h hh9 hhn HH w1 Hib u50 u51 tb hit w2 u4 u5 u8 u9 u10 u11 u12 u13 u14 u54 u55 u56 u57 u58 u59 u60 u61 u62 u63 u64 u65 u66 u67 u68 u69 u70 u71 u72 u73 u74 u75 u76 u77 u78 u79 u80 u81 u82 u83 u84 u85 u86 u87 u88 u89 u90 u91 u92 u93 u94 u95 u96 u97 u98 u99 u100 u101 u102 u103 u104 u105 u106 u107 u108 u109 u110 u111 u112 u113 u114 u115 u116 u117 u118 u119 u120 u121 u122 u123 u124 u125 u126 u127 u128 u129 u130 u131 u132 u133 u134 u135 u136 u137 u138 u139 u140 u141 u142 u143 u144 u145 u146 u147 u148 u149 u150 u151 u152 u153 u154 u155 u156 u157 u158 u159 u160 u161 u162 u163 u164 u165 u166 u167 u168 u169 u170 u171 sr wsr dst done hPS hsl hwl hdl w3 B3 u15 u16 u17 u18 u19 u172 u173 u174 u175 u176 u177 u178 u179 u180 u181 u182 u183 u184 u185 u186 u187 u188 u189 u190 u191 u192 u193 u194 u195 u196 u197 u198 u199 u200 u201 u202 u203 u204 u205 u206 u207 u208 u209 u210 u211 u212 u213 u214 u215 u216 u217 u218 u219 u220 u221 u222 u223 u224 u225 u226 u227 u228 u229 u230 rr wrr hPR hrrl hwrl w4 hC4 hSs4 hSw4 hT4 hSr4 hSwr4 B4 hiB4 HB4 wc u20 u21 u22 u23 u24 u25 u26 u27 u28 u29 u30 u31 u231 u232 u233 u234 u235 u236 u237 u238 u239 u240 u241 u242 u243 u244 u245 u246 u247 u248 u249 u250 u251 u252 u253 u254 u255 u256 u257 u258 u259 u260 u261 u262 u263 u264 u265 u266 u267 u268 u269 u270 u271 u272 u273 u274 u275 u276 u277 u278 u279 u280 u281 u282 u283 u284 u285 u286 u287 u288 u289 u290 u291 u292 u293 u294 u295 u296 u297 u298 u299 u300 u301 u302 u303 u304 u305 u306 u307 u308 u309 u310 u311 u312 u313 u314 u315 u316 u317 u318 u319 u320 u321 u322 u323 u324 u325 u326 u327 u328 u329 u330 u331 u332 u333 u334 u335 u336 u337 u338 u339 u340 u341 u342 u343 u344 u345 u346 u347 u348 u349 u350 u351 u352 u353 u354 u355 u356 u357 u358 u359 u360 u361 u362 u363 u364 u365 u366 u367 u368 u369 u370 u371 u372 u373 u374 u375 u376 u377 u378 u379 u380 u381 u382 u383 u384 u385 hcut Q K kk
          exact boxd.out⟩
end Go.Proofs.YbulkblgyDoor
