/- LawS3101BMessages: (*MessageWriter).add of a template that was sent before. -/
import Derived.Test.YbulkbleuFmtAddF
import Derived.BigQuiet
import Derived.Deep.QuietTactic
namespace Go.Proofs.YbulkbleuFmt.B
open Go.RowKit

set_option maxRecDepth 100000 in
set_option maxHeartbeats 1000000 in
/-- The message has its set already. -/
theorem sent_same (B mb tb fb vb c sb s N : Nat) (ta : Option Addr) (tl tc : Nat) (v : Value) (L : List Int) (tid rec : Int) (fs : List (Int × Int)) (rows : List (List Int)) (w : World) (hb : Buf w B v L) (hM : MC w mb v s tid rec (.slice ta tl tc)) (c5 : w.cell? ⟨mb, 5, none⟩ = some (.map (some sb)))
    (hT : Tpl w tb fb tid fs) (hwf : Hid (FsWf fs)) (hk : fs.length ≤ 4) (htb : tb < B) (hfb : fb < B) (hmb : mb < B) (hlen : L.length ≤ 10000) (hB : B ≤ w.heap.size) (hs0 : 0 < s) (hr0 : 0 ≤ rec) (hr1 : rec < 100000)
    (hV : ValsIn N w vb rows) (hN : N ≤ w.heap.size) (hvb : vb < N) (hn : Hid (∀ k, v.ownBlock = some k → k < vb ∨ N ≤ k)) (hfit : Hid (Fits fs rows))
    (hl : ∀ n, (Instr.lookup 43 (.map (some sb)) (.int .u16 tid) false).run Ybaf.prog (w.drewN n) = .ok (.pointer (some ⟨tb, 0, none⟩)) (w.drewN n)) :
    Calls Ybaf.prog 27 #[.pointer (some ⟨mb, 0, none⟩), .pointer (some ⟨tb, 0, none⟩), .slice (some ⟨vb, 0, none⟩) fs.length c] w fun e w' => ∃ v', e = .returned .nilIface ∧ Step w w' B mb v v' L (L ++ rows.flatten) ∧ MC w' mb v' s tid (rec + 1) (.slice ta tl tc) := by
  have hnq := fun n => neq28 (w.drewN n) ⟨tb, 0, none⟩
  have c11 := hM.c11
  have t0 := hT.c0
  go_enter Ybaf.func27, Ybaf.ntmps27
  go_wp2
  go_quiet (fail)
  go_wp2_with fail
  have hSq : Step w (w.drewN nq) B mb v v L L := ⟨hb, hb, hb, .inl ⟨rfl, rfl⟩, ⟨[], by simp⟩, rfl, rfl, rfl, Nat.le_refl _, fun _ _ _ _ => rfl, fun _ _ => rfl, fun _ => rfl⟩
  clear hnq hl
  have hS2 := hSq.drew
  have hM2 : MC (w.drewN nq).drew mb v s tid rec (.slice ta tl tc) := ⟨hM.c7, hM.c8, hM.c9, hM.c10, hM.c11, hM.c12, hM.fz⟩
  have hT2 : Tpl (w.drewN nq).drew tb fb tid fs := ⟨hT.c0, hT.c1, hT.c2, hT.fs⟩
  have hV2 : ValsIn N (w.drewN nq).drew vb rows := hV
  have hN2 : N ≤ (w.drewN nq).drew.heap.size := hN
  have hB2 : B ≤ (w.drewN nq).drew.heap.size := hB
  have t0d : (w.drewN nq).cell? ⟨tb, 0, none⟩ = some (.int .u16 tid) := t0
  have t0e : (w.drewN nq).drew.cell? ⟨tb, 0, none⟩ = some (.int .u16 tid) := t0
  generalize w.drewN nq = w0 at *
  have k8 := hM2.c8
  have k9 := hM2.c9
  clear c11 c5 hM hT hV t0
  go_cut [121] (fun _ wk => wk = w0.drew)
  case first =>
    go_region_with (go_at_call 40; (with_reducible refine Calls.mono (open_same mb s tid w0.drew k8 k9 hs0) ?_); rintro e w1 ⟨rfl, rfl⟩)
    all_goals (go_wp2_with fail; go_meet; exact rfl)
  case rest =>
    obtain rfl := hcut
    generalize w0.drew = w2 at *
    have hb2 := hS2.body
    have c7 := hM2.c7
    obtain ⟨g0, cp0, n0, hv⟩ := hb2.shape
    subst hv
    go_wp2_with (go_at_call 42; (with_reducible refine Calls.mono (record_in B _ L tb fb vb c tid fs rows w2 hb2 hT2 hwf hk htb hfb hlen hB2 N hV2 hN2 hvb hn hfit) ?_); rintro e w3 ⟨v3, rfl, hE⟩; obtain ⟨g3, cp3, n3, rfl⟩ := hE.body.shape; have hM3 := hM2.ext hE hmb hB2; have k7 := hM3.c7; have k10 := hM3.c10; have z7 := hM3.fz 7; have z10 := hM3.fz 10)
    go_ret
    exact ⟨_, rfl, ((hS2.ext hE hmb hB).set hmb 7 (by omega) _).set hmb 10 (by omega) _, (hM3.set7 _).set10 _⟩

set_option maxRecDepth 100000 in
set_option maxHeartbeats 1000000 in
/-- The message holds its header alone. -/
theorem sent_first (B mb tb fb vb c sb N : Nat) (ta : Option Addr) (tl tc : Nat) (v : Value) (L : List Int) (tid sid rec : Int) (fs : List (Int × Int)) (rows : List (List Int)) (w : World) (hb : Buf w B v L) (hM : MC w mb v 0 sid rec (.slice ta tl tc)) (c5 : w.cell? ⟨mb, 5, none⟩ = some (.map (some sb)))
    (hT : Tpl w tb fb tid fs) (hwf : Hid (FsWf fs)) (hk : fs.length ≤ 4) (htb : tb < B) (hfb : fb < B) (hmb : mb < B) (htm : tb ≠ mb) (hfm : fb ≠ mb) (hmv : mb < vb) (hlen : L.length ≤ 1000) (hB : B ≤ w.heap.size) (hr0 : 0 ≤ rec) (hr1 : rec < 100000) (ht0 : 0 ≤ tid) (ht1 : tid < 65536)
    (hV : ValsIn N w vb rows) (hN : N ≤ w.heap.size) (hvb : vb < N) (hn : Hid (∀ k, v.ownBlock = some k → k < vb ∨ N ≤ k)) (hfit : Hid (Fits fs rows))
    (hl : ∀ n, (Instr.lookup 43 (.map (some sb)) (.int .u16 tid) false).run Ybaf.prog (w.drewN n) = .ok (.pointer (some ⟨tb, 0, none⟩)) (w.drewN n)) :
    Calls Ybaf.prog 27 #[.pointer (some ⟨mb, 0, none⟩), .pointer (some ⟨tb, 0, none⟩), .slice (some ⟨vb, 0, none⟩) fs.length c] w fun e w' => ∃ v', e = .returned .nilIface ∧ Step w w' B mb v v' L (L ++ be16 tid ++ be16 0 ++ rows.flatten) ∧ MC w' mb v' L.length tid (rec + 1) (.slice ta tl tc) := by
  have hnq := fun n => neq28 (w.drewN n) ⟨tb, 0, none⟩
  have c11 := hM.c11
  have t0 := hT.c0
  go_enter Ybaf.func27, Ybaf.ntmps27
  go_wp2
  go_quiet (fail)
  go_wp2_with fail
  have hSq : Step w (w.drewN nq) B mb v v L L := ⟨hb, hb, hb, .inl ⟨rfl, rfl⟩, ⟨[], by simp⟩, rfl, rfl, rfl, Nat.le_refl _, fun _ _ _ _ => rfl, fun _ _ => rfl, fun _ => rfl⟩
  clear hnq hl
  have hS2 := hSq.drew
  have hM2 : MC (w.drewN nq).drew mb v 0 sid rec (.slice ta tl tc) := ⟨hM.c7, hM.c8, hM.c9, hM.c10, hM.c11, hM.c12, hM.fz⟩
  have hb2 : Buf (w.drewN nq).drew B v L := hb
  have hB2 : B ≤ (w.drewN nq).drew.heap.size := hB
  have t0d : (w.drewN nq).cell? ⟨tb, 0, none⟩ = some (.int .u16 tid) := t0
  have t0e : (w.drewN nq).drew.cell? ⟨tb, 0, none⟩ = some (.int .u16 tid) := t0
  generalize w.drewN nq = w0 at *
  have k7 := hM2.c7
  have k8 : w0.drew.cell? ⟨mb, 8, none⟩ = some (.int .i64 0) := hM2.c8
  have k9 := hM2.c9
  have hz1 : Hid (∀ j, w0.drew.frozen? ⟨mb, j, none⟩ = false) := hM2.fz
  have HT := hide hT
  have HV := hide hV
  clear c11 c5 hM hT hV t0
  go_cut [121] (fun _ wk => ∃ v1, Step w wk B mb v v1 L (L ++ be16 tid ++ be16 0) ∧ MC wk mb v1 L.length tid rec (.slice ta tl tc))
  case first =>
    go_region_with (go_at_call 40; (with_reducible refine Calls.mono (open_first B mb v L tid sid w0.drew hb2 k7 k8 k9 hz1 ht0 ht1 (by omega) hmb hB2) ?_); rintro e w1 ⟨v1, rfl, hS3, hMA⟩)
    all_goals
      go_wp2_with fail
      go_meet
      exact ⟨v1, hS2.trans hS3 hmb, hMA.mc hM2 hS3⟩
  case rest =>
    obtain ⟨v1, hS3, hM3⟩ := hcut
    have hTw : Tpl w tb fb tid fs := HT.out
    have hVw : ValsIn N w vb rows := HV.out
    have hT3 := hTw.step hS3 htb hfb htm hfm hB
    have hV3 := hVw.step hS3 hN hvb hmv hn.out
    have hn3 : Hid (∀ k, v1.ownBlock = some k → k < vb ∨ N ≤ k) := hS3.own hn.out hN
    have hB3 : B ≤ wc.heap.size := Nat.le_trans hB hS3.size
    have hN3 : N ≤ wc.heap.size := Nat.le_trans hN hS3.size
    have hb3 := hS3.body
    have hl3 : (L ++ be16 tid ++ be16 0).length ≤ 10000 := by simp only [List.length_append, be16_len]; omega
    clear hSq hS2 hM2 hb2 hB2 t0d t0e k7 k8 k9 hz1 HT HV hTw hVw
    generalize hLLe : L ++ be16 tid ++ be16 0 = LL at *
    have HLLe := hide hLLe
    clear hLLe
    have c7 := hM3.c7
    obtain ⟨g0, cp0, n0, hv⟩ := hb3.shape
    subst hv
    go_wp2_with (go_at_call 42; (with_reducible refine Calls.mono (record_in B _ LL tb fb vb c tid fs rows wc hb3 hT3 hwf hk htb hfb hl3 hB3 N hV3 hN3 hvb hn3 hfit) ?_); rintro e w4 ⟨v4, rfl, hE⟩; obtain ⟨g4, cp4, n4, rfl⟩ := hE.body.shape; have hM4 := hM3.ext hE hmb hB3; have k7 := hM4.c7; have k10 := hM4.c10; have z7 := hM4.fz 7; have z10 := hM4.fz 10)
    go_ret
    obtain rfl := HLLe.out
    exact ⟨_, rfl, ((hS3.ext hE hmb hB).set hmb 7 (by omega) _).set hmb 10 (by omega) _, (hM4.set7 _).set10 _⟩
end Go.Proofs.YbulkbleuFmt.B
