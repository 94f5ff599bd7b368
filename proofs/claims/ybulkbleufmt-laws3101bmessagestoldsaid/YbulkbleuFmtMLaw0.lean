/- LawS3101BMessages: the law's loop, record by record. -/
import Derived.Test.YbulkbleuFmtMZero
import Derived.Test.YbulkbleuFmtMod
import Derived.Test.YbulkbleuFmtFw0
namespace Go.Proofs.YbulkbleuFmt.B
open Go.RowKit Go.Maps Go.Extern.Stop Go.Stop Go.Extern

abbrev zrow : Array Value := #[.slice none 0 0, .int .i64 0, .nilIface]
theorem envM_made {F : Interp} {w w5 : World} {tb fb mx : Nat} {dm ex tid : Int} {fs : List (Int × Int)} {a : Addr} {tx : ByteArray} (h : Made w w5 zrow dm mx) (hT : Tpl w tb fb tid fs) (hf : fb < tb) (htb : tb < w.heap.size) (hf0 : 0 < fb) (ha : a.block < fb)
    (g0 : w.cell? ⟨0, 0, none⟩ = some (.iface 102 (.pointer (some a)))) (hat : w.cell? a = some (.string tx)) (ht : F.answers w.tape) :
    EnvM F (w5.setCell ⟨w.heap.size + 2, 3, none⟩ (.int .u32 ex)) (w.heap.size + 3) (w.heap.size + 2) tb fb w.heap.size (w.heap.size + 1) mx dm ex tid fs a tx := by
  have hk : ∀ k, k ≠ w.heap.size + 2 → (w5.setCell ⟨w.heap.size + 2, 3, none⟩ (.int .u32 ex)).heap[k]? = w5.heap[k]? := fun k hk => Below.heap_setCell _ _ _ _ hk
  have hc : ∀ p : Addr, p.block < w.heap.size → (w5.setCell ⟨w.heap.size + 2, 3, none⟩ (.int .u32 ex)).cell? p = w.cell? p := fun p hp => (World.cell?_of_block (hk _ (by omega))).trans (World.cell?_of_block (h.old _ hp))
  have hm : ∀ j, j ≠ 3 → (w5.setCell ⟨w.heap.size + 2, 3, none⟩ (.int .u32 ex)).cell? ⟨w.heap.size + 2, j, none⟩ = w5.cell? ⟨w.heap.size + 2, j, none⟩ := fun j hj => World.cell?_setCell_other _ _ _ _ (by intro e; simp only [Addr.mk.injEq] at e; omega)
  have hz : ∀ j, (w5.setCell ⟨w.heap.size + 2, 3, none⟩ (.int .u32 ex)).cell? ⟨w.heap.size, j, none⟩ = zrow[j]? := fun j => (World.cell?_of_block (a := ⟨w.heap.size, j, none⟩) (hk _ (by show w.heap.size ≠ _; omega))).trans (cell_of_row _ _ _ _ _ _ h.z)
  refine ⟨(hm 0 (by omega)).trans ((h.cell 0).trans rfl), (hm 1 (by omega)).trans ((h.cell 1).trans rfl), (hm 2 (by omega)).trans ((h.cell 2).trans rfl), World.cell?_setCell_same _ _ _ ((h.cell 3).trans rfl), (hm 5 (by omega)).trans ((h.cell 5).trans rfl), (hm 6 (by omega)).trans ((h.cell 6).trans rfl), ⟨(hc _ htb).trans hT.c0, (hc _ htb).trans hT.c1, (hc _ htb).trans hT.c2, fun i hi => ?_⟩, (hz 2).trans rfl, fun j => ?_, (hc _ (by show 0 < _; omega)).trans g0, (hc _ (by omega)).trans hat, ?_, ?_, hf0, ha, hf, htb, by omega, by omega, by omega⟩
  · obtain ⟨x, y, z⟩ := hT.fs i hi
    exact ⟨(hc _ (by show fb < _; omega)).trans x, (hc _ (by show fb < _; omega)).trans y, (hc _ (by show fb < _; omega)).trans z⟩
  · rw [World.frozen?_setCell]
    exact frozen_of_row _ _ j _ _ h.z
  · show F.answers w5.tape
    rw [h.tape]; exact ht
  · rw [World.size_setCell, h.size]; omega
theorem stZ_made {w w5 : World} {dm ex : Int} {mx : Nat} (h : Made w w5 zrow dm mx) (h0 : 16 ≤ mx) (h1 : mx ≤ 1000) : StZ (w5.setCell ⟨w.heap.size + 2, 3, none⟩ (.int .u32 ex)) (w.heap.size + 3) (w.heap.size + 2) w.heap.size (w.heap.size + 1) (w.heap.size + 3) mx (List.replicate 16 0) 0 := by
  have hk : ∀ k, k ≠ w.heap.size + 2 → (w5.setCell ⟨w.heap.size + 2, 3, none⟩ (.int .u32 ex)).heap[k]? = w5.heap[k]? := fun k hk => Below.heap_setCell _ _ _ _ hk
  have hm : ∀ j, j ≠ 3 → (w5.setCell ⟨w.heap.size + 2, 3, none⟩ (.int .u32 ex)).cell? ⟨w.heap.size + 2, j, none⟩ = w5.cell? ⟨w.heap.size + 2, j, none⟩ := fun j hj => World.cell?_setCell_other _ _ _ _ (by intro e; simp only [Addr.mk.injEq] at e; omega)
  have hz : ∀ j, (w5.setCell ⟨w.heap.size + 2, 3, none⟩ (.int .u32 ex)).cell? ⟨w.heap.size, j, none⟩ = zrow[j]? := fun j => (World.cell?_of_block (a := ⟨w.heap.size, j, none⟩) (hk _ (by show w.heap.size ≠ _; omega))).trans (cell_of_row _ _ _ _ _ _ h.z)
  have hM := h.mc
  refine ⟨by simp, ?_, ?_, (hm 4 (by omega)).trans ((h.cell 4).trans rfl), (hz 0).trans rfl, (hz 1).trans rfl, Msgs.nil _ _ _, ?_, by omega⟩
  · have := (h.buf h0 h1).same (w' := w5.setCell ⟨w.heap.size + 2, 3, none⟩ (.int .u32 ex)) (fun k e => by simp [Value.ownBlock] at e; subst e; exact hk _ (by omega))
    simpa using this
  · have : MC (w5.setCell ⟨w.heap.size + 2, 3, none⟩ (.int .u32 ex)) (w.heap.size + 2) (.slice (some ⟨w.heap.size + 3, 0, none⟩) 16 mx) 0 0 0 (.slice none 0 0) := ⟨(hm 7 (by omega)).trans hM.c7, (hm 8 (by omega)).trans hM.c8, (hm 9 (by omega)).trans hM.c9, (hm 10 (by omega)).trans hM.c10, (hm 11 (by omega)).trans hM.c11, hM.c12.imp fun _ x => (hm 12 (by omega)).trans x, fun j => by rw [World.frozen?_setCell]; exact hM.fz j⟩
    simpa using this
  · obtain ⟨es, clock, x, y⟩ := h.own
    exact ⟨es, clock, (hk _ (by omega)).trans x, y⟩

/-- The law's loop at record j. -/
def MLoop (w : World) (B mb zb sb tb : Nat) (tid : Int) (fs : List (Int × Int)) (ex dm sd : Int) (c1 c2 j : Nat) : Prop :=
  (j = 0 ∧ ∃ g cap L sid, StZ w B mb zb sb g cap L sid) ∨ ∃ k q, j = startM c1 c2 k + q ∧ 1 ≤ q ∧ q ≤ capM c1 c2 k ∧ StM w B mb zb sb tb tid fs (isFirst k) (fullB tid fs ex dm sd c1 c2 k) (startM c1 c2 k) q (recsB sd fs (startM c1 c2 k) q)

section
variable {F : Interp} {w w6 : World} {B mb tb fb zb sb mx : Nat} {dm ex tid sd : Int} {fs : List (Int × Int)} {a : Addr} {tx : ByteArray} {c1 c2 r j : Nat}

theorem cap_le (hr : 0 < r) (hc1 : c1 = (mx - (24 + (4 + 4 * fs.length))) / r) (hc2 : c2 = (mx - 20) / r) (h1 : 1 ≤ c1) (k q : Nat) (hq : q ≤ capM c1 c2 k) : 20 + lenS (isFirst k) fs + r * q ≤ mx := by
  have m1 : r * c1 ≤ mx - (24 + (4 + 4 * fs.length)) := by rw [hc1]; exact Nat.mul_div_le _ _
  have m2 : r * c2 ≤ mx - 20 := by rw [hc2]; exact Nat.mul_div_le _ _
  have hm : r * q ≤ r * capM c1 c2 k := Nat.mul_le_mul_left r hq
  have m3 : r * 1 ≤ r * c1 := Nat.mul_le_mul_left r h1
  have m4 : c1 ≤ c2 := by rw [hc1, hc2]; exact Nat.div_le_div_right (by omega)
  have m5 : r * c1 ≤ r * c2 := Nat.mul_le_mul_left r m4
  cases k with
  | zero => simp only [capM, isFirst, lenS, if_true] at *; omega
  | succ k => simp only [capM, isFirst, lenS] at *; simp; omega
theorem cap_gt (hr : 0 < r) (hc1 : c1 = (mx - (24 + (4 + 4 * fs.length))) / r) (hc2 : c2 = (mx - 20) / r) (k : Nat) : mx < 20 + lenS (isFirst k) fs + r * (capM c1 c2 k) + r := by
  have m1 : mx - (24 + (4 + 4 * fs.length)) < r * (c1 + 1) := by rw [hc1]; exact Nat.lt_mul_div_succ _ hr
  have m2 : mx - 20 < r * (c2 + 1) := by rw [hc2]; exact Nat.lt_mul_div_succ _ hr
  rw [Nat.mul_succ] at m1 m2
  cases k with
  | zero => simp only [capM, isFirst, lenS, if_true]; omega
  | succ k => simp only [capM, isFirst, lenS]; simp; omega

theorem mrec (hE : EnvM F w B mb tb fb zb sb mx dm ex tid fs a tx) (hS : MLoop w B mb zb sb tb tid fs ex dm sd c1 c2 j) (hb6 : Below w.heap.size w w6) (hz6 : w.heap.size < w6.heap.size) (hV6 : ValsAt (w.heap.size + 1) w6 w.heap.size (valRows (sd + j * 31) 0 fs)) (c : Nat) (wi : (K tid).wf = true) (hwf : Hid (FsWf fs)) (hk : fs.length ≤ 4) (ht0 : 256 ≤ tid) (ht1 : tid < 65536) (hr : sumL fs = r) (hr0 : 0 < r) (hc1 : c1 = (mx - (24 + (4 + 4 * fs.length))) / r) (hc2 : c2 = (mx - 20) / r) (h1 : 1 ≤ c1) (hmx : mx ≤ 600) (hj : j ≤ 300) (d0 : 0 ≤ dm) (d1 : dm < 4294967296) (e0 : 0 ≤ ex) (e1 : ex < 4294967296) :
    Calls Ybaf.prog 11 #[.pointer (some ⟨mb, 0, none⟩), .pointer (some ⟨tb, 0, none⟩), .slice (some ⟨w.heap.size, 0, none⟩) fs.length c] w6 fun e w' => e = .returned .nilIface ∧ FarM w w' B mb zb sb ∧ MLoop w' B mb zb sb tb tid fs ex dm sd c1 c2 (j + 1) := by
  obtain ⟨l0, l1, l2, l3, l4, l5, l6⟩ := hE.lo
  have hB := hE.size
  have hF6 : FarM w w6 B mb zb sb := (Far.below hb6 hB (by omega) (by omega)).m sb
  have hE6 := hE.far hF6
  have hfit := valRows_fits (sd + j * 31) fs 0 hwf.out
  have hfl := recB_len sd fs j hwf.out hr
  have hrB : recB sd fs j = (valRows (sd + j * 31) 0 fs).flatten := rfl
  rw [hrB] at hfl
  rcases hS with ⟨rfl, g, cap, L, sid, hZ⟩ | ⟨k, q, hjk, hq1, hq2, g, cap, H, mv, vs, n0, D, ta, tl, tc, hP⟩
  · have hg := (hZ.buf.lt g rfl).2
    have hZ6 := hZ.below (by omega) (by omega) (by omega) (by omega) (by omega) hB hb6
    have hcl := cap_le (fs := fs) hr0 hc1 hc2 h1 0 1 h1
    refine (zero_fits hE6 hZ6 w.heap.size c w6.heap.size _ wi hwf hk ht0 ht1 hV6.inside (Nat.le_refl _) hz6 hg (hide hfit) (by rw [hfl]; simp only [isFirst] at hcl; omega)).mono ?_
    rintro e w' ⟨rfl, hF', hS'⟩
    exact ⟨rfl, hF6.trans hF', .inr ⟨0, 1, by simp [startM], by omega, h1, by simpa [recsB, startM, isFirst, fullB, recB] using hS'⟩⟩
  · have hg := (hP.buf.lt g rfl).2
    have hmv : ∀ k, mv.ownBlock = some k → k < w.heap.size := fun k e => (hP.sur.ms.own.lt k e).2
    have hP6 := hP.below (by omega) (by omega) (by omega) (by omega) (by omega) hB hb6
    have hRl := recsB_len sd fs (startM c1 c2 k) hwf.out hr q
    have hol : (fullB tid fs ex dm sd c1 c2 k).length ≤ 1000 := by
      rw [fullB_len]
      have : ∀ k, k ≤ startM c1 c2 k + 1 := by
        intro k
        induction k with
        | zero => omega
        | succ k ih =>
          rw [startM_succ]
          have : 1 ≤ capM c1 c2 k := by
            have m4 : c1 ≤ c2 := by rw [hc1, hc2]; exact Nat.div_le_div_right (by omega)
            cases k <;> simp [capM] <;> omega
          omega
      have := this k
      omega
    by_cases hlt : q < capM c1 c2 k
    · have hcl := cap_le (fs := fs) hr0 hc1 hc2 h1 k (q + 1) hlt
      rw [Nat.mul_succ] at hcl
      refine (rec_step hE6 hP6 w.heap.size c w6.heap.size _ wi hwf hk hV6.inside (Nat.le_refl _) hz6 hg (hide hfit) (by omega) (by rw [hfl, hRl]; omega) (by omega)).mono ?_
      rintro e w' ⟨rfl, hF', hS'⟩
      refine ⟨rfl, hF6.trans hF', .inr ⟨k, q + 1, by omega, by omega, hlt, ?_⟩⟩
      rw [← hrB, hjk] at hS'
      exact hS'
    · obtain rfl : q = capM c1 c2 k := by omega
      have hcg := cap_gt (fs := fs) (mx := mx) hr0 hc1 hc2 k
      have hcl := cap_le (fs := fs) hr0 hc1 hc2 h1 k _ (Nat.le_refl _)
      have hc1' := cap_le (fs := fs) hr0 hc1 hc2 h1 0 1 h1
      refine (rec_turn hE6 hP6 w.heap.size c w6.heap.size _ wi hwf hk (by omega) ht1 hV6.inside (Nat.le_refl _) hz6 hB hg hmv (hide hfit) (by omega) (by omega) hol (by rw [hfl, hRl]; omega) (by rw [hfl]; omega) (by rw [hRl]; omega) d0 d1 e0 e1).mono ?_
      rintro e w' ⟨rfl, hF', hS'⟩
      refine ⟨rfl, hF6.trans hF', .inr ⟨k + 1, 1, by rw [startM_succ, ← hjk], by omega, ?_, ?_⟩⟩
      · have m4 : c1 ≤ c2 := by rw [hc1, hc2]; exact Nat.div_le_div_right (by omega)
        show 1 ≤ c2
        omega
      · rw [startM_succ]
        rw [← hrB, hjk] at hS'
        simpa [recsB, isFirst, fullB, packB] using hS'

/-- The last Flush. -/
theorem mflush (hE : EnvM F w B mb tb fb zb sb mx dm ex tid fs a tx) (hS : MLoop w B mb zb sb tb tid fs ex dm sd c1 c2 j) (wi : (K tid).wf = true) (hwf : Hid (FsWf fs)) (hr : sumL fs = r) (hr0 : 0 < r) (hc1 : c1 = (mx - (24 + (4 + 4 * fs.length))) / r) (hc2 : c2 = (mx - 20) / r) (h1 : 1 ≤ c1) (hmx : mx ≤ 600) (hj : j ≤ 300) (d0 : 0 ≤ dm) (d1 : dm < 4294967296) (e0 : 0 ≤ ex) (e1 : ex < 4294967296) :
    Calls Ybaf.prog 14 #[.pointer (some ⟨mb, 0, none⟩)] w fun e w' => e = .returned .nilIface ∧ FarM w w' B mb zb sb ∧ ∃ g mv vs out, w'.cell? ⟨zb, 0, none⟩ = some mv ∧ w'.cell? ⟨zb, 1, none⟩ = some (.int .i64 out.length) ∧ Msgs w' B g mv vs out ∧ OutIs tid fs ex dm sd c1 c2 j out := by
  rcases hS with ⟨rfl, g, cap, L, sid, hZ⟩ | ⟨k, q, hjk, hq1, hq2, g, cap, H, mv, vs, n0, D, ta, tl, tc, hP⟩
  · have h7 := hZ.mc.c7
    rw [hZ.hL] at h7
    refine (flush_none mb g cap w h7).mono ?_
    rintro e w' ⟨rfl, rfl⟩
    exact ⟨rfl, FarM.refl _ _ _ _ _, g, _, _, [], hZ.sur.z0, hZ.sur.z1, hZ.sur.ms, .inl ⟨rfl, rfl⟩⟩
  · have hRl := recsB_len sd fs (startM c1 c2 k) hwf.out hr q
    have hcl := cap_le (fs := fs) hr0 hc1 hc2 h1 k q hq2
    have hol : (fullB tid fs ex dm sd c1 c2 k).length ≤ 1000 := by
      rw [fullB_len]
      have : ∀ k, k ≤ startM c1 c2 k + 1 := by
        intro k
        induction k with
        | zero => omega
        | succ k ih =>
          rw [startM_succ]
          have : 1 ≤ capM c1 c2 k := by
            have m4 : c1 ≤ c2 := by rw [hc1, hc2]; exact Nat.div_le_div_right (by omega)
            cases k <;> simp [capM] <;> omega
          omega
      have := this k
      omega
    refine (flush_any hE hP wi (by omega) (by omega) hol (by rw [hRl]; omega) d0 d1 e0 e1).mono ?_
    rintro e w' ⟨rfl, H', mv', vs', n0', D', ta', tc', hX, hF2, _⟩
    exact ⟨rfl, hF2, g, mv', vs', _, hX.sur.z0, hX.sur.z1, hX.sur.ms, .inr ⟨k, q, hjk, hq1, hq2, rfl⟩⟩
end
end Go.Proofs.YbulkbleuFmt.B
