/- LawS3101BFailingWriter: one WriteRecord of the law's loop, in whichever state. -/
import Derived.Test.YbulkbleuFmtRecC
namespace Go.Proofs.YbulkbleuFmt.B
open Go.RowKit Go.Maps Go.Extern.Stop Go.Stop Go.Extern

theorem valRows_fits (s : Int) : ∀ (fs : List (Int × Int)) (o : Nat), FsWf fs → Fits fs (valRows s o fs)
  | [], _, _ => ⟨rfl, fun i h _ => by simp at h⟩
  | f :: fs, o, h => by
    have h1 := h f (by simp)
    obtain ⟨a, b⟩ := valRows_fits s fs (o + f.2.toNat) (fun x hx => h x (by simp [hx]))
    refine ⟨by simp [valRows, a], fun i hi hi' => ?_⟩
    cases i with
    | zero => simp only [valRows, List.getElem_cons_zero, valRow_len]; omega
    | succ i =>
      simp only [valRows, List.getElem_cons_succ]
      exact b i (by simpa using hi) (by simpa [valRows] using hi')

/-- How many writes have failed before record j. -/
def fails (c1 j : Nat) : Nat := if c1 = 0 then 0 else j - c1
def St (w : World) (B mb zb tb T r : Nat) (tid : Int) (c1 j : Nat) : Prop :=
  w.cell? ⟨zb, 1, none⟩ = some (.int .i64 (fails c1 j)) ∧ (((c1 = 0 ∨ j = 0) ∧ StA w B mb) ∨ (0 < c1 ∧ 0 < j ∧ StB w B mb tb T r tid (min j c1)))
/-- What WriteRecord answers to record j. -/
def Ans (w' : World) (a : Addr) (ev : Value) (c1 j : Nat) (e : Ending) : Prop :=
  (c1 = 0 ∧ ∃ qb, e = .returned (.iface 119 (.pointer (some ⟨qb, 0, none⟩))) ∧ w'.cell? ⟨qb, 1, none⟩ = some (.iface 102 (.pointer (some a)))) ∨ (0 < c1 ∧ j < c1 ∧ e = .returned .nilIface) ∨ (0 < c1 ∧ c1 ≤ j ∧ e = .returned (.iface 102 ev))

theorem St.below {w w' : World} {B mb zb tb T r : Nat} {tid : Int} {c1 j : Nat} (h : St w B mb zb tb T r tid c1 j) (hb : Below w.heap.size w w') (hm : mb < w.heap.size) (hz : zb < w.heap.size) : St w' B mb zb tb T r tid c1 j :=
  ⟨(hb.cell (p := ⟨zb, 1, none⟩) hz).trans h.1, h.2.imp (fun x => ⟨x.1, x.2.below hb hm⟩) (fun x => ⟨x.1, x.2.1, x.2.2.below hb hm⟩)⟩
/-- Where the message's buffer lies. -/
theorem St.buf {w : World} {B mb zb tb T r : Nat} {tid : Int} {c1 j : Nat} (h : St w B mb zb tb T r tid c1 j) : ∀ g n cap, w.cell? ⟨mb, 7, none⟩ = some (.slice (some ⟨g, 0, none⟩) n cap) → g < w.heap.size := by
  intro g n cap hc
  rcases h.2 with ⟨_, g', cap', L, sid, _, h2, h3⟩ | ⟨_, _, g', cap', L, pb, pc, _, h2, h3, _⟩
  · have e := h3.c7.symm.trans hc
    simp only [Option.some.injEq, Value.slice.injEq, Addr.mk.injEq] at e
    rw [← e.1.1]
    exact (h2.lt g' rfl).2
  · have e := h3.c7.symm.trans hc
    simp only [Option.some.injEq, Value.slice.injEq, Addr.mk.injEq] at e
    rw [← e.1.1]
    exact (h2.lt g' rfl).2

theorem rec_any {F : Interp} {w : World} {B mb tb fb zb sb mx N vb c r : Nat} {tid : Int} {fs : List (Int × Int)} {a : Addr} {tx : ByteArray} {ev : Value} {c1 j : Nat} (hE : Env F w B mb tb fb zb sb mx tid fs a tx ev) (hS : St w B mb zb tb (4 + 4 * fs.length) r tid c1 j)
    (rows : List (List Int)) (wi : (K tid).wf = true) (hwf : Hid (FsWf fs)) (hk : fs.length ≤ 4) (ht0 : 256 ≤ tid) (ht1 : tid < 65536) (hV : ValsIn N w vb rows) (hN : N ≤ w.heap.size) (hvb : vb < N) (hBv : B ≤ vb) (hfit : Hid (Fits fs rows)) (hr : rows.flatten.length = r) (hgv : ∀ g n cap, w.cell? ⟨mb, 7, none⟩ = some (.slice (some ⟨g, 0, none⟩) n cap) → g < vb)
    (hr0 : 0 < r) (hc1 : c1 = (mx - (24 + (4 + 4 * fs.length))) / r) (hmx : mx ≤ 1000) (hmx0 : 40 ≤ mx) (hj : j ≤ 1000) :
    Calls Ybaf.prog 11 #[.pointer (some ⟨mb, 0, none⟩), .pointer (some ⟨tb, 0, none⟩), .slice (some ⟨vb, 0, none⟩) fs.length c] w fun e w' => Far w w' B mb zb ∧ St w' B mb zb tb (4 + 4 * fs.length) r tid c1 (j + 1) ∧ Ans w' a ev c1 j e := by
  have d1 : r * c1 ≤ mx - (24 + (4 + 4 * fs.length)) := by rw [hc1]; exact Nat.mul_div_le _ _
  have d2 : mx - (24 + (4 + 4 * fs.length)) < r * (c1 + 1) := by rw [hc1]; exact Nat.lt_mul_div_succ _ hr0
  have d3 : r * (c1 + 1) = r * c1 + r := Nat.mul_succ _ _
  have hz := hS.1
  have hc5 : c1 ≤ 1000 := by
    rw [hc1]
    exact Nat.le_trans (Nat.div_le_self _ _) (by omega)
  rcases hS.2 with ⟨h0, hA⟩ | ⟨h0, h1, hB⟩
  · by_cases hc : c1 = 0
    · refine (a_long hE hA hz rows wi hwf hk ht0 ht1 hV hN hvb hBv hfit hr hgv (by rw [hc] at d2; simp at d2; omega)).mono ?_
      rintro e w' ⟨⟨qb, rfl, hq⟩, hF, hA', hz'⟩
      refine ⟨hF, ⟨?_, .inl ⟨.inl hc, hA'⟩⟩, .inl ⟨hc, qb, rfl, hq⟩⟩
      rw [hz']; simp [fails, hc]
    · have hj0 : j = 0 := by rcases h0 with h | h; exact absurd h hc; exact h
      subst hj0
      have d4 : r * 1 ≤ r * c1 := Nat.mul_le_mul_left r (by omega)
      rw [Nat.mul_one] at d4
      refine (a_fits hE hA hz rows wi hwf hk ht0 ht1 hV hN hvb hBv hfit hr hgv (by omega)).mono ?_
      rintro e w' ⟨rfl, hF, hB', hz'⟩
      refine ⟨hF, ⟨?_, .inr ⟨by omega, by omega, ?_⟩⟩, .inr (.inl ⟨by omega, by omega, rfl⟩)⟩
      · rw [hz']; simp only [fails, if_neg hc]; congr 2
        omega
      · rw [show min (0 + 1) c1 = 1 by omega]; exact hB'
  · have hne : c1 ≠ 0 := by omega
    by_cases hlt : j < c1
    · rw [show min j c1 = j by omega] at hB
      have d4 : r * (j + 1) ≤ r * c1 := Nat.mul_le_mul_left r (by omega)
      have d5 : r * 1 ≤ r * (j + 1) := Nat.mul_le_mul_left r (by omega)
      refine (b_fits hE hB hz rows wi hwf hk hV hN hvb hBv hfit hr hgv (by omega) (by omega) hmx).mono ?_
      rintro e w' ⟨rfl, hF, hB', hz'⟩
      refine ⟨hF, ⟨?_, .inr ⟨h0, by omega, ?_⟩⟩, .inr (.inl ⟨h0, hlt, rfl⟩)⟩
      · rw [hz']; simp only [fails, if_neg hne]; congr 2
        omega
      · rw [show min (j + 1) c1 = j + 1 by omega]; exact hB'
    · rw [show min j c1 = c1 by omega] at hB
      have d5 : r * 1 ≤ r * c1 := Nat.mul_le_mul_left r (by omega)
      refine (b_flush hE hB hz rows wi hwf hk hV hN hvb hBv hfit hr hgv hc5 (by simp only [fails, if_neg hne]; omega) (by omega) (by omega)).mono ?_
      rintro e w' ⟨rfl, hF, hB', hz'⟩
      refine ⟨hF, ⟨?_, .inr ⟨h0, by omega, ?_⟩⟩, .inr (.inr ⟨h0, by omega, rfl⟩)⟩
      · rw [hz']; simp only [fails, if_neg hne]; congr 2
        omega
      · rw [show min (j + 1) c1 = c1 by omega]; exact hB'
end Go.Proofs.YbulkbleuFmt.B
