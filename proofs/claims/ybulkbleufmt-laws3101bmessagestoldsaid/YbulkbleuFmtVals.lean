/- LawS3101B*: zzs3101bvalues. -/
import Derived.Test.YbulkbleuFmtFields
namespace Go.Proofs.YbulkbleuFmt.B
open Go.RowKit

/-- One value: l bytes from o on. -/
def valRow (s : Int) (o l : Nat) : List Int := (List.range l).map fun q : Nat => (s + (o + q : Nat)) % 256
def valRows (s : Int) : Nat → List (Int × Int) → List (List Int)
  | _, [] => []
  | o, f :: fs => valRow s o f.2.toNat :: valRows s (o + f.2.toNat) fs
theorem valRows_len (s : Int) : ∀ o fs, (valRows s o fs).length = fs.length
  | _, [] => rfl
  | o, f :: fs => by simp [valRows, valRows_len s]
theorem valRow_len (s : Int) (o l : Nat) : (valRow s o l).length = l := by simp [valRow]
theorem valRows_snoc (s : Int) (f : Int × Int) : ∀ (fs : List (Int × Int)) (o : Nat), FsWf fs → valRows s o (fs ++ [f]) = valRows s o fs ++ [valRow s (o + (sumL fs).toNat) f.2.toNat]
  | [], o, _ => by simp [valRows, sumL]
  | g :: fs, o, h => by
    have h1 := h g (by simp)
    have hs : FsWf fs := fun x hx => h x (by simp [hx])
    have h2 := sumL_bd fs hs
    simp only [List.cons_append, valRows, sumL, valRows_snoc s f fs _ hs, List.cons.injEq, true_and]
    rw [show o + (g.2 + sumL fs).toNat = o + g.2.toNat + (sumL fs).toNat by omega]

/-- The values as they lie: the slices in block vb, each one's bytes in a block of its own. -/
def ValsAt (B : Nat) (w : World) (vb : Nat) (rows : List (List Int)) : Prop := ∀ i (h : i < rows.length), ∃ g, B ≤ g ∧ g < w.heap.size ∧ w.cell? ⟨vb, i, none⟩ = some (.slice (some ⟨g, 0, none⟩) (rows[i]).length (rows[i]).length) ∧ ∀ q (hq : q < (rows[i]).length), w.cell? ⟨g, q, none⟩ = some (.int .u8 (rows[i])[q])
theorem ValsAt.below {B : Nat} {w w' : World} {vb : Nat} {rows : List (List Int)} (h : ValsAt B w vb rows) (hv : vb < w.heap.size) (hb : Below w.heap.size w w') : ValsAt B w' vb rows := fun i hi => by
  obtain ⟨g, a, b, c, d⟩ := h i hi
  exact ⟨g, a, Nat.lt_of_lt_of_le b hb.size, (hb.cell (p := ⟨vb, i, none⟩) hv).trans c, fun q hq => (hb.cell (p := ⟨g, q, none⟩) b).trans (d q hq)⟩

theorem info24 : (Ybaf.prog.info? 24).map (fun i => (i.zero, i.size, i.bytes)) = some (some (.slice none 0 0), 1, 24) := by kernel_rfl
theorem run_vals (w : World) (n : Nat) (hn : n ≤ 100) :
    (Instr.makeSlice 36 (.int .i64 n) (.int .i64 n)).run Ybaf.prog w = .ok (.slice (some ⟨w.heap.size, 0, none⟩) n n) (w.alloc (.cells (madeCells #[.slice none 0 0] n) 24)) := by
  obtain ⟨i, hi, hz, hs, hb⟩ := info_parts info24
  have := run_make (P := Ybaf.prog) w 36 24 i _ Ybaf.underlying36 hi hz .i64 .i64 n n (by omega) (Int.le_refl _) (by rw [hb]; omega) (by omega)
  simpa [hs, Value.cells] using this
theorem run_bytes (w : World) (n : Nat) (hn : n ≤ 100000) :
    (Instr.makeSlice 24 (.int .i64 n) (.int .i64 n)).run Ybaf.prog w = .ok (.slice (some ⟨w.heap.size, 0, none⟩) n n) (w.alloc (.cells (madeCells #[.int .u8 0] n) 5)) := by
  obtain ⟨i, hi, hz, hs, hb⟩ := info_parts infoByte
  have := run_make (P := Ybaf.prog) w 24 5 i _ Ybaf.underlying24 hi hz .i64 .i64 n n (by omega) (Int.le_refl _) (by rw [hb]; omega) (by omega)
  simpa [hs, Value.cells] using this

/-- A block just made: its cells are there, none frozen. -/
theorem made_room (w : World) (z : Value) (n : Nat) (t : TypeId) : (∀ j, j < n → ∃ u, (w.alloc (.cells (madeCells #[z] n) t)).cell? ⟨w.heap.size, j, none⟩ = some u) ∧ ∀ j, (w.alloc (.cells (madeCells #[z] n) t)).frozen? ⟨w.heap.size, j, none⟩ = false := by
  refine ⟨fun j hj => ?_, fun j => ?_⟩
  · have hblk := heap_alloc_new w (.cells (madeCells #[z] n) t)
    rw [cell_of_row _ _ j _ t (0, 0) hblk]
    have hs : j < (madeCells #[z] n).size := by rw [size_madeCells]; exact hj
    exact ⟨_, Array.getElem?_eq_getElem hs⟩
  · rw [frozen?_alloc_cells]; simp [World.frozen?]

set_option maxRecDepth 100000 in
set_option maxHeartbeats 1000000 in
theorem values_any (fb c : Nat) (fs : List (Int × Int)) (j : Nat) (seed : Int) (w : World) (hF : Hid (FsAt w fb fs)) (hwf : Hid (FsWf fs)) (hk : fs.length ≤ 4) (hfb : fb < w.heap.size) (hj : j ≤ 1000) (hs0 : 0 ≤ seed) (hs1 : seed ≤ 255) :
    Calls Ybaf.prog 12 #[.slice (some ⟨fb, 0, none⟩) fs.length c, .int .i64 j, .int .u8 seed] w fun e w' => e = .returned (.slice (some ⟨w.heap.size, 0, none⟩) fs.length fs.length) ∧ Below w.heap.size w w' ∧ w.heap.size < w'.heap.size ∧ ValsAt (w.heap.size + 1) w' w.heap.size (valRows (seed + j * 31) 0 fs) := by
  have hmk := run_vals w fs.length (by omega)
  have hroom := made_room w (.slice none 0 0) fs.length 24
  have hbel : Below w.heap.size w (w.alloc (.cells (madeCells #[.slice none 0 0] fs.length) 24)) := (Below.refl _ w).alloc (Nat.le_refl _) _
  have hlt0 : w.heap.size < (w.alloc (.cells (madeCells #[.slice none 0 0] fs.length) 24)).heap.size := by simp
  go_enter Ybaf.func12, Ybaf.ntmps12
  go_wp2
  clear hmk
  generalize (w.alloc (.cells (madeCells #[.slice none 0 0] fs.length) 24)) = w1 at *
  go_loopw [8, 9] (fun s8 s9 wr => ∃ i : Nat, i ≤ fs.length ∧ s9 = .int .i64 i ∧ s8 = .int .i64 (sumL (fs.take i)) ∧ Below w.heap.size w wr ∧ w.heap.size < wr.heap.size ∧ ValsAt (w.heap.size + 1) wr w.heap.size (valRows (seed + j * 31) 0 (fs.take i)) ∧ (∀ q, q < fs.length → ∃ u, wr.cell? ⟨w.heap.size, q, none⟩ = some u) ∧ ∀ q, wr.frozen? ⟨w.heap.size, q, none⟩ = false) (fun _ s9 _ => fs.length - (intOf s9).toNat)
  case atStart => exact ⟨0, by omega, rfl, rfl, hbel, hlt0, fun i hi => by simp [valRows] at hi, hroom.1, hroom.2⟩
  case round =>
    obtain ⟨i, hi, rfl, rfl, hb1, hlt1, hV, hr1, hz1⟩ := hrel
    clear hbel hlt0 hroom
    by_cases hlt : i < fs.length
    · obtain ⟨_, _, p2⟩ := (hF.out.below hfb hb1) i hlt
      have hw1 := hwf.out _ (List.getElem_mem hlt)
      have hbd := sumL_bd (fs.take i) (hwf.out.take i)
      rw [List.length_take] at hbd
      have Hs : Hid (sumL (fs.take (i + 1)) = sumL (fs.take i) + (fs[i]).2) := by
        show _ = _
        rw [List.take_succ_eq_append_getElem hlt, sumL_snoc]
      have Hr : Hid (valRows (seed + j * 31) 0 (fs.take (i + 1)) = valRows (seed + j * 31) 0 (fs.take i) ++ [valRow (seed + j * 31) (sumL (fs.take i)).toNat (fs[i]).2.toNat]) := by
        show _ = _
        rw [List.take_succ_eq_append_getElem hlt, valRows_snoc _ _ _ _ (hwf.out.take i), Nat.zero_add]
      have Hl : Hid ((valRows (seed + j * 31) 0 (fs.take i)).length = i) := by
        show _ = _
        rw [valRows_len, List.length_take]; omega
      generalize fs[i] = f at *
      obtain ⟨O, hO⟩ : ∃ O : Nat, sumL (fs.take i) = O := ⟨(sumL (fs.take i)).toNat, by omega⟩
      rw [hO] at hbd Hs Hr ⊢
      clear hO
      obtain ⟨l, hl⟩ : ∃ l : Nat, f.2 = l := ⟨f.2.toNat, by omega⟩
      obtain ⟨_, _, f0, f1⟩ := hw1
      rw [hl] at p2 Hs Hr f0 f1
      rw [Int.toNat_natCast, Int.toNat_natCast] at Hr
      clear hl
      generalize valRows (seed + j * 31) 0 (fs.take i) = R at *
      obtain ⟨wo, rfl⟩ : ∃ wo, wo = wr := ⟨wr, rfl⟩
      have hmk := run_bytes wo l (by omega)
      have hroom := made_room wo (.int .u8 0) l 5
      have hbel : Below wo.heap.size wo (wo.alloc (.cells (madeCells #[.int .u8 0] l) 5)) := (Below.refl _ wo).alloc (Nat.le_refl _) _
      have hlt0 : wo.heap.size < (wo.alloc (.cells (madeCells #[.int .u8 0] l) 5)).heap.size := by simp
      go_wp2
      clear hmk
      generalize (wo.alloc (.cells (madeCells #[.int .u8 0] l) 5)) = w2 at *
      go_loopw [8, 11] (fun s8 s11 wr => ∃ q : Nat, q ≤ l ∧ s11 = .int .i64 q ∧ s8 = .int .i64 (O + q : Nat) ∧ Below wo.heap.size wo wr ∧ wo.heap.size < wr.heap.size ∧ (∀ p, p < q → wr.cell? ⟨wo.heap.size, p, none⟩ = some (.int .u8 ((seed + j * 31 + (O + p : Nat)) % 256))) ∧ (∀ p, p < l → ∃ u, wr.cell? ⟨wo.heap.size, p, none⟩ = some u) ∧ ∀ p, wr.frozen? ⟨wo.heap.size, p, none⟩ = false) (fun _ s11 _ => l - (intOf s11).toNat)
      case atStart => exact ⟨0, by omega, rfl, rfl, hbel, hlt0, fun p hp => by omega, hroom.1, hroom.2⟩
      case round =>
        obtain ⟨q, hq, rfl, rfl, hb2, hlt2, hc2, hr2, hz2⟩ := hrel
        clear hbel hlt0 hroom
        by_cases hql : q < l
        · obtain ⟨u, cq⟩ := hr2 q hql
          have zq := hz2 q
          have hil : (q : Int) < (l : Int) := by omega
          go_wp2
          refine ⟨⟨q + 1, by omega, by go_num, by go_num, hb2.setCell (Nat.le_refl _) _, by simp; omega, fun p hp => ?_, fun p hp => ?_, fun p => by rw [World.frozen?_setCell]; exact hz2 p⟩, by simp [intOf]; omega⟩
          · by_cases hpq : p = q
            · subst hpq
              rw [World.cell?_setCell_same _ _ _ cq, Int.natCast_add]
            · rw [World.cell?_setCell_other _ _ _ _ (by intro e; simp only [Addr.mk.injEq] at e; omega)]
              exact hc2 p (by omega)
          · by_cases hpq : p = q
            · subst hpq
              exact ⟨_, World.cell?_setCell_same _ _ _ cq⟩
            · rw [World.cell?_setCell_other _ _ _ _ (by intro e; simp only [Addr.mk.injEq] at e; omega)]
              exact hr2 p hp
        · obtain rfl : l = q := by omega
          have hbw : Below w.heap.size w wr := hb1.trans (hb2.mono (by omega))
          obtain ⟨u, cu⟩ := hr1 i hlt
          have cu' := (hb2.cell (p := ⟨w.heap.size, i, none⟩) hlt1).trans cu
          have zu := (hb2.frozen (p := ⟨w.heap.size, i, none⟩) hlt1).trans (hz1 i)
          have hil : ¬ (l : Int) < (l : Int) := by omega
          go_wp2
          refine ⟨⟨i + 1, by omega, by go_num, by rw [Hs.out]; go_num, hbw.setCell (Nat.le_refl _) _, by simp; omega, ?_, fun p hp => ?_, fun p => ?_⟩, by simp [intOf]; omega⟩
          · rw [Hr.out]
            intro i' hi'
            rw [List.length_append, Hl.out] at hi'
            by_cases e : i' < i
            · obtain ⟨g, a1, a2, a3, a4⟩ := hV i' (by rw [Hl.out]; exact e)
              rw [List.getElem_append_left (by rw [Hl.out]; exact e)]
              refine ⟨g, a1, by simp; omega, ?_, fun p hp => ?_⟩
              · rw [World.cell?_setCell_other _ _ _ _ (by intro e; simp only [Addr.mk.injEq] at e; omega)]
                exact (hb2.cell (p := ⟨w.heap.size, i', none⟩) hlt1).trans a3
              · rw [World.cell?_setCell_other _ _ _ _ (by intro e; simp only [Addr.mk.injEq] at e; omega)]
                exact (hb2.cell (p := ⟨g, p, none⟩) a2).trans (a4 p hp)
            · obtain rfl : i = i' := by simp at hi'; omega
              have hge : ∀ h, (R ++ [valRow (seed + j * 31) O l])[i]'h = valRow (seed + j * 31) O l := by
                intro h
                rw [List.getElem_append_right (by rw [Hl.out]; omega)]
                simp [Hl.out]
              rw [hge]
              refine ⟨wo.heap.size, by omega, by simp; omega, ?_, fun p hp => ?_⟩
              · rw [World.cell?_setCell_same _ _ _ cu', valRow_len]
              · rw [World.cell?_setCell_other _ _ _ _ (by intro e; simp only [Addr.mk.injEq] at e; omega)]
                rw [valRow_len] at hp
                rw [hc2 p hp]
                simp [valRow]
          · by_cases e : p = i
            · subst e
              exact ⟨_, World.cell?_setCell_same _ _ _ cu'⟩
            · rw [World.cell?_setCell_other _ _ _ _ (by intro e; simp only [Addr.mk.injEq] at e; omega)]
              obtain ⟨u', cu''⟩ := hr1 p hp
              exact ⟨u', (hb2.cell (p := ⟨w.heap.size, p, none⟩) hlt1).trans cu''⟩
          · rw [World.frozen?_setCell]
            exact (hb2.frozen (p := ⟨w.heap.size, p, none⟩) hlt1).trans (hz1 p)
    · obtain rfl : fs.length = i := by omega
      rw [List.take_length] at hV ⊢
      go_wp2
      go_ret
      exact ⟨rfl, hb1, hlt1, hV⟩
end Go.Proofs.YbulkbleuFmt.B
