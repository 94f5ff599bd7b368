/- LawS3101B*: groupElements: the state of its second and third loop. -/
import Derived.Test.YbulkbleuFmtGrp0
namespace Go.Proofs.YbulkbleuFmt.B
open Go.RowKit Go.Maps Go.ChangeMaps

def ltc : List Nat → Nat → Nat
  | [], _ => 0
  | x :: xs, g => (if x < g then 1 else 0) + ltc xs g
theorem ltc_zero : ∀ gs, ltc gs 0 = 0
  | [] => rfl
  | x :: xs => by simp [ltc, ltc_zero xs]
theorem ltc_succ (g : Nat) : ∀ gs : List Nat, ltc gs (g + 1) = ltc gs g + gs.count g
  | [] => rfl
  | x :: xs => by
    simp only [ltc, ltc_succ g xs, List.count_cons, beq_iff_eq]
    split <;> split <;> split <;> omega
theorem ltc_le (g : Nat) : ∀ gs : List Nat, ltc gs g ≤ gs.length
  | [] => Nat.le_refl _
  | x :: xs => by
    have := ltc_le g xs
    simp only [ltc, List.length_cons]
    split <;> omega
theorem ltc_room (gs : List Nat) (g : Nat) : ltc gs g + gs.count g ≤ gs.length := by rw [← ltc_succ]; exact ltc_le _ _

structure G2 (w wr : World) (sb A m : Nat) (gs us : List Nat) (n : Nat) : Prop where
  below : Below w.heap.size w wr
  lo : w.heap.size + 1 < sb ∧ sb < A
  sz : ∀ g, g < m → wr.cell? ⟨sb, g, none⟩ = some (.int .i64 (gs.count g : Nat))
  of_ : ∀ j (h : j < gs.length), wr.cell? ⟨w.heap.size + 1, j, none⟩ = some (.int .i64 (gs[j] : Nat))
  ar : ∀ j, j < gs.length → ∃ u, wr.cell? ⟨A, j, none⟩ = some u
  af : ∀ j, wr.frozen? ⟨A, j, none⟩ = false
  gr : ∀ j, j < m → ∃ u, wr.cell? ⟨A + 1, j, none⟩ = some u
  gf : ∀ j, wr.frozen? ⟨A + 1, j, none⟩ = false
  gc : ∀ j, j < n → wr.cell? ⟨A + 1, j, none⟩ = some (.slice (some ⟨A, ltc gs j, none⟩) (us.count j) (gs.count j))

theorem G2.set {w wr : World} {sb A m : Nat} {gs us us' : List Nat} {n n' : Nat} (h : G2 w wr sb A m gs us n) {g : Nat} (hg : g < m) (hu : ∀ j, j < n' → j ≠ g → j < n ∧ us'.count j = us.count j) :
    G2 w (wr.setCell ⟨A + 1, g, none⟩ (.slice (some ⟨A, ltc gs g, none⟩) (us'.count g) (gs.count g))) sb A m gs us' n' := by
  obtain ⟨l1, l2⟩ := h.lo
  obtain ⟨u0, c0⟩ := h.gr g hg
  have oth : ∀ b j, (b ≠ A + 1 ∨ j ≠ g) → (wr.setCell ⟨A + 1, g, none⟩ (.slice (some ⟨A, ltc gs g, none⟩) (us'.count g) (gs.count g))).cell? ⟨b, j, none⟩ = wr.cell? ⟨b, j, none⟩ := fun b j hb =>
    World.cell?_setCell_other _ _ _ _ (by intro e; simp only [Addr.mk.injEq] at e; omega)
  refine ⟨h.below.setCell (by show w.heap.size ≤ A + 1; omega) _, h.lo, fun j hj => ?_, fun j hj => ?_, fun j hj => ?_, fun j => ?_, fun j hj => ?_, fun j => ?_, fun j hj => ?_⟩
  · rw [oth _ _ (by omega)]; exact h.sz j hj
  · rw [oth _ _ (by omega)]; exact h.of_ j hj
  · rw [oth _ _ (by omega)]; exact h.ar j hj
  · rw [World.frozen?_setCell]; exact h.af j
  · by_cases e : j = g
    · subst e; exact ⟨_, World.cell?_setCell_same _ _ _ c0⟩
    · rw [oth _ _ (by omega)]; exact h.gr j hj
  · rw [World.frozen?_setCell]; exact h.gf j
  · by_cases e : j = g
    · subst e; exact World.cell?_setCell_same _ _ _ c0
    · obtain ⟨a1, a2⟩ := hu j hj e
      rw [oth _ _ (by omega), a2]; exact h.gc j a1
theorem G2.put {w wr : World} {sb A m : Nat} {gs us : List Nat} {n : Nat} (h : G2 w wr sb A m gs us n) (o : Nat) (v : Value) : G2 w (wr.setCell ⟨A, o, none⟩ v) sb A m gs us n := by
  obtain ⟨l1, l2⟩ := h.lo
  have oth : ∀ b j, b ≠ A → (wr.setCell ⟨A, o, none⟩ v).cell? ⟨b, j, none⟩ = wr.cell? ⟨b, j, none⟩ := fun b j hb =>
    World.cell?_setCell_other _ _ _ _ (by intro e; simp only [Addr.mk.injEq] at e; omega)
  refine ⟨h.below.setCell (by show w.heap.size ≤ A; omega) _, h.lo, fun j hj => ?_, fun j hj => ?_, fun j hj => ?_, fun j => ?_, fun j hj => ?_, fun j => ?_, fun j hj => ?_⟩
  · rw [oth _ _ (by omega)]; exact h.sz j hj
  · rw [oth _ _ (by omega)]; exact h.of_ j hj
  · obtain ⟨u, hu⟩ := h.ar j hj
    exact cell?_setCell_some hu
  · rw [World.frozen?_setCell]; exact h.af j
  · rw [oth _ _ (by omega)]; exact h.gr j hj
  · rw [World.frozen?_setCell]; exact h.gf j
  · rw [oth _ _ (by omega)]; exact h.gc j hj
theorem G2.kept {w wr wr' : World} {sb A m : Nat} {gs us : List Nat} {n : Nat} (h : G2 w wr sb A m gs us n) (hA : A + 1 < wr.heap.size) (hb : Below wr.heap.size wr wr') : G2 w wr' sb A m gs us n := by
  obtain ⟨l1, l2⟩ := h.lo
  have hw := h.below.size
  have oth : ∀ b j, b ≤ A + 1 → wr'.cell? ⟨b, j, none⟩ = wr.cell? ⟨b, j, none⟩ := fun b j hb' => hb.cell (p := ⟨b, j, none⟩) (by show b < _; omega)
  have ofz : ∀ b j, b ≤ A + 1 → wr'.frozen? ⟨b, j, none⟩ = wr.frozen? ⟨b, j, none⟩ := fun b j hb' => hb.frozen (p := ⟨b, j, none⟩) (by show b < _; omega)
  refine ⟨h.below.trans (hb.mono hw), h.lo, fun j hj => ?_, fun j hj => ?_, fun j hj => ?_, fun j => ?_, fun j hj => ?_, fun j => ?_, fun j hj => ?_⟩
  · rw [oth _ _ (by omega)]; exact h.sz j hj
  · rw [oth _ _ (by omega)]; exact h.of_ j hj
  · rw [oth _ _ (by omega)]; exact h.ar j hj
  · rw [ofz _ _ (by omega)]; exact h.af j
  · rw [oth _ _ (by omega)]; exact h.gr j hj
  · rw [ofz _ _ (by omega)]; exact h.gf j
  · rw [oth _ _ (by omega)]; exact h.gc j hj

/-- Behind the first loop, once 'all' and 'groups' are made. -/
theorem G1.made {w wr : World} {k sb cap : Nat} {gs : List Nat} {m : Nat} (h : G1 w wr k (.slice (some ⟨sb, 0, none⟩) m cap) gs m) (hk : gs.length = k) :
    G2 w ((wr.alloc (.cells (madeCells #[.int .i64 0] k) 3)).alloc (.cells (madeCells #[.slice none 0 0] m) 121)) sb wr.heap.size m gs [] 0 := by
  obtain ⟨b1, b2⟩ := h.sz.lt sb rfl
  have r1 := made_room wr (.int .i64 0) k 3
  have r2 := made_room (wr.alloc (.cells (madeCells #[.int .i64 0] k) 3)) (.slice none 0 0) m 121
  have hs1 : (wr.alloc (.cells (madeCells #[.int .i64 0] k) 3)).heap.size = wr.heap.size + 1 := by simp
  rw [hs1] at r2
  have hb : Below wr.heap.size wr ((wr.alloc (.cells (madeCells #[.int .i64 0] k) 3)).alloc (.cells (madeCells #[.slice none 0 0] m) 121)) := ((Below.refl _ wr).alloc (Nat.le_refl _) _).alloc (by rw [hs1]; omega) _
  have hz := h.size
  refine ⟨h.below.trans (hb.mono (by omega)), ⟨by omega, b2⟩, fun j hj => ?_, fun j hj => ?_, fun j hj => ?_, fun j => ?_, r2.1, r2.2, fun j hj => by omega⟩
  · rw [hb.cell (p := ⟨sb, j, none⟩) b2]
    have := h.sz.cells (g := sb) rfl j _ (cnt_get gs m j hj)
    simpa [Addr.add_lit] using this
  · rw [hb.cell (p := ⟨w.heap.size + 1, j, none⟩) hz]
    exact h.at_ j hj
  · obtain ⟨u, hu⟩ := r1.1 j (by omega)
    exact ⟨u, by rw [← hu]; exact World.cell?_of_block (heap_alloc_old _ _ (by show wr.heap.size < _; rw [hs1]; omega))⟩
  · rw [← r1.2 j]; exact World.frozen?_of_block (heap_alloc_old _ _ (by show wr.heap.size < _; rw [hs1]; omega))

theorem run_one (w : World) (A o l c : Nat) (a : Addr) (c' : Nat) (x : Value) (ty : TypeId) (h1 : x.oneCell' = true) (u : Value) (hc : w.cell? a = some x) (hroom : l + 1 ≤ c) (hu : w.cell? ⟨A, o + l, none⟩ = some u) (hz : w.frozen? ⟨A, o + l, none⟩ = false) :
    (Builtin.append_ #[121, 121] ty #[.slice (some ⟨A, o, none⟩) l c, .slice (some a) 1 c']).run Ybaf.prog w = .ok (.slice (some ⟨A, o, none⟩) (l + 1) c) (w.setCell ⟨A, o + l, none⟩ x) := by
  obtain ⟨i, hi, _, hs, _⟩ := info_parts info3
  have hf := run_firstCells_some (P := Ybaf.prog) w 1 1 a 1 c' [x] rfl (fun j v hj => by
    match j, hj with
    | 0, hj => simp at hj; subst hj; simpa [Addr.add] using hc)
  simp [Builtin.append_, run_underlying Ybaf.underlying121, sizeOf, typeInfo, hi, hs, Builtin.lenOf, hroom, hf, Addr.add_lit, storeCells, run_store, h1, hu, hz]
theorem wpList_one {ops : Array Oper} {rest : List Oper} {o : Oper} {a : Act} {Q : Exit → Act → World → Prop} (w0 : World) (x : Value) (hgd : o.guard = none) (s y : Operand)
    (ho : o.op = .call { callee := .builtin .append, args := #[s, y], argTypes := #[121, 121] }) (A f l c : Nat) (hs : a.eval s = .slice (some ⟨A, f, none⟩) l c) (blk : Nat) (hblk : w0.heap.size = blk) (m c' : Nat) (hm : m = 1) (hx : a.eval y = .slice (some ⟨blk, 0, none⟩) m c')
    (h1 : x.oneCell' = true) (u : Value) (hroom : l + 1 ≤ c) (hA : A < w0.heap.size) (hu : w0.cell? ⟨A, f + l, none⟩ = some u) (hz : w0.frozen? ⟨A, f + l, none⟩ = false)
    (h : wpList Ybaf.prog ops Q rest (a.put o.dst (.slice (some ⟨A, f, none⟩) (l + 1) c)) ((w0.alloc (.cells #[x] 3)).setCell ⟨A, f + l, none⟩ x)) :
    wpList Ybaf.prog ops Q (o :: rest) a (w0.alloc (.cells #[x] 3)) := by
  subst hm hblk
  refine wpList_plain hgd fun K hK => ?_
  have hcell : (w0.alloc (.cells #[x] 3)).cell? ⟨A, f + l, none⟩ = some u := by rw [← hu]; exact World.cell?_of_block (heap_alloc_old _ _ hA)
  have hfz : (w0.alloc (.cells #[x] 3)).frozen? ⟨A, f + l, none⟩ = false := by rw [← hz]; exact World.frozen?_of_block (heap_alloc_old _ _ hA)
  have hr := run_one (w0.alloc (.cells #[x] 3)) A f l c ⟨w0.heap.size, 0, none⟩ c' x o.type h1 u (by simp) hroom hcell hfz
  unfold Oper.wp execOp
  simp only [ho, resolve, invoke, builtin, Sem.run_bind, Sem.run_pure, Result.andThen_ok, List.map_toArray, List.map_cons, List.map_nil, hs, hx, hr]
  exact hK _ _ h
end Go.Proofs.YbulkbleuFmt.B
