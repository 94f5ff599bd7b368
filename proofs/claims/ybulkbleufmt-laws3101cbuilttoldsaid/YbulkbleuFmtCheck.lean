/- zzs3101ccheck: what the reader holds behind the call, held against the model. -/
import Derived.Test.YbulkbleuFmtReader
import Derived.Laws.StructEq
namespace Go.Proofs.YbulkbleuFmt
open Go.RowKit
attribute [local go_sem ↓] Go.wp_at_zero Go.wp_at_succ

theorem priors_len : ∀ m, (priors m).length = m * 4
  | 0 => rfl
  | m + 1 => by simp [priors, priors_len m, priorCells]; omega
theorem priors_get {k i : Nat} (hi : i < 4) : ∀ m, k < m → (priors m)[k * 4 + i]? = (priorCells k)[i]?
  | 0, h => by omega
  | m + 1, h => by
    simp only [priors]
    by_cases e : k = m
    · subst e
      rw [List.getElem?_append_right (by rw [priors_len]; omega), priors_len]
      simp
    · rw [List.getElem?_append_left (by rw [priors_len]; omega)]
      exact priors_get hi m (by omega)

theorem neq61 (a b c d : Int) (w : World) : (binOp .neq 61 (.agg #[.int .u16 a, .int .u32 b, .int .u64 c, .int .i64 d]) (.agg #[.int .u16 a, .int .u32 b, .int .u64 c, .int .i64 d])).run Ybaf.prog w = .ok (.bool false) w := by
  have u1 := Ybaf.underlying22; have a1 := Ybaf.isAgg22; have z1 := Ybaf.sizeOf22
  have u2 := Ybaf.underlying25; have a2 := Ybaf.isAgg25; have z2 := Ybaf.sizeOf25
  have u3 := Ybaf.underlying59; have a3 := Ybaf.isAgg59; have z3 := Ybaf.sizeOf59
  have u4 := Ybaf.underlying2; have a4 := Ybaf.isAgg2; have z4 := Ybaf.sizeOf2
  have hS : Ybaf.prog.underlying 61 = some (.struct (Ybaf.prog.fieldsOf 61)) := by kernel_rfl
  have hp : Ybaf.prog.stoodInHeld 61 = false := by kernel_rfl
  rw [run_neq_struct, show (10000 : Nat) = 9999 + 1 from rfl, run_equalIn_agg w 9999 61 _ _ hS hp]
  simp only [Program.fieldsOf, Ybaf.underlying61]
  go_simp

set_option maxRecDepth 100000 in
set_option maxHeartbeats 400000 in
theorem check_ok (pb : Nat) (T : TypeId) (n : Int) (h0 : 0 ≤ n) (h1 : n ≤ 255) (a b c d : Int) (w : World) (hR : Reader w pb T ((n % 4).toNat + 1) (priors (n % 4).toNat ++ [.int .u16 a, .int .u32 b, .int .u64 c, .int .i64 d])) :
    Calls Ybaf.prog 22 #[.pointer (some ⟨pb, 0, none⟩), .int .u8 n, .nilIface, .bool true, .agg #[.int .u16 a, .int .u32 b, .int .u64 c, .int .i64 d]] w fun e w' => e = .returned (.bool true) ∧ Below w.heap.size w w' := by
  obtain ⟨m, hm, hm2⟩ : ∃ m : Nat, n % 4 = m ∧ m ≤ 3 := ⟨(n % 4).toNat, by omega, by omega⟩
  rw [hm, Int.toNat_natCast] at hR
  obtain ⟨v, c2, hown⟩ := hR.ifs
  obtain ⟨g, cap, rfl, hg1, hg2⟩ := hown.form (by omega)
  have hlt := hR.lt
  have cells : ∀ j u, (priors m ++ [.int .u16 a, .int .u32 b, .int .u64 c, .int .i64 d])[j]? = some u → w.cell? ⟨g, j, none⟩ = some u := fun j u hu => by
    have := hown.cells (g := g) rfl j u hu
    rwa [Go.WideShapes.add_plain, Nat.zero_add] at this
  have last : ∀ i, i < 4 → ∀ u, ([.int .u16 a, .int .u32 b, .int .u64 c, .int .i64 d] : List Value)[i]? = some u → w.cell? ⟨g, m * 4 + i, none⟩ = some u := fun i hi u hu => cells _ u (by
    rw [List.getElem?_append_right (by rw [priors_len]; omega), priors_len]
    simpa using hu)
  have l0 := cell_new (.cells #[.int .u16 a, .int .u32 b, .int .u64 c, .int .i64 d] 61) (last 0 (by omega) _ rfl)
  have l1 := cell_new (.cells #[.int .u16 a, .int .u32 b, .int .u64 c, .int .i64 d] 61) (last 1 (by omega) _ rfl)
  have l2 := cell_new (.cells #[.int .u16 a, .int .u32 b, .int .u64 c, .int .i64 d] 61) (last 2 (by omega) _ rfl)
  have l3 := cell_new (.cells #[.int .u16 a, .int .u32 b, .int .u64 c, .int .i64 d] 61) (last 3 (by omega) _ rfl)
  have k2 := cell_new (.cells #[.int .u16 a, .int .u32 b, .int .u64 c, .int .i64 d] 61) c2
  simp only [Nat.add_zero] at l0
  have hnq := neq61 a b c d
  have hmm : (m : Int) < (m : Int) + 1 := by omega
  have hmm0 : (0 : Int) ≤ (m : Int) := by omega
  have Cells := hide cells
  clear cells last
  go_enter Ybaf.func22, Ybaf.ntmps22
  go_wp2
  go_quiet (fail)
  go_wp2
  clear hm
  have hb0 : Below w.heap.size w ((w.alloc (.cells #[.int .u16 a, .int .u32 b, .int .u64 c, .int .i64 d] 61)).drewN nq) := ((Below.refl _ w).alloc (Nat.le_refl _) _).trans ⟨rfl, rfl, rfl, Nat.le_refl _, fun _ _ => rfl⟩
  go_loopw [12] (fun i wr => ∃ k : Nat, k ≤ m ∧ i = .int .i64 k ∧ Below w.heap.size w wr) (fun i _ => m - (intOf i).toNat)
  case atStart => exact ⟨0, by omega, rfl, hb0⟩
  case round =>
    obtain ⟨k, hk, rfl, hb⟩ := hrel
    clear l0 l1 l2 l3 k2 hnq hb0 hmm hmm0
    by_cases hk2 : k < m
    · have cell : ∀ i, i < 4 → ∀ u, (priorCells k)[i]? = some u → wr.cell? ⟨g, k * 4 + i, none⟩ = some u := fun i hi u hu => by
        rw [hb.cell (p := ⟨g, k * 4 + i, none⟩) hg2]
        refine unhide Cells _ u ?_
        rw [List.getElem?_append_left (by rw [priors_len]; omega), priors_get hi m hk2]
        exact hu
      have e2 : wr.cell? ⟨pb, 2, none⟩ = some (.slice (some ⟨g, 0, none⟩) (m + 1) cap) := (hb.cell (p := ⟨pb, 2, none⟩) hlt).trans c2
      have e3 : wr.cell? ⟨g, k * 4, none⟩ = some (.int .u16 (100 + (k : Int))) := cell 0 (by omega) _ rfl
      have e4 : wr.cell? ⟨g, k * 4 + 1, none⟩ = some (.int .u32 k) := cell 1 (by omega) _ rfl
      have e5 : wr.cell? ⟨g, k * 4 + 2, none⟩ = some (.int .u64 ((k : Int) + 1)) := cell 2 (by omega) _ rfl
      have e6 : wr.cell? ⟨g, k * 4 + 3, none⟩ = some (.int .i64 (-(k : Int))) := cell 3 (by omega) _ rfl
      clear cell
      have hnq := neq61 (100 + (k : Int)) k ((k : Int) + 1) (-(k : Int))
      have hkm : (k : Int) < (m : Int) + 1 := by omega
      have hk0 : (0 : Int) ≤ (k : Int) := by omega
      have hl1 : pb < wr.heap.size := Nat.lt_of_lt_of_le hlt hb.size
      have hl2 : g < wr.heap.size := Nat.lt_of_lt_of_le hg2 hb.size
      go_wp2
      go_region_held3 (fun w' => w'.cell? ⟨pb, 2, none⟩ = some (.slice (some ⟨g, 0, none⟩) (m + 1) cap) ∧ w'.cell? ⟨g, k * 4, none⟩ = some (.int .u16 (100 + (k : Int))) ∧ w'.cell? ⟨g, k * 4 + 1, none⟩ = some (.int .u32 k) ∧ w'.cell? ⟨g, k * 4 + 2, none⟩ = some (.int .u64 ((k : Int) + 1)) ∧ w'.cell? ⟨g, k * 4 + 3, none⟩ = some (.int .i64 (-(k : Int)))) (go_keep)
        (first | (go_at_call 34; refine (prior_lit _ (by omega) _).mono ?_; rintro e w' ⟨rfl, rfl⟩))
      have hb1 := hide ((hb.alloc hb.size (.cells (priorCells k) 61)).drew)
      go_wp2
      exact ⟨⟨k + 1, by omega, by go_num, unhide hb1⟩, by simp [intOf]; omega⟩
    · go_wp2
      go_ret
      exact ⟨rfl, hb⟩
set_option maxRecDepth 100000 in
set_option maxHeartbeats 400000 in
theorem check_no (pb : Nat) (T : TypeId) (et : TypeId) (ev : Value) (n : Int) (h0 : 0 ≤ n) (h1 : n ≤ 255) (a b c d : Int) (w : World) (hR : Reader w pb T (n % 4).toNat (priors (n % 4).toNat)) :
    Calls Ybaf.prog 22 #[.pointer (some ⟨pb, 0, none⟩), .int .u8 n, .iface et ev, .bool false, .agg #[.int .u16 a, .int .u32 b, .int .u64 c, .int .i64 d]] w fun e w' => e = .returned (.bool true) ∧ Below w.heap.size w w' := by
  obtain ⟨m, hm, hm2⟩ : ∃ m : Nat, n % 4 = m ∧ m ≤ 3 := ⟨(n % 4).toNat, by omega, by omega⟩
  rw [hm, Int.toNat_natCast] at hR
  obtain ⟨v, c2, hown⟩ := hR.ifs
  have hlt := hR.lt
  have hlen : ∃ ao cap, v = .slice ao m cap := by
    rcases hown.2 with ⟨h, h'⟩ | ⟨g, cap, cur, h, _⟩
    · subst h'; exact ⟨_, _, h⟩
    · exact ⟨_, _, h⟩
  obtain ⟨ao, cap, rfl⟩ := hlen
  have k2 := cell_new (.cells #[.int .u16 a, .int .u32 b, .int .u64 c, .int .i64 d] 61) c2
  go_enter Ybaf.func22, Ybaf.ntmps22
  go_wp2
  clear hm
  have hb0 : Below w.heap.size w (w.alloc (.cells #[.int .u16 a, .int .u32 b, .int .u64 c, .int .i64 d] 61)) := (Below.refl _ w).alloc (Nat.le_refl _) _
  go_loopw [12] (fun i wr => ∃ k : Nat, k ≤ m ∧ i = .int .i64 k ∧ Below w.heap.size w wr) (fun i _ => m - (intOf i).toNat)
  case atStart => exact ⟨0, by omega, rfl, hb0⟩
  case round =>
    obtain ⟨k, hk, rfl, hb⟩ := hrel
    clear k2 hb0
    by_cases hk2 : k < m
    · obtain ⟨g, cap', hv, hg1, hg2⟩ := hown.form (by omega)
      simp only [Value.slice.injEq] at hv
      obtain ⟨rfl, _, rfl⟩ := hv
      have cell : ∀ i, i < 4 → ∀ u, (priorCells k)[i]? = some u → wr.cell? ⟨g, k * 4 + i, none⟩ = some u := fun i hi u hu => by
        rw [hb.cell (p := ⟨g, k * 4 + i, none⟩) hg2]
        have := hown.cells (g := g) rfl (k * 4 + i) u (by rw [priors_get hi m hk2]; exact hu)
        rwa [Go.WideShapes.add_plain, Nat.zero_add] at this
      have e2 : wr.cell? ⟨pb, 2, none⟩ = some (.slice (some ⟨g, 0, none⟩) m cap) := (hb.cell (p := ⟨pb, 2, none⟩) hlt).trans c2
      have e3 : wr.cell? ⟨g, k * 4, none⟩ = some (.int .u16 (100 + (k : Int))) := cell 0 (by omega) _ rfl
      have e4 : wr.cell? ⟨g, k * 4 + 1, none⟩ = some (.int .u32 k) := cell 1 (by omega) _ rfl
      have e5 : wr.cell? ⟨g, k * 4 + 2, none⟩ = some (.int .u64 ((k : Int) + 1)) := cell 2 (by omega) _ rfl
      have e6 : wr.cell? ⟨g, k * 4 + 3, none⟩ = some (.int .i64 (-(k : Int))) := cell 3 (by omega) _ rfl
      clear cell
      have hnq := neq61 (100 + (k : Int)) k ((k : Int) + 1) (-(k : Int))
      have hkm : (k : Int) < (m : Int) := by omega
      have hk0 : (0 : Int) ≤ (k : Int) := by omega
      have hl1 : pb < wr.heap.size := Nat.lt_of_lt_of_le hlt hb.size
      have hl2 : g < wr.heap.size := Nat.lt_of_lt_of_le hg2 hb.size
      go_wp2
      go_region_held3 (fun w' => w'.cell? ⟨pb, 2, none⟩ = some (.slice (some ⟨g, 0, none⟩) m cap) ∧ w'.cell? ⟨g, k * 4, none⟩ = some (.int .u16 (100 + (k : Int))) ∧ w'.cell? ⟨g, k * 4 + 1, none⟩ = some (.int .u32 k) ∧ w'.cell? ⟨g, k * 4 + 2, none⟩ = some (.int .u64 ((k : Int) + 1)) ∧ w'.cell? ⟨g, k * 4 + 3, none⟩ = some (.int .i64 (-(k : Int)))) (go_keep)
        (first | (go_at_call 34; refine (prior_lit _ (by omega) _).mono ?_; rintro e w' ⟨rfl, rfl⟩))
      have hb1 := hide ((hb.alloc hb.size (.cells (priorCells k) 61)).drew)
      go_wp2
      exact ⟨⟨k + 1, by omega, by go_num, unhide hb1⟩, by simp [intOf]; omega⟩
    · go_wp2
      go_ret
      exact ⟨rfl, hb⟩
end Go.Proofs.YbulkbleuFmt
