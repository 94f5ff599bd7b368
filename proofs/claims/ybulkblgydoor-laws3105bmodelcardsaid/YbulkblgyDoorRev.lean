/- LawS3105B*: reverseRoute. -/
import Derived.Test.YbulkblgyDoorTs
import Derived.Deep.DeepCutAuto
import Derived.Deep.RegionLaw
namespace Go.Proofs.YbulkblgyDoor
open Go.RowKit

/-- 'copy(dst, src)' as one step of a region that draws its order. -/
theorem step_cp {ops : Array Oper} {o : Oper} {a : Act} {w : World} {K : Act → World → Prop} {Q : Exit → Act → World → Prop} {E : Prop} (hgd : o.guard = none) (d s : Operand)
    (ho : o.op = .call { callee := .builtin .copy, args := #[d, s], argTypes := #[25, 25] }) (g t off dLen dCap : Nat) (ad : Addr) (sLen sCap : Nat) (hd : a.eval d = .slice (some ⟨g, off, none⟩) dLen dCap) (hs : a.eval s = .slice (some ad) sLen sCap)
    (C cs : List Int) (hR : Row w g t C) (hn : cs.length = Nat.min sLen dLen) (hsrc : ∀ j x, cs[j]? = some x → w.cell? (ad.add j) = some (.int .u8 x)) (hfit : off + cs.length ≤ C.length) (hb : ∀ x ∈ cs, 0 ≤ x ∧ x < 256)
    (h : ∀ w', Row w' g t (splice C off cs) → w.grownBy w' (some g) → K (a.put o.dst (goInt cs.length)) w') :
    if Region.wanted o (yielded ops a.tmps) = true then Oper.wp Ybad.prog o a w K Q else E := by
  have hw : Region.wanted o (yielded ops a.tmps) = true := by simp [Region.wanted, hgd]
  rw [if_pos hw]
  have hrun := run_copy_row (P := Ybad.prog) w 25 25 o.type 5 g off dLen dCap ad sLen sCap (C.map (Value.int .u8)).toArray t (cs.map (Value.int .u8)) Ybad.underlying25 size5 hR.heap (by simpa using hn)
    (fun j v hv => by
      rw [List.getElem?_map] at hv
      cases he : cs[j]? with
      | none => rw [he] at hv; simp at hv
      | some x => rw [he] at hv; simp at hv; subst hv; exact hsrc j x he)
    (by simpa using hfit) (fun v hv => by simp at hv; obtain ⟨y, _, rfl⟩ := hv; rfl)
  unfold Oper.wp
  simp [execOp, ho, resolve, invoke, builtin, hd, hs, hrun, Result.andThen]
  refine h _ ⟨?_, fun x hx => ?_⟩ ⟨rfl, rfl, rfl, by simp, fun k _ hk => setRow_other w g k _ (fun e => hk (by rw [e]))⟩
  · rw [splice_map]
    have := setRow_heap w g _ ((C.map (Value.int .u8)).take off ++ (cs.map (Value.int .u8) ++ (C.map (Value.int .u8)).drop (off + cs.length))).toArray t _ hR.heap
    simpa using this
  · rcases splice_mem hx with h2 | h2
    · exact hR.bytes x h2
    · exact hb x h2

theorem splice_snoc (C X Y : List Int) (o : Nat) (h : o + X.length + Y.length ≤ C.length) : splice (splice C o X) (o + X.length) Y = splice C o (X ++ Y) := by
  unfold splice
  have e1 : (C.take o).length = o := by simp; omega
  rw [List.take_append, List.take_of_length_le (by omega), e1, Nat.add_sub_cancel_left, List.take_append_of_le_length (by omega), List.take_length]
  rw [List.drop_append, List.drop_of_length_le (by omega), e1, List.drop_append, List.drop_of_length_le (by omega), List.drop_drop]
  simp only [List.nil_append, List.append_assoc, List.length_append]
  congr 4
  omega

def numL : List Int → Int
  | [a, b, c, d] => num4 a b c d
  | _ => 0
/-- What reverseRoute answers. -/
def RvPost (bb : Nat) (Cb : List Int) (za : Addr) (eb em : Value) (e : Ending) (w' : World) : Rt → Prop
  | .bad => e = .returned (.tuple #[.int .i64 0, adr0, .iface 67 eb])
  | .skip => e = .returned (.tuple #[.int .i64 0, adr0, .iface 67 em])
  | .ok out dst => e = .returned (.tuple #[.int .i64 out.length, adr za (numL dst), .nilIface]) ∧ Row w' bb 5 (splice Cb 0 out)

theorem cut_cell {w : World} {g a l : Nat} {L : List Int} (hR : Rd w g L) (hl : a + l ≤ L.length) (i : Nat) (hi : i < l) : w.cell? ⟨g, a + i, none⟩ = some (.int .u8 ((cut L (a, l)).getD i 0)) := by
  rw [hR.cellD _ (by omega), cut_getD i hi]

theorem set3_splice (C Y : List Int) (a b c : Int) (h : 3 ≤ C.length) : (((splice C 3 Y).set 0 a).set 1 b).set 2 c = splice C 0 (a :: b :: c :: Y) := by
  obtain ⟨c0, c1, c2, C', rfl⟩ : ∃ c0 c1 c2 C', C = c0 :: c1 :: c2 :: C' := by
    match C, h with
    | c0 :: c1 :: c2 :: C', _ => exact ⟨c0, c1, c2, C', rfl⟩
  simp [splice, Nat.add_comm 3]
theorem addr_add (g o q : Nat) : (⟨g, o, none⟩ : Addr).add q = ⟨g, o + q, none⟩ := by by_cases h0 : q = 0 <;> simp [Addr.add, h0]
theorem route_cases (S src : List Int) (h2 : 2 ≤ S.length) : (((S.length : Int) - 3).tmod 4 ≠ 0 ∧ route S src = .bad) ∨ (((S.length : Int) - 3).tmod 4 = 0 ∧ 3 ≤ S.length ∧ S.length % 4 = 3 ∧ ((S.getD 2 0 < 4 ∧ route S src = .bad) ∨ (4 ≤ S.getD 2 0 ∧ S.getD 2 0 ≤ S.length ∧ route S src = .skip) ∨ (4 ≤ S.getD 2 0 ∧ (S.length : Int) < S.getD 2 0 ∧ S.length = 3 ∧ route S src = .ok [] src) ∨
    (4 ≤ S.getD 2 0 ∧ (S.length : Int) < S.getD 2 0 ∧ 7 ≤ S.length ∧ route S src = .ok (S.getD 0 0 :: S.getD 1 0 :: 4 :: (turned (S.drop 3) (S.length - 7) ((S.length - 7) / 4) ++ src)) (S.drop (S.length - 4))))) := by
  by_cases h1 : ((S.length : Int) - 3).tmod 4 ≠ 0
  · exact .inl ⟨h1, by unfold route; rw [if_pos (.inl h1)]⟩
  · have h1' : ((S.length : Int) - 3).tmod 4 = 0 := by simpa using h1
    have h3 : 3 ≤ S.length := by
      rcases Nat.lt_or_ge S.length 3 with hlt | hge
      · have e : S.length = 2 := by omega
        rw [e] at h1'
        exact absurd h1' (by decide)
      · exact hge
    have h4 : S.length % 4 = 3 := by
      have e := h1'
      rw [Int.tmod_eq_emod_of_nonneg (by omega)] at e
      omega
    refine .inr ⟨h1', h3, h4, ?_⟩
    by_cases c1 : S.getD 2 0 < 4
    · exact .inl ⟨c1, by unfold route; rw [if_pos (.inr c1)]⟩
    · have hn : ¬ (((S.length : Int) - 3).tmod 4 ≠ 0 ∨ S.getD 2 0 < 4) := by rintro (h | h) <;> contradiction
      by_cases c2 : S.getD 2 0 ≤ S.length
      · exact .inr (.inl ⟨by omega, c2, by unfold route; rw [if_neg hn, if_pos c2]⟩)
      · by_cases c3 : S.length = 3
        · exact .inr (.inr (.inl ⟨by omega, by omega, c3, by unfold route; rw [if_neg hn, if_neg c2, if_pos c3]⟩))
        · exact .inr (.inr (.inr ⟨by omega, by omega, by omega, by unfold route; rw [if_neg hn, if_neg c2, if_neg c3]⟩))

theorem gb_store3' (w w1 : World) (rb : Nat) (r : Option Nat) (hrb : w.heap.size ≤ rb) (h : w.grownBy w1 r) (a b c : Value) : w.grownBy (((w1.setCell ⟨rb, 0, none⟩ a).setCell ⟨rb, 1, none⟩ b).setCell ⟨rb, 2, none⟩ c) r :=
  gb_new h (gb_trans (gb_trans (gb_set _ _ _ _) (gb_set _ _ _ _)) (gb_set _ _ _ _)) hrb

set_option maxRecDepth 100000 in
set_option maxHeartbeats 4000000 in
theorem rev_any (g bb a l c N M : Nat) (L Cb : List Int) (p0 p1 p2 p3 : Int) (za : Addr) (eb em : Value) (w : World) (hR : Rd w g L) (hRb : Row w bb 5 Cb) (hgb : g ≠ bb) (hl : a + l ≤ L.length) (hl2 : 2 ≤ l) (hlc : l ≤ c) (hl9 : l ≤ 100000) (hg : 2 < g) (hbb : 2 < bb) (hN : Cb.length = N) (hlN : l ≤ N) (hM : N ≤ M) (h0 : w.cell? ⟨0, 0, none⟩ = some (.iface 67 em)) (h1 : w.cell? ⟨1, 0, none⟩ = some (.iface 67 eb)) (h2 : w.cell? ⟨2, 0, none⟩ = some (.pointer (some za)))
    (a0 : 0 ≤ p0) (a1 : p0 < 256) (b0 : 0 ≤ p1) (b1 : p1 < 256) (q0 : 0 ≤ p2) (q1 : p2 < 256) (d0 : 0 ≤ p3) (d1 : p3 < 256) :
    Calls Ybad.prog 11 #[.slice (some ⟨bb, 0, none⟩) N M, .slice (some ⟨g, a, none⟩) l c, adr za (num4 p0 p1 p2 p3)] w fun e w' => RvPost bb Cb za eb em e w' (route (cut L (a, l)) [p0, p1, p2, p3]) ∧ w.grownBy w' (some bb) := by
  have hlt := hR.lt
  have hlb := hRb.lt
  have gA : w.grownBy ((w.alloc (.cells #[.int .u64 0, .int .u64 (num4 p0 p1 p2 p3), .pointer (some za)] 43)).alloc (.cells #[.int .u64 0, .int .u64 0, .pointer none] 43)) none := gb_trans (gb_alloc _ _ _) (gb_alloc _ _ _)
  have kg := hR.kept gA (by simp)
  have kb := hRb.kept gA (by simp)
  have k0 := (gA.cell_far ⟨0, 0, none⟩ (by show 0 < _; omega) (by simp)).trans h0
  have k1 := (gA.cell_far ⟨1, 0, none⟩ (by show 1 < _; omega) (by simp)).trans h1
  have k2 := (gA.cell_far ⟨2, 0, none⟩ (by show 2 < _; omega) (by simp)).trans h2
  have hz : 2 < ((w.alloc (.cells #[.int .u64 0, .int .u64 (num4 p0 p1 p2 p3), .pointer (some za)] 43)).alloc (.cells #[.int .u64 0, .int .u64 0, .pointer none] 43)).heap.size := by simp; omega
  have s0 : ((w.alloc (.cells #[.int .u64 0, .int .u64 (num4 p0 p1 p2 p3), .pointer (some za)] 43)).alloc (.cells #[.int .u64 0, .int .u64 0, .pointer none] 43)).cell? ⟨w.heap.size, 0, none⟩ = some (.int .u64 0) := by simp
  have s1 : ((w.alloc (.cells #[.int .u64 0, .int .u64 (num4 p0 p1 p2 p3), .pointer (some za)] 43)).alloc (.cells #[.int .u64 0, .int .u64 0, .pointer none] 43)).cell? ⟨w.heap.size, 1, none⟩ = some (.int .u64 (num4 p0 p1 p2 p3)) := by simp
  have s2 : ((w.alloc (.cells #[.int .u64 0, .int .u64 (num4 p0 p1 p2 p3), .pointer (some za)] 43)).alloc (.cells #[.int .u64 0, .int .u64 0, .pointer none] 43)).cell? ⟨w.heap.size, 2, none⟩ = some (.pointer (some za)) := by simp
  have res : ((w.alloc (.cells #[.int .u64 0, .int .u64 (num4 p0 p1 p2 p3), .pointer (some za)] 43)).alloc (.cells #[.int .u64 0, .int .u64 0, .pointer none] 43)).heap[w.heap.size + 1]? = some (.cells #[.int .u64 0, .int .u64 0, .pointer none] 43 (0, 0)) := by
    have := heap_alloc_new (w.alloc (.cells #[.int .u64 0, .int .u64 (num4 p0 p1 p2 p3), .pointer (some za)] 43)) (.cells #[.int .u64 0, .int .u64 0, .pointer none] 43)
    simpa using this
  have hsz : w.heap.size + 1 < ((w.alloc (.cells #[.int .u64 0, .int .u64 (num4 p0 p1 p2 p3), .pointer (some za)] 43)).alloc (.cells #[.int .u64 0, .int .u64 0, .pointer none] 43)).heap.size := by simp
  obtain ⟨r0, r1, r2, z0, z1, z2⟩ := cell3 res
  have w1 := IntWalk.i64_in ((l : Int) - 3) (by omega)
  have hcl : (cut L (a, l)).length = l := cut_len hl
  have hrc := route_cases (cut L (a, l)) [p0, p1, p2, p3] (by omega)
  rw [hcl] at hrc
  go_enter Ybad.func11, Ybad.ntmps11
  rcases hrc with ⟨c1, hr⟩ | ⟨c1, h3, hl4, hrc⟩
  · have n0 : (((l : Int) - 3).tmod 4 == 0) = false := beq_eq_false_iff_ne.2 c1
    go_wp2_with fail
    generalize hrb : w.heap.size + 1 = rb at *
    generalize (w.alloc (.cells #[.int .u64 0, .int .u64 (num4 p0 p1 p2 p3), .pointer (some za)] 43)).alloc (.cells #[.int .u64 0, .int .u64 0, .pointer none] 43) = wa at *
    have n1 : ¬ 1 = rb := by omega
    have n2 : ¬ rb = 1 := by omega
    have n3 : ¬ 0 = rb := by omega
    have n4 : ¬ rb = 0 := by omega
    have Hrb := hide hrb
    clear hrb
    go_region
    all_goals go_wp2
    all_goals
      simp [bodyPost, results, Ybad.results11, go_sem, r0, r1, r2, hr, RvPost]
      exact gb_trans (gb_store3' _ _ _ _ (by have := Hrb.out; omega) (gb_some _ gA) _ _ _) (gb_drew _ _)
  · have y2 := cut_cell kg hl 2 (by omega)
    have hy := kg.byte (a + 2)
    have hcut2 := cut_getD (L := L) (a := a) (l := l) 2 (by omega)
    rw [← hcut2] at hy
    clear hcut2
    obtain ⟨y, hyy⟩ : ∃ y, (cut L (a, l)).getD 2 0 = y := ⟨_, rfl⟩
    rw [hyy] at y2 hy hrc
    have wy := IntWalk.i64_in y (by omega)
    have hl2i : 2 < (l : Int) := by omega
    rcases hrc with ⟨c2, hr⟩ | ⟨c2, c3, hr⟩ | ⟨c2, c3, c4, hr⟩ | ⟨c2, c3, c4, hr⟩
    · skip
      go_wp2_with fail
      generalize hrb : w.heap.size + 1 = rb at *
      generalize (w.alloc (.cells #[.int .u64 0, .int .u64 (num4 p0 p1 p2 p3), .pointer (some za)] 43)).alloc (.cells #[.int .u64 0, .int .u64 0, .pointer none] 43) = wa at *
      have n1 : ¬ 1 = rb := by omega
      have n2 : ¬ rb = 1 := by omega
      have n3 : ¬ 0 = rb := by omega
      have n4 : ¬ rb = 0 := by omega
      have Hrb := hide hrb
      clear hrb
      go_region
      all_goals go_wp2
      all_goals
        simp [bodyPost, results, Ybad.results11, go_sem, r0, r1, r2, hr, RvPost]
        exact gb_trans (gb_store3' _ _ _ _ (by have := Hrb.out; omega) (gb_some _ gA) _ _ _) (gb_drew _ _)
    · skip
      go_wp2_with fail
      generalize hrb : w.heap.size + 1 = rb at *
      generalize (w.alloc (.cells #[.int .u64 0, .int .u64 (num4 p0 p1 p2 p3), .pointer (some za)] 43)).alloc (.cells #[.int .u64 0, .int .u64 0, .pointer none] 43) = wa at *
      have n1 : ¬ 1 = rb := by omega
      have n2 : ¬ rb = 1 := by omega
      have n3 : ¬ 0 = rb := by omega
      have n4 : ¬ rb = 0 := by omega
      have Hrb := hide hrb
      clear hrb
      go_region
      all_goals go_wp2
      all_goals
        simp [bodyPost, results, Ybad.results11, go_sem, r0, r1, r2, hr, RvPost]
        exact gb_trans (gb_store3' _ _ _ _ (by have := Hrb.out; omega) (gb_some _ gA) _ _ _) (gb_drew _ _)
    · subst c4
      have hrn : numL [p0, p1, p2, p3] = num4 p0 p1 p2 p3 := rfl
      have hs0 : splice Cb 0 [] = Cb := by simp [splice]
      go_wp2_with fail
      all_goals
        generalize hrb : w.heap.size + 1 = rb at *
        generalize (w.alloc (.cells #[.int .u64 0, .int .u64 (num4 p0 p1 p2 p3), .pointer (some za)] 43)).alloc (.cells #[.int .u64 0, .int .u64 0, .pointer none] 43) = wa at *
        have n1 : ¬ 1 = rb := by omega
        have n2 : ¬ rb = 1 := by omega
        have n3 : ¬ 0 = rb := by omega
        have n4 : ¬ rb = 0 := by omega
        have n5 : ¬ w.heap.size = rb := by omega
        have n6 : some bb ≠ some rb := by simp; omega
        have Hrb := hide hrb
        clear hrb
        go_region
        all_goals go_wp2
        all_goals
          simp [bodyPost, results, Ybad.results11, go_sem, r0, r1, r2, hr, RvPost, hrn, hs0]
          refine ⟨kb.kept (r := some rb) (gb_trans (gb_trans (gb_trans (gb_set _ _ _ _) (gb_set _ _ _ _)) (gb_set _ _ _ _)) (gb_drew _ _)) n6, gb_trans (gb_store3' _ _ _ _ (by have := Hrb.out; omega) (gb_some _ gA) _ _ _) (gb_drew _ _)⟩
    · obtain ⟨m, rfl⟩ : ∃ m, l = m + 7 := ⟨l - 7, by omega⟩
      have hm4 : m % 4 = 0 := by omega
      have Hr := hide hr
      clear hr
      have hc3 : 3 < c := by omega
      have hM3 : 3 < M := by omega
      go_wp2_with fail
      generalize hrb : w.heap.size + 1 = rb at *
      generalize (w.alloc (.cells #[.int .u64 0, .int .u64 (num4 p0 p1 p2 p3), .pointer (some za)] 43)).alloc (.cells #[.int .u64 0, .int .u64 0, .pointer none] 43) = wa at *
      have n1 : ¬ 1 = rb := by omega
      have n2 : ¬ rb = 1 := by omega
      have n3 : ¬ 0 = rb := by omega
      have n4 : ¬ rb = 0 := by omega
      have n5 : ¬ w.heap.size = rb := by omega
      have n6 : some bb ≠ some rb := by simp; omega
      have Hrb := hide hrb
      clear hrb
      obtain ⟨H, hH⟩ : ∃ H, (cut L (a, m + 7)).drop 3 = H := ⟨_, rfl⟩
      have hHl : H.length = m + 4 := by rw [← hH, List.length_drop, hcl]; omega
      have hHb : ∀ x ∈ H, 0 ≤ x ∧ x < 256 := by
        intro x hx
        rw [← hH] at hx
        exact kg.bytes x (List.mem_of_mem_drop (List.mem_of_mem_take (List.mem_of_mem_drop hx)))
      have hHc : ∀ q x, H[q]? = some x → wa.cell? ⟨g, a + 3 + q, none⟩ = some (.int .u8 x) := by
        intro q x hq
        have hlq : q < H.length := (List.getElem?_eq_some_iff.1 hq).1
        have e : H.getD q 0 = x := by rw [List.getD_eq_getElem?_getD, hq]; rfl
        rw [← hH, List.getD_eq_getElem?_getD, List.getElem?_drop, ← List.getD_eq_getElem?_getD] at e
        have := cut_cell kg hl (3 + q) (by omega)
        rw [e, ← Nat.add_assoc] at this
        exact this
      have hszw : w.heap.size < wa.heap.size := by have := Hrb.out; omega
      have HH := hide hH
      have HHb := hide hHb
      have HHc := hide hHc
      have HHl := hide hHl
      have Hm4 := hide hm4
      clear hH hHb hHc hHl hm4
      go_loopw [12] (fun s12 wr => ∃ k : Nat, 4 * k ≤ m ∧ s12 = .int .i64 ((4 * k : Nat) : Int) ∧ Row wr bb 5 (splice Cb 3 (turned H m k)) ∧ wa.grownBy wr (some bb)) (fun s12 _ => m - (intOf s12).toNat)
      case atStart => exact ⟨0, by omega, rfl, by simpa [turned, splice] using kb, gb_refl _ _⟩
      case round =>
        obtain ⟨k, hk, rfl, hRr, hgr⟩ := hrel
        by_cases hlt4 : 4 * k < m
        · have hd4 := Hm4.out
          obtain ⟨i, hi⟩ : ∃ i, 4 * k = i := ⟨_, rfl⟩
          obtain ⟨j, hj⟩ : ∃ j, m = i + 4 + j := ⟨m - i - 4, by omega⟩
          have htl : (turned H m k).length = i := by rw [turned_len H m k (by omega) (by have := HHl.out; omega)]; exact hi
          have hX : (H.drop (m - 4 * k - 4)).take 4 = (H.drop j).take 4 := by rw [show m - 4 * k - 4 = j by omega]
          have hXl : ((H.drop j).take 4).length = 4 := by have := HHl.out; simp; omega
          have hsn : splice (splice Cb 3 (turned H m k)) (3 + i) ((H.drop j).take 4) = splice Cb 3 (turned H m (k + 1)) := by
            rw [← htl, splice_snoc _ _ _ _ (by rw [htl, hXl]; omega), turned, hX]
          have hsrc : ∀ q x, ((H.drop j).take 4)[q]? = some x → wr.cell? ((⟨g, a + 3 + j, none⟩ : Addr).add q) = some (.int .u8 x) := by
            intro q x hq
            rw [addr_add]
            have hq4 : q < 4 := by have := (List.getElem?_eq_some_iff.1 hq).1; omega
            rw [List.getElem?_take_of_lt hq4, List.getElem?_drop] at hq
            have := HHc.out _ _ hq
            rw [hgr.cell_far ⟨g, a + 3 + j + q, none⟩ kg.lt (by simpa using hgb), Nat.add_assoc (a + 3)]
            exact this
          have hXb : ∀ x ∈ (H.drop j).take 4, 0 ≤ x ∧ x < 256 := fun x hx => HHb.out x (List.mem_of_mem_drop (List.mem_of_mem_take hx))
          have hCl : (splice Cb 3 (turned H m k)).length = Cb.length := splice_len _ _ _ (by rw [htl]; omega)
          have hfit : 3 + i + 4 ≤ (splice Cb 3 (turned H m k)).length := by rw [hCl]; omega
          have hki : ((4 * k : Nat) : Int) = i := by omega
          rw [hki]
          generalize splice Cb 3 (turned H m k) = Ck at *
          generalize (H.drop j).take 4 = X at *
          have Hki := hide hki
          have Hi := hide hi
          have Hj := hide hj
          have hil : (i : Int) < m := by omega
          have v1 := IntWalk.i64_in ((i : Int) + 4) (by omega)
          have v2 : (m : Int) - i = (j : Int) + 4 := by omega
          have v3 := IntWalk.i64_in ((j : Int) + 4) (by omega)
          have v4 : (j : Int) + 4 - 4 = j := by omega
          have v5 := IntWalk.i64_in (j : Int) (by omega)
          have hi7 : i + 4 ≤ M - 3 := by omega
          have hj7 : j + 4 ≤ c - 3 := by omega
          clear hki hi hj hX hd4 hlt4 hk
          have hi8 : i < M - 3 := by omega
          have u1 : (0 : Int) ≤ (i : Int) + 4 := by omega
          have u2 : (i : Int) + 4 ≤ ((M - 3 : Nat) : Int) := by omega
          have u3 : ((i : Int) + 4).toNat = i + 4 := by omega
          have u4 : (0 : Int) ≤ (j : Int) + 4 := by omega
          have u5 : (j : Int) + 4 ≤ ((c - 3 : Nat) : Int) := by omega
          have u6 : ((j : Int) + 4).toNat = j + 4 := by omega
          have hj8 : j < c - 3 := by omega
          have hXn : X.length = Nat.min 4 4 := by rw [hXl]; rfl
          have hfit2 : 3 + i + X.length ≤ Ck.length := by rw [hXl]; exact hfit
          have hRd : Row wr.drew bb 5 Ck := hRr.kept (gb_drew _ none) (by simp)
          have hsd : ∀ q x, X[q]? = some x → wr.drew.cell? ((⟨g, a + 3 + j, none⟩ : Addr).add q) = some (.int .u8 x) := hsrc
          have Hsd := hide hsd
          have Hsn := hide hsn
          have Hxb := hide hXb
          clear hsd hsn hXb hsrc
          go_wp2_with fail
          go_region_law (refine step_cp rfl (.tmp 58) (.tmp 67) rfl bb 5 (3 + i) 4 (M - 3 - i) ⟨g, a + 3 + j, none⟩ 4 (c - 3 - j) (by simp [Act.eval, Act.put]; omega) (by simp [Act.eval, Act.put]; omega) Ck X hRd hXn Hsd.out hfit2 Hxb.out ?_; intro w3 hR3 hg3)
          all_goals go_wp2
          all_goals
            rw [Hsn.out] at hR3
            have e1 := Hi.out
            have e2 := Hj.out
            refine ⟨⟨k + 1, by omega, ?_, hR3, gb_trans (gb_trans hgr (gb_drew _ _)) hg3⟩, ?_⟩
            · congr 1
              omega
            · simp [intOf]
              omega
        · have hkm : 4 * k = m := by omega
          rw [hkm]
          have htl : (turned H m k).length = m := by rw [turned_len H m k (by omega) (by have := HHl.out; omega)]; exact hkm
          have hCl : (splice Cb 3 (turned H m k)).length = Cb.length := splice_len _ _ _ (by rw [htl]; omega)
          have hkd : k = (m + 7 - 7) / 4 := by omega
          have hsn : splice (splice Cb 3 (turned H m k)) (3 + m) [p0, p1, p2, p3] = splice Cb 3 (turned H m k ++ [p0, p1, p2, p3]) := by
            have := splice_snoc Cb (turned H m k) [p0, p1, p2, p3] 3 (by rw [htl]; simp; omega)
            rw [htl] at this
            exact this
          have c0 := (hgr.cell_far ⟨w.heap.size, 0, none⟩ hszw (by simp; omega)).trans s0
          have c1' := (hgr.cell_far ⟨w.heap.size, 1, none⟩ hszw (by simp; omega)).trans s1
          have c2' := (hgr.cell_far ⟨w.heap.size, 2, none⟩ hszw (by simp; omega)).trans s2
          have kz2 := (hgr.cell_far ⟨2, 0, none⟩ hz (by simp; omega)).trans k2
          have hzr : 2 < wr.heap.size := Nat.lt_of_lt_of_le hz hgr.size
          have hbs : ∀ y ∈ [p0, p1, p2, p3], 0 ≤ y ∧ y < 256 := by intro y hy; simp at hy; omega
          have hM8 : m < M - 3 := by omega
          have um : (m : Int) ≤ (m : Int) + 4 := by omega
          have Hsn := hide hsn
          have Htl := hide htl
          have Hkd := hide hkd
          clear hsn hkm hk hkd htl
          generalize splice Cb 3 (turned H m k) = Ck at *
          have hfit2 : 3 + m + [p0, p1, p2, p3].length ≤ Ck.length := by rw [hCl]; simp; omega
          go_wp2_with (go_at_call 15; refine (as4 p0 p1 p2 p3 za _ kz2 hzr a0 a1 b0 b1 q0 q1 d0 d1).mono ?_; rintro e w2 ⟨rfl, hg2⟩; have hRc := ((hRr.kept hg2 (by simp)).kept (gb_alloc w2 (.cells #[.int .u8 p0, .int .u8 p1, .int .u8 p2, .int .u8 p3] 22) none) (by simp)).kept (gb_drew _ none) (by simp))
          have hsd : ∀ q x, [p0, p1, p2, p3][q]? = some x → (w2.alloc (.cells #[.int .u8 p0, .int .u8 p1, .int .u8 p2, .int .u8 p3] 22)).drew.cell? ((⟨w2.heap.size, 0, none⟩ : Addr).add q) = some (.int .u8 x) := src4 w2 p0 p1 p2 p3
          have Hsd := hide hsd
          clear hsd
          go_cut [75] (fun _ wk => Row wk bb 5 (splice Cb 3 (turned H m k ++ [p0, p1, p2, p3])) ∧ wa.grownBy wk (some bb))
          case first =>
            go_region_law (refine step_cp rfl (.tmp 73) (.tmp 74) rfl bb 5 (3 + m) 4 (M - 3 - m) ⟨w2.heap.size, 0, none⟩ 4 4 (by simp [Act.eval, Act.put]; omega) (by simp [Act.eval, Act.put]) Ck [p0, p1, p2, p3] hRc rfl Hsd.out hfit2 hbs ?_; intro w3 hR3 hg3)
            all_goals (go_wp2_with fail; go_meet; rw [Hsn.out] at hR3; exact ⟨hR3, gb_trans hgr (gb_trans (gb_some _ (gb_trans hg2 (gb_trans (gb_alloc _ _ _) (gb_drew _ _)))) hg3)⟩)
          case rest =>
            obtain ⟨hR4, hg4⟩ := hcut
            have hRg4 := kg.kept hg4 (by simpa using hgb)
            have y0 := cut_cell hRg4 hl 0 (by omega)
            have y1 := cut_cell hRg4 hl 1 (by omega)
            rw [Nat.add_zero] at y0
            have bx0 := hRg4.byte (a + 0)
            have bx1 := hRg4.byte (a + 1)
            rw [← cut_getD (l := m + 7) 0 (by omega)] at bx0
            rw [← cut_getD (l := m + 7) 1 (by omega)] at bx1
            obtain ⟨x0, hx0⟩ : ∃ x0, (cut L (a, m + 7)).getD 0 0 = x0 := ⟨_, rfl⟩
            obtain ⟨x1, hx1⟩ : ∃ x1, (cut L (a, m + 7)).getD 1 0 = x1 := ⟨_, rfl⟩
            rw [hx0] at y0 bx0
            rw [hx1] at y1 bx1
            have hC2 : (splice Cb 3 (turned H m k ++ [p0, p1, p2, p3])).length = Cb.length := splice_len _ _ _ (by rw [List.length_append, Htl.out]; simp; omega)
            have hC3 : (((splice Cb 3 (turned H m k ++ [p0, p1, p2, p3])).set 0 x0).set 1 x1).set 2 4 = splice Cb 0 (x0 :: x1 :: 4 :: (turned H m k ++ [p0, p1, p2, p3])) := set3_splice _ _ _ _ _ (by omega)
            have HC3 := hide hC3
            have Hx0 := hide hx0
            have Hx1 := hide hx1
            clear hC3 hx0 hx1
            generalize splice Cb 3 (turned H m k ++ [p0, p1, p2, p3]) = C2 at *
            have e0 := hR4.cell 0 (by omega)
            have e1 := hR4.cell 1 (by omega)
            have e2 := hR4.cell 2 (by omega)
            have f0 := hR4.frozen 0
            have f1 := hR4.frozen 1
            have f2 := hR4.frozen 2
            have hN0 : (0 : Int) < (N : Int) := by omega
            have hN1 : (1 : Int) < (N : Int) := by omega
            have hN2 : (2 : Int) < (N : Int) := by omega
            have ng1 : ¬ g = bb := hgb
            have ng2 : ¬ bb = g := fun e => hgb e.symm
            have R3 := ((hR4.set 0 (by omega) x0 bx0.1 bx0.2).set 1 (by simp; omega) x1 bx1.1 bx1.2).set 2 (by simp; omega) 4 (by omega) (by omega)
            rw [HC3.out] at R3
            go_wp2_with fail
            go_cut [85] (fun _ wk => Row wk bb 5 (splice Cb 0 (x0 :: x1 :: 4 :: (turned H m k ++ [p0, p1, p2, p3]))) ∧ wa.grownBy wk (some bb))
            case first =>
              go_region
              all_goals (go_wp2_with fail; go_meet; exact ⟨R3.kept (gb_drew _ none) (by simp), gb_trans hg4 (gb_trans (gb_trans (gb_trans (gb_set _ _ _ _) (gb_set _ _ _ _)) (gb_set _ _ _ _)) (gb_drew _ _))⟩)
            case rest =>
              obtain ⟨hR5, hg5⟩ := hcut
              clear e0 e1 e2 f0 f1 f2 R3 hR4 hg4 y0 y1 hRg4
              have hHl := HHl.out
              have hq0 : ∀ i, i < 4 → wc.cell? ⟨g, a + 3 + m + i, none⟩ = some (.int .u8 (H.getD (m + i) 0)) := by
                intro i hi
                have he : H[m + i]? = some (H.getD (m + i) 0) := by rw [List.getD_eq_getElem?_getD, List.getElem?_eq_getElem (by omega)]; rfl
                have := HHc.out _ _ he
                rw [hg5.cell_far ⟨g, a + 3 + m + i, none⟩ kg.lt (by simpa using hgb), Nat.add_assoc (a + 3)]
                exact this
              have v0 := hq0 0 (by omega)
              have v1 := hq0 1 (by omega)
              have v2 := hq0 2 (by omega)
              have v3 := hq0 3 (by omega)
              simp only [Nat.add_zero] at v0
              have b0 := getD_byte HHb.out m
              have b1 := getD_byte HHb.out (m + 1)
              have b2 := getD_byte HHb.out (m + 2)
              have b3 := getD_byte HHb.out (m + 3)
              have hdst : (cut L (a, m + 7)).drop (m + 7 - 4) = [H.getD m 0, H.getD (m + 1) 0, H.getD (m + 2) 0, H.getD (m + 3) 0] := by
                rw [← take4 H m (by omega), ← HH.out, List.drop_drop, List.take_of_length_le (by rw [List.length_drop, hcl]; omega)]
                congr 1
                omega
              have hr2 : route (cut L (a, m + 7)) [p0, p1, p2, p3] = .ok (x0 :: x1 :: 4 :: (turned H m k ++ [p0, p1, p2, p3])) [H.getD m 0, H.getD (m + 1) 0, H.getD (m + 2) 0, H.getD (m + 3) 0] := by
                rw [Hr.out, Hx0.out, Hx1.out, HH.out, ← Hkd.out, hdst, show m + 7 - 7 = m by omega]
              have hlen : ((x0 :: x1 :: 4 :: (turned H m k ++ [p0, p1, p2, p3])).length : Int) = (m : Int) + 7 := by
                simp only [List.length_cons, List.length_append, List.length_nil, Htl.out]
                omega
              obtain ⟨h0', eh0⟩ : ∃ h0', H.getD m 0 = h0' := ⟨_, rfl⟩
              obtain ⟨h1', eh1⟩ : ∃ h1', H.getD (m + 1) 0 = h1' := ⟨_, rfl⟩
              obtain ⟨h2', eh2⟩ : ∃ h2', H.getD (m + 2) 0 = h2' := ⟨_, rfl⟩
              obtain ⟨h3', eh3⟩ : ∃ h3', H.getD (m + 3) 0 = h3' := ⟨_, rfl⟩
              rw [eh0] at v0 b0 hr2
              rw [eh1] at v1 b1 hr2
              rw [eh2] at v2 b2 hr2
              rw [eh3] at v3 b3 hr2
              clear hdst eh0 eh1 eh2 eh3 hq0
              have Hr2 := hide hr2
              have Hlen := hide hlen
              clear hr2 hlen hHl
              generalize x0 :: x1 :: 4 :: (turned H m k ++ [p0, p1, p2, p3]) = Out at *
              have kz5 := (hg5.cell_far ⟨2, 0, none⟩ hz (by simp; omega)).trans k2
              have hz5 : 2 < wc.heap.size := Nat.lt_of_lt_of_le hz hg5.size
              have hrl : rb < wa.heap.size := (Array.getElem?_eq_some_iff.1 res).1
              have hres5 : wc.heap[rb]? = some (.cells #[.int .u64 0, .int .u64 0, .pointer none] 43 (0, 0)) := by rw [hg5.block rb hrl (fun e => n6 e.symm)]; exact res
              have hrl5 : rb < wc.heap.size := Nat.lt_of_lt_of_le hrl hg5.size
              have hm8 : m < c - 3 := by omega
              clear r0 r1 r2 z0 z1 z2 c0 c1' c2'
              go_wp2_with (go_at_call 9; refine (from4 h0' h1' h2' h3' za _ kz5 hz5 b0.1 b0.2 b1.1 b1.2 b2.1 b2.2 b3.1 b3.2).mono ?_; rintro e w6 ⟨rfl, hg6⟩; obtain ⟨r0, r1, r2, z0, z1, z2⟩ := cell3 (show w6.heap[rb]? = some (.cells #[.int .u64 0, .int .u64 0, .pointer none] 43 (0, 0)) by rw [hg6.block rb hrl5 (by simp)]; exact hres5))
              simp [bodyPost, results, Ybad.results11, go_sem, r0, r1, r2, Hr2.out, RvPost, Hlen.out, numL]
              have hrbw : w.heap.size ≤ rb := by have := Hrb.out; omega
              exact ⟨(hR5.kept hg6 (by simp)).kept (r := some rb) (gb_trans (gb_trans (gb_set _ _ _ _) (gb_set _ _ _ _)) (gb_set _ _ _ _)) n6, gb_store3' _ _ _ _ hrbw (gb_trans (gb_some _ gA) (gb_trans hg5 (gb_some _ hg6))) _ _ _⟩
end Go.Proofs.YbulkblgyDoor
