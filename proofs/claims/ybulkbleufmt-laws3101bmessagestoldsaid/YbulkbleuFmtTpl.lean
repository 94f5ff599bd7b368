/- LawS3101B*: appendFieldSpec, appendFieldValue, appendTemplateRecord, AppendRecord. -/
import Derived.Test.YbulkbleuFmtVals
import Derived.Deep.RegionWith
namespace Go.Proofs.YbulkbleuFmt.B
open Go.RowKit

set_option maxRecDepth 100000 in
theorem spec_any (B : Nat) (v : Value) (L : List Int) (x y : Int) (w : World) (hb : Buf w B v L) (hx0 : 0 ≤ x) (hx1 : x < 65536) (hy0 : 0 ≤ y) (hy1 : y < 65536) (hlen : L.length ≤ 100000) (hB : B ≤ w.heap.size) :
    Calls Ybaf.prog 45 #[v, .agg #[.int .u32 0, .int .u16 x, .int .u16 y]] w fun e w' => ∃ v', e = .returned v' ∧ Ext w B v L w' v' (L ++ (be16 x ++ be16 y)) := by
  go_enter Ybaf.func45, Ybaf.ntmps45
  have hE := Ext.alloc hb (.cells #[.int .u32 0, .int .u16 x, .int .u16 y] 76)
  have hS : B ≤ (w.alloc (.cells #[.int .u32 0, .int .u16 x, .int .u16 y] 76)).heap.size := by simp; omega
  have hne : some w.heap.size ≠ v.ownBlock := fun e => by have := (hb.lt _ e.symm).2; omega
  have c2 : (w.alloc (.cells #[.int .u32 0, .int .u16 x, .int .u16 y] 76)).cell? ⟨w.heap.size, 2, none⟩ = some (.int .u16 y) := by simp
  go_wp2_with fail
  refine (app16 B _ _ _ _ hE.body hx0 hx1 (by omega) hS).mono ?_
  rintro e w1 ⟨v1, rfl, hE1⟩
  have c3 := (hE1.grown.cell_far ⟨w.heap.size, 2, none⟩ (by simp) hne).trans c2
  replace hS := Nat.le_trans hS hE1.grown.size
  replace hE := hE.trans hE1
  go_wp2_with fail
  refine (app16 B _ _ _ _ hE1.body hy0 hy1 (by simp [be16_len]; omega) hS).mono ?_
  rintro e w2 ⟨v2, rfl, hE2⟩
  go_wp2
  go_ret
  refine ⟨_, rfl, ?_⟩
  rw [← List.append_assoc]
  exact hE.trans hE2

set_option maxRecDepth 100000 in
/-- appendFieldValue, the value of the field's own length. -/
theorem value_any (B : Nat) (v : Value) (L : List Int) (g c : Nat) (M : List Int) (l : Int) (w : World) (hb : Buf w B v L) (hl : l = M.length) (hl0 : 0 < M.length) (hl8 : M.length ≤ 8) (hM : Hid (∀ q (hq : q < M.length), w.cell? ⟨g, q, none⟩ = some (.int .u8 M[q]))) (hlen : L.length ≤ 100000) (hB : B ≤ w.heap.size) :
    Calls Ybaf.prog 46 #[v, .int .u16 l, .slice (some ⟨g, 0, none⟩) M.length c] w fun e w' => ∃ v', e = .returned (.tuple #[v', .bool true]) ∧ Ext w B v L w' v' (L ++ M) := by
  subst hl
  have hnews : ∀ j u, (M.map (Value.int .u8))[j]? = some u → w.cell? ((⟨g, 0, none⟩ : Addr).add j) = some u := by
    intro j u hu
    rw [List.getElem?_map] at hu
    by_cases hj : j < M.length
    · rw [List.getElem?_eq_getElem hj] at hu
      simp at hu
      subst hu
      rw [show ((⟨g, 0, none⟩ : Addr).add j) = ⟨g, j, none⟩ by by_cases h0 : j = 0 <;> simp [Addr.add, h0]]
      exact hM.out j hj
    · rw [List.getElem?_eq_none (by omega)] at hu
      simp at hu
  have z1 : (((M.length : Nat) : Int) == 65535) = false := beq_eq_false_iff_ne.2 (by omega)
  go_enter Ybaf.func46, Ybaf.ntmps46
  go_wp2_with (at_builtin; refine wpList_app _ rfl _ _ rfl B v L M rfl hb ⟨g, 0, none⟩ M.length c rfl rfl hnews (by omega) hB ?_; intro v' w1 hE)
  go_ret2
  exact ⟨_, rfl, hE⟩
theorem Ext.below {w w' : World} {B : Nat} {v v' : Value} {L L' : List Int} (h : Ext w B v L w' v' L') (hB : B ≤ w.heap.size) : Below B w w' := (Below.refl B w).grown h.grown hB (fun k hk => (h.start.lt k hk).1)
theorem Ext.drew {w : World} {B : Nat} {v : Value} {L : List Int} (h : Buf w B v L) : Ext w B v L w.drew v L := ⟨h, h, h, ⟨rfl, rfl, rfl, Nat.le_refl _, fun _ _ _ => rfl⟩, .inl ⟨rfl, rfl⟩, [], by simp⟩

/-- The template, its fields in block fb. -/
structure Tpl (w : World) (tb fb : Nat) (tid : Int) (fs : List (Int × Int)) : Prop where
  c0 : w.cell? ⟨tb, 0, none⟩ = some (.int .u16 tid)
  c1 : w.cell? ⟨tb, 1, none⟩ = some (.slice (some ⟨fb, 0, none⟩) fs.length fs.length)
  c2 : w.cell? ⟨tb, 2, none⟩ = some (.int .i64 0)
  fs : FsAt w fb fs
theorem Tpl.below {w w' : World} {tb fb N : Nat} {tid : Int} {fs : List (Int × Int)} (h : Tpl w tb fb tid fs) (ht : tb < N) (hf : fb < N) (hb : Below N w w') : Tpl w' tb fb tid fs :=
  ⟨(hb.cell (p := ⟨tb, 0, none⟩) ht).trans h.c0, (hb.cell (p := ⟨tb, 1, none⟩) ht).trans h.c1, (hb.cell (p := ⟨tb, 2, none⟩) ht).trans h.c2, h.fs.below hf hb⟩

set_option maxRecDepth 100000 in
theorem options_any (tb fb : Nat) (tid : Int) (fs : List (Int × Int)) (w : World) (hT : Tpl w tb fb tid fs) :
    Calls Ybaf.prog 39 #[.pointer (some ⟨tb, 0, none⟩)] w fun e w' => e = .returned (.bool false) ∧ w = w' := by
  have c2 := hT.c2
  go_enter Ybaf.func39, Ybaf.ntmps39
  go_wp2
  go_ret
  exact ⟨rfl, rfl⟩

def specB : List (Int × Int) → List Int
  | [] => []
  | f :: fs => be16 f.1 ++ be16 f.2 ++ specB fs
theorem specB_snoc (f : Int × Int) : ∀ fs, specB (fs ++ [f]) = specB fs ++ (be16 f.1 ++ be16 f.2)
  | [] => by simp [specB]
  | g :: fs => by simp only [List.cons_append, specB, specB_snoc f fs, List.append_assoc]
theorem specB_len : ∀ fs, (specB fs).length = 4 * fs.length
  | [] => rfl
  | g :: fs => by simp only [specB, List.length_append, be16_len, specB_len fs, List.length_cons]; omega

set_option maxRecDepth 100000 in
set_option maxHeartbeats 1000000 in
theorem tplrec_any (B : Nat) (v : Value) (L : List Int) (tb fb : Nat) (tid : Int) (fs : List (Int × Int)) (w : World) (hb : Buf w B v L) (hT : Tpl w tb fb tid fs) (hwf : Hid (FsWf fs)) (hk : fs.length ≤ 4) (ht0 : 0 ≤ tid) (ht1 : tid < 65536) (htb : tb < B) (hfb : fb < B) (hlen : L.length ≤ 10000) (hB : B ≤ w.heap.size) :
    Calls Ybaf.prog 41 #[.pointer (some ⟨tb, 0, none⟩), v] w fun e w' => ∃ v', e = .returned v' ∧ Ext w B v L w' v' (L ++ (be16 tid ++ (be16 fs.length ++ specB fs))) := by
  have c0 := hT.c0
  have c1 := hT.c1
  have hE := Ext.drew hb
  have hS : B ≤ w.drew.heap.size := hB
  go_enter Ybaf.func41, Ybaf.ntmps41
  go_wp2
  go_cut [1] (fun s1 wk => Ext w B v L wk s1 (L ++ be16 tid))
  case first =>
    go_region_with (go_at_call 32; refine (app16 B _ _ _ _ hE.body ht0 ht1 (by omega) hS).mono ?_; rintro e w1 ⟨v1, rfl, hE1⟩)
    all_goals (go_wp2_with fail; go_meet; exact hE.trans hE1)
  case rest =>
    have hT1 := hT.below htb hfb (hcut.below hB)
    have hS1 := Nat.le_trans hB hcut.grown.size
    have c0 := hT1.c0
    have c1 := hT1.c1
    have hE1 := Ext.drew hcut.body
    have hk16 : ((fs.length : Nat) : Int) < 65536 := by omega
    have hwr : IntKind.u16.wrap (fs.length : Int) = fs.length := IntWalk.u16_in _ ⟨by omega, by omega⟩
    clear hE hS
    go_wp2
    go_cut [1] (fun s1 wk => Ext w B v L wk s1 (L ++ be16 tid ++ be16 fs.length))
    case first =>
      go_region_with (go_at_call 32; refine (app16 B _ _ _ _ hE1.body (by omega) hk16 (by simp [be16_len]; omega) hS1).mono ?_; rintro e w2 ⟨v2, rfl, hE2⟩)
      all_goals (go_wp2_with fail; go_meet; exact hcut.trans (hE1.trans hE2))
    case rest =>
      have hE2 := hcut
      clear hcut
      have hS2 := Nat.le_trans hB hE2.grown.size
      have hT2 := hT.below htb hfb (hE2.below hB)
      have c1 := hT2.c1
      clear hE1
      go_wp2_with (go_at_call 39; refine (options_any tb fb tid fs _ hT2).mono ?_; rintro e w3 ⟨rfl, rfl⟩)
      go_loopw [1, 38] (fun s1 s38 wr => ∃ i : Nat, i ≤ fs.length ∧ s38 = .int .i64 i ∧ Ext w B v L wr s1 (L ++ be16 tid ++ be16 fs.length ++ specB (fs.take i))) (fun _ s38 _ => fs.length - (intOf s38).toNat)
      case atStart => exact ⟨0, by omega, rfl, by simpa [specB] using hE2⟩
      case round =>
        obtain ⟨i, hi, rfl, hE3⟩ := hrel
        by_cases hlt : i < fs.length
        · obtain ⟨p0, p1, p2⟩ := (hT.below htb hfb (hE3.below hB)).fs i hlt
          have hw1 := hwf.out _ (List.getElem_mem hlt)
          have hsp : specB (fs.take (i + 1)) = specB (fs.take i) ++ (be16 (fs[i]).1 ++ be16 (fs[i]).2) := by rw [List.take_succ_eq_append_getElem hlt, specB_snoc]
          have Hsp := hide hsp
          clear hsp
          generalize fs[i] = f at *
          obtain ⟨f0, f1, f2, f3⟩ := hw1
          have hS3 := Nat.le_trans hB hE3.grown.size
          have hX := Ext.alloc hE3.body (.cells #[.int .u32 0, .int .u16 f.1, .int .u16 f.2] 76)
          have hl3 : (L ++ be16 tid ++ be16 fs.length ++ specB (fs.take i)).length ≤ 20000 := by
            simp only [List.length_append, be16_len, specB_len, List.length_take]; omega
          go_wp2_with (go_at_call 45; refine (spec_any B _ _ _ _ _ hX.body f0 f1 (by omega) (by omega) (by omega) (by simp; omega)).mono ?_; rintro e w4 ⟨v4, rfl, hE4⟩)
          exact ⟨⟨i + 1, by omega, by go_num, by rw [Hsp.out, ← List.append_assoc]; exact hE3.trans (hX.trans hE4)⟩, by simp [intOf]; omega⟩
        · obtain rfl : fs.length = i := by omega
          rw [List.take_length] at hE3
          go_wp2
          go_ret
          simp only [List.append_assoc] at hE3
          exact ⟨_, rfl, hE3⟩
end Go.Proofs.YbulkbleuFmt.B
