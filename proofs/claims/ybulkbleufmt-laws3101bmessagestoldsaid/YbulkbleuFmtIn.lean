/- LawS3101B*: appends in the room that a buffer holds already: appendHeader. -/
import Derived.Test.YbulkbleuFmtOpen
namespace Go.Proofs.YbulkbleuFmt.B
open Go.RowKit

theorem run_app_in (w : World) (ty : TypeId) (B g n cap : Nat) (L X Y M : List Int) (hb : Buf w B (.slice (some ⟨g, 0, none⟩) n cap) (L ++ (X ++ Y))) (hX : X.length = M.length) (ad : Addr) (m c : Nat) (hm : M.length = m) (hnews : ∀ j u, (M.map (Value.int .u8))[j]? = some u → w.cell? (ad.add j) = some u) :
    ∃ w', (Builtin.append_ #[24, 24] ty #[.slice (some ⟨g, 0, none⟩) L.length cap, .slice (some ad) m c]).run Ybaf.prog w = .ok (.slice (some ⟨g, 0, none⟩) (L.length + m) cap) w' ∧ Buf w' B (.slice (some ⟨g, 0, none⟩) n cap) (L ++ (M ++ Y)) ∧ w.grownBy w' (some g) := by
  obtain ⟨i0, hi, hz0, hz1, hz2⟩ := info_parts infoByte
  obtain ⟨g', cap', cur, e, hbg, hg, hnc, hcm, hcs, htake⟩ := hb
  simp only [Value.slice.injEq, Option.some.injEq, Addr.mk.injEq, and_true] at e
  obtain ⟨rfl, rfl, rfl⟩ := e
  subst hm
  have h1 : ∀ u ∈ M.map (Value.int .u8), u.oneCell' = true := by
    intro u hu
    simp at hu
    obtain ⟨y, _, rfl⟩ := hu
    rfl
  have hML : (M.map (Value.int .u8)).length = M.length * i0.size := by rw [hz1]; simp
  simp only [List.length_append] at hnc
  have hcur : cur.toList = (L ++ (X ++ Y)).map (Value.int .u8) ++ cur.toList.drop (L ++ (X ++ Y)).length := by rw [← htake, List.take_append_drop]
  generalize cur.toList.drop (L ++ (X ++ Y)).length = R at hcur
  have hr := run_append_room (P := Ybaf.prog) w 24 ty 5 i0 Ybaf.underlying24 hi g L.length cap cur hg ad M.length c _ hML hnews h1 (by omega) (by rw [hML, hz1]; omega)
  rw [hz1] at hr
  simp only [Nat.mul_one, List.length_map] at hr
  have ht : cur.toList.take L.length = L.map (Value.int .u8) := by
    rw [hcur, List.map_append, List.append_assoc, List.take_left' (by simp)]
  have hd : cur.toList.drop (L.length + M.length) = Y.map (Value.int .u8) ++ R := by
    rw [hcur, List.map_append, List.map_append, ← List.append_assoc, List.append_assoc, List.drop_left' (by simp [hX])]
  rw [ht, hd] at hr
  refine ⟨_, hr, ⟨g, cap, _, by simp [hX], hbg, setRow_heap w g cur _ 5 _ hg, by simp; omega, hcm, ?_, ?_⟩, ⟨rfl, rfl, rfl, by simp, fun k _ hk => setRow_other w g k _ (fun e => hk (by simp [e]))⟩⟩
  · have := congrArg List.length hcur
    simp at this
    simp
    omega
  · have e : L.map (Value.int .u8) ++ M.map (Value.int .u8) ++ (Y.map (Value.int .u8) ++ R) = (L ++ (M ++ Y)).map (Value.int .u8) ++ R := by simp
    show List.take (L ++ (M ++ Y)).length (L.map (Value.int .u8) ++ M.map (Value.int .u8) ++ (Y.map (Value.int .u8) ++ R)) = _
    rw [e, List.take_left' (by simp)]

/-- 'append(buf[:k], x, y, ..)' in the room that the buffer holds: the longer slice sees the new bytes. -/
theorem wpList_app_in {ops : Array Oper} {rest : List Oper} {o : Oper} {a : Act} {Q : Exit → Act → World → Prop} (w0 : World) (M : List Int) (hgd : o.guard = none) (s x : Operand)
    (ho : o.op = .call { callee := .builtin .append, args := #[s, x], argTypes := #[24, 24] }) (B g n cap k : Nat) (L X Y : List Int) (hk : L.length = k) (hs : a.eval s = .slice (some ⟨g, 0, none⟩) k cap) (hb : Buf w0 B (.slice (some ⟨g, 0, none⟩) n cap) (L ++ (X ++ Y))) (hX : X.length = M.length) (blk m c : Nat) (hblk : w0.heap.size = blk)
    (hx : a.eval x = .slice (some ⟨blk, 0, none⟩) m c) (hm : M.length = m)
    (h : ∀ w', Buf w' B (.slice (some ⟨g, 0, none⟩) n cap) (L ++ (M ++ Y)) → w0.grownBy w' (some g) → wpList Ybaf.prog ops Q rest (a.put o.dst (.slice (some ⟨g, 0, none⟩) (k + m) cap)) w') :
    wpList Ybaf.prog ops Q (o :: rest) a (w0.alloc (.cells (M.map (Value.int .u8)).toArray 5)) := by
  subst hblk hk
  refine wpList_plain hgd fun _ hK => ?_
  obtain ⟨w', hr, hE, hG⟩ := run_app_in (w0.alloc (.cells (M.map (Value.int .u8)).toArray 5)) o.type B g n cap L X Y M (hb.alloc _) hX _ m c hm (news w0 M)
  unfold Oper.wp execOp
  simp only [ho, resolve, invoke, builtin, Sem.run_bind, Sem.run_pure, Result.andThen_ok, List.map_toArray, List.map_cons, List.map_nil, hs, hx, hr]
  exact hK _ _ (h w' hE ((World.grownBy_alloc w0 _ _).trans hG))

set_option maxRecDepth 100000 in
theorem app16_in (B g n cap k : Nat) (L X Y : List Int) (x : Int) (w : World) (hk : L.length = k) (hb : Buf w B (.slice (some ⟨g, 0, none⟩) n cap) (L ++ (X ++ Y))) (hX : X.length = 2) (h0 : 0 ≤ x) (h1 : x < 65536) :
    Calls Ybaf.prog 32 #[.agg #[], .slice (some ⟨g, 0, none⟩) k cap, .int .u16 x] w fun e w' => e = .returned (.slice (some ⟨g, 0, none⟩) (k + 2) cap) ∧ Buf w' B (.slice (some ⟨g, 0, none⟩) n cap) (L ++ (be16 x ++ Y)) ∧ w.grownBy w' (some g) := by
  go_enter Ybaf.func32, Ybaf.ntmps32
  go_wp2_with (at_builtin; refine wpList_app_in (w.alloc (.cells #[] 99)) (be16 x) rfl _ _ rfl B g n cap k L X Y hk rfl (hb.alloc _) hX (w.heap.size + 1) 2 2 (by simp) rfl rfl ?_; intro w1 hb1 hg1)
  go_ret
  exact ⟨rfl, hb1, (World.grownBy_alloc w _ _).trans hg1⟩
set_option maxRecDepth 100000 in
theorem app32_in (B g n cap k : Nat) (L X Y : List Int) (x : Int) (w : World) (hk : L.length = k) (hb : Buf w B (.slice (some ⟨g, 0, none⟩) n cap) (L ++ (X ++ Y))) (hX : X.length = 4) (h0 : 0 ≤ x) (h1 : x < 4294967296) :
    Calls Ybaf.prog 33 #[.agg #[], .slice (some ⟨g, 0, none⟩) k cap, .int .u32 x] w fun e w' => e = .returned (.slice (some ⟨g, 0, none⟩) (k + 4) cap) ∧ Buf w' B (.slice (some ⟨g, 0, none⟩) n cap) (L ++ (be32 x ++ Y)) ∧ w.grownBy w' (some g) := by
  go_enter Ybaf.func33, Ybaf.ntmps33
  go_wp2_with (at_builtin; refine wpList_app_in (w.alloc (.cells #[] 99)) (be32 x) rfl _ _ rfl B g n cap k L X Y hk rfl (hb.alloc _) hX (w.heap.size + 1) 4 4 (by simp) rfl rfl ?_; intro w1 hb1 hg1)
  go_ret
  exact ⟨rfl, hb1, (World.grownBy_alloc w _ _).trans hg1⟩
end Go.Proofs.YbulkbleuFmt.B
