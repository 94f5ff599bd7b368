/- LawS3101B*: (Header).appendHeader in the room left for it. -/
import Derived.Test.YbulkbleuFmtIn
namespace Go.Proofs.YbulkbleuFmt.B
open Go.RowKit

def hdrB (len ex sq dm : Int) : List Int := be16 10 ++ (be16 len ++ (be32 ex ++ (be32 sq ++ be32 dm)))

set_option maxRecDepth 100000 in
set_option maxHeartbeats 1000000 in
theorem header_any (B g n cap : Nat) (X1 X2 X3 X4 X5 Y : List Int) (len ex sq dm : Int) (w : World) (hb : Buf w B (.slice (some ⟨g, 0, none⟩) n cap) (X1 ++ (X2 ++ (X3 ++ (X4 ++ (X5 ++ Y)))))) (h1 : X1.length = 2) (h2 : X2.length = 2) (h3 : X3.length = 4) (h4 : X4.length = 4) (h5 : X5.length = 4)
    (l0 : 0 ≤ len) (l1 : len < 65536) (e0 : 0 ≤ ex) (e1 : ex < 4294967296) (s0 : 0 ≤ sq) (s1 : sq < 4294967296) (d0 : 0 ≤ dm) (d1 : dm < 4294967296) :
    Calls Ybaf.prog 31 #[.agg #[.int .u16 len, .int .u32 ex, .int .u32 sq, .int .u32 dm], .slice (some ⟨g, 0, none⟩) 0 cap] w fun e w' => (∃ v, e = .returned v) ∧ Buf w' B (.slice (some ⟨g, 0, none⟩) n cap) (hdrB len ex sq dm ++ Y) ∧ w.grownBy w' (some g) := by
  have hlt := (hb.lt g rfl).2
  have hne : some w.heap.size ≠ some g := by simp; omega
  have hA := hb.alloc (.cells #[.int .u16 len, .int .u32 ex, .int .u32 sq, .int .u32 dm] 94)
  have hg0 := World.grownBy_alloc w (.cells #[.int .u16 len, .int .u32 ex, .int .u32 sq, .int .u32 dm] 94) (some g)
  have hlw : w.heap.size < (w.alloc (.cells #[.int .u16 len, .int .u32 ex, .int .u32 sq, .int .u32 dm] 94)).heap.size := by simp
  have k0 : (w.alloc (.cells #[.int .u16 len, .int .u32 ex, .int .u32 sq, .int .u32 dm] 94)).cell? ⟨w.heap.size, 0, none⟩ = some (.int .u16 len) := by simp
  have k1 : (w.alloc (.cells #[.int .u16 len, .int .u32 ex, .int .u32 sq, .int .u32 dm] 94)).cell? ⟨w.heap.size, 1, none⟩ = some (.int .u32 ex) := by simp
  have k2 : (w.alloc (.cells #[.int .u16 len, .int .u32 ex, .int .u32 sq, .int .u32 dm] 94)).cell? ⟨w.heap.size, 2, none⟩ = some (.int .u32 sq) := by simp
  have k3 : (w.alloc (.cells #[.int .u16 len, .int .u32 ex, .int .u32 sq, .int .u32 dm] 94)).cell? ⟨w.heap.size, 3, none⟩ = some (.int .u32 dm) := by simp
  go_enter Ybaf.func31, Ybaf.ntmps31
  go_wp2_with fail
  refine (app16_in B g n cap 0 [] X1 _ 10 _ rfl hA h1 (by omega) (by omega)).mono ?_
  rintro e w1 ⟨rfl, hb1, hg1⟩
  have q0 := (hg1.cell_far ⟨w.heap.size, 0, none⟩ hlw hne).trans k0
  have hs1 := Nat.lt_of_lt_of_le hlw hg1.size
  go_wp2_with fail
  refine (app16_in B g n cap 2 (be16 10) X2 _ len _ rfl hb1 h2 l0 l1).mono ?_
  rintro e w2 ⟨rfl, hb2, hg2⟩
  have hs2 := Nat.lt_of_lt_of_le hs1 hg2.size
  have q1 := (hg2.cell_far ⟨w.heap.size, 1, none⟩ hs1 hne).trans ((hg1.cell_far ⟨w.heap.size, 1, none⟩ hlw hne).trans k1)
  go_wp2_with fail
  refine (app32_in B g n cap 4 (be16 10 ++ be16 len) X3 _ ex _ rfl (by rw [List.append_assoc]; exact hb2) h3 e0 e1).mono ?_
  rintro e w3 ⟨rfl, hb3, hg3⟩
  have hs3 := Nat.lt_of_lt_of_le hs2 hg3.size
  have hg13 := (hg1.trans hg2).trans hg3
  have q2 := (hg13.cell_far ⟨w.heap.size, 2, none⟩ hlw hne).trans k2
  go_wp2_with fail
  refine (app32_in B g n cap 8 (be16 10 ++ be16 len ++ be32 ex) X4 _ sq _ rfl (by rw [List.append_assoc]; exact hb3) h4 s0 s1).mono ?_
  rintro e w4 ⟨rfl, hb4, hg4⟩
  have hg14 := hg13.trans hg4
  have q3 := (hg14.cell_far ⟨w.heap.size, 3, none⟩ hlw hne).trans k3
  go_wp2_with fail
  refine (app32_in B g n cap 12 (be16 10 ++ be16 len ++ be32 ex ++ be32 sq) X5 _ dm _ rfl (by rw [List.append_assoc]; exact hb4) h5 d0 d1).mono ?_
  rintro e w5 ⟨rfl, hb5, hg5⟩
  go_wp2
  go_ret
  refine ⟨⟨_, rfl⟩, ?_, hg0.trans (hg14.trans hg5)⟩
  simpa [hdrB, List.append_assoc] using hb5
end Go.Proofs.YbulkbleuFmt.B
