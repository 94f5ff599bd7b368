/- LawS3101CBuilt: the walk. -/
import Derived.Test.YbulkbleuFmtPut
import Derived.Test.YbulkbleuFmtUse
import Derived.Deep.DeepCutAuto
import Derived.Handy
namespace Go.Proofs.YbulkbleuFmt
open Go.RowKit Go.Extern.Stop Go.Stop Go.Extern

/-- The options as they lie in memory. -/
def OptsAt (w : World) (b off : Nat) (os : List Opt) : Prop := ∀ i (h : i < os.length), (os[i]).wf ∧ w.cell? ⟨b, off + i * 4, none⟩ = some (.int .u8 (os[i]).kind) ∧ w.cell? ⟨b, off + i * 4 + 1, none⟩ = some (.int .u8 (os[i]).a) ∧ w.cell? ⟨b, off + i * 4 + 2, none⟩ = some (.int .u64 (os[i]).b) ∧ w.cell? ⟨b, off + i * 4 + 3, none⟩ = some (.int .u8 (os[i]).l)

theorem encOpts_snoc (big : Bool) (o : Opt) : ∀ os : List Opt, encOpts big (os ++ [o]) = encOpts big os ++ optBytes big o
  | [] => by simp [encOpts]
  | x :: os => by simp [encOpts, encOpts_snoc big o os]
theorem encOpts_len (big : Bool) : ∀ os : List Opt, (∀ o ∈ os, o.wf) → (encOpts big os).length ≤ 16 * os.length
  | [], _ => by simp [encOpts]
  | o :: os, h => by
    have h1 := optBytes_len big o (h o (by simp))
    have h2 := encOpts_len big os (fun o ho => h o (by simp [ho]))
    simp only [encOpts, List.length_append, List.length_cons]; omega

/-- 'append(body, ..)' again, the slice that it answers by a name. -/
theorem wpList_app2 {ops : Array Oper} {rest : List Oper} {o : Oper} {a : Act} {Q : Exit → Act → World → Prop} (w : World) (hgd : o.guard = none) (s x : Operand)
    (ho : o.op = .call { callee := .builtin .append, args := #[s, x], argTypes := #[24, 24] }) (B : Nat) (v : Value) (L M : List Int) (hs : a.eval s = v) (hb : Body w B v L) (blk n c : Nat)
    (hx : a.eval x = .slice (some ⟨blk, 0, none⟩) n c) (hn : M.length = n) (hblk : w.heap[blk]? = some (.cells (M.map (Value.int .u8)).toArray 5 (0, 0))) (hM : 0 < n) (hlen : L.length + n ≤ 1000000) (hB : B ≤ w.heap.size)
    (h : ∀ v' w', Body w' B v' (L ++ M) → Grew w v w' v' → wpList Ybaf.prog ops Q rest (a.put o.dst v') w') :
    wpList Ybaf.prog ops Q (o :: rest) a w :=
  wpList_app w hgd s x ho B v L M hs hb blk n c hx hn hblk hM hlen hB fun _ _ w' hb' hG => h _ w' hb' hG

/-- The head of a body. -/
def hdBytes (big : Bool) (link snap : Int) : List Int := putB link 2 big ++ putB 0 2 big ++ putB snap 4 big
theorem hdBytes_len (big : Bool) (link snap : Int) : (hdBytes big link snap).length = 8 := by simp [hdBytes, putB_len]

theorem encOpts_ge (big : Bool) : ∀ os : List Opt, (∀ o ∈ os, o.wf) → 4 * os.length ≤ (encOpts big os).length
  | [], _ => by simp
  | o :: os, h => by
    have h1 := optBytes_len big o (h o (by simp))
    have h2 := encOpts_ge big os (fun o ho => h o (by simp [ho]))
    simp only [encOpts, List.length_append, List.length_cons]; omega
def B255 (L : List Int) : Prop := ∀ x ∈ L, 0 ≤ x ∧ x ≤ 255
theorem B255.app {L M : List Int} (h : B255 L) (k : B255 M) : B255 (L ++ M) := fun x hx => by
  rcases List.mem_append.1 hx with e | e
  · exact h x e
  · exact k x e
theorem b255_put (v : Int) (m : Nat) (big : Bool) : B255 (putB v m big) := fun x hx => by
  simp only [putB, List.mem_map] at hx
  obtain ⟨k, _, rfl⟩ := hx
  exact putAt_bd v m big k
theorem b255_opt (big : Bool) (o : Opt) (h : o.wf) : B255 (optBytes big o) := by
  obtain ⟨_, _, a0, a1, _⟩ := h
  unfold optBytes
  split
  · refine (b255_put _ _ _).app ((b255_put _ _ _).app fun x hx => ?_)
    simp at hx; omega
  split
  · exact (b255_put _ _ _).app ((b255_put _ _ _).app (b255_put _ _ _))
  split
  · refine (b255_put _ _ _).app ((b255_put _ _ _).app (B255.app ?_ ?_))
    · intro x hx; rw [List.mem_replicate] at hx; omega
    · intro x hx; rw [List.mem_replicate] at hx; omega
  split
  · refine (b255_put _ _ _).app ((b255_put _ _ _).app fun x hx => ?_)
    simp at hx; omega
  · exact (b255_put _ _ _).app ((b255_put _ _ _).app (b255_put _ _ _))
theorem b255_opts (big : Bool) : ∀ os : List Opt, (∀ o ∈ os, o.wf) → B255 (encOpts big os)
  | [], _ => fun x hx => by simp [encOpts] at hx
  | o :: os, h => (b255_opt big o (h o (by simp))).app (b255_opts big os (fun o ho => h o (by simp [ho])))
theorem B255.byte {L : List Int} (h : B255 L) : Byte (fun i => L.getD i 0) := fun i => by
  by_cases hi : i < L.length
  · exact h _ (by simp [List.getD, hi])
  · have : L.getD i 0 = 0 := by simp [List.getD, hi]
    show 0 ≤ L.getD i 0 ∧ L.getD i 0 ≤ 255
    rw [this]; decide
/-- What stands behind the options. -/
def tailB (big fin : Bool) : List Int := if fin = true then putB 0 4 big ++ (putB 9 2 big ++ (putB 1 2 big ++ [255, 0, 0, 0])) else []
def wholeB (big fin : Bool) (link snap : Int) (os : List Opt) : List Int := hdBytes big link snap ++ (encOpts big os ++ tailB big fin)
theorem b255_whole (big fin : Bool) (link snap : Int) (os : List Opt) (h : ∀ o ∈ os, o.wf) : B255 (wholeB big fin link snap os) := by
  refine (((b255_put _ _ _).app (b255_put _ _ _)).app (b255_put _ _ _)).app ((b255_opts big os h).app ?_)
  unfold tailB
  split
  · refine (b255_put _ _ _).app ((b255_put _ _ _).app ((b255_put _ _ _).app fun x hx => ?_))
    simp at hx; omega
  · intro x hx; simp at hx
theorem at_getD (L : List Int) : At (fun i => L.getD i 0) 0 L := fun j _ => by simp
theorem putB_zero4 (big : Bool) : putB 0 4 big = putB 0 2 big ++ putB 0 2 big := by cases big <;> rfl
theorem built_plain (big fin : Bool) (link snap : Int) (os : List Opt) (hl0 : 0 ≤ link) (hl1 : link < 65536) (hs0 : 0 ≤ snap) (hs1 : snap < 4294967296) (h : ∀ o ∈ os, o.wf) :
    getN (fun i => (wholeB big fin link snap os).getD i 0) 0 2 big = link ∧ getN (fun i => (wholeB big fin link snap os).getD i 0) 4 4 big = snap ∧
    modelR (fun i => (wholeB big fin link snap os).getD i 0) (wholeB big fin link snap os).length big = os.foldl stepO (some (1000000, 0)) := by
  have hA := at_getD (wholeB big fin link snap os)
  generalize hf : (fun i => (wholeB big fin link snap os).getD i 0) = f at hA ⊢
  have hn : (wholeB big fin link snap os).length = 8 + ((encOpts big os).length + (tailB big fin).length) := by simp [wholeB, hdBytes_len]
  generalize (wholeB big fin link snap os).length = n at hn ⊢
  unfold wholeB at hA
  have h1 := hA.left
  have h2 := hA.right
  rw [hdBytes_len] at h2
  unfold hdBytes at h1
  have h3 := h1.left.left
  have h4 := h1.right
  simp only [List.length_append, putB_len] at h4
  have h5 := h2.left
  have h6 := h2.right
  have hge := encOpts_ge big os h
  refine ⟨get2_put h3 hl0 hl1, get4_put h4 hs0 hs1, ?_⟩
  unfold modelR
  rw [if_neg (by omega)]
  refine parse_opts os 8 n 1000000 0 h h5 (by omega) ?_ (by omega)
  cases fin with
  | false => left; simp [tailB] at hn; omega
  | true =>
    right
    simp only [tailB, if_true] at h6 hn
    simp only [List.length_append, putB_len] at hn
    refine ⟨by omega, ?_⟩
    have h7 := h6.left
    rw [putB_zero4] at h7
    have := get2_put h7.left (by omega) (by omega)
    simpa using this

/-- A body that is not empty, opened. -/
theorem Body.opened {w : World} {B : Nat} {v : Value} {L : List Int} (h : Body w B v L) (hL : 0 < L.length) : ∃ g cap, v = .slice (some ⟨g, 0, none⟩) L.length cap ∧ L.length ≤ cap ∧ g < w.heap.size ∧ Bytes w g 0 L.length (fun i => L.getD i 0) := by
  rcases h.2 with ⟨_, h0⟩ | ⟨g, cap, cur, hv, hge, hblk, hcap, _⟩
  · omega
  · subst hv
    refine ⟨g, cap, rfl, hcap, (h.lt g rfl).2, fun i hi => ?_⟩
    have := World.ownsRow.cells h (g := g) rfl i (.int .u8 (L.getD i 0)) (by simp [hi])
    rw [show ((⟨g, 0, none⟩ : Addr).add i) = ⟨g, 0 + i, none⟩ by by_cases h0 : i = 0 <;> simp [Addr.add, h0]] at this
    exact this

set_option maxRecDepth 100000 in
set_option maxHeartbeats 4000000 in
theorem built_walk (F : Interp) (link snap : Int) (big : Bool) (k : Int) (ao : Option Addr) (cap : Nat) (os : List Opt) (fin : Bool) (w : World) (hF : F.answers w.tape)
    (hl0 : 0 ≤ link) (hl1 : link < 65536) (hs0 : 0 ≤ snap) (hs1 : snap < 4294967296) (hk0 : 0 ≤ k) (hk1 : k ≤ 255) (hN : os.length ≤ 512) (hO : Hid (0 < os.length → ∃ b off, ao = some ⟨b, off, none⟩ ∧ b < w.heap.size ∧ OptsAt w b off os)) (Hwf : Hid (∀ o ∈ os, o.wf)) :
    Calls Ybaf.prog 6 #[.int .u16 link, .int .u32 snap, .bool big, .int .u8 k, .slice ao os.length cap, .bool fin] w fun e w' => e = .returned (.bool true) ∧ Below w.heap.size w w' := by
  have hl : ¬ (512 : Int) < (os.length : Int) := by omega
  have hB0 : Body w w.heap.size (.slice none 0 0) [] := World.ownsRow_nil _ _ _ _
  go_enter Ybaf.func6, Ybaf.ntmps6
  go_wp2_with fail
  refine (put_int w.heap.size _ [] _ _ big _ hB0 (by omega) (by omega) (by omega) (by omega) (by simp) (Nat.le_refl _)).mono ?_
  rintro e w1 ⟨v1, rfl, hb1, hG1⟩
  go_wp2_with fail
  refine (put_int w.heap.size _ _ _ _ big _ hb1 (by omega) (by omega) (by omega) (by omega) (by simp [putB_len]) hG1.grown.size).mono ?_
  rintro e w2 ⟨v2, rfl, hb2, hG2⟩
  have hs2 := Nat.le_trans hG1.grown.size hG2.grown.size
  go_wp2_with fail
  refine (put_int w.heap.size _ _ _ _ big _ hb2 (by omega) (by omega) (by omega) (by omega) (by simp [putB_len]) hs2).mono ?_
  rintro e w3 ⟨v3, rfl, hb3, hG3⟩
  have hs3 := Nat.le_trans hs2 hG3.grown.size
  have hGt := (hG1.trans hG2).trans hG3
  have hbel : Below w.heap.size w w3 := ⟨hGt.grown.os, hGt.grown.tape, hGt.grown.output, hGt.grown.size, fun j hj => hGt.grown.block j hj (by simp [Value.ownBlock])⟩
  have hI0 := inAt_new (w := w) (w2 := w3) (a := link) (b := snap) (c := 1000000) (d := 0) (hbel.alloc hs3 _) hs3
  have hbd : Body (w3.alloc (.cells #[.int .u16 link, .int .u32 snap, .int .u64 1000000, .int .i64 0] 61)) w.heap.size v3 (hdBytes big link snap ++ encOpts big (os.take 0)) := by
    have := hb3.alloc (.cells #[.int .u16 link, .int .u32 snap, .int .u64 1000000, .int .i64 0] 61)
    simpa [hdBytes, encOpts] using this
  have hnw : v3.ownBlock ≠ some w3.heap.size := fun e => by have := (hb3.lt _ e).2; omega
  clear hb1 hb2 hb3 hG1 hG2 hG3 hGt hs2
  go_wp2
  obtain ⟨wb, hwb⟩ : ∃ wb, w3.heap.size = wb := ⟨_, rfl⟩
  rw [hwb] at hI0 hnw ⊢
  generalize (w3.alloc (.cells #[.int .u16 link, .int .u32 snap, .int .u64 1000000, .int .i64 0] 61)) = w4 at hI0 hbd ⊢
  clear hwb hbel hs3 hB0
  have hofs : ∀ i, i ≤ os.length → ∀ o ∈ os.take i, o.wf := fun i _ o ho => Hwf.out o (List.mem_of_mem_take ho)
  have Hofs := hide hofs
  clear hofs
  go_loopw [13, 15, 46] (fun s13 s15 s46 wr => ∃ (i : Nat) (c d : Int), i ≤ os.length ∧ s46 = .int .i64 i ∧ s15 = .bool ((os.take i).foldl stepO (some (1000000, 0))).isSome ∧ Body wr w.heap.size s13 (hdBytes big link snap ++ encOpts big (os.take i)) ∧ s13.ownBlock ≠ some wb ∧ InAt w wr wb link snap c d ∧ Hid (∀ u x, (os.take i).foldl stepO (some (1000000, 0)) = some (u, x) → c = u ∧ d = x)) (fun _ _ s46 _ => os.length - (intOf s46).toNat)
  case atStart => exact ⟨0, 1000000, 0, by omega, rfl, rfl, hbd, hnw, hI0, fun u x e => by simp at e; exact ⟨e.1, e.2⟩⟩
  case round =>
    obtain ⟨i, c, d, hi, rfl, rfl, hbr, hnr, hIr, HS⟩ := hrel
    clear hbd hnw hI0
    by_cases hlt : i < os.length
    · obtain ⟨b, off, rfl, hb, hO⟩ := hO.out (by omega)
      obtain ⟨hwf, p0, p1, p2, p3⟩ := hO i hlt
      clear hO
      have htk : os.take (i + 1) = os.take i ++ [os[i]] := by rw [List.take_succ_eq_append_getElem hlt]
      have hlen0 := encOpts_len big (os.take i) (Hofs.out i hi)
      have hlenL : (hdBytes big link snap ++ encOpts big (os.take i)).length ≤ 8208 := by rw [List.length_append, hdBytes_len]; rw [List.length_take] at hlen0; omega
      have HE : Hid (hdBytes big link snap ++ encOpts big (os.take (i + 1)) = (hdBytes big link snap ++ encOpts big (os.take i)) ++ optBytes big os[i]) := by
        show _ = _
        rw [htk, encOpts_snoc, List.append_assoc]
      have HF : Hid ((os.take (i + 1)).foldl stepO (some (1000000, 0)) = stepO ((os.take i).foldl stepO (some (1000000, 0))) os[i]) := by
        show _ = _
        rw [htk, List.foldl_append]; rfl
      generalize os[i] = op at *
      generalize hL0 : hdBytes big link snap ++ encOpts big (os.take i) = L0 at *
      generalize hS0 : (os.take i).foldl stepO (some (1000000, 0)) = S0 at *
      clear hL0 hS0 htk hlen0
      have q0 := (hIr.below.cell (p := ⟨b, off + i * 4, none⟩) hb).trans p0
      have q1 := (hIr.below.cell (p := ⟨b, off + i * 4 + 1, none⟩) hb).trans p1
      have q2 := (hIr.below.cell (p := ⟨b, off + i * 4 + 2, none⟩) hb).trans p2
      have q3 := (hIr.below.cell (p := ⟨b, off + i * 4 + 3, none⟩) hb).trans p3
      clear p0 p1 p2 p3
      obtain ⟨wk0, wk1, wa0, wa1, wb0, wb1, wl0, wl1⟩ := hwf
      go_upto_if 64 with fail
      have hC : Ctx w (wr.alloc (.cells #[.int .u8 op.kind, .int .u8 op.a, .int .u64 op.b, .int .u8 op.l] 73)) wb wr.heap.size u13 L0 link snap c d op := by
        refine ⟨(hIr.grew hbr (Grew.alloc _ _ _) hnr).1, hbr.alloc _, hnr, by simp, Nat.ne_of_gt hIr.lt, fun e => by have := (hbr.lt _ e).2; omega, by simp, by simp, by simp, by simp⟩
      have hwbs : wr.heap.size ≠ wb := hC.obw
      generalize wr.heap.size = ob at *
      generalize (wr.alloc (.cells #[.int .u8 op.kind, .int .u8 op.a, .int .u64 op.b, .int .u8 op.l] 73)) = wA at *
      clear q0 q1 q2 q3 hbr hnr hIr
      have hk5 : op.kind % 5 = 0 ∨ op.kind % 5 = 1 ∨ op.kind % 5 = 2 ∨ op.kind % 5 = 3 ∨ op.kind % 5 = 4 := by omega
      have o1 := hC.o1; have o2 := hC.o2; have o3 := hC.o3
      rcases hk5 with hk | hk | hk | hk | hk
      · rcases S0 with _ | ⟨su, sx⟩
        · go_wp2_with (first
            | (go_at_call 23; refine (put_int w.heap.size _ _ _ _ big _ hC.body (by omega) (by omega) (by omega) (by omega) (by first | omega | (simp [putB_len]; omega)) hC.big).mono ?_; rintro e wq ⟨vq, rfl, hbq, hGq⟩; replace hC := hC.grew hbq hGq; clear hbq hGq; have o1 := hC.o1; have o2 := hC.o2; have o3 := hC.o3)
            | (at_builtin; refine wpList_app2 _ rfl _ _ rfl w.heap.size _ _ [op.a, 0, 0, 0] rfl (hC.alloc _).body _ 4 4 rfl rfl (row_new _ _ _) (by omega) (by first | omega | (simp [putB_len]; omega)) (hC.alloc _).big ?_; intro vq w1 hb1 hG1; replace hC := (hC.alloc _).grew hb1 hG1; clear hb1 hG1; have o1 := hC.o1; have o2 := hC.o2; have o3 := hC.o3; have i2 := hC.inn.c2; have i3 := hC.inn.c3; have z2 := hC.inn.frz 2; have z3 := hC.inn.frz 3))
          refine ⟨⟨i + 1, c, d, by omega, by go_num, ?_, ?_, (hC).nwb, (hC).inn, ?_⟩, by simp [intOf]; omega⟩
          · rw [HF.out]; simp [stepO]
          · rw [HE.out]; have := (hC).body; simp only [optBytes, hk]; simpa [List.append_assoc] using this
          · show ∀ _ _, _ → _
            rw [HF.out]; have := HS.out; simp [stepO] at this ⊢ <;> simp_all

        · by_cases hu : unitsOk op.a = true
          · go_wp2_with (first
              | (go_at_call 23; refine (put_int w.heap.size _ _ _ _ big _ hC.body (by omega) (by omega) (by omega) (by omega) (by first | omega | (simp [putB_len]; omega)) hC.big).mono ?_; rintro e wq ⟨vq, rfl, hbq, hGq⟩; replace hC := hC.grew hbq hGq; clear hbq hGq; have o1 := hC.o1; have o2 := hC.o2; have o3 := hC.o3)
              | (at_builtin; refine wpList_app2 _ rfl _ _ rfl w.heap.size _ _ [op.a, 0, 0, 0] rfl (hC.alloc _).body _ 4 4 rfl rfl (row_new _ _ _) (by omega) (by first | omega | (simp [putB_len]; omega)) (hC.alloc _).big ?_; intro vq w1 hb1 hG1; replace hC := (hC.alloc _).grew hb1 hG1; clear hb1 hG1; have o1 := hC.o1; have o2 := hC.o2; have o3 := hC.o3; have i2 := hC.inn.c2; have i3 := hC.inn.c3; have z2 := hC.inn.frz 2; have z3 := hC.inn.frz 3)
              | (go_at_call 19; refine (units_any' op.a wa0 wa1 _).mono ?_; rintro e wu ⟨rfl, rfl⟩))
            refine ⟨⟨i + 1, unitsV op.a, d, by omega, by go_num, ?_, ?_, (hC.units (unitsV op.a)).nwb, (hC.units (unitsV op.a)).inn, ?_⟩, by simp [intOf]; omega⟩
            · rw [HF.out]; simp [stepO, hk, hu]
            · rw [HE.out]; have := (hC.units (unitsV op.a)).body; simp only [optBytes, hk]; simpa [List.append_assoc] using this
            · show ∀ _ _, _ → _
              rw [HF.out]; have := HS.out; simp [stepO, hk, hu] at this ⊢ <;> simp_all

          · have hu : unitsOk op.a = false := by simpa using hu
            go_wp2_with (first
              | (go_at_call 23; refine (put_int w.heap.size _ _ _ _ big _ hC.body (by omega) (by omega) (by omega) (by omega) (by first | omega | (simp [putB_len]; omega)) hC.big).mono ?_; rintro e wq ⟨vq, rfl, hbq, hGq⟩; replace hC := hC.grew hbq hGq; clear hbq hGq; have o1 := hC.o1; have o2 := hC.o2; have o3 := hC.o3)
              | (at_builtin; refine wpList_app2 _ rfl _ _ rfl w.heap.size _ _ [op.a, 0, 0, 0] rfl (hC.alloc _).body _ 4 4 rfl rfl (row_new _ _ _) (by omega) (by first | omega | (simp [putB_len]; omega)) (hC.alloc _).big ?_; intro vq w1 hb1 hG1; replace hC := (hC.alloc _).grew hb1 hG1; clear hb1 hG1; have o1 := hC.o1; have o2 := hC.o2; have o3 := hC.o3; have i2 := hC.inn.c2; have i3 := hC.inn.c3; have z2 := hC.inn.frz 2; have z3 := hC.inn.frz 3)
              | (go_at_call 19; refine (units_any' op.a wa0 wa1 _).mono ?_; rintro e wu ⟨rfl, rfl⟩))
            refine ⟨⟨i + 1, c, d, by omega, by go_num, ?_, ?_, (hC).nwb, (hC).inn, ?_⟩, by simp [intOf]; omega⟩
            · rw [HF.out]; simp [stepO, hk, hu]
            · rw [HE.out]; have := (hC).body; simp only [optBytes, hk]; simpa [List.append_assoc] using this
            · show ∀ _ _, _ → _
              rw [HF.out]; have := HS.out; simp [stepO, hk, hu] at this ⊢ <;> simp_all

      · rcases S0 with _ | ⟨su, sx⟩
        · go_wp2_with (go_at_call 23; refine (put_int w.heap.size _ _ _ _ big _ hC.body (by omega) (by omega) (by omega) (by omega) (by first | omega | (simp [putB_len]; omega)) hC.big).mono ?_; rintro e wq ⟨vq, rfl, hbq, hGq⟩; replace hC := hC.grew hbq hGq; clear hbq hGq; have o1 := hC.o1; have o2 := hC.o2; have o3 := hC.o3; have i2 := hC.inn.c2; have i3 := hC.inn.c3; have z2 := hC.inn.frz 2; have z3 := hC.inn.frz 3)
          refine ⟨⟨i + 1, c, d, by omega, by go_num, ?_, ?_, (hC).nwb, (hC).inn, ?_⟩, by simp [intOf]; omega⟩
          · rw [HF.out]; simp [stepO]
          · rw [HE.out]; have := (hC).body; simp only [optBytes, hk]; simpa [List.append_assoc] using this
          · show ∀ _ _, _ → _
            rw [HF.out]; have := HS.out; simp [stepO] at this ⊢ <;> simp_all
        · go_wp2_with (go_at_call 23; refine (put_int w.heap.size _ _ _ _ big _ hC.body (by omega) (by omega) (by omega) (by omega) (by first | omega | (simp [putB_len]; omega)) hC.big).mono ?_; rintro e wq ⟨vq, rfl, hbq, hGq⟩; replace hC := hC.grew hbq hGq; clear hbq hGq; have o1 := hC.o1; have o2 := hC.o2; have o3 := hC.o3; have i2 := hC.inn.c2; have i3 := hC.inn.c3; have z2 := hC.inn.frz 2; have z3 := hC.inn.frz 3)
          refine ⟨⟨i + 1, c, wrap64 op.b, by omega, by go_num, ?_, ?_, (hC.offset (wrap64 op.b)).nwb, (hC.offset (wrap64 op.b)).inn, ?_⟩, by simp [intOf]; omega⟩
          · rw [HF.out]; simp [stepO, hk]
          · rw [HE.out]; have := (hC.offset (wrap64 op.b)).body; simp only [optBytes, hk]; simpa [List.append_assoc] using this
          · show ∀ _ _, _ → _
            rw [HF.out]; have := HS.out; simp [stepO, hk, wrap64_toI64] at this ⊢ <;> simp_all
      · obtain ⟨l, hl12, hlt12⟩ : ∃ l : Nat, op.l % 12 = l ∧ l < 12 := ⟨(op.l % 12).toNat, by omega, by omega⟩
        obtain ⟨m, hm8, hmlt⟩ : ∃ m : Nat, op.a % 8 = m ∧ m < 8 := ⟨(op.a % 8).toNat, by omega, by omega⟩
        have HL := hide hl12
        have HM := hide hm8
        go_wp2_with (go_at_call 23; refine (put_int w.heap.size _ _ _ _ big _ hC.body (by omega) (by omega) (by omega) (by omega) (by first | omega | (simp [putB_len]; omega)) hC.big).mono ?_; rintro e wq ⟨vq, rfl, hbq, hGq⟩; replace hC := hC.grew hbq hGq; clear hbq hGq; have o1 := hC.o1; have o2 := hC.o2; have o3 := hC.o3)
        clear hl12 hm8
        have hlenX : (L0 ++ putB (1 + (m : Int)) 2 big ++ putB (l : Int) 2 big).length ≤ 8212 := by simp only [List.length_append, putB_len]; omega
        go_loopw [13, 21] (fun s13 s21 wr => ∃ kk : Nat, kk ≤ l ∧ s21 = .int .i64 kk ∧ Ctx w wr wb ob s13 (L0 ++ putB (1 + (m : Int)) 2 big ++ putB (l : Int) 2 big ++ List.replicate kk op.a) link snap c d op) (fun _ s21 _ => l - (intOf s21).toNat)
        case atStart => exact ⟨0, by omega, rfl, by simpa using hC⟩
        case round =>
          obtain ⟨kk, hkk, rfl, hC⟩ := hrel
          have o1 := hC.o1
          by_cases hkl : kk < l
          · go_wp2_with (at_builtin; refine wpList_app2 _ rfl _ _ rfl w.heap.size _ _ [op.a] rfl (hC.alloc _).body _ 1 1 rfl rfl (row_new _ _ _) (by omega) (by first | omega | (simp [putB_len]; omega)) (hC.alloc _).big ?_; intro vq w1 hb1 hG1; replace hC := (hC.alloc _).grew hb1 hG1; clear hb1 hG1; have o1 := hC.o1; have o2 := hC.o2; have o3 := hC.o3)
            exact ⟨⟨kk + 1, by omega, by go_num, by rw [List.replicate_succ', ← List.append_assoc]; exact hC⟩, by simp [intOf]; omega⟩
          · obtain rfl : l = kk := by omega
            have hlenY : (L0 ++ putB (1 + (m : Int)) 2 big ++ putB (l : Int) 2 big ++ List.replicate l op.a).length ≤ 8223 := by rw [List.length_append, List.length_replicate]; omega
            go_wp2_with fail
            go_loopw [13, 22] (fun s13 s22 wr => ∃ kk : Nat, l ≤ kk ∧ kk ≤ (l + 3) / 4 * 4 ∧ s22 = .int .i64 kk ∧ Ctx w wr wb ob s13 (L0 ++ putB (1 + (m : Int)) 2 big ++ putB (l : Int) 2 big ++ List.replicate l op.a ++ List.replicate (kk - l) 0) link snap c d op) (fun _ s22 _ => (l + 3) / 4 * 4 - (intOf s22).toNat)
            case atStart => exact ⟨l, by omega, by omega, rfl, by simpa using hC⟩
            case round =>
              obtain ⟨kk, hkk, hkp, rfl, hC⟩ := hrel
              have hlenZ : (L0 ++ putB (1 + (m : Int)) 2 big ++ putB (l : Int) 2 big ++ List.replicate l op.a ++ List.replicate (kk - l) 0).length ≤ 8240 := by rw [List.length_append, List.length_replicate]; omega
              by_cases hkl : kk < (l + 3) / 4 * 4
              · go_wp2_with (at_builtin; refine wpList_app2 _ rfl _ _ rfl w.heap.size _ _ [0] rfl (hC.alloc _).body _ 1 1 rfl rfl (row_new _ _ _) (by omega) (by first | omega | (simp [putB_len]; omega)) (hC.alloc _).big ?_; intro vq w1 hb1 hG1; replace hC := (hC.alloc _).grew hb1 hG1; clear hb1 hG1)
                exact ⟨⟨kk + 1, by omega, by omega, by go_num, by rw [show kk + 1 - l = (kk - l) + 1 by omega, List.replicate_succ', ← List.append_assoc]; exact hC⟩, by simp [intOf]; omega⟩
              · obtain rfl : (l + 3) / 4 * 4 = kk := by omega
                go_wp2_with fail
                refine ⟨⟨i + 1, c, d, by omega, by go_num, ?_, ?_, hC.nwb, hC.inn, ?_⟩, by simp [intOf]; omega⟩
                · rw [HF.out]; cases S0 <;> simp [stepO, hk]
                · rw [HE.out]; have := hC.body; simp only [optBytes, hk, HL.out, HM.out, padL]; simpa [List.append_assoc] using this
                · show ∀ _ _, _ → _
                  rw [HF.out]; have := HS.out; rcases S0 with _ | ⟨su, sx⟩ <;> simp [stepO, hk] at this ⊢ <;> simp_all
      · go_wp2_with (first
          | (go_at_call 23; refine (put_int w.heap.size _ _ _ _ big _ hC.body (by omega) (by omega) (by omega) (by omega) (by first | omega | (simp [putB_len]; omega)) hC.big).mono ?_; rintro e wq ⟨vq, rfl, hbq, hGq⟩; replace hC := hC.grew hbq hGq; clear hbq hGq; have o1 := hC.o1; have o2 := hC.o2; have o3 := hC.o3; have i2 := hC.inn.c2; have i3 := hC.inn.c3; have z2 := hC.inn.frz 2; have z3 := hC.inn.frz 3)
          | (at_builtin; refine wpList_app2 _ rfl _ _ rfl w.heap.size _ _ [op.a, op.a, 0, 0] rfl (hC.alloc _).body _ 4 4 rfl rfl (row_new _ _ _) (by omega) (by first | omega | (simp [putB_len]; omega)) (hC.alloc _).big ?_; intro vq w1 hb1 hG1; replace hC := (hC.alloc _).grew hb1 hG1; clear hb1 hG1; have o1 := hC.o1; have o2 := hC.o2; have o3 := hC.o3; have i2 := hC.inn.c2; have i3 := hC.inn.c3; have z2 := hC.inn.frz 2; have z3 := hC.inn.frz 3))
        refine ⟨⟨i + 1, c, d, by omega, by go_num, ?_, ?_, (hC).nwb, (hC).inn, ?_⟩, by simp [intOf]; omega⟩
        · rw [HF.out]; cases S0 <;> simp [stepO, hk]
        · rw [HE.out]; have := (hC).body; simp only [optBytes, hk]; simpa [List.append_assoc] using this
        · show ∀ _ _, _ → _
          rw [HF.out]; have := HS.out; rcases S0 with _ | ⟨su, sx⟩ <;> simp [stepO, hk] at this ⊢ <;> simp_all
      · go_wp2_with (go_at_call 23; refine (put_int w.heap.size _ _ _ _ big _ hC.body (by omega) (by omega) (by omega) (by omega) (by first | omega | (simp [putB_len]; omega)) hC.big).mono ?_; rintro e wq ⟨vq, rfl, hbq, hGq⟩; replace hC := hC.grew hbq hGq; clear hbq hGq; have o1 := hC.o1; have o2 := hC.o2; have o3 := hC.o3; have i2 := hC.inn.c2; have i3 := hC.inn.c3; have z2 := hC.inn.frz 2; have z3 := hC.inn.frz 3)
        refine ⟨⟨i + 1, c, d, by omega, by go_num, ?_, ?_, (hC).nwb, (hC).inn, ?_⟩, by simp [intOf]; omega⟩
        · rw [HF.out]; cases S0 <;> simp [stepO, hk]
        · rw [HE.out]; have := (hC).body; simp only [optBytes, hk]; simpa [List.append_assoc] using this
        · show ∀ _ _, _ → _
          rw [HF.out]; have := HS.out; rcases S0 with _ | ⟨su, sx⟩ <;> simp [stepO, hk] at this ⊢ <;> simp_all
    · obtain rfl : os.length = i := by omega
      rw [List.take_length] at hbr HS ⊢
      have hlen0 := encOpts_len big os Hwf.out
      have hlenL : (hdBytes big link snap ++ encOpts big os).length ≤ 8200 := by rw [List.length_append, hdBytes_len]; omega
      have hlenE : (encOpts big os).length ≤ 8192 := by omega
      clear hlt hi hO Hofs hlen0
      have hpl := hide (built_plain big fin link snap os hl0 hl1 hs0 hs1 Hwf.out)
      have hby := hide (b255_whole big fin link snap os Hwf.out).byte
      have hm3 : (k % 4).toNat ≤ 3 := by omega
      have hwl : (wholeB big fin link snap os).length ≤ 8212 := by
        rw [List.length_append, hdBytes_len] at hlenL
        unfold wholeB tailB
        rw [List.length_append, hdBytes_len, List.length_append]
        split
        · simp only [List.length_append, putB_len, List.length_cons, List.length_nil]; omega
        · simp only [List.length_nil]; omega
      have hwp : 0 < (wholeB big fin link snap os).length := by unfold wholeB; rw [List.length_append, hdBytes_len]; omega
      generalize hLw : wholeB big fin link snap os = Lw at *
      have HLw := hide hLw
      clear hLw
      generalize os.foldl stepO (some (1000000, 0)) = S0 at *
      cases fin with
      | false =>
        have hbz : Body wr w.heap.size u13 Lw := by
          rw [← HLw.out]; simpa [wholeB, tailB] using hbr
        clear hbr HLw
        obtain ⟨g, cp, rfl, hcp, hg, hB⟩ := hbz.opened hwp
        have HB := hide hB
        clear hB hbz
        go_wp2_with fail
        refine (reader_any big k hk0 hk1 _).mono ?_
        rintro e w3 ⟨rfl, hb3, hR3⟩
        have hI3 := hIr.later hb3
        have hB3 : Hid (Bytes w3 g 0 Lw.length (fun i => Lw.getD i 0)) := HB.out.below hg hb3
        have hF3 : F.answers w3.tape := by rw [hI3.below.tape]; exact hF
        go_wp2_with fail
        refine (desc_any F wr.heap.size g 0 Lw.length cp hcp (by omega) _ hby.out big (k % 4).toNat (priors (k % 4).toNat) w3 hF3 hB3 hg (by omega) hR3).mono ?_
        rintro e w4 hD
        rw [hpl.out.1, hpl.out.2.1, hpl.out.2.2] at hD
        obtain ⟨ev, rfl, hb4, hE⟩ := hD.ret
        have hcell : ∀ j, w4.cell? ⟨wb, j, none⟩ = w3.cell? ⟨wb, j, none⟩ := fun j => hb4.cell (p := ⟨wb, j, none⟩) hIr.lt
        have k0 := (hcell 0).trans hI3.c0
        have k1 := (hcell 1).trans hI3.c1
        have k2 := (hcell 2).trans hI3.c2
        have k3 := (hcell 3).trans hI3.c3
        have hbw : Below w.heap.size w w4 := hI3.below.trans (hb4.mono hIr.below.size)
        clear hcell hD hb4 hb3 hB3 HB hI3 hR3 hF3 hIr
        go_wp2_with fail
        refine (check_any wr.heap.size (ordT big) k hk0 hk1 S0 ev link snap link snap c d w4 (fun u x e => ⟨rfl, rfl, HS.out u x e⟩) hE).mono ?_
        rintro e w5 ⟨rfl, hb5⟩
        go_wp2
        go_ret
        exact ⟨rfl, hbw.trans (hb5.mono hbw.size)⟩
      | true =>
        go_wp2_with (first
          | (go_at_call 23; refine (put_int w.heap.size _ _ _ _ big _ hbr (by omega) (by omega) (by omega) (by omega) (by simp [putB_len, hdBytes_len]; omega) hIr.below.size).mono ?_; rintro e wq ⟨vq, rfl, hbq, hGq⟩; have hX := hIr.grew hbr hGq hnr; replace hIr := hX.1; replace hnr := hX.2; replace hbr := hbq; clear hX hGq hbq)
          | (at_builtin; refine wpList_app2 _ rfl _ _ rfl w.heap.size _ _ [255, 0, 0, 0] rfl (hbr.alloc _) _ 4 4 rfl rfl (row_new _ _ _) (by omega) (by simp [putB_len, hdBytes_len]; omega) (hIr.grew hbr (Grew.alloc _ _ _) hnr).1.below.size ?_; intro vq w1 hb1 hG1; have hX := hIr.grew hbr ((Grew.alloc _ _ _).trans hG1) hnr; replace hIr := hX.1; replace hnr := hX.2; replace hbr := hb1; clear hX hG1 hb1))
        have hbz : Body w1 w.heap.size vq Lw := by
          rw [← HLw.out]; simpa [wholeB, tailB] using hbr
        clear hbr HLw
        obtain ⟨g, cp, rfl, hcp, hg, hB⟩ := hbz.opened hwp
        have HB := hide hB
        clear hB hbz
        go_wp2_with fail
        refine (reader_any big k hk0 hk1 _).mono ?_
        rintro e w3 ⟨rfl, hb3, hR3⟩
        have hI3 := hIr.later hb3
        have hB3 : Hid (Bytes w3 g 0 Lw.length (fun i => Lw.getD i 0)) := HB.out.below hg hb3
        have hF3 : F.answers w3.tape := by rw [hI3.below.tape]; exact hF
        go_wp2_with fail
        refine (desc_any F w1.heap.size g 0 Lw.length cp hcp (by omega) _ hby.out big (k % 4).toNat (priors (k % 4).toNat) w3 hF3 hB3 hg (by omega) hR3).mono ?_
        rintro e w4 hD
        rw [hpl.out.1, hpl.out.2.1, hpl.out.2.2] at hD
        obtain ⟨ev, rfl, hb4, hE⟩ := hD.ret
        have hcell : ∀ j, w4.cell? ⟨wb, j, none⟩ = w3.cell? ⟨wb, j, none⟩ := fun j => hb4.cell (p := ⟨wb, j, none⟩) hIr.lt
        have k0 := (hcell 0).trans hI3.c0
        have k1 := (hcell 1).trans hI3.c1
        have k2 := (hcell 2).trans hI3.c2
        have k3 := (hcell 3).trans hI3.c3
        have hbw : Below w.heap.size w w4 := hI3.below.trans (hb4.mono hIr.below.size)
        clear hcell hD hb4 hb3 hB3 HB hI3 hR3 hF3 hIr
        go_wp2_with fail
        refine (check_any w1.heap.size (ordT big) k hk0 hk1 S0 ev link snap link snap c d w4 (fun u x e => ⟨rfl, rfl, HS.out u x e⟩) hE).mono ?_
        rintro e w5 ⟨rfl, hb5⟩
        go_wp2
        go_ret
        exact ⟨rfl, hbw.trans (hb5.mono hbw.size)⟩

set_option maxRecDepth 100000 in
/-- Of more than 512 options the law returns at once. -/
theorem built_long (link snap : Int) (big : Bool) (k : Int) (ao : Option Addr) (n cap : Nat) (fin : Bool) (w : World) (hn : 512 < n) :
    Calls Ybaf.prog 6 #[.int .u16 link, .int .u32 snap, .bool big, .int .u8 k, .slice ao n cap, .bool fin] w fun e w' => e = .returned (.bool true) ∧ Below w.heap.size w w' := by
  have hl : (512 : Int) < (n : Int) := by omega
  go_enter Ybaf.func6, Ybaf.ntmps6
  go_wp2
  go_ret
  exact ⟨rfl, Below.refl _ _⟩

/-- What the walk is told of the options that came in. -/
def IsOpts (w : World) (ao : Option Addr) (n : Nat) : Prop := ∃ os : List Opt, os.length = n ∧ (∀ o ∈ os, o.wf) ∧ (0 < os.length → ∃ b off, ao = some ⟨b, off, none⟩ ∧ b < w.heap.size ∧ OptsAt w b off os)

theorem built_any (F : Interp) (link snap : Int) (big : Bool) (k : Int) (ao : Option Addr) (n cap : Nat) (fin : Bool) (w : World) (hF : F.answers w.tape)
    (hl0 : 0 ≤ link) (hl1 : link < 65536) (hs0 : 0 ≤ snap) (hs1 : snap < 4294967296) (hk0 : 0 ≤ k) (hk1 : k ≤ 255) (h : IsOpts w ao n) :
    Calls Ybaf.prog 6 #[.int .u16 link, .int .u32 snap, .bool big, .int .u8 k, .slice ao n cap, .bool fin] w fun e w' => e = .returned (.bool true) ∧ Below w.heap.size w w' := by
  obtain ⟨os, rfl, hwf, hO⟩ := h
  by_cases hN : os.length ≤ 512
  · exact built_walk F link snap big k ao cap os fin w hF hl0 hl1 hs0 hs1 hk0 hk1 hN hO hwf
  · exact built_long link snap big k ao _ cap fin w (by omega)

end Go.Proofs.YbulkbleuFmt
