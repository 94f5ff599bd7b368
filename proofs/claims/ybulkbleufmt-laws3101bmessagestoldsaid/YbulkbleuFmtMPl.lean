/- LawS3101BMessages: the plain bytes. -/
import Derived.Test.YbulkbleuFmtFlOk
import Derived.Test.YbulkbleuFmtRecD
namespace Go.Proofs.YbulkbleuFmt.B
open Go.RowKit

/-- Record j, and q records from j on. -/
def recB (sd : Int) (fs : List (Int × Int)) (j : Nat) : List Int := (valRows (sd + j * 31) 0 fs).flatten
def recsB (sd : Int) (fs : List (Int × Int)) (j : Nat) : Nat → List Int
  | 0 => []
  | q + 1 => recsB sd fs j q ++ recB sd fs (j + q)
theorem recB_len (sd : Int) (fs : List (Int × Int)) (j : Nat) (h : FsWf fs) {r : Nat} (hr : sumL fs = r) : (recB sd fs j).length = r := by
  have := fits_flat fs _ (valRows_fits (sd + j * 31) fs 0 h) h
  unfold recB
  omega
theorem recsB_len (sd : Int) (fs : List (Int × Int)) (j : Nat) (h : FsWf fs) {r : Nat} (hr : sumL fs = r) : ∀ q, (recsB sd fs j q).length = r * q
  | 0 => rfl
  | q + 1 => by
    simp only [recsB, List.length_append, recsB_len sd fs j h hr q, recB_len sd fs _ h hr, Nat.mul_succ]

/-- The template set. -/
def tplS (first : Bool) (tid : Int) (fs : List (Int × Int)) : List Int := if first then be16 2 ++ (be16 (4 + (tplB tid fs).length) ++ tplB tid fs) else []
def lenS (first : Bool) (fs : List (Int × Int)) : Nat := if first then 4 + (4 + 4 * fs.length) else 0
theorem tplB_len' (tid : Int) (fs : List (Int × Int)) : (tplB tid fs).length = 4 + 4 * fs.length := tplB_len tid fs
theorem tplS_len (first : Bool) (tid : Int) (fs : List (Int × Int)) : (tplS first tid fs).length = lenS first fs := by
  unfold tplS lenS
  cases first
  · rfl
  · simp only [if_true, List.length_append, be16_len, tplB_len]; omega
/-- The message being built, its set's length still open. -/
def curB (first : Bool) (H : List Int) (tid : Int) (fs : List (Int × Int)) (R : List Int) : List Int := (H ++ tplS first tid fs) ++ (be16 tid ++ (be16 0 ++ R))
theorem curB_len (first : Bool) (H : List Int) (tid : Int) (fs : List (Int × Int)) (R : List Int) (hH : H.length = 16) : (curB first H tid fs R).length = 20 + lenS first fs + R.length := by
  unfold curB
  simp only [List.length_append, be16_len, tplS_len, hH]
  omega
theorem curB_app (first : Bool) (H : List Int) (tid : Int) (fs : List (Int × Int)) (R S : List Int) : curB first H tid fs R ++ S = curB first H tid fs (R ++ S) := by
  unfold curB
  simp only [List.append_assoc]
/-- The message as it goes out. -/
def msgB (first : Bool) (tid : Int) (fs : List (Int × Int)) (ex dm : Int) (j : Nat) (R : List Int) : List Int := hdrB (20 + lenS first fs + R.length : Nat) ex j dm ++ (tplS first tid fs ++ (be16 tid ++ (be16 (4 + R.length : Nat) ++ R)))
theorem patch2 (t : Int) (R : List Int) (x : Int) : patch (be16 t ++ (be16 0 ++ R)) 2 x = be16 t ++ (be16 x ++ R) := by
  simp [patch, be16]
theorem sent_cur (first : Bool) (H : List Int) (tid : Int) (fs : List (Int × Int)) (R : List Int) (ex dm : Int) (j : Nat) (hH : H.length = 16) : sentB (curB first H tid fs R) (16 + lenS first fs) ex j dm = msgB first tid fs ex dm j R := by
  have hl := curB_len first H tid fs R hH
  have hp : (H ++ tplS first tid fs).length = 16 + lenS first fs := by simp only [List.length_append, tplS_len, hH]
  unfold sentB msgB
  rw [hl]
  have hx : ((20 + lenS first fs + R.length : Nat) : Int) - ((16 + lenS first fs : Nat) : Int) = (4 + R.length : Nat) := by omega
  rw [hx]
  congr 1
  unfold curB
  rw [patch_append _ _ _ _ (by rw [hp]; omega), hp, show 16 + lenS first fs + 2 - (16 + lenS first fs) = 2 by omega, patch2, List.append_assoc]
  rw [← hH, List.drop_left]
theorem first_cur (H : List Int) (tid : Int) (fs : List (Int × Int)) (rows : List (List Int)) : firstB H tid fs rows = curB true H tid fs rows.flatten := by
  unfold firstB curB tplS
  simp only [if_true, List.append_assoc]
  rw [patch_append _ _ _ _ (by omega), show H.length + 2 - H.length = 2 by omega, patch2]
  simp only [List.append_assoc]

/-- The packing: message i begins at record start i. -/
def startM (c1 c2 : Nat) : Nat → Nat
  | 0 => 0
  | i + 1 => c1 + i * c2
def capM (c1 c2 : Nat) : Nat → Nat
  | 0 => c1
  | _ + 1 => c2
theorem startM_succ (c1 c2 : Nat) : ∀ i, startM c1 c2 (i + 1) = startM c1 c2 i + capM c1 c2 i
  | 0 => by simp [startM, capM]
  | i + 1 => by simp only [startM, capM, Nat.succ_mul]; omega
theorem startM_mono (c1 c2 : Nat) {i k : Nat} (h : i ≤ k) : startM c1 c2 i ≤ startM c1 c2 k := by
  induction h with
  | refl => exact Nat.le_refl _
  | step _ ih => rw [startM_succ]; omega
/-- Which message record n - 1 lies in, is told by n alone. -/
theorem packs_one {c1 c2 k q k' q' : Nat} (h : startM c1 c2 k + q = startM c1 c2 k' + q') (h1 : 1 ≤ q) (h2 : q ≤ capM c1 c2 k) (h3 : 1 ≤ q') (h4 : q' ≤ capM c1 c2 k') : k = k' ∧ q = q' := by
  have e : k = k' := by
    rcases Nat.lt_trichotomy k k' with hl | hl | hl
    · have := startM_mono c1 c2 (show k + 1 ≤ k' from hl)
      rw [startM_succ] at this
      omega
    · exact hl
    · have := startM_mono c1 c2 (show k' + 1 ≤ k from hl)
      rw [startM_succ] at this
      omega
  subst e
  exact ⟨rfl, by omega⟩
def isFirst : Nat → Bool
  | 0 => true
  | _ + 1 => false
/-- Message i with q records. -/
def packB (tid : Int) (fs : List (Int × Int)) (ex dm sd : Int) (c1 c2 i q : Nat) : List Int := msgB (isFirst i) tid fs ex dm (startM c1 c2 i) (recsB sd fs (startM c1 c2 i) q)
/-- The first k messages, each full. -/
def fullB (tid : Int) (fs : List (Int × Int)) (ex dm sd : Int) (c1 c2 : Nat) : Nat → List (List Int)
  | 0 => []
  | k + 1 => fullB tid fs ex dm sd c1 c2 k ++ [packB tid fs ex dm sd c1 c2 k (capM c1 c2 k)]
theorem fullB_len (tid : Int) (fs : List (Int × Int)) (ex dm sd : Int) (c1 c2 : Nat) : ∀ k, (fullB tid fs ex dm sd c1 c2 k).length = k
  | 0 => rfl
  | k + 1 => by simp [fullB, fullB_len tid fs ex dm sd c1 c2 k]
end Go.Proofs.YbulkbleuFmt.B
