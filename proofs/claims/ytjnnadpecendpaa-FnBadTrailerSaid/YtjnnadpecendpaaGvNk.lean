/- The normal form of a header's key, over numbers alone. -/
import Derived.Test.YtjnnadpecendpaaBase
namespace Go.Proofs.Ytjnnadpecendpaa.Gv
open Go.RowKit Go.Proofs.Ytjnnadpecendpaa.Base

/-- A capital as a small letter. -/
def lo (x : Int) : Int := if 65 ≤ x ∧ x ≤ 90 then x + 32 else x
/-- A small letter as a capital. -/
def up (x : Int) : Int := if 97 ≤ x ∧ x ≤ 122 then x - 32 else x
/-- Behind the first sign: small, but for what stands behind a hyphen. -/
def nkTail : List Int → List Int
  | [] => []
  | [x] => if x = 45 then [45] else [lo x]
  | x :: y :: l => if x = 45 then 45 :: up y :: nkTail l else lo x :: nkTail (y :: l)
/-- A key's normal form. -/
def nk : List Int → List Int
  | [] => []
  | x :: l => up x :: nkTail l
theorem nkTail_hyp (y : Int) (l : List Int) : nkTail (45 :: y :: l) = 45 :: up y :: nkTail l := by simp [nkTail]
theorem nkTail_hyp1 : nkTail [45] = [45] := by simp [nkTail]
theorem nkTail_other (x : Int) (l : List Int) (h : x ≠ 45) : nkTail (x :: l) = lo x :: nkTail l := by
  cases l <;> simp [nkTail, h]
theorem nkTail_length : ∀ l : List Int, (nkTail l).length = l.length
  | [] => rfl
  | [x] => by unfold nkTail; split <;> rfl
  | x :: y :: l => by
    unfold nkTail
    split
    · simp [nkTail_length l]
    · simp [nkTail_length (y :: l)]
theorem nk_length (l : List Int) : (nk l).length = l.length := by
  cases l <;> simp [nk, nkTail_length]
theorem lo_range {x : Int} (h : 0 ≤ x ∧ x ≤ 255) : 0 ≤ lo x ∧ lo x ≤ 255 := by unfold lo; split <;> omega
theorem up_range {x : Int} (h : 0 ≤ x ∧ x ≤ 255) : 0 ≤ up x ∧ up x ≤ 255 := by unfold up; split <;> omega
theorem up_lo (x : Int) : up (lo x) = up x := by
  unfold up lo
  (repeat' split) <;> omega
theorem lo_lo (x : Int) : lo (lo x) = lo x := by
  unfold lo
  (repeat' split) <;> omega
theorem lo_45 (x : Int) : lo x = 45 ↔ x = 45 := by unfold lo; split <;> omega
theorem nkTail_lo : ∀ l : List Int, nkTail (l.map lo) = nkTail l
  | [] => rfl
  | [x] => by
    simp only [List.map_cons, List.map_nil, nkTail, lo_45, lo_lo]
  | x :: y :: l => by
    have h1 := nkTail_lo l
    have h2 := nkTail_lo (y :: l)
    simp only [List.map_cons] at h2
    simp only [List.map_cons, nkTail, lo_45, lo_lo, up_lo, h1, h2]
theorem nk_lo (l : List Int) : nk (l.map lo) = nk l := by
  cases l <;> simp [nk, nkTail_lo, up_lo]
theorem nkTail_range : ∀ l : List Int, (∀ x ∈ l, 0 ≤ x ∧ x ≤ 255) → ∀ x ∈ nkTail l, 0 ≤ x ∧ x ≤ 255
  | [], _ => by simp [nkTail]
  | [x], h => by
    have hx := h x (by simp)
    have := lo_range hx
    unfold nkTail
    split <;> simp <;> omega
  | x :: y :: l, h => by
    have h1 := nkTail_range l (fun z hz => h z (by simp [hz]))
    have h2 := nkTail_range (y :: l) (fun z hz => h z (List.mem_cons_of_mem _ hz))
    have hx := lo_range (h x (by simp))
    have hy := up_range (h y (by simp))
    intro z hz
    unfold nkTail at hz
    split at hz
    · rcases List.mem_cons.1 hz with rfl | hz
      · omega
      · rcases List.mem_cons.1 hz with rfl | hz
        · exact hy
        · exact h1 z hz
    · rcases List.mem_cons.1 hz with rfl | hz
      · exact hx
      · exact h2 z hz
theorem nk_range (l : List Int) (h : ∀ x ∈ l, 0 ≤ x ∧ x ≤ 255) : ∀ x ∈ nk l, 0 ≤ x ∧ x ≤ 255 := by
  cases l with
  | nil => simp [nk]
  | cons a l =>
    intro z hz
    rcases List.mem_cons.1 hz with rfl | hz
    · exact up_range (h a (by simp))
    · exact nkTail_range l (fun x hx => h x (List.mem_cons_of_mem _ hx)) z hz
end Go.Proofs.Ytjnnadpecendpaa.Gv
