/- Accepted types sorted by insertion, each place found by halves: plain. -/
import Derived.Test.YtkbmababljcabaaQA0
import Derived.Test.YtkbmababljcabaaSortF
set_option linter.unusedVariables false
set_option linter.unusedSimpArgs false
namespace Go.Proofs.Ytkbmababljcabaa.Srt
open Go.RowKit Go.Proofs.Ytkbmababljcabaa.QA Go.Proofs.Ytkbmababljcabaa.Fl

/-- Whether x stands behind y: by quality, by specificity, and, where the parameters have one length, by order. -/
def lessA (x y : S75) : Bool := decide (x.f1 < y.f1) || (decide (x.f1 = y.f1) && (decide (x.f2 < y.f2) || (decide (x.f2 = y.f2) && (decide (x.f4.size = y.f4.size) && decide (x.f3 > y.f3)))))
def bsA (l : List S75) (x : S75) : Nat → Int → Int → Int
  | 0, lo, _ => lo
  | f + 1, lo, hi => if lo ≤ hi then (if lessA x (l.getD ((lo + hi) / 2).toNat z75) = true then bsA l x f ((lo + hi) / 2 + 1) hi else bsA l x f lo ((lo + hi) / 2 - 1)) else lo
/-- The element at i moved ahead to j. -/
def moveA (l : List S75) (i j : Nat) : List S75 := l.take j ++ l.getD i z75 :: ((l.drop j).take (i - j) ++ l.drop (i + 1))
def insA (l : List S75) (i : Nat) : List S75 := moveA l i (bsA l (l.getD i z75) (i + 1) 0 ((i : Int) - 1)).toNat
def sortA : Nat → Nat → List S75 → List S75
  | 0, _, l => l
  | d + 1, i, l => sortA d (i + 1) (insA l i)
def sortS (l : List S75) : List S75 := sortA (l.length - 1) 1 l
theorem bsA_range (l : List S75) (x : S75) : ∀ (f : Nat) (lo hi : Int), 0 ≤ lo → hi < l.length → lo ≤ hi + 1 → lo ≤ bsA l x f lo hi ∧ bsA l x f lo hi ≤ hi + 1
  | 0, lo, hi, h0, h1, h2 => by unfold bsA; omega
  | f + 1, lo, hi, h0, h1, h2 => by
    unfold bsA
    split
    · split
      · have := bsA_range l x f ((lo + hi) / 2 + 1) hi (by omega) h1 (by omega); omega
      · have := bsA_range l x f lo ((lo + hi) / 2 - 1) h0 (by omega) (by omega); omega
    · omega
theorem bsA_done (l : List S75) (x : S75) (f : Nat) (lo hi : Int) (h : ¬ lo ≤ hi) : bsA l x f lo hi = lo := by
  cases f with
  | zero => rfl
  | succ f => unfold bsA; rw [if_neg h]
theorem moveA_length (l : List S75) (i j : Nat) (hi : i < l.length) (hj : j ≤ i) : (moveA l i j).length = l.length := by
  unfold moveA
  simp only [List.length_append, List.length_cons, List.length_take, List.length_drop]
  omega
theorem moveA_self (l : List S75) (i : Nat) (hi : i < l.length) : moveA l i i = l := by
  unfold moveA
  rw [Nat.sub_self, List.take_zero, List.nil_append, List.getD_eq_getElem?_getD, List.getElem?_eq_getElem hi, Option.getD_some, ← List.drop_eq_getElem_cons hi, List.take_append_drop]
theorem moveA_at (l : List S75) (i j : Nat) (hi : i < l.length) (hj : j ≤ i) : (moveA l i j).getD j z75 = l.getD i z75 := by
  unfold moveA
  rw [List.getD_eq_getElem?_getD, List.getElem?_append_right (by rw [List.length_take]; omega), List.length_take, Nat.min_eq_left (by omega), Nat.sub_self]
  rfl
theorem moveA_ahead (l : List S75) (i j : Nat) (hi : i < l.length) (hj : j ≤ i) (k : Nat) (hk : k < j) : (moveA l i j).getD k z75 = l.getD k z75 := by
  unfold moveA
  rw [List.getD_eq_getElem?_getD, List.getElem?_append_left (by rw [List.length_take]; omega), List.getElem?_take_of_lt hk, ← List.getD_eq_getElem?_getD]
/-- One exchange moves it on. -/
theorem moveA_swap (l : List S75) (i j : Nat) (hi : i < l.length) (hj : j + 1 ≤ i) : ((moveA l i (j + 1)).set j (l.getD i z75)).set (j + 1) (l.getD j z75) = moveA l i j := by
  have hjl : j < l.length := by omega
  have e1 : l.take (j + 1) = l.take j ++ [l.getD j z75] := by
    rw [List.take_succ_eq_append_getElem hjl, List.getD_eq_getElem?_getD, List.getElem?_eq_getElem hjl]; rfl
  have e2 : (l.drop j).take (i - j) = l.getD j z75 :: (l.drop (j + 1)).take (i - (j + 1)) := by
    rw [List.drop_eq_getElem_cons hjl, show i - j = (i - (j + 1)) + 1 by omega, List.take_succ_cons, List.getD_eq_getElem?_getD, List.getElem?_eq_getElem hjl]; rfl
  have hl : (l.take j).length = j := by rw [List.length_take]; omega
  unfold moveA
  rw [e1, e2, List.append_assoc, List.set_append_right _ _ (by omega), hl, Nat.sub_self, List.singleton_append, List.set_cons_zero, List.set_append_right _ _ (by omega), hl, show j + 1 - j = 1 by omega]
  rfl
theorem insA_length (l : List S75) (i : Nat) (hi : i < l.length) : (insA l i).length = l.length := by
  have := bsA_range l (l.getD i z75) (i + 1) 0 ((i : Int) - 1) (by omega) (by omega) (by omega)
  exact moveA_length l i _ hi (by omega)
theorem sortA_length : ∀ (d i : Nat) (l : List S75), i + d ≤ l.length → (sortA d i l).length = l.length
  | 0, _, _, _ => rfl
  | d + 1, i, l, h => by
    have := insA_length l i (by omega)
    unfold sortA
    rw [sortA_length d (i + 1) _ (by omega), this]
theorem sortS_length (l : List S75) : (sortS l).length = l.length := by
  unfold sortS
  rcases Nat.eq_zero_or_pos l.length with h | h
  · rw [h]; exact h
  · exact sortA_length _ _ _ (by omega)
/-! ### The cells -/
def accC (x : S75) : List Value := [.string x.f0, .float .f64 (fl x.f1), .int .i64 x.f2, .int .i64 x.f3, .string x.f4]
def flatA (l : List S75) : List Value := l.flatMap accC
theorem flatA_cons (x : S75) (l : List S75) : flatA (x :: l) = accC x ++ flatA l := by unfold flatA; rw [List.flatMap_cons]
theorem flatA_append (a b : List S75) : flatA (a ++ b) = flatA a ++ flatA b := by unfold flatA; rw [List.flatMap_append]
theorem accC_length (x : S75) : (accC x).length = 5 := rfl
theorem flatA_length (l : List S75) : (flatA l).length = l.length * 5 := by
  induction l with
  | nil => rfl
  | cons x l ih => rw [flatA_cons, List.length_append, ih, accC_length, List.length_cons]; omega
theorem flatA_at (l : List S75) : ∀ (i : Nat) (j : Nat), i < l.length → j < 5 → (flatA l)[i * 5 + j]? = (accC (l.getD i z75))[j]? := by
  induction l with
  | nil => intro i j h; simp at h
  | cons x l ih =>
    intro i j h hj
    rw [flatA_cons]
    cases i with
    | zero => rw [Nat.zero_mul, Nat.zero_add, List.getElem?_append_left (by rw [accC_length]; exact hj)]; rfl
    | succ i =>
      rw [List.getElem?_append_right (by rw [accC_length]; omega), accC_length, show (i + 1) * 5 + j - 5 = i * 5 + j by omega, ih i j (by simpa using h) hj]
      rfl
/-- The cells with those of element i new ones. -/
def putA : List Value → Nat → List Value → List Value
  | xs, _, [] => xs
  | xs, o, v :: vs => putA (xs.set o v) (o + 1) vs
theorem putA_ahead (y : S75) (xs : List Value) : ∀ (vs : List Value) (o : Nat), putA (accC y ++ xs) (5 + o) vs = accC y ++ putA xs o vs := by
  intro vs
  induction vs generalizing xs with
  | nil => intro o; rfl
  | cons v vs ih =>
    intro o
    unfold putA
    rw [List.set_append_right _ _ (by rw [accC_length]; omega), accC_length, show 5 + o - 5 = o by omega, show 5 + o + 1 = 5 + (o + 1) by omega, ih]
theorem flatA_put (l : List S75) (x : S75) : ∀ i, i < l.length → putA (flatA l) (i * 5) (accC x) = flatA (l.set i x) := by
  induction l with
  | nil => intro i h; simp at h
  | cons y l ih =>
    intro i h
    cases i with
    | zero =>
      rw [List.set_cons_zero, flatA_cons, flatA_cons]
      rfl
    | succ i =>
      rw [List.set_cons_succ, flatA_cons, flatA_cons, show (i + 1) * 5 = 5 + i * 5 by omega, putA_ahead, ih i (by simpa using h)]
end Go.Proofs.Ytkbmababljcabaa.Srt
