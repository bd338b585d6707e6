/- Texts of this claim, one behind the other (merged by wip/prune.py of this repo, without what the proof does not use): SortP, SortQ, SortR. -/
import Derived.Test.YtgmjaggkiifdjaaZT1
import Derived.Test.YtgmjaggkiifdjaaZT5
set_option linter.unusedVariables false
set_option linter.unusedSimpArgs false
namespace Go.Proofs.Ytgmjaggkiifdjaa.Srt
open Go.RowKit Go.Proofs.Ytgmjaggkiifdjaa.QA Go.Proofs.Ytgmjaggkiifdjaa.Fl
def lessA (x y : S68) : Bool := decide (x.f1 < y.f1) || (decide (x.f1 = y.f1) && (decide (x.f2 < y.f2) || (decide (x.f2 = y.f2) && (decide (x.f4.size = y.f4.size) && decide (x.f3 > y.f3)))))
def bsA (l : List S68) (x : S68) : Nat → Int → Int → Int
  | 0, lo, _ => lo
  | f + 1, lo, hi => if lo ≤ hi then (if lessA x (l.getD ((lo + hi) / 2).toNat z68) = true then bsA l x f ((lo + hi) / 2 + 1) hi else bsA l x f lo ((lo + hi) / 2 - 1)) else lo
def moveA (l : List S68) (i j : Nat) : List S68 := l.take j ++ l.getD i z68 :: ((l.drop j).take (i - j) ++ l.drop (i + 1))
def insA (l : List S68) (i : Nat) : List S68 := moveA l i (bsA l (l.getD i z68) (i + 1) 0 ((i : Int) - 1)).toNat
def sortA : Nat → Nat → List S68 → List S68
  | 0, _, l => l
  | d + 1, i, l => sortA d (i + 1) (insA l i)
def sortS (l : List S68) : List S68 := sortA (l.length - 1) 1 l
theorem bsA_range (l : List S68) (x : S68) : ∀ (f : Nat) (lo hi : Int), 0 ≤ lo → hi < l.length → lo ≤ hi + 1 → lo ≤ bsA l x f lo hi ∧ bsA l x f lo hi ≤ hi + 1
  | 0, lo, hi, h0, h1, h2 => by unfold bsA; omega
  | f + 1, lo, hi, h0, h1, h2 => by
    unfold bsA
    split
    · split
      · have := bsA_range l x f ((lo + hi) / 2 + 1) hi (by omega) h1 (by omega); omega
      · have := bsA_range l x f lo ((lo + hi) / 2 - 1) h0 (by omega) (by omega); omega
    · omega
theorem bsA_done (l : List S68) (x : S68) (f : Nat) (lo hi : Int) (h : ¬ lo ≤ hi) : bsA l x f lo hi = lo := by
  cases f with
  | zero => rfl
  | succ f => unfold bsA; rw [if_neg h]
theorem moveA_length (l : List S68) (i j : Nat) (hi : i < l.length) (hj : j ≤ i) : (moveA l i j).length = l.length := by
  unfold moveA
  simp only [List.length_append, List.length_cons, List.length_take, List.length_drop]
  omega
theorem moveA_self (l : List S68) (i : Nat) (hi : i < l.length) : moveA l i i = l := by
  unfold moveA
  rw [Nat.sub_self, List.take_zero, List.nil_append, List.getD_eq_getElem?_getD, List.getElem?_eq_getElem hi, Option.getD_some, ← List.drop_eq_getElem_cons hi, List.take_append_drop]
theorem moveA_at (l : List S68) (i j : Nat) (hi : i < l.length) (hj : j ≤ i) : (moveA l i j).getD j z68 = l.getD i z68 := by
  unfold moveA
  rw [List.getD_eq_getElem?_getD, List.getElem?_append_right (by rw [List.length_take]; omega), List.length_take, Nat.min_eq_left (by omega), Nat.sub_self]
  rfl
theorem moveA_ahead (l : List S68) (i j : Nat) (hi : i < l.length) (hj : j ≤ i) (k : Nat) (hk : k < j) : (moveA l i j).getD k z68 = l.getD k z68 := by
  unfold moveA
  rw [List.getD_eq_getElem?_getD, List.getElem?_append_left (by rw [List.length_take]; omega), List.getElem?_take_of_lt hk, ← List.getD_eq_getElem?_getD]
theorem moveA_swap (l : List S68) (i j : Nat) (hi : i < l.length) (hj : j + 1 ≤ i) : ((moveA l i (j + 1)).set j (l.getD i z68)).set (j + 1) (l.getD j z68) = moveA l i j := by
  have hjl : j < l.length := by omega
  have e1 : l.take (j + 1) = l.take j ++ [l.getD j z68] := by
    rw [List.take_succ_eq_append_getElem hjl, List.getD_eq_getElem?_getD, List.getElem?_eq_getElem hjl]; rfl
  have e2 : (l.drop j).take (i - j) = l.getD j z68 :: (l.drop (j + 1)).take (i - (j + 1)) := by
    rw [List.drop_eq_getElem_cons hjl, show i - j = (i - (j + 1)) + 1 by omega, List.take_succ_cons, List.getD_eq_getElem?_getD, List.getElem?_eq_getElem hjl]; rfl
  have hl : (l.take j).length = j := by rw [List.length_take]; omega
  unfold moveA
  rw [e1, e2, List.append_assoc, List.set_append_right _ _ (by omega), hl, Nat.sub_self, List.singleton_append, List.set_cons_zero, List.set_append_right _ _ (by omega), hl, show j + 1 - j = 1 by omega]
  rfl
theorem insA_length (l : List S68) (i : Nat) (hi : i < l.length) : (insA l i).length = l.length := by
  have := bsA_range l (l.getD i z68) (i + 1) 0 ((i : Int) - 1) (by omega) (by omega) (by omega)
  exact moveA_length l i _ hi (by omega)
theorem sortA_length : ∀ (d i : Nat) (l : List S68), i + d ≤ l.length → (sortA d i l).length = l.length
  | 0, _, _, _ => rfl
  | d + 1, i, l, h => by
    have := insA_length l i (by omega)
    unfold sortA
    rw [sortA_length d (i + 1) _ (by omega), this]
theorem sortS_length (l : List S68) : (sortS l).length = l.length := by
  unfold sortS
  rcases Nat.eq_zero_or_pos l.length with h | h
  · rw [h]; exact h
  · exact sortA_length _ _ _ (by omega)
def accC (x : S68) : List Value := [.string x.f0, .float .f64 (fl x.f1), .int .i64 x.f2, .int .i64 x.f3, .string x.f4]
def flatA (l : List S68) : List Value := l.flatMap accC
theorem flatA_cons (x : S68) (l : List S68) : flatA (x :: l) = accC x ++ flatA l := by unfold flatA; rw [List.flatMap_cons]
theorem flatA_append (a b : List S68) : flatA (a ++ b) = flatA a ++ flatA b := by unfold flatA; rw [List.flatMap_append]
theorem accC_length (x : S68) : (accC x).length = 5 := rfl
theorem flatA_at (l : List S68) : ∀ (i : Nat) (j : Nat), i < l.length → j < 5 → (flatA l)[i * 5 + j]? = (accC (l.getD i z68))[j]? := by
  induction l with
  | nil => intro i j h; simp at h
  | cons x l ih =>
    intro i j h hj
    rw [flatA_cons]
    cases i with
    | zero => rw [Nat.zero_mul, Nat.zero_add, List.getElem?_append_left (by rw [accC_length]; exact hj)]; rfl
    | succ i =>
      rw [List.getElem?_append_right (by rw [accC_length]; omega), accC_length, show (i + 1) * 5 + j - 5 = i * 5 + j by omega, ih i j (by simpa using h) hj]
      rfl
def putA : List Value → Nat → List Value → List Value
  | xs, _, [] => xs
  | xs, o, v :: vs => putA (xs.set o v) (o + 1) vs
theorem putA_ahead (y : S68) (xs : List Value) : ∀ (vs : List Value) (o : Nat), putA (accC y ++ xs) (5 + o) vs = accC y ++ putA xs o vs := by
  intro vs
  induction vs generalizing xs with
  | nil => intro o; rfl
  | cons v vs ih =>
    intro o
    unfold putA
    rw [List.set_append_right _ _ (by rw [accC_length]; omega), accC_length, show 5 + o - 5 = o by omega, show 5 + o + 1 = 5 + (o + 1) by omega, ih]
theorem flatA_put (l : List S68) (x : S68) : ∀ i, i < l.length → putA (flatA l) (i * 5) (accC x) = flatA (l.set i x) := by
  induction l with
  | nil => intro i h; simp at h
  | cons y l ih =>
    intro i h
    cases i with
    | zero =>
      rw [List.set_cons_zero, flatA_cons, flatA_cons]
      rfl
    | succ i =>
      rw [List.set_cons_succ, flatA_cons, flatA_cons, show (i + 1) * 5 = 5 + i * 5 by omega, putA_ahead, ih i (by simpa using h)]
def L (x y : S68) : Prop := x.f1 < y.f1 ∨ (x.f1 = y.f1 ∧ (x.f2 < y.f2 ∨ (x.f2 = y.f2 ∧ x.f3 > y.f3)))
theorem L_trans {x y z : S68} (h : L x y) (k : L y z) : L x z := by unfold L at *; omega
def SP (l : List S68) (i : Nat) : Prop := ∀ a b : Nat, a < b → b < i → L (l.getD b z68) (l.getD a z68)
theorem getD_app_left (a b : List S68) (k : Nat) (h : k < a.length) : (a ++ b).getD k z68 = a.getD k z68 := by
  rw [List.getD_eq_getElem?_getD, List.getElem?_append_left h, ← List.getD_eq_getElem?_getD]
theorem getD_app_right (a b : List S68) (k : Nat) (h : a.length ≤ k) : (a ++ b).getD k z68 = b.getD (k - a.length) z68 := by
  rw [List.getD_eq_getElem?_getD, List.getElem?_append_right h, ← List.getD_eq_getElem?_getD]
theorem moveA_behind (l : List S68) (i j : Nat) (hi : i < l.length) (hj : j ≤ i) (k : Nat) (hk : j < k) (hki : k ≤ i) : (moveA l i j).getD k z68 = l.getD (k - 1) z68 := by
  have hl : (l.take j).length = j := by rw [List.length_take]; omega
  unfold moveA
  rw [getD_app_right _ _ _ (by omega), hl]
  obtain ⟨m, hm⟩ : ∃ m, k - j = m + 1 := ⟨k - j - 1, by omega⟩
  rw [hm, List.getD_cons_succ, getD_app_left _ _ _ (by rw [List.length_take, List.length_drop]; omega)]
  rw [List.getD_eq_getElem?_getD, List.getElem?_take_of_lt (by omega), List.getElem?_drop, ← List.getD_eq_getElem?_getD]
  congr 1
  omega
theorem moveA_perm (l : List S68) (i j : Nat) (hi : i < l.length) (hj : j ≤ i) : (moveA l i j).Perm l := by
  have e : l.drop j = (l.drop j).take (i - j) ++ l.getD i z68 :: l.drop (i + 1) := by
    have h1 : (l.drop j).drop (i - j) = l.getD i z68 :: l.drop (i + 1) := by
      rw [List.drop_drop, show j + (i - j) = i by omega, List.drop_eq_getElem_cons hi, List.getD_eq_getElem?_getD, List.getElem?_eq_getElem hi]; rfl
    rw [← h1, List.take_append_drop]
  have h2 : l = l.take j ++ ((l.drop j).take (i - j) ++ l.getD i z68 :: l.drop (i + 1)) := by
    rw [← e, List.take_append_drop]
  unfold moveA
  conv => rhs; rw [h2]
  exact List.Perm.append_left _ List.perm_middle.symm
def Rr (x y : S68) : Prop := x.f1 = y.f1 → x.f2 = y.f2 → x.f3 ≠ y.f3 ∧ x.f4.size = y.f4.size
theorem Rr_symm {x y : S68} (h : Rr x y) : Rr y x := fun a b => ⟨fun e => (h a.symm b.symm).1 e.symm, (h a.symm b.symm).2.symm⟩
theorem less_Rr {x y : S68} (h : Rr x y) : lessA x y = true ↔ L x y := by
  unfold lessA L
  simp only [Bool.or_eq_true, Bool.and_eq_true, decide_eq_true_eq]
  constructor
  · rintro (h | ⟨a, h | ⟨b, _, c⟩⟩)
    · exact Or.inl h
    · exact Or.inr ⟨a, Or.inl h⟩
    · exact Or.inr ⟨a, Or.inr ⟨b, c⟩⟩
  · rintro (k | ⟨a, k | ⟨b, c⟩⟩)
    · exact Or.inl k
    · exact Or.inr ⟨a, Or.inl k⟩
    · exact Or.inr ⟨a, Or.inr ⟨b, (h a b).2, c⟩⟩
theorem L_totalR {x y : S68} (h : Rr x y) (n : ¬ L x y) : L y x := by
  unfold L at *
  by_cases a : x.f1 = y.f1
  · by_cases b : x.f2 = y.f2
    · have := (h a b).1
      omega
    · omega
  · omega
theorem L_irrefl (x : S68) : ¬ L x x := by unfold L; omega
theorem bs_specR (l : List S68) (x : S68) (i : Nat) (hs : SP l i) (hz : ∀ k : Nat, k < i → Rr x (l.getD k z68)) : ∀ (f : Nat) (lo hi : Int), 0 ≤ lo → hi < i → lo ≤ hi + 1 → hi - lo < f →
    (∀ k : Nat, (k : Int) < lo → L x (l.getD k z68)) → (∀ k : Nat, hi < (k : Int) → k < i → ¬ L x (l.getD k z68)) →
    (∀ k : Nat, (k : Int) < bsA l x f lo hi → L x (l.getD k z68)) ∧ (∀ k : Nat, bsA l x f lo hi ≤ (k : Int) → k < i → ¬ L x (l.getD k z68))
  | 0, lo, hi, h0, h1, h2, h3, ha, hb => ⟨ha, fun k hk hki => hb k (by unfold bsA at hk; omega) hki⟩
  | f + 1, lo, hi, h0, h1, h2, h3, ha, hb => by
    unfold bsA
    by_cases hle : lo ≤ hi
    · rw [if_pos hle]
      obtain ⟨m, hm⟩ : ∃ m : Nat, (lo + hi) / 2 = (m : Int) := ⟨((lo + hi) / 2).toNat, by omega⟩
      rw [hm, Int.toNat_natCast]
      have hmi : m < i := by omega
      have hz' := hz m hmi
      by_cases hl : lessA x (l.getD m z68) = true
      · rw [if_pos hl]
        have hL := (less_Rr hz').1 hl
        refine bs_specR l x i hs hz f _ _ (by omega) h1 (by omega) (by omega) (fun k hk => ?_) hb
        rcases Nat.lt_or_ge k m with h | h
        · exact L_trans hL (hs k m h hmi)
        · have : k = m := by omega
          subst this; exact hL
      · rw [if_neg hl]
        have hL : ¬ L x (l.getD m z68) := fun h => hl ((less_Rr hz').2 h)
        refine bs_specR l x i hs hz f _ _ h0 (by omega) (by omega) (by omega) ha (fun k hk hki hkL => ?_)
        rcases Nat.lt_or_ge m k with h | h
        · exact hL (L_trans hkL (hs m k h hki))
        · have : k = m := by omega
          subst this; exact hL hkL
    · rw [if_neg hle]
      exact ⟨ha, fun k hk hki => hb k (by omega) hki⟩
theorem pw_at {l : List S68} (h : l.Pairwise Rr) {a b : Nat} (ha : a < l.length) (hb : b < l.length) (hab : a ≠ b) : Rr (l.getD a z68) (l.getD b z68) := by
  rw [List.getD_eq_getElem?_getD, List.getD_eq_getElem?_getD, List.getElem?_eq_getElem ha, List.getElem?_eq_getElem hb]
  rcases Nat.lt_or_gt_of_ne hab with g | g
  · exact List.pairwise_iff_getElem.1 h a b ha hb g
  · exact Rr_symm (List.pairwise_iff_getElem.1 h b a hb ha g)
theorem ins_sortedR (l : List S68) (i : Nat) (hi : i < l.length) (hs : SP l i) (hd : l.Pairwise Rr) : SP (insA l i) (i + 1) := by
  obtain ⟨x, hx⟩ : ∃ x, l.getD i z68 = x := ⟨_, rfl⟩
  have hsp := bs_specR l x i hs (fun k hk => by rw [← hx]; exact pw_at hd hi (by omega) (by omega)) (i + 1) 0 ((i : Int) - 1) (by omega) (by omega) (by omega) (by omega) (fun k hk => by omega) (fun k hk hki => by omega)
  have hr := bsA_range l x (i + 1) 0 ((i : Int) - 1) (by omega) (by omega) (by omega)
  unfold insA
  rw [hx]
  obtain ⟨r, hrr⟩ : ∃ r : Nat, bsA l x (i + 1) 0 ((i : Int) - 1) = (r : Int) := ⟨(bsA l x (i + 1) 0 ((i : Int) - 1)).toNat, by omega⟩
  rw [hrr] at hsp hr ⊢
  rw [Int.toNat_natCast]
  have hri : r ≤ i := by omega
  intro a b hab hb
  rcases Nat.lt_trichotomy b r with h | h | h
  · rw [moveA_ahead l i r hi hri b h, moveA_ahead l i r hi hri a (by omega)]
    exact hs a b hab (by omega)
  · subst h
    rw [moveA_at l i b hi hri, moveA_ahead l i b hi hri a hab, hx]
    exact hsp.1 a (by omega)
  · rw [moveA_behind l i r hi hri b h (by omega)]
    rcases Nat.lt_trichotomy a r with g | g | g
    · rw [moveA_ahead l i r hi hri a g]
      exact hs a (b - 1) (by omega) (by omega)
    · subst g
      rw [moveA_at l i a hi hri]
      refine L_totalR (pw_at hd hi (by omega) (by omega)) ?_
      rw [hx]
      exact hsp.2 (b - 1) (by omega) (by omega)
    · rw [moveA_behind l i r hi hri a g (by omega)]
      exact hs (a - 1) (b - 1) (by omega) (by omega)
theorem sortA_sortedR : ∀ (d i : Nat) (l : List S68), i + d = l.length → SP l i → l.Pairwise Rr → SP (sortA d i l) l.length ∧ (sortA d i l).Perm l
  | 0, i, l, h, hs, _ => by
    rw [Nat.add_zero] at h
    subst h
    exact ⟨hs, List.Perm.refl _⟩
  | d + 1, i, l, h, hs, hd => by
    have hi : i < l.length := by omega
    have hr := bsA_range l (l.getD i z68) (i + 1) 0 ((i : Int) - 1) (by omega) (by omega) (by omega)
    have hp : (insA l i).Perm l := moveA_perm l i _ hi (by omega)
    have hl := insA_length l i hi
    have ih := sortA_sortedR d (i + 1) (insA l i) (by omega) (ins_sortedR l i hi hs hd) ((hp.pairwise_iff Rr_symm).2 hd)
    rw [hl] at ih
    exact ⟨ih.1, ih.2.trans hp⟩
theorem sortS_sortedR (l : List S68) (hd : l.Pairwise Rr) : SP (sortS l) l.length ∧ (sortS l).Perm l := by
  unfold sortS
  rcases Nat.eq_zero_or_pos l.length with h | h
  · rw [h]
    exact ⟨fun a b _ hb => by omega, List.Perm.refl _⟩
  · exact sortA_sortedR _ _ l (by omega) (fun a b hab hb => by omega) hd
theorem sortS_pw (l : List S68) (hd : l.Pairwise Rr) : (sortS l).Pairwise (fun x y => L y x) := by
  have h := (sortS_sortedR l hd).1
  rw [List.pairwise_iff_getElem]
  intro i j hi hj hij
  have hl : (sortS l).length = l.length := sortS_length l
  have := h i j hij (by omega)
  rw [List.getD_eq_getElem?_getD, List.getD_eq_getElem?_getD, List.getElem?_eq_getElem hi, List.getElem?_eq_getElem hj] at this
  exact this
theorem sorted_one : ∀ (a b : List S68), a.Pairwise (fun x y => L y x) → b.Pairwise (fun x y => L y x) → a.Perm b → a = b
  | [], b, _, _, hp => by rw [List.nil_perm.1 hp]
  | x :: a, [], _, _, hp => absurd hp.length_eq (by simp)
  | x :: a, y :: b, ha, hb, hp => by
    have ha1 := List.pairwise_cons.1 ha
    have hb1 := List.pairwise_cons.1 hb
    have e : x = y := by
      have hx : x ∈ y :: b := hp.mem_iff.1 (List.mem_cons_self ..)
      have hy : y ∈ x :: a := hp.mem_iff.2 (List.mem_cons_self ..)
      rcases List.mem_cons.1 hx with h | h
      · exact h
      · rcases List.mem_cons.1 hy with g | g
        · exact g.symm
        · exact absurd (L_trans (hb1.1 x h) (ha1.1 y g)) (L_irrefl _)
    subst e
    rw [sorted_one a b ha1.2 hb1.2 (List.Perm.cons_inv hp)]
end Go.Proofs.Ytgmjaggkiifdjaa.Srt
