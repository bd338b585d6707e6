/- The sort is a sort: the same elements, each behind the one ahead of it (for parameters of one length and orders that differ). -/
import Derived.Test.YtkbmababljcabaaSortP
set_option linter.unusedVariables false
set_option linter.unusedSimpArgs false
namespace Go.Proofs.Ytkbmababljcabaa.Srt
open Go.RowKit Go.Proofs.Ytkbmababljcabaa.QA Go.Proofs.Ytkbmababljcabaa.Fl

/-- x stands behind y. -/
def L (x y : S75) : Prop := x.f1 < y.f1 ∨ (x.f1 = y.f1 ∧ (x.f2 < y.f2 ∨ (x.f2 = y.f2 ∧ x.f3 > y.f3)))
theorem less_iff {x y : S75} (h : x.f4.size = y.f4.size) : lessA x y = true ↔ L x y := by
  unfold lessA L
  simp only [Bool.or_eq_true, Bool.and_eq_true, decide_eq_true_eq, h, true_and]
theorem L_trans {x y z : S75} (h : L x y) (k : L y z) : L x z := by unfold L at *; omega
theorem L_total {x y : S75} (hd : x.f3 ≠ y.f3) (h : ¬ L x y) : L y x := by unfold L at *; omega
/-- The first i are sorted. -/
def SP (l : List S75) (i : Nat) : Prop := ∀ a b : Nat, a < b → b < i → L (l.getD b z75) (l.getD a z75)
theorem bs_spec (l : List S75) (x : S75) (i : Nat) (hs : SP l i) (hz : ∀ k : Nat, k < i → x.f4.size = (l.getD k z75).f4.size) : ∀ (f : Nat) (lo hi : Int), 0 ≤ lo → hi < i → lo ≤ hi + 1 → hi - lo < f →
    (∀ k : Nat, (k : Int) < lo → L x (l.getD k z75)) → (∀ k : Nat, hi < (k : Int) → k < i → ¬ L x (l.getD k z75)) →
    (∀ k : Nat, (k : Int) < bsA l x f lo hi → L x (l.getD k z75)) ∧ (∀ k : Nat, bsA l x f lo hi ≤ (k : Int) → k < i → ¬ L x (l.getD k z75))
  | 0, lo, hi, h0, h1, h2, h3, ha, hb => ⟨ha, fun k hk hki => hb k (by unfold bsA at hk; omega) hki⟩
  | f + 1, lo, hi, h0, h1, h2, h3, ha, hb => by
    unfold bsA
    by_cases hle : lo ≤ hi
    · rw [if_pos hle]
      obtain ⟨m, hm⟩ : ∃ m : Nat, (lo + hi) / 2 = (m : Int) := ⟨((lo + hi) / 2).toNat, by omega⟩
      rw [hm, Int.toNat_natCast]
      have hmi : m < i := by omega
      have hz' := hz m hmi
      by_cases hl : lessA x (l.getD m z75) = true
      · rw [if_pos hl]
        have hL := (less_iff hz').1 hl
        refine bs_spec l x i hs hz f _ _ (by omega) h1 (by omega) (by omega) (fun k hk => ?_) hb
        rcases Nat.lt_or_ge k m with h | h
        · exact L_trans hL (hs k m h hmi)
        · have : k = m := by omega
          subst this; exact hL
      · rw [if_neg hl]
        have hL : ¬ L x (l.getD m z75) := fun h => hl ((less_iff hz').2 h)
        refine bs_spec l x i hs hz f _ _ h0 (by omega) (by omega) (by omega) ha (fun k hk hki hkL => ?_)
        rcases Nat.lt_or_ge m k with h | h
        · exact hL (L_trans hkL (hs m k h hki))
        · have : k = m := by omega
          subst this; exact hL hkL
    · rw [if_neg hle]
      exact ⟨ha, fun k hk hki => hb k (by omega) hki⟩
theorem getD_app_left (a b : List S75) (k : Nat) (h : k < a.length) : (a ++ b).getD k z75 = a.getD k z75 := by
  rw [List.getD_eq_getElem?_getD, List.getElem?_append_left h, ← List.getD_eq_getElem?_getD]
theorem getD_app_right (a b : List S75) (k : Nat) (h : a.length ≤ k) : (a ++ b).getD k z75 = b.getD (k - a.length) z75 := by
  rw [List.getD_eq_getElem?_getD, List.getElem?_append_right h, ← List.getD_eq_getElem?_getD]
theorem moveA_behind (l : List S75) (i j : Nat) (hi : i < l.length) (hj : j ≤ i) (k : Nat) (hk : j < k) (hki : k ≤ i) : (moveA l i j).getD k z75 = l.getD (k - 1) z75 := by
  have hl : (l.take j).length = j := by rw [List.length_take]; omega
  unfold moveA
  rw [getD_app_right _ _ _ (by omega), hl]
  obtain ⟨m, hm⟩ : ∃ m, k - j = m + 1 := ⟨k - j - 1, by omega⟩
  rw [hm, List.getD_cons_succ, getD_app_left _ _ _ (by rw [List.length_take, List.length_drop]; omega)]
  rw [List.getD_eq_getElem?_getD, List.getElem?_take_of_lt (by omega), List.getElem?_drop, ← List.getD_eq_getElem?_getD]
  congr 1
  omega
theorem moveA_perm (l : List S75) (i j : Nat) (hi : i < l.length) (hj : j ≤ i) : (moveA l i j).Perm l := by
  have e : l.drop j = (l.drop j).take (i - j) ++ l.getD i z75 :: l.drop (i + 1) := by
    have h1 : (l.drop j).drop (i - j) = l.getD i z75 :: l.drop (i + 1) := by
      rw [List.drop_drop, show j + (i - j) = i by omega, List.drop_eq_getElem_cons hi, List.getD_eq_getElem?_getD, List.getElem?_eq_getElem hi]; rfl
    rw [← h1, List.take_append_drop]
  have h2 : l = l.take j ++ ((l.drop j).take (i - j) ++ l.getD i z75 :: l.drop (i + 1)) := by
    rw [← e, List.take_append_drop]
  unfold moveA
  conv => rhs; rw [h2]
  exact List.Perm.append_left _ List.perm_middle.symm
theorem ins_sorted (l : List S75) (i : Nat) (hi : i < l.length) (hs : SP l i) (hd : (l.map (·.f3)).Nodup) (hz : ∀ x ∈ l, x.f4.size = 0) : SP (insA l i) (i + 1) := by
  have gz : ∀ k, k < l.length → (l.getD k z75).f4.size = 0 := fun k hk => by
    rw [List.getD_eq_getElem?_getD, List.getElem?_eq_getElem hk]; exact hz _ (List.getElem_mem hk)
  have gd : ∀ a b, a < l.length → b < l.length → a ≠ b → (l.getD a z75).f3 ≠ (l.getD b z75).f3 := fun a b ha hb hab he => by
    rw [List.getD_eq_getElem?_getD, List.getD_eq_getElem?_getD, List.getElem?_eq_getElem ha, List.getElem?_eq_getElem hb] at he
    have h1 : (l.map (·.f3))[a]'(by simpa using ha) = (l.map (·.f3))[b]'(by simpa using hb) := by simpa using he
    exact hab ((List.getElem_inj hd).1 h1)
  obtain ⟨x, hx⟩ : ∃ x, l.getD i z75 = x := ⟨_, rfl⟩
  have hsp := bs_spec l x i hs (fun k hk => by rw [← hx, gz i hi, gz k (by omega)]) (i + 1) 0 ((i : Int) - 1) (by omega) (by omega) (by omega) (by omega) (fun k hk => by omega) (fun k hk hki => by omega)
  have hr := bsA_range l x (i + 1) 0 ((i : Int) - 1) (by omega) (by omega) (by omega)
  unfold insA
  rw [hx]
  obtain ⟨r, hrr⟩ : ∃ r : Nat, bsA l x (i + 1) 0 ((i : Int) - 1) = (r : Int) := ⟨(bsA l x (i + 1) 0 ((i : Int) - 1)).toNat, by omega⟩
  rw [hrr] at hsp hr ⊢
  rw [Int.toNat_natCast]
  have hri : r ≤ i := by omega
  intro a b hab hb
  rcases Nat.lt_trichotomy b r with h | h | h
  · rw [moveA_ahead l i r hi hri b h, moveA_ahead l i r hi hri a (by omega)]
    exact hs a b hab (by omega)
  · subst h
    rw [moveA_at l i b hi hri, moveA_ahead l i b hi hri a hab, hx]
    exact hsp.1 a (by omega)
  · rw [moveA_behind l i r hi hri b h (by omega)]
    rcases Nat.lt_trichotomy a r with g | g | g
    · rw [moveA_ahead l i r hi hri a g]
      exact hs a (b - 1) (by omega) (by omega)
    · subst g
      rw [moveA_at l i a hi hri]
      refine L_total (gd i (b - 1) hi (by omega) (by omega)) ?_
      rw [hx]
      exact hsp.2 (b - 1) (by omega) (by omega)
    · rw [moveA_behind l i r hi hri a g (by omega)]
      exact hs (a - 1) (b - 1) (by omega) (by omega)
theorem sortA_sorted : ∀ (d i : Nat) (l : List S75), i + d = l.length → SP l i → (l.map (·.f3)).Nodup → (∀ x ∈ l, x.f4.size = 0) → SP (sortA d i l) l.length ∧ (sortA d i l).Perm l
  | 0, i, l, h, hs, _, _ => by
    rw [Nat.add_zero] at h
    subst h
    exact ⟨hs, List.Perm.refl _⟩
  | d + 1, i, l, h, hs, hd, hz => by
    have hi : i < l.length := by omega
    have hr := bsA_range l (l.getD i z75) (i + 1) 0 ((i : Int) - 1) (by omega) (by omega) (by omega)
    have hp : (insA l i).Perm l := moveA_perm l i _ hi (by omega)
    have hl := insA_length l i hi
    have ih := sortA_sorted d (i + 1) (insA l i) (by omega) (ins_sorted l i hi hs hd hz) ((hp.map _).nodup_iff.2 hd) (fun x hx => hz x (hp.mem_iff.1 hx))
    rw [hl] at ih
    exact ⟨ih.1, ih.2.trans hp⟩
theorem sortS_sorted (l : List S75) (hd : (l.map (·.f3)).Nodup) (hz : ∀ x ∈ l, x.f4.size = 0) : SP (sortS l) l.length ∧ (sortS l).Perm l := by
  unfold sortS
  rcases Nat.eq_zero_or_pos l.length with h | h
  · rw [h]
    exact ⟨fun a b _ hb => by omega, List.Perm.refl _⟩
  · exact sortA_sorted _ _ l (by omega) (fun a b hab hb => by omega) hd hz
end Go.Proofs.Ytkbmababljcabaa.Srt
