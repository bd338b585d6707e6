/- The law FnSortedAll answers true at every list: accepted types are sorted by quality, then specificity; of equal ones by the order in which they came; each stays once. No condition beyond the row's own. -/
import Derived.Test.YtkbmababljcabaaQA8
import Derived.Test.YtkbmababljcabaaLSort7
import Derived.Test.YtkbmababljcabaaLShort
set_option linter.unusedVariables false
namespace Go.Proofs.Ytkbmababljcabaa.Pure
open Go.RowKit Go.Proofs.Ytkbmababljcabaa.QA Go.Proofs.YtkbmababljcabaaW.PrintWords Go.Proofs.YtkbmababljcabaaW.PrintLast Go.Proofs.Ytkbmababljcabaa.Base Go.Proofs.Ytkbmababljcabaa.Given Go.Proofs.Ytkbmababljcabaa.Srt

def one26 (l : List S26) (j : Nat) : S26 := ⟨(l.getD j z26).f0, (l.getD j z26).f1, (l.getD j z26).f2, (j : Int) + 1, (⟨#[]⟩ : ByteArray)⟩
/-- The list with orders from 1 on, without parameters: its first i. -/
def ordT (l : List S26) (i : Nat) : List S26 := (List.range i).map (one26 l)
theorem ordT_length (l : List S26) (i : Nat) : (ordT l i).length = i := by simp [ordT]
theorem ordT_succ (l : List S26) (i : Nat) : ordT l (i + 1) = ordT l i ++ [one26 l i] := by simp [ordT, List.range_succ]
theorem ordT_at (l : List S26) (n j : Nat) (h : j < n) : (ordT l n).getD j z26 = one26 l j := by
  rw [List.getD_eq_getElem?_getD, ordT, List.getElem?_map, List.getElem?_range h]; rfl
theorem rd26 (l : List S26) (i : Nat) : rd_T26 l (i : Int) = l.getD i z26 := rfl
theorem ahead_is (a0 : ByteArray) (a1 a2 a3 : Int) (a4 : ByteArray) (b0 : ByteArray) (b1 b2 b3 : Int) (b4 : ByteArray) : laws_ahead.f a0 a1 a2 a3 a4 b0 b1 b2 b3 b4 = some (decide (a1 > b1 ∨ (a1 = b1 ∧ a2 > b2))) := by
  unfold laws_ahead.f
  split
  · rename_i h; rw [decide_eq_true (Or.inl h)]
  · rename_i h
    split
    · rename_i g
      congr 1
      exact decide_eq_decide.2 ⟨fun k => Or.inr ⟨g, k⟩, fun k => k.elim (fun x => absurd x h) (·.2)⟩
    · rename_i g
      rw [decide_eq_false (fun k => k.elim h (fun x => g x.1))]
theorem nodup_ord (l : List S26) (n : Nat) : (((ordT l n).map to75).map (·.f3)).Nodup := by
  have e : ((ordT l n).map to75).map (·.f3) = (List.range n).map fun j : Nat => (j : Int) + 1 := by
    simp only [ordT, List.map_map]
    rfl
  rw [e]
  unfold List.Nodup
  rw [List.pairwise_map]
  exact List.Pairwise.imp (fun h => by omega) (List.nodup_range (n := n))
/-- An element of the sorted list is the one at its order. -/
theorem sorted_at (l : List S26) (n i : Nat) (hi : i < n) : ∃ j, j < n ∧ (sorted26 (ordT l n)).getD i z26 = one26 l j := by
  have hl : (sortS ((ordT l n).map to75)).length = n := by rw [sortS_length, List.length_map, ordT_length]
  have hz : ∀ x ∈ (ordT l n).map to75, x.f4.size = 0 := by
    intro x hx
    obtain ⟨y, hy, rfl⟩ := List.mem_map.1 hx
    obtain ⟨j, _, rfl⟩ := List.mem_map.1 hy
    rfl
  have hp := (sortS_sorted _ (nodup_ord l n) hz).2
  have hm : (sortS ((ordT l n).map to75))[i]'(by omega) ∈ (ordT l n).map to75 := hp.mem_iff.1 (List.getElem_mem _)
  obtain ⟨y, hy, e⟩ := List.mem_map.1 hm
  obtain ⟨j, hj, rfl⟩ := List.mem_map.1 hy
  refine ⟨j, List.mem_range.1 hj, ?_⟩
  unfold sorted26
  rw [List.getD_eq_getElem?_getD, List.getElem?_map, List.getElem?_eq_getElem (by omega), ← e]
  rfl
theorem sorted_next (l : List S26) (n i : Nat) (hi : i + 1 < n) :
    L (to75 ((sorted26 (ordT l n)).getD (i + 1) z26)) (to75 ((sorted26 (ordT l n)).getD i z26)) := by
  have hl : (sortS ((ordT l n).map to75)).length = n := by rw [sortS_length, List.length_map, ordT_length]
  have hz : ∀ x ∈ (ordT l n).map to75, x.f4.size = 0 := by
    intro x hx
    obtain ⟨y, hy, rfl⟩ := List.mem_map.1 hx
    obtain ⟨j, _, rfl⟩ := List.mem_map.1 hy
    rfl
  have hs := (sortS_sorted _ (nodup_ord l n) hz).1 i (i + 1) (by omega) (by rw [List.length_map, ordT_length]; exact hi)
  have e : ∀ k, k < n → to75 ((sorted26 (ordT l n)).getD k z26) = (sortS ((ordT l n).map to75)).getD k z75 := fun k hk => by
    unfold sorted26
    rw [List.getD_eq_getElem?_getD, List.getD_eq_getElem?_getD, List.getElem?_map, List.getElem?_eq_getElem (by omega)]
    rfl
  rw [e (i + 1) hi, e i (by omega)]
  exact hs
theorem law_l1 (l : List S26) (n : Nat) (hn : n ≤ 30) (d : Nat) : ∀ i : Nat, i + d = n → Ev (fun k => laws_FnSortedAll.l1 k (ordT l n) (sorted26 (ordT l n)) (sorted26 (ordT l n)) ((sorted26 (ordT l n)).length : Int) (i : Int)) true := by
  have hl : (sorted26 (ordT l n)).length = n := by unfold sorted26; rw [List.length_map, sortS_length, List.length_map, ordT_length]
  induction d with
  | zero =>
    intro i hi
    refine Ev.step (f := fun _ => some true) (fun k => ?_) (Ev.now _)
    simp only [laws_FnSortedAll.l1]
    rw [if_neg (by omega)]
  | succ d ih =>
    intro i hi
    have ih1 := ih (i + 1) (by omega)
    obtain ⟨j, hj, hx⟩ := sorted_at l n i (by omega)
    have hnx : 1 ≤ i → ∃ p, p < n ∧ (sorted26 (ordT l n)).getD (i - 1) z26 = one26 l p ∧ L (to75 (one26 l j)) (to75 (one26 l p)) := fun h1 => by
      obtain ⟨p, hp, hy⟩ := sorted_at l n (i - 1) (by omega)
      have := sorted_next l n (i - 1) (by omega)
      rw [show i - 1 + 1 = i by omega, hx, hy] at this
      exact ⟨p, hp, hy, this⟩
    generalize hT : sorted26 (ordT l n) = T at hl hx hnx ih1 ⊢
    have f3 : (one26 l j).f3 = (j : Int) + 1 := rfl
    have hw : wrap64 ((one26 l j).f3 - 1) = (j : Int) := by rw [f3, wrap_sub (by omega) (by omega)]; omega
    refine Ev.step (f := fun k => laws_FnSortedAll.j3 k (ordT l n) T (i : Int) T (T.length : Int) (i : Int) false (one26 l j).f0 (one26 l j).f1 (one26 l j).f2 (one26 l j).f3 (one26 l j).f4) (fun k => ?_) ?_
    · simp only [laws_FnSortedAll.l1, rd26, hx]
      rw [if_pos (by omega), if_pos (by omega), if_pos (by omega), if_neg (by rw [f3]; omega), if_neg (by rw [f3, ordT_length]; omega), hw, if_pos (by omega), if_pos (by rw [ordT_length]; omega)]
      simp only [rd26, ordT_at l n j hj, beq_self_eq_true, Bool.not_true, Bool.or_self]
    · by_cases h1 : 1 ≤ i
      · obtain ⟨p, hp, hy, hL⟩ := hnx h1
        have hwi : wrap64 ((i : Int) - 1) = ((i - 1 : Nat) : Int) := by rw [wrap_sub (by omega) (by omega)]; omega
        have hf3 : (one26 l p).f3 = (p : Int) + 1 := rfl
        have hL' : (one26 l j).f1 < (one26 l p).f1 ∨ ((one26 l j).f1 = (one26 l p).f1 ∧ ((one26 l j).f2 < (one26 l p).f2 ∨ ((one26 l j).f2 = (one26 l p).f2 ∧ (one26 l j).f3 > (one26 l p).f3))) := hL
        refine Ev.step (f := fun k => laws_FnSortedAll.l1 k (ordT l n) T T (T.length : Int) ((i + 1 : Nat) : Int)) (fun k => ?_) ih1
        simp only [laws_FnSortedAll.j3, Bool.false_eq_true, if_false]
        rw [if_pos (by omega), hwi, if_pos (by omega), if_pos (by omega)]
        simp only [rd26, hy, ahead_is, Option.bind_some]
        rw [if_neg (by rw [decide_eq_true_eq]; omega), wrap_add (by omega) (by omega)]
        by_cases ha : (one26 l p).f1 > (one26 l j).f1 ∨ ((one26 l p).f1 = (one26 l j).f1 ∧ (one26 l p).f2 > (one26 l j).f2)
        · rw [if_pos (decide_eq_true ha)]; rfl
        · rw [if_neg (by rw [decide_eq_true_eq]; exact ha), if_neg (by omega)]; rfl
      · refine Ev.step (f := fun k => laws_FnSortedAll.l1 k (ordT l n) T T (T.length : Int) ((i + 1 : Nat) : Int)) (fun k => ?_) ih1
        simp only [laws_FnSortedAll.j3, Bool.false_eq_true, if_false]
        rw [if_neg (by omega), wrap_add (by omega) (by omega)]
        rfl
theorem law_l0 (l : List S26) (hn : l.length ≤ 30) (d : Nat) : ∀ i : Nat, i + d = l.length → (∀ j, j < i → 0 ≤ (l.getD j z26).f1 ∧ (l.getD j z26).f1 ≤ 1000) → Ev (fun k => laws_FnSortedAll.l0 k (ordT l i) l (l.length : Int) (i : Int)) true := by
  induction d with
  | zero =>
    intro i hi hq
    have hil : i = l.length := by omega
    subst hil
    refine Ev.step (f := fun k => (impl_SortAccepted.f k (ordT l l.length)).bind fun t => if (t.length : Int) = ((ordT l l.length).length : Int) then laws_FnSortedAll.l1 k (ordT l l.length) t t (t.length : Int) 0 else some false) (fun k => ?_) ?_
    · simp only [laws_FnSortedAll.l0]
      rw [if_neg (by omega)]
    · refine Ev.bind (sort_ends _ (by rw [ordT_length]; omega) (fun x hx => ?_)) (Ev.if_true ?_ (law_l1 l l.length hn l.length 0 (by omega)))
      · obtain ⟨j, hj, rfl⟩ := List.mem_map.1 hx
        exact hq j (List.mem_range.1 hj)
      · unfold sorted26; rw [List.length_map, sortS_length, List.length_map]
  | succ d ih =>
    intro i hi hq
    have hlt : i < l.length := by omega
    refine Ev.step (f := fun k => if (l.getD i z26).f1 < 0 then some true else if (l.getD i z26).f1 > 1000 then some true else if (l.getD i z26).f2 < 0 then some true else if (l.getD i z26).f2 > 4 then some true else (laws_short.f k [(l.getD i z26).f0]).bind fun t => if t = true then laws_FnSortedAll.l0 k (ordT l (i + 1)) l (l.length : Int) ((i + 1 : Nat) : Int) else some true) (fun k => ?_) ?_
    · simp only [laws_FnSortedAll.l0, rd26]
      rw [if_pos (by omega), if_pos (by omega), if_pos (by omega)]
      have hx : (ordT l i).length < 2513169434916 := by rw [ordT_length]; omega
      simp only [if_pos hx, wrap_add (i := (i : Int)) (by omega) (by omega), ordT_succ]
      rfl
    · refine Ev.ite (fun _ => Ev.now _) (fun g1 => Ev.ite (fun _ => Ev.now _) (fun g2 => Ev.ite (fun _ => Ev.now _) (fun _ => Ev.ite (fun _ => Ev.now _) (fun _ => ?_))))
      refine Ev.bind (short_ends _ (by simp)) (Ev.ite (fun _ => ?_) (fun _ => Ev.now _))
      refine ih (i + 1) (by omega) (fun j hj => ?_)
      rcases Nat.lt_or_ge j i with h | h
      · exact hq j h
      · have : j = i := by omega
        subst this
        omega
theorem FnSortedAll : laws_FnSortedAll.Pure := by
  intro l hl
  refine Ev.rounds ?_
  unfold laws_FnSortedAll.f
  obtain ⟨b, hb⟩ := fits7_ends l
  refine Ev.bind hb (Ev.ite (fun _ => ?_) (fun _ => Ev.now _))
  have s0 := sort_ends [(⟨(⟨#[97]⟩ : ByteArray), 1, 0, 1, (⟨#[]⟩ : ByteArray)⟩ : S26), (⟨(⟨#[98]⟩ : ByteArray), 2, 0, 2, (⟨#[]⟩ : ByteArray)⟩ : S26)] (by decide) (by
    intro x hx
    simp only [List.mem_cons, List.not_mem_nil, or_false] at hx
    rcases hx with rfl | rfl <;> decide)
  have e0 : sorted26 [(⟨(⟨#[97]⟩ : ByteArray), 1, 0, 1, (⟨#[]⟩ : ByteArray)⟩ : S26), (⟨(⟨#[98]⟩ : ByteArray), 2, 0, 2, (⟨#[]⟩ : ByteArray)⟩ : S26)] = [(⟨(⟨#[98]⟩ : ByteArray), 2, 0, 2, (⟨#[]⟩ : ByteArray)⟩ : S26), (⟨(⟨#[97]⟩ : ByteArray), 1, 0, 1, (⟨#[]⟩ : ByteArray)⟩ : S26)] := by rfl
  rw [e0] at s0
  refine Ev.bind s0 (Ev.if_true (by decide) (Ev.if_true (by decide) ?_))
  refine Ev.step (f := fun k => if (l.length : Int) > 30 then some true else laws_FnSortedAll.l0 k ([] : List S26) l (l.length : Int) 0) (fun k => ?_) ?_
  · simp only [laws_FnSortedAll.j0]
    rw [if_neg (by rw [show (rd_T26 [(⟨(⟨#[98]⟩ : ByteArray), 2, 0, 2, (⟨#[]⟩ : ByteArray)⟩ : S26), (⟨(⟨#[97]⟩ : ByteArray), 1, 0, 1, (⟨#[]⟩ : ByteArray)⟩ : S26)] 0).f0 = (⟨#[98]⟩ : ByteArray) from rfl, Lib.toList_data]; decide)]
  · refine Ev.ite (fun _ => Ev.now _) (fun h => ?_)
    exact law_l0 l (by omega) l.length 0 (by omega) (fun j hj => by omega)
end Go.Proofs.Ytkbmababljcabaa.Pure
