/- impl.SortAccepted tells the sorted list; 'zzFits7' tells something. -/
import Derived.Test.YtkbmababljcabaaQA5
import Derived.Test.YtkbmababljcabaaQA3
import Derived.Test.YtkbmababljcabaaBase
import Derived.Test.YtkbmababljcabaaSortQ
set_option linter.unusedVariables false
namespace Go.Proofs.Ytkbmababljcabaa.Base
open Go.RowKit Go.Proofs.Ytkbmababljcabaa.QA Go.Proofs.YtkbmababljcabaaW.PrintWords Go.Proofs.YtkbmababljcabaaW.PrintLast Go.Proofs.Ytkbmababljcabaa.Given Go.Proofs.Ytkbmababljcabaa.Srt

theorem fits7_from (l : List S26) (hl : l.length ≤ 2147483647) (d : Nat) : ∀ i : Nat, i + d = l.length → ∃ b, Ev (fun k => laws_zzFits7.l0 k l (l.length : Int) (i : Int)) b := by
  induction d with
  | zero =>
    intro i hi
    exact ⟨true, Ev.step (f := fun _ => some true) (fun k => by simp only [laws_zzFits7.l0]; rw [if_neg (by omega)]) (Ev.now _)⟩
  | succ d ih =>
    intro i hi
    obtain ⟨b, hb⟩ := ih (i + 1) (by omega)
    obtain ⟨c, hc⟩ : ∃ c, laws_zzFits8.f ((rd_T26 l i).f0) ((rd_T26 l i).f1) ((rd_T26 l i).f2) ((rd_T26 l i).f3) ((rd_T26 l i).f4) = some c := by
      unfold laws_zzFits8.f
      split
      · exact ⟨_, rfl⟩
      · split
        · exact ⟨_, rfl⟩
        · exact ⟨_, rfl⟩
    refine ⟨if c = true then b else false, Ev.step (f := fun k => (some c).bind fun t => if t = true then laws_zzFits7.l0 k l (l.length : Int) ((i + 1 : Nat) : Int) else some false) (fun k => ?_) ?_⟩
    · simp only [laws_zzFits7.l0]
      rw [if_pos (by omega), if_pos (by omega), if_pos (by omega), hc, wrap_add (by omega) (by omega)]
      rfl
    · refine Ev.call (a := c) rfl ?_
      cases c
      · exact Ev.if_false (by simp) (Ev.now _)
      · exact Ev.if_true rfl hb
theorem fits7_ends (l : List S26) : ∃ b, Ev (fun k => laws_zzFits7.f k l) b := by
  by_cases h : (l.length : Int) > 2147483647
  · exact ⟨false, by simp only [laws_zzFits7.f]; exact Ev.if_true h (Ev.now _)⟩
  · obtain ⟨b, hb⟩ := fits7_from l (by omega) l.length 0 (by omega)
    exact ⟨b, by simp only [laws_zzFits7.f]; exact Ev.if_false h hb⟩
def to75 (x : S26) : S75 := ⟨x.f0, x.f1, x.f2, x.f3, x.f4⟩
def to26 (x : S75) : S26 := ⟨x.f0, x.f1, x.f2, x.f3, x.f4⟩
theorem to_to (x : S26) : to26 (to75 x) = x := rfl
theorem in_from (l : List S26) (hl : l.length ≤ 1000000) (r : List S26) (hr : Ev (fun k => (fiberhelpers_ZzSort.f (l.map to75)).bind fun t => impl_SortAccepted.l1 k ([] : List S26) t (t.length : Int) 0) r) (d : Nat) : ∀ i : Nat, i + d = l.length → Ev (fun k => impl_SortAccepted.l0 k ((l.take i).map to75) l (l.length : Int) (i : Int)) r := by
  induction d with
  | zero =>
    intro i hi
    refine Ev.step (f := fun k => (fiberhelpers_ZzSort.f (l.map to75)).bind fun t => impl_SortAccepted.l1 k ([] : List S26) t (t.length : Int) 0) (fun k => ?_) hr
    simp only [impl_SortAccepted.l0]
    rw [if_neg (by omega), List.take_of_length_le (by omega)]
  | succ d ih =>
    intro i hi
    have hlt : i < l.length := by omega
    refine Ev.step (f := fun k => impl_SortAccepted.l0 k ((l.take (i + 1)).map to75) l (l.length : Int) ((i + 1 : Nat) : Int)) (fun k => ?_) (ih (i + 1) (by omega))
    simp only [impl_SortAccepted.l0]
    rw [if_pos (by omega), if_pos (by omega), if_pos (by omega), if_pos (by rw [List.length_map, List.length_take]; omega), wrap_add (by omega) (by omega), List.take_succ_eq_append_getElem hlt, List.map_append]
    have e : rd_T26 l (i : Int) = l[i] := by unfold rd_T26; rw [Int.toNat_natCast, List.getD_eq_getElem?_getD, List.getElem?_eq_getElem hlt]; rfl
    rw [e]
    rfl
theorem out_from (t : List S75) (hl : t.length ≤ 1000000) (d : Nat) : ∀ i : Nat, i + d = t.length → Ev (fun k => impl_SortAccepted.l1 k ((t.take i).map to26) t (t.length : Int) (i : Int)) (t.map to26) := by
  induction d with
  | zero =>
    intro i hi
    refine Ev.step (f := fun _ => some (t.map to26)) (fun k => ?_) (Ev.now _)
    simp only [impl_SortAccepted.l1]
    rw [if_neg (by omega), List.take_of_length_le (by omega)]
  | succ d ih =>
    intro i hi
    have hlt : i < t.length := by omega
    refine Ev.step (f := fun k => impl_SortAccepted.l1 k ((t.take (i + 1)).map to26) t (t.length : Int) ((i + 1 : Nat) : Int)) (fun k => ?_) (ih (i + 1) (by omega))
    simp only [impl_SortAccepted.l1]
    rw [if_pos (by omega), if_pos (by omega), if_pos (by omega), if_pos (by rw [List.length_map, List.length_take]; omega), wrap_add (by omega) (by omega), List.take_succ_eq_append_getElem hlt, List.map_append]
    have e : rd_T75 t (i : Int) = t[i] := by unfold rd_T75; rw [Int.toNat_natCast, List.getD_eq_getElem?_getD, List.getElem?_eq_getElem hlt]; rfl
    rw [e]
    rfl
/-- What impl.SortAccepted tells of qualities from 0 to 1000. -/
def sorted26 (l : List S26) : List S26 := (sortS (l.map to75)).map to26
theorem sort_ends (l : List S26) (hl : l.length ≤ 1000000) (hq : ∀ x ∈ l, 0 ≤ x.f1 ∧ x.f1 ≤ 1000) : Ev (fun k => impl_SortAccepted.f k l) (sorted26 l) := by
  simp only [impl_SortAccepted.f]
  refine in_from l hl _ ?_ l.length 0 (by omega)
  have hz : fiberhelpers_ZzSort.f (l.map to75) = some (sortS (l.map to75)) := if_pos ⟨by rw [List.length_map]; exact hl, by
    rw [List.all_eq_true]
    intro y hy
    obtain ⟨x, hx, rfl⟩ := List.mem_map.1 hy
    have := hq x hx
    simp only [Bool.and_eq_true, decide_eq_true_eq]
    exact this⟩
  refine Ev.call hz ?_
  exact out_from _ (by rw [sortS_length, List.length_map]; exact hl) (sortS (l.map to75)).length 0 (by omega)
end Go.Proofs.Ytkbmababljcabaa.Base
