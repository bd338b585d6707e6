/- What 'zzFits6' tells of a list of texts. -/
import Derived.Test.YtkbmababljcabaaQA1
import Derived.Test.YtkbmababljcabaaBase
namespace Go.Proofs.Ytkbmababljcabaa.Base
open Go.RowKit Go.Proofs.Ytkbmababljcabaa.QA Go.Proofs.YtkbmababljcabaaW.PrintWords Go.Proofs.YtkbmababljcabaaW.PrintLast

def fits6 (l : List ByteArray) : Bool := decide (l.length ≤ 2147483647) && l.all fun s => decide (s.size ≤ 2147483647)
theorem fits6_from (l : List ByteArray) (hl : l.length ≤ 2147483647) (d : Nat) : ∀ i : Nat, i + d = l.length → Ev (fun k => laws_zzFits6.l0 k l (l.length : Int) (i : Int)) ((l.drop i).all fun s => decide (s.size ≤ 2147483647)) := by
  induction d with
  | zero =>
    intro i hi
    refine Ev.step (f := fun _ => some true) (fun k => ?_) (Ev.val ?_)
    · simp only [laws_zzFits6.l0]; rw [if_neg (by omega)]
    · rw [List.drop_eq_nil_of_le (by omega)]; rfl
  | succ d ih =>
    intro i hi
    have hlt : i < l.length := by omega
    refine Ev.step (f := fun k => if ((l[i]).size : Int) > 2147483647 then some false else laws_zzFits6.l0 k l (l.length : Int) ((i + 1 : Nat) : Int)) (fun k => ?_) ?_
    · simp only [laws_zzFits6.l0]
      rw [if_pos (by omega), if_pos (by omega), if_pos (by omega), rdOf_nat _ _ _ hlt, wrap_add (by omega) (by omega)]
      rfl
    · rw [List.drop_eq_getElem_cons hlt, List.all_cons]
      refine Ev.ite (fun g => Ev.val ?_) (fun g => ?_)
      · rw [decide_eq_false (by omega)]; simp
      · rw [decide_eq_true (by omega), Bool.true_and]
        exact ih (i + 1) (by omega)
theorem fits6_ends (l : List ByteArray) : Ev (fun k => laws_zzFits6.f k l) (fits6 l) := by
  simp only [laws_zzFits6.f]
  unfold fits6
  refine Ev.ite (fun h => Ev.val ?_) (fun h => ?_)
  · rw [decide_eq_false (by omega)]; rfl
  · rw [decide_eq_true (by omega), Bool.true_and]
    exact fits6_from l (by omega) l.length 0 (by omega)
theorem fits6_mem {l : List ByteArray} (h : fits6 l = true) : l.length ≤ 2147483647 ∧ ∀ s ∈ l, s.size ≤ 2147483647 := by
  unfold fits6 at h
  simp only [Bool.and_eq_true, decide_eq_true_eq, List.all_eq_true] at h
  exact h
end Go.Proofs.Ytkbmababljcabaa.Base
