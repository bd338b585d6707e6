/- Texts of this claim, one behind the other (merged by wip/prune.py of this repo, without what the proof does not use): LShort. -/
import Derived.Test.YtgmjaggkiifdjaaDoorZT2
import Derived.Test.YtgmjaggkiifdjaaDoorZT3
set_option linter.unusedVariables false
set_option linter.unusedSimpArgs false
namespace Go.Proofs.YtgmjaggkiifdjaaDoor.Base
open Go.RowKit Go.Proofs.YtgmjaggkiifdjaaDoor.QA Go.Proofs.YtgmjaggkiifdjaaDoorW.PrintWords
def areShort (l : List ByteArray) : Bool := (l.all fun s => decide (s.size ≤ 200)) && decide (l.length ≤ 60)
theorem short_from (l : List ByteArray) (hl : l.length ≤ 140737488351232) (d : Nat) : ∀ i : Nat, i + d = l.length → Ev (fun k => laws_short.l0 k l l (l.length : Int) (i : Int)) (((l.drop i).all fun s => decide (s.size ≤ 200)) && decide (l.length ≤ 60)) := by
  induction d with
  | zero =>
    intro i hi
    refine Ev.step (f := fun _ => some (decide ((l.length : Int) ≤ 60))) (fun k => ?_) (Ev.val ?_)
    · simp only [laws_short.l0]; rw [if_neg (by omega)]
    · rw [List.drop_eq_nil_of_le (by omega)]
      simp only [List.all_nil, Bool.true_and]
      exact decide_eq_decide.2 (by omega)
  | succ d ih =>
    intro i hi
    have hlt : i < l.length := by omega
    refine Ev.step (f := fun k => if ((l[i]).size : Int) > 200 then some false else laws_short.l0 k l l (l.length : Int) ((i + 1 : Nat) : Int)) (fun k => ?_) ?_
    · simp only [laws_short.l0]
      rw [if_pos (by omega), if_pos (by omega), if_pos (by omega), rdOf_nat _ _ _ hlt, wrap_add (by omega) (by omega)]
      rfl
    · rw [List.drop_eq_getElem_cons hlt, List.all_cons]
      refine Ev.ite (fun g => Ev.val ?_) (fun g => ?_)
      · rw [decide_eq_false (by omega)]; simp
      · rw [decide_eq_true (by omega), Bool.true_and]
        exact ih (i + 1) (by omega)
theorem short_ends (l : List ByteArray) (hl : l.length ≤ 140737488351232) : Ev (fun k => laws_short.f k l) (areShort l) := short_from l hl l.length 0 (by omega)
end Go.Proofs.YtgmjaggkiifdjaaDoor.Base
