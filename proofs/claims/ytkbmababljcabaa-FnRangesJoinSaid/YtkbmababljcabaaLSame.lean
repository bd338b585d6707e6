/- What 'sameTexts' tells. -/
import Derived.Test.YtkbmababljcabaaQA15
import Derived.Test.YtkbmababljcabaaBase
set_option linter.unusedVariables false
namespace Go.Proofs.Ytkbmababljcabaa.Base
open Go.RowKit Go.Proofs.Ytkbmababljcabaa.QA Go.Proofs.YtkbmababljcabaaW.PrintWords Go.Proofs.YtkbmababljcabaaW.PrintLast

theorem sameTexts_ends (a b : List ByteArray) (ha : a.length ≤ 4611686018427387904) : Ev (fun k => laws_sameTexts.f k a b) (decide (a = b)) := by
  simp only [laws_sameTexts.f]
  by_cases hl : a.length = b.length
  · have key : ∀ d i : Nat, i + d = a.length → Ev (fun k => laws_sameTexts.l0 k a b (a.length : Int) (i : Int)) (decide (a.drop i = b.drop i)) := by
      intro d
      induction d with
      | zero =>
        intro i hi
        refine Ev.step (f := fun _ => some _) (fun k => ?_) (Ev.now _)
        simp only [laws_sameTexts.l0]
        rw [if_neg (by omega), List.drop_eq_nil_of_le (by omega), List.drop_eq_nil_of_le (by omega)]
        rfl
      | succ d ih =>
        intro i hi
        have h1 : i < a.length := by omega
        have h2 : i < b.length := by omega
        have e : (a.drop i = b.drop i) ↔ (a[i] = b[i] ∧ a.drop (i + 1) = b.drop (i + 1)) := by
          rw [List.drop_eq_getElem_cons h1, List.drop_eq_getElem_cons h2]
          exact ⟨fun h => List.cons.inj h, fun ⟨x, y⟩ => by rw [x, y]⟩
        by_cases c : a[i] = b[i]
        · refine Ev.step (f := fun k => laws_sameTexts.l0 k a b (a.length : Int) ((i + 1 : Nat) : Int)) (fun k => ?_) ?_
          · simp only [laws_sameTexts.l0]
            rw [if_pos (by omega), if_pos (by omega), if_pos (by omega), if_pos (by omega), rdOf_nat _ _ _ h1, rdOf_nat _ _ _ h2, if_pos (by rw [c]), wrap_add (by omega) (by omega)]
            rfl
          · have := ih (i + 1) (by omega)
            rw [decide_eq_decide.2 (show (a.drop i = b.drop i) ↔ (a.drop (i + 1) = b.drop (i + 1)) from e.trans ⟨fun h => h.2, fun h => ⟨c, h⟩⟩)]
            exact this
        · refine Ev.step (f := fun _ => some _) (fun k => ?_) (Ev.now _)
          simp only [laws_sameTexts.l0]
          rw [if_pos (by omega), if_pos (by omega), if_pos (by omega), if_pos (by omega), rdOf_nat _ _ _ h1, rdOf_nat _ _ _ h2, if_neg (fun e => c ((toList_eq_iff _ _).1 e)), decide_eq_false (fun h => c (e.1 h).1)]
    refine Ev.if_true (by omega) ?_
    have := key a.length 0 (by omega)
    simpa using this
  · refine Ev.if_false (by omega) ?_
    rw [decide_eq_false (fun e => hl (by rw [e]))]
    exact Ev.now _
end Go.Proofs.Ytkbmababljcabaa.Base
