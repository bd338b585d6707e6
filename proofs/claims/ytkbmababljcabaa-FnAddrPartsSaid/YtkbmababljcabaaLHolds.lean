/- What 'holds' tells: whether a text has a byte. -/
import Derived.Test.YtkbmababljcabaaQA8
import Derived.Test.YtkbmababljcabaaBase
namespace Go.Proofs.Ytkbmababljcabaa.Base
open Go.RowKit Go.Proofs.Ytkbmababljcabaa.QA Go.Proofs.YtkbmababljcabaaW.PrintWords Go.Proofs.YtkbmababljcabaaW.PrintLast

theorem holds_from (s : ByteArray) (c : Int) (hs : s.size ≤ 140737488351232) (d : Nat) : ∀ i : Nat, i + d = s.size → Ev (fun k => laws_holds.l0 k s c (s.size : Int) (i : Int)) (((ns s).drop i).any fun x => decide (x = c)) := by
  induction d with
  | zero =>
    intro i hi
    refine Ev.step (f := fun _ => some false) (fun k => ?_) (Ev.val ?_)
    · simp only [laws_holds.l0]; rw [if_neg (by omega)]
    · rw [List.drop_eq_nil_of_le (by rw [ns_length]; omega)]; rfl
  | succ d ih =>
    intro i hi
    have hlt : i < (ns s).length := by rw [ns_length]; omega
    have hb : bt s (i : Int) = (ns s)[i] := by rw [bt_ns, List.getD_eq_getElem?_getD, List.getElem?_eq_getElem hlt]; rfl
    refine Ev.step (f := fun k => if (ns s)[i] = c then some true else laws_holds.l0 k s c (s.size : Int) ((i + 1 : Nat) : Int)) (fun k => ?_) ?_
    · simp only [laws_holds.l0]
      rw [if_pos (by omega), if_pos (by omega), if_pos (by omega), hb, wrap_add (by omega) (by omega)]
      rfl
    · rw [List.drop_eq_getElem_cons hlt, List.any_cons]
      refine Ev.ite (fun h => Ev.val ?_) (fun h => ?_)
      · simp [h]
      · simp only [h, decide_false, Bool.false_or]
        exact ih (i + 1) (by omega)
theorem holds_ends (s : ByteArray) (c : Int) (hs : s.size ≤ 140737488351232) : Ev (fun k => laws_holds.f k s c) ((ns s).any fun x => decide (x = c)) := holds_from s c hs s.size 0 (by omega)
end Go.Proofs.Ytkbmababljcabaa.Base
