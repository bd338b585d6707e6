/- What 'word' tells, as a plain function of texts. -/
import Derived.Test.YtjnnadpecendpaaQA3
import Derived.Test.YtjnnadpecendpaaBase
namespace Go.Proofs.Ytjnnadpecendpaa.Base
open Go.RowKit Go.Proofs.Ytjnnadpecendpaa.QA Go.Proofs.YtjnnadpecendpaaW.PrintWords Go.Proofs.YtjnnadpecendpaaW.PrintLast

theorem word_from (s : ByteArray) (hs : s.size ≤ 140737488351232) (d : Nat) : ∀ i : Nat, i + d = s.size → Ev (fun k => laws_word.l0 k s (s.size : Int) (i : Int)) (((ns s).drop i).all wB && !(ns s).isEmpty) := by
  induction d with
  | zero =>
    intro i hi
    refine Ev.step (f := fun _ => some (s.toList != ([] : List UInt8))) (fun k => ?_) (Ev.val ?_)
    · simp only [laws_word.l0]; rw [if_neg (by omega)]
    · rw [List.drop_eq_nil_of_le (by rw [ns_length]; omega), toList_ne_nil]; rfl
  | succ d ih =>
    intro i hi
    have hlt : i < (ns s).length := by rw [ns_length]; omega
    have hr := ns_range s ((ns s)[i]) (List.getElem_mem hlt)
    have hb : bt s (i : Int) = (ns s)[i] := by rw [bt_ns, List.getD_eq_getElem?_getD, List.getElem?_eq_getElem hlt]; rfl
    refine Ev.step (f := fun k => if wB (ns s)[i] = true then laws_word.l0 k s (s.size : Int) ((i + 1 : Nat) : Int) else some false) (fun k => ?_) ?_
    · simp only [laws_word.l0]
      rw [if_pos (by omega), if_pos (by omega), if_pos (by omega), hb, word_round _ hr.1 hr.2, wrap_add (by omega) (by omega)]
      rfl
    · rw [List.drop_eq_getElem_cons hlt, List.all_cons]
      refine Ev.ite (fun h => ?_) (fun h => Ev.val ?_)
      · rw [h, Bool.true_and]
        exact ih (i + 1) (by omega)
      · simp only [Bool.not_eq_true] at h
        rw [h]; rfl
theorem word_ends (s : ByteArray) (hs : s.size ≤ 140737488351232) : Ev (fun k => laws_word.f k s) (isWord s) := word_from s hs s.size 0 (by omega)

end Go.Proofs.Ytjnnadpecendpaa.Base
