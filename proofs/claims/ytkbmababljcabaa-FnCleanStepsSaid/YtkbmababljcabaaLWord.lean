/- What 'word' and 'words' tell, as plain functions of texts. -/
import Derived.Test.YtkbmababljcabaaQA3
import Derived.Test.YtkbmababljcabaaBase
namespace Go.Proofs.Ytkbmababljcabaa.Base
open Go.RowKit Go.Proofs.Ytkbmababljcabaa.QA Go.Proofs.YtkbmababljcabaaW.PrintWords Go.Proofs.YtkbmababljcabaaW.PrintLast

theorem word_from (s : ByteArray) (hs : s.size ≤ 140737488351232) (d : Nat) : ∀ i : Nat, i + d = s.size → Ev (fun k => laws_word.l0 k s (s.size : Int) (i : Int)) (((ns s).drop i).all wB && !(ns s).isEmpty) := by
  induction d with
  | zero =>
    intro i hi
    refine Ev.step (f := fun _ => some (s.toList != ([] : List UInt8))) (fun k => ?_) (Ev.val ?_)
    · simp only [laws_word.l0]; rw [if_neg (by omega)]
    · rw [List.drop_eq_nil_of_le (by rw [ns_length]; omega), toList_ne_nil]; rfl
  | succ d ih =>
    intro i hi
    have hlt : i < (ns s).length := by rw [ns_length]; omega
    have hr := ns_range s ((ns s)[i]) (List.getElem_mem hlt)
    have hb : bt s (i : Int) = (ns s)[i] := by rw [bt_ns, List.getD_eq_getElem?_getD, List.getElem?_eq_getElem hlt]; rfl
    refine Ev.step (f := fun k => if wB (ns s)[i] = true then laws_word.l0 k s (s.size : Int) ((i + 1 : Nat) : Int) else some false) (fun k => ?_) ?_
    · simp only [laws_word.l0]
      rw [if_pos (by omega), if_pos (by omega), if_pos (by omega), hb, word_round _ hr.1 hr.2, wrap_add (by omega) (by omega)]
      rfl
    · rw [List.drop_eq_getElem_cons hlt, List.all_cons]
      refine Ev.ite (fun h => ?_) (fun h => Ev.val ?_)
      · rw [h, Bool.true_and]
        exact ih (i + 1) (by omega)
      · simp only [Bool.not_eq_true] at h
        rw [h]; rfl
theorem word_ends (s : ByteArray) (hs : s.size ≤ 140737488351232) : Ev (fun k => laws_word.f k s) (isWord s) := word_from s hs s.size 0 (by omega)

/-- Words, each of at most 40 bytes, at most 20. -/
def areWords (l : List ByteArray) : Bool := (l.all fun s => isWord s && decide (s.size ≤ 40)) && decide (l.length ≤ 20)
theorem words_from (l : List ByteArray) (hl : l.length ≤ 140737488351232) (hs : ∀ s ∈ l, s.size ≤ 140737488351232) (d : Nat) : ∀ i : Nat, i + d = l.length → Ev (fun k => laws_words.l0 k l l (l.length : Int) (i : Int)) (((l.drop i).all fun s => isWord s && decide (s.size ≤ 40)) && decide (l.length ≤ 20)) := by
  induction d with
  | zero =>
    intro i hi
    refine Ev.step (f := fun _ => some (decide ((l.length : Int) ≤ 20))) (fun k => ?_) (Ev.val ?_)
    · simp only [laws_words.l0]; rw [if_neg (by omega)]
    · rw [List.drop_eq_nil_of_le (by omega)]
      simp only [List.all_nil, Bool.true_and]
      exact decide_eq_decide.2 (by omega)
  | succ d ih =>
    intro i hi
    have hlt : i < l.length := by omega
    refine Ev.step (f := fun k => (laws_word.f k l[i]).bind fun t => if t = true then (if ((l[i]).size : Int) > 40 then some false else laws_words.l0 k l l (l.length : Int) ((i + 1 : Nat) : Int)) else some false) (fun k => ?_) ?_
    · simp only [laws_words.l0]
      rw [if_pos (by omega), if_pos (by omega), if_pos (by omega), rdOf_nat _ _ _ hlt, wrap_add (by omega) (by omega)]
      rfl
    · refine Ev.bind (word_ends _ (hs _ (List.getElem_mem hlt))) ?_
      rw [List.drop_eq_getElem_cons hlt, List.all_cons]
      refine Ev.ite (fun h => ?_) (fun h => Ev.val ?_)
      · refine Ev.ite (fun g => Ev.val ?_) (fun g => ?_)
        · rw [decide_eq_false (by omega)]; simp
        · rw [h, decide_eq_true (by omega), Bool.true_and, Bool.true_and]
          exact ih (i + 1) (by omega)
      · simp only [Bool.not_eq_true] at h
        rw [h]; rfl
theorem words_ends (l : List ByteArray) (hl : l.length ≤ 140737488351232) (hs : ∀ s ∈ l, s.size ≤ 140737488351232) : Ev (fun k => laws_words.f k l) (areWords l) := words_from l hl hs l.length 0 (by omega)
theorem areWords_mem {l : List ByteArray} (h : areWords l = true) : l.length ≤ 20 ∧ ∀ s ∈ l, isWord s = true ∧ s.size ≤ 40 := by
  unfold areWords at h
  simp only [Bool.and_eq_true, decide_eq_true_eq, List.all_eq_true] at h
  exact ⟨h.2, h.1⟩
end Go.Proofs.Ytkbmababljcabaa.Base
