/- What 'name' tells: a key that a head treats as any other. -/
import Derived.Test.YtjnnadpecendpaaQA8
import Derived.Test.YtjnnadpecendpaaLWordOne
namespace Go.Proofs.Ytjnnadpecendpaa.Base
open Go.RowKit Go.Proofs.Ytjnnadpecendpaa.QA Go.Proofs.YtjnnadpecendpaaW.PrintWords Go.Proofs.YtjnnadpecendpaaW.PrintLast

/-- Letters, digits, a hyphen. -/
def nB (x : Int) : Bool := decide (x = 45) || wB x
def isName (s : ByteArray) : Bool := decide (2 ≤ s.size) && decide (Go.bits .or .u8 (bt s 0) 32 = 120) && decide (s.size ≤ 60) && (ns s).all nB
theorem ns_one (s : ByteArray) (i : Nat) (h : i < s.size) : isWord (s.extract i (i + 1)) = wB (bt s (i : Int)) := by
  have hlt : i < (ns s).length := by rw [ns_length]; exact h
  have e : ns (s.extract i (i + 1)) = [(ns s)[i]] := by
    rw [ns_extract, List.drop_eq_getElem_cons hlt]
    have : i + 1 - i = 1 := by omega
    rw [this]; rfl
  unfold isWord
  rw [e, bt_ns, List.getD_eq_getElem?_getD, List.getElem?_eq_getElem hlt]
  simp
theorem name_from (s : ByteArray) (hs : s.size ≤ 140737488351232) (d : Nat) : ∀ i : Nat, i + d = s.size → Ev (fun k => laws_name.l0 k s (s.size : Int) (i : Int)) (((ns s).drop i).all nB) := by
  induction d with
  | zero =>
    intro i hi
    refine Ev.step (f := fun _ => some true) (fun k => ?_) (Ev.val ?_)
    · simp only [laws_name.l0]; rw [if_neg (by omega)]
    · rw [List.drop_eq_nil_of_le (by rw [ns_length]; omega)]; rfl
  | succ d ih =>
    intro i hi
    have hlt : i < (ns s).length := by rw [ns_length]; omega
    have hb : bt s (i : Int) = (ns s)[i] := by rw [bt_ns, List.getD_eq_getElem?_getD, List.getElem?_eq_getElem hlt]; rfl
    have hone := ns_one s i (by omega)
    have hsz : (s.extract i (i + 1)).size ≤ 140737488351232 := by rw [← ns_length, ns_extract]; simp; omega
    refine Ev.step (f := fun k => if bt s (i : Int) = 45 then laws_name.l0 k s (s.size : Int) ((i + 1 : Nat) : Int) else (laws_word.f k (s.extract i (i + 1))).bind fun t => if t = true then laws_name.l0 k s (s.size : Int) ((i + 1 : Nat) : Int) else some false) (fun k => ?_) ?_
    · simp only [laws_name.l0]
      rw [wrap_add (by omega) (by omega), if_pos (by omega), if_pos (by omega), if_pos (by omega)]
      by_cases h45 : bt s (i : Int) = 45
      · rw [if_pos h45, if_pos h45]; rfl
      · have e1 : ((i : Int)).toNat = i := by omega
        have e2 : ((i : Int) + 1).toNat = i + 1 := by omega
        rw [if_neg h45, if_neg h45, if_pos (by omega), if_pos (by omega), e1, e2]; rfl
    · rw [List.drop_eq_getElem_cons hlt, List.all_cons, ← hb]
      refine Ev.ite (fun h => ?_) (fun h => Ev.bind (word_ends _ hsz) ?_)
      · have : nB (bt s (i : Int)) = true := by rw [h]; rfl
        rw [this, Bool.true_and]
        exact ih (i + 1) (by omega)
      · rw [hone]
        have hn : nB (bt s (i : Int)) = wB (bt s (i : Int)) := by unfold nB; rw [decide_eq_false h, Bool.false_or]
        rw [hn]
        refine Ev.ite (fun g => ?_) (fun g => Ev.val ?_)
        · rw [g, Bool.true_and]
          exact ih (i + 1) (by omega)
        · simp only [Bool.not_eq_true] at g
          rw [g]; rfl
theorem name_ends (s : ByteArray) (hs : s.size ≤ 140737488351232) : Ev (fun k => laws_name.f k s) (isName s) := by
  simp only [laws_name.f]
  have s1 : Ev (fun k => laws_name.j0 k s true) false := Ev.step (f := fun _ => some false) (fun k => rfl) (Ev.now _)
  unfold isName
  refine Ev.ite (fun h => ?_) (fun h => Ev.if_true (by omega) (Ev.ite (fun g => ?_) (fun g => ?_)))
  · rw [decide_eq_false (show ¬ 2 ≤ s.size by omega)]; exact s1
  · rw [decide_eq_true (show 2 ≤ s.size by omega), decide_eq_true g, Bool.true_and, Bool.true_and]
    by_cases h60 : (s.size : Int) > 60
    · rw [decide_eq_true h60, decide_eq_false (show ¬ s.size ≤ 60 by omega)]; exact s1
    · rw [decide_eq_false h60, decide_eq_true (show s.size ≤ 60 by omega), Bool.true_and]
      refine Ev.step (f := fun k => laws_name.l0 k s (s.size : Int) 0) (fun k => by simp only [laws_name.j0]; rw [if_neg (by simp)]) ?_
      exact name_from s hs s.size 0 (by omega)
  · rw [decide_eq_false g, Bool.and_false, Bool.false_and]; exact s1
theorem isName_mem {s : ByteArray} (h : isName s = true) : 2 ≤ s.size ∧ s.size ≤ 60 ∧ ∀ x ∈ ns s, nB x = true := by
  unfold isName at h
  simp only [Bool.and_eq_true, decide_eq_true_eq, List.all_eq_true] at h
  exact ⟨h.1.1.1, h.1.2, h.2⟩
end Go.Proofs.Ytjnnadpecendpaa.Base
