/- Texts of this claim, one behind the other (merged by wip/prune.py of this repo, without what the proof does not use): LWordOne, LShort, LFits. -/
import Derived.Test.YtcbpbmflgcgmaaaDoorZA4
import Derived.Test.YtcbpbmflgcgmaaaDoorZA6
set_option linter.unusedVariables false
set_option linter.unusedSimpArgs false
namespace Go.Proofs.YtcbpbmflgcgmaaaDoor.Base
open Go.RowKit Go.Proofs.YtcbpbmflgcgmaaaDoor.QA Go.Proofs.YtcbpbmflgcgmaaaDoorW.PrintWords Go.Proofs.YtcbpbmflgcgmaaaDoorW.PrintLast
theorem word_from (s : ByteArray) (hs : s.size ≤ 140737488351232) (d : Nat) : ∀ i : Nat, i + d = s.size → Ev (fun k => laws_word.l0 k s (s.size : Int) (i : Int)) (((ns s).drop i).all wB && !(ns s).isEmpty) := by
  induction d with
  | zero =>
    intro i hi
    refine Ev.step (f := fun _ => some (s.toList != ([] : List UInt8))) (fun k => ?_) (Ev.val ?_)
    · simp only [laws_word.l0]; rw [if_neg (by omega)]
    · rw [List.drop_eq_nil_of_le (by rw [ns_length]; omega), toList_ne_nil]; rfl
  | succ d ih =>
    intro i hi
    have hlt : i < (ns s).length := by rw [ns_length]; omega
    have hr := ns_range s ((ns s)[i]) (List.getElem_mem hlt)
    have hb : bt s (i : Int) = (ns s)[i] := by rw [bt_ns, List.getD_eq_getElem?_getD, List.getElem?_eq_getElem hlt]; rfl
    refine Ev.step (f := fun k => if wB (ns s)[i] = true then laws_word.l0 k s (s.size : Int) ((i + 1 : Nat) : Int) else some false) (fun k => ?_) ?_
    · simp only [laws_word.l0]
      rw [if_pos (by omega), if_pos (by omega), if_pos (by omega), hb, word_round _ hr.1 hr.2, wrap_add (by omega) (by omega)]
      rfl
    · rw [List.drop_eq_getElem_cons hlt, List.all_cons]
      refine Ev.ite (fun h => ?_) (fun h => Ev.val ?_)
      · rw [h, Bool.true_and]
        exact ih (i + 1) (by omega)
      · simp only [Bool.not_eq_true] at h
        rw [h]; rfl
theorem word_ends (s : ByteArray) (hs : s.size ≤ 140737488351232) : Ev (fun k => laws_word.f k s) (isWord s) := word_from s hs s.size 0 (by omega)
def areShort (l : List ByteArray) : Bool := (l.all fun s => decide (s.size ≤ 200)) && decide (l.length ≤ 60)
theorem short_from (l : List ByteArray) (hl : l.length ≤ 140737488351232) (d : Nat) : ∀ i : Nat, i + d = l.length → Ev (fun k => laws_short.l0 k l l (l.length : Int) (i : Int)) (((l.drop i).all fun s => decide (s.size ≤ 200)) && decide (l.length ≤ 60)) := by
  induction d with
  | zero =>
    intro i hi
    refine Ev.step (f := fun _ => some (decide ((l.length : Int) ≤ 60))) (fun k => ?_) (Ev.val ?_)
    · simp only [laws_short.l0]; rw [if_neg (by omega)]
    · rw [List.drop_eq_nil_of_le (by omega)]
      simp only [List.all_nil, Bool.true_and]
      exact decide_eq_decide.2 (by omega)
  | succ d ih =>
    intro i hi
    have hlt : i < l.length := by omega
    refine Ev.step (f := fun k => if ((l[i]).size : Int) > 200 then some false else laws_short.l0 k l l (l.length : Int) ((i + 1 : Nat) : Int)) (fun k => ?_) ?_
    · simp only [laws_short.l0]
      rw [if_pos (by omega), if_pos (by omega), if_pos (by omega), rdOf_nat _ _ _ hlt, wrap_add (by omega) (by omega)]
      rfl
    · rw [List.drop_eq_getElem_cons hlt, List.all_cons]
      refine Ev.ite (fun g => Ev.val ?_) (fun g => ?_)
      · rw [decide_eq_false (by omega)]; simp
      · rw [decide_eq_true (by omega), Bool.true_and]
        exact ih (i + 1) (by omega)
theorem short_ends (l : List ByteArray) (hl : l.length ≤ 140737488351232) : Ev (fun k => laws_short.f k l) (areShort l) := short_from l hl l.length 0 (by omega)
theorem areShort_mem {l : List ByteArray} (h : areShort l = true) : l.length ≤ 60 ∧ ∀ s ∈ l, s.size ≤ 200 := by
  unfold areShort at h
  simp only [Bool.and_eq_true, decide_eq_true_eq, List.all_eq_true] at h
  exact ⟨h.2, h.1⟩
def fits6 (l : List ByteArray) : Bool := decide (l.length ≤ 2147483647) && l.all fun s => decide (s.size ≤ 2147483647)
theorem fits6_from (l : List ByteArray) (hl : l.length ≤ 2147483647) (d : Nat) : ∀ i : Nat, i + d = l.length → Ev (fun k => laws_zzFits6.l0 k l (l.length : Int) (i : Int)) ((l.drop i).all fun s => decide (s.size ≤ 2147483647)) := by
  induction d with
  | zero =>
    intro i hi
    refine Ev.step (f := fun _ => some true) (fun k => ?_) (Ev.val ?_)
    · simp only [laws_zzFits6.l0]; rw [if_neg (by omega)]
    · rw [List.drop_eq_nil_of_le (by omega)]; rfl
  | succ d ih =>
    intro i hi
    have hlt : i < l.length := by omega
    refine Ev.step (f := fun k => if ((l[i]).size : Int) > 2147483647 then some false else laws_zzFits6.l0 k l (l.length : Int) ((i + 1 : Nat) : Int)) (fun k => ?_) ?_
    · simp only [laws_zzFits6.l0]
      rw [if_pos (by omega), if_pos (by omega), if_pos (by omega), rdOf_nat _ _ _ hlt, wrap_add (by omega) (by omega)]
      rfl
    · rw [List.drop_eq_getElem_cons hlt, List.all_cons]
      refine Ev.ite (fun g => Ev.val ?_) (fun g => ?_)
      · rw [decide_eq_false (by omega)]; simp
      · rw [decide_eq_true (by omega), Bool.true_and]
        exact ih (i + 1) (by omega)
theorem fits6_ends (l : List ByteArray) : Ev (fun k => laws_zzFits6.f k l) (fits6 l) := by
  simp only [laws_zzFits6.f]
  unfold fits6
  refine Ev.ite (fun h => Ev.val ?_) (fun h => ?_)
  · rw [decide_eq_false (by omega)]; rfl
  · rw [decide_eq_true (by omega), Bool.true_and]
    exact fits6_from l (by omega) l.length 0 (by omega)
end Go.Proofs.YtcbpbmflgcgmaaaDoor.Base
