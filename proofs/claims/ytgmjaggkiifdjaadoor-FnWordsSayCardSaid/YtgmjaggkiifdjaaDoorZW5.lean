/- Texts of this claim, one behind the other (merged by wip/prune.py of this repo, without what the proof does not use): LCic, LShort. -/
import Derived.Test.YtgmjaggkiifdjaaDoorZW3
import Derived.Test.YtgmjaggkiifdjaaDoorZW4
set_option linter.unusedVariables false
set_option linter.unusedSimpArgs false
namespace Go.Proofs.YtgmjaggkiifdjaaDoor.Base
open Go.RowKit Go.Proofs.YtgmjaggkiifdjaaDoor.QA Go.Proofs.YtgmjaggkiifdjaaDoorW.PrintWords Go.Proofs.YtgmjaggkiifdjaaDoorW.PrintLast Go.Proofs.YtgmjaggkiifdjaaDoor.Given Go.Proofs.YtgmjaggkiifdjaaDoor.Gv
def o32 (x : Int) : Int := Go.bits .or .u8 x 32
theorem cic_from (a b : List Int) (hl : a.length = b.length) (hs : a.length ≤ 140737488351232) (d : Nat) : ∀ i : Nat, i + d = a.length → Ev (fun k => hertzutils_CaseInsensitiveCompare.l0 k a b (i : Int)) (decide ((a.drop i).map o32 = (b.drop i).map o32)) := by
  induction d with
  | zero =>
    intro i hi
    refine Ev.step (f := fun _ => some true) (fun k => ?_) (Ev.val ?_)
    · simp only [hertzutils_CaseInsensitiveCompare.l0]; rw [if_neg (by omega)]
    · rw [List.drop_eq_nil_of_le (by omega), List.drop_eq_nil_of_le (by omega)]; rfl
  | succ d ih =>
    intro i hi
    have ha : i < a.length := by omega
    have hb : i < b.length := by omega
    have ea : rd a (i : Int) = a[i] := by unfold rd; rw [Int.toNat_natCast, List.getD_eq_getElem?_getD, List.getElem?_eq_getElem ha]; rfl
    have eb : rd b (i : Int) = b[i] := by unfold rd; rw [Int.toNat_natCast, List.getD_eq_getElem?_getD, List.getElem?_eq_getElem hb]; rfl
    refine Ev.step (f := fun k => if o32 a[i] = o32 b[i] then hertzutils_CaseInsensitiveCompare.l0 k a b ((i + 1 : Nat) : Int) else some false) (fun k => ?_) ?_
    · simp only [hertzutils_CaseInsensitiveCompare.l0]
      rw [if_pos (by omega), if_pos (by omega), if_pos (by omega), ea, eb, wrap_add (by omega) (by omega)]
      rfl
    · rw [List.drop_eq_getElem_cons ha, List.drop_eq_getElem_cons hb, List.map_cons, List.map_cons]
      refine Ev.ite (fun h => ?_) (fun h => Ev.val ?_)
      · simp only [h, List.cons.injEq, true_and]
        exact ih (i + 1) (by omega)
      · simp [h]
theorem cic_ends (a b : List Int) (hs : a.length ≤ 140737488351232) : Ev (fun k => hertzutils_CaseInsensitiveCompare.f k a b) (decide (a.map o32 = b.map o32)) := by
  simp only [hertzutils_CaseInsensitiveCompare.f]
  refine Ev.ite (fun h => cic_from a b (by omega) hs a.length 0 (by omega)) (fun h => Ev.val ?_)
  rw [decide_eq_false]
  intro e
  have := congrArg List.length e
  simp at this
  omega
end Go.Proofs.YtgmjaggkiifdjaaDoor.Base
namespace Go.Proofs.YtgmjaggkiifdjaaDoor.Base
open Go.RowKit Go.Proofs.YtgmjaggkiifdjaaDoor.QA Go.Proofs.YtgmjaggkiifdjaaDoorW.PrintWords Go.Proofs.YtgmjaggkiifdjaaDoorW.PrintLast
def areShort (l : List ByteArray) : Bool := (l.all fun s => decide (s.size ≤ 200)) && decide (l.length ≤ 60)
theorem short_from (l : List ByteArray) (hl : l.length ≤ 140737488351232) (d : Nat) : ∀ i : Nat, i + d = l.length → Ev (fun k => laws_short.l0 k l l (l.length : Int) (i : Int)) (((l.drop i).all fun s => decide (s.size ≤ 200)) && decide (l.length ≤ 60)) := by
  induction d with
  | zero =>
    intro i hi
    refine Ev.step (f := fun _ => some (decide ((l.length : Int) ≤ 60))) (fun k => ?_) (Ev.val ?_)
    · simp only [laws_short.l0]; rw [if_neg (by omega)]
    · rw [List.drop_eq_nil_of_le (by omega)]
      simp only [List.all_nil, Bool.true_and]
      exact decide_eq_decide.2 (by omega)
  | succ d ih =>
    intro i hi
    have hlt : i < l.length := by omega
    refine Ev.step (f := fun k => if ((l[i]).size : Int) > 200 then some false else laws_short.l0 k l l (l.length : Int) ((i + 1 : Nat) : Int)) (fun k => ?_) ?_
    · simp only [laws_short.l0]
      rw [if_pos (by omega), if_pos (by omega), if_pos (by omega), rdOf_nat _ _ _ hlt, wrap_add (by omega) (by omega)]
      rfl
    · rw [List.drop_eq_getElem_cons hlt, List.all_cons]
      refine Ev.ite (fun g => Ev.val ?_) (fun g => ?_)
      · rw [decide_eq_false (by omega)]; simp
      · rw [decide_eq_true (by omega), Bool.true_and]
        exact ih (i + 1) (by omega)
theorem short_ends (l : List ByteArray) (hl : l.length ≤ 140737488351232) : Ev (fun k => laws_short.f k l) (areShort l) := short_from l hl l.length 0 (by omega)
theorem areShort_mem {l : List ByteArray} (h : areShort l = true) : l.length ≤ 60 ∧ ∀ s ∈ l, s.size ≤ 200 := by
  unfold areShort at h
  simp only [Bool.and_eq_true, decide_eq_true_eq, List.all_eq_true] at h
  exact ⟨h.2, h.1⟩
end Go.Proofs.YtgmjaggkiifdjaaDoor.Base
