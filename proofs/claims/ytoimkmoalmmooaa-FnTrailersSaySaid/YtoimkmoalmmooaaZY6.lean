/- Texts of this claim, one behind the other (merged by wip/prune.py of this repo, without what the proof does not use): LSteps, LCic, LSame. -/
import Derived.Test.YtoimkmoalmmooaaZY3
import Derived.Test.YtoimkmoalmmooaaZY4
import Derived.Test.YtoimkmoalmmooaaZY5
set_option linter.unusedVariables false
set_option linter.unusedSimpArgs false
namespace Go.Proofs.Ytoimkmoalmmooaa.Base
open Go.RowKit Go.Proofs.Ytoimkmoalmmooaa.QA Go.Proofs.YtoimkmoalmmooaaW.PrintWords Go.Proofs.YtoimkmoalmmooaaW.PrintLast
theorem rdStep_nat (l : List S28) (i : Nat) (h : i < l.length) : rd_T28 l (i : Int) = l[i] := by
  unfold rd_T28
  simp [List.getD_eq_getElem?_getD, h]
def fits4 (s : S28) : Bool := decide (s.f1.size ≤ 2147483647) && decide (s.f2.size ≤ 2147483647)
def fits3 (l : List S28) : Bool := decide (l.length ≤ 2147483647) && l.all fits4
theorem fits4_is (s : S28) : laws_zzFits4.f s.f0 s.f1 s.f2 s.f3 s.f4 = some (fits4 s) := by
  unfold laws_zzFits4.f fits4
  by_cases h1 : (s.f1.size : Int) > 2147483647
  · rw [if_pos h1, decide_eq_false (by omega)]; rfl
  · rw [if_neg h1, decide_eq_true (show s.f1.size ≤ 2147483647 by omega), Bool.true_and]
    by_cases h2 : (s.f2.size : Int) > 2147483647
    · rw [if_pos h2, decide_eq_false (by omega)]
    · rw [if_neg h2, decide_eq_true (by omega)]
theorem fits3_from (l : List S28) (hl : l.length ≤ 2147483647) (d : Nat) : ∀ i : Nat, i + d = l.length → Ev (fun k => laws_zzFits3.l0 k l (l.length : Int) (i : Int)) ((l.drop i).all fits4) := by
  induction d with
  | zero =>
    intro i hi
    refine Ev.step (f := fun _ => some true) (fun k => ?_) (Ev.val ?_)
    · simp only [laws_zzFits3.l0]; rw [if_neg (by omega)]
    · rw [List.drop_eq_nil_of_le (by omega)]; rfl
  | succ d ih =>
    intro i hi
    have hlt : i < l.length := by omega
    refine Ev.step (f := fun k => if fits4 l[i] = true then laws_zzFits3.l0 k l (l.length : Int) ((i + 1 : Nat) : Int) else some false) (fun k => ?_) ?_
    · simp only [laws_zzFits3.l0]
      rw [if_pos (by omega), if_pos (by omega), if_pos (by omega), rdStep_nat _ _ hlt, wrap_add (by omega) (by omega), fits4_is]
      rfl
    · rw [List.drop_eq_getElem_cons hlt, List.all_cons]
      refine Ev.ite (fun g => ?_) (fun g => Ev.val ?_)
      · rw [g, Bool.true_and]
        exact ih (i + 1) (by omega)
      · simp only [Bool.not_eq_true] at g
        rw [g]; rfl
theorem fits3_ends (l : List S28) : Ev (fun k => laws_zzFits3.f k l) (fits3 l) := by
  simp only [laws_zzFits3.f]
  unfold fits3
  refine Ev.ite (fun h => Ev.val ?_) (fun h => ?_)
  · rw [decide_eq_false (by omega)]; rfl
  · rw [decide_eq_true (by omega), Bool.true_and]
    exact fits3_from l (by omega) l.length 0 (by omega)
theorem fits3_mem {l : List S28} (h : fits3 l = true) : l.length ≤ 2147483647 ∧ ∀ s ∈ l, s.f1.size ≤ 2147483647 ∧ s.f2.size ≤ 2147483647 := by
  unfold fits3 at h
  simp only [Bool.and_eq_true, decide_eq_true_eq, List.all_eq_true] at h
  refine ⟨h.1, fun s hs => ?_⟩
  have := h.2 s hs
  unfold fits4 at this
  simp only [Bool.and_eq_true, decide_eq_true_eq] at this
  exact this
def pB (x : Int) : Bool := decide (32 ≤ x) && decide (x ≤ 126)
def isPrinted (s : ByteArray) : Bool := (ns s).all pB && (decide (s.size = 0) || (decide (bt s 0 ≠ 32) && decide (bt s ((s.size - 1 : Nat) : Int) ≠ 32)))
theorem printed_from (s : ByteArray) (hs : s.size ≤ 140737488351232) (d : Nat) : ∀ i : Nat, i + d = s.size → Ev (fun k => laws_printed.l0 k s (s.size : Int) (i : Int)) (((ns s).drop i).all pB && (decide (s.size = 0) || (decide (bt s 0 ≠ 32) && decide (bt s ((s.size - 1 : Nat) : Int) ≠ 32)))) := by
  induction d with
  | zero =>
    intro i hi
    rw [List.drop_eq_nil_of_le (by rw [ns_length]; omega), List.all_nil, Bool.true_and]
    by_cases h0 : s.size = 0
    · refine Ev.step (f := fun _ => some true) (fun k => ?_) (Ev.val ?_)
      · simp only [laws_printed.l0]
        rw [if_neg (by omega), if_pos]
        rw [Lib.toList_data]
        exact List.length_eq_zero_iff.1 (by rw [← Lib.size_eq]; exact h0)
      · rw [decide_eq_true h0]; rfl
    · have hne : ¬ s.toList = ([] : List UInt8) := by
        rw [Lib.toList_data]
        intro e
        have := congrArg List.length e
        rw [← Lib.size_eq] at this
        exact h0 this
      have hw : wrap64 ((s.size : Int) - 1) = ((s.size - 1 : Nat) : Int) := by unfold wrap64; omega
      rw [decide_eq_false h0, Bool.false_or]
      by_cases hb : bt s 0 = 32
      · refine Ev.step (f := fun _ => some false) (fun k => ?_) (Ev.val ?_)
        · simp only [laws_printed.l0]
          rw [if_neg (by omega), if_neg hne, if_pos (by omega), if_pos hb]
        · rw [decide_eq_false (by omega)]; rfl
      · refine Ev.step (f := fun _ => some (bt s ((s.size - 1 : Nat) : Int) != 32)) (fun k => ?_) (Ev.val ?_)
        · simp only [laws_printed.l0]
          rw [if_neg (by omega), if_neg hne, if_pos (by omega), if_neg hb, hw, if_pos (by omega), if_pos (by omega)]
        · rw [decide_eq_true hb, Bool.true_and]
          by_cases hc : bt s ((s.size - 1 : Nat) : Int) = 32
          · rw [hc]; rfl
          · rw [decide_eq_true hc]; simpa using hc
  | succ d ih =>
    intro i hi
    have hlt : i < (ns s).length := by rw [ns_length]; omega
    have hb : bt s (i : Int) = (ns s)[i] := by rw [bt_ns, List.getD_eq_getElem?_getD, List.getElem?_eq_getElem hlt]; rfl
    rw [List.drop_eq_getElem_cons hlt, List.all_cons]
    refine Ev.step (f := fun k => if bt s (i : Int) < 32 then some false else if bt s (i : Int) > 126 then some false else laws_printed.l0 k s (s.size : Int) ((i + 1 : Nat) : Int)) (fun k => ?_) ?_
    · simp only [laws_printed.l0]
      rw [if_pos (by omega), if_pos (by omega), if_pos (by omega), wrap_add (by omega) (by omega)]
      rfl
    · unfold pB
      refine Ev.ite (fun h => Ev.val ?_) (fun h => Ev.ite (fun g => Ev.val ?_) (fun g => ?_))
      · rw [← hb, decide_eq_false (by omega)]; rfl
      · rw [← hb, decide_eq_false (show ¬ bt s (i : Int) ≤ 126 by omega), Bool.and_false]; rfl
      · rw [← hb, decide_eq_true (by omega), decide_eq_true (by omega), Bool.true_and, Bool.true_and]
        exact ih (i + 1) (by omega)
theorem printed_ends (s : ByteArray) (hs : s.size ≤ 140737488351232) : Ev (fun k => laws_printed.f k s) (isPrinted s) := printed_from s hs s.size 0 (by omega)
def calm1 (s : S28) : Bool := decide (0 ≤ s.f0) && decide (s.f0 ≤ 33) && isPrinted s.f1 && isPrinted s.f2 && decide (s.f1.size ≤ 100) && decide (s.f2.size ≤ 200) && decide (-10 ≤ s.f3) && decide (s.f3 ≤ 1073741824) && decide (-10 ≤ s.f4) && decide (s.f4 ≤ 1073741824)
def isCalm (l : List S28) : Bool := l.all calm1 && decide (l.length ≤ 40)
theorem calm_from (l : List S28) (hl : l.length ≤ 2147483647) (hs : ∀ s ∈ l, s.f1.size ≤ 2147483647 ∧ s.f2.size ≤ 2147483647) (d : Nat) : ∀ i : Nat, i + d = l.length → Ev (fun k => laws_calm.l0 k l l (l.length : Int) (i : Int)) ((l.drop i).all calm1 && decide (l.length ≤ 40)) := by
  induction d with
  | zero =>
    intro i hi
    refine Ev.step (f := fun _ => some (decide ((l.length : Int) ≤ 40))) (fun k => ?_) (Ev.val ?_)
    · simp only [laws_calm.l0]; rw [if_neg (by omega)]
    · rw [List.drop_eq_nil_of_le (by omega), List.all_nil, Bool.true_and]
      exact decide_eq_decide.2 (by omega)
  | succ d ih =>
    intro i hi
    have hlt : i < l.length := by omega
    obtain ⟨h1, h2⟩ := hs _ (List.getElem_mem hlt)
    have hih := ih (i + 1) (by omega)
    obtain ⟨s, hse⟩ : ∃ s, l[i] = s := ⟨_, rfl⟩
    rw [List.drop_eq_getElem_cons hlt, List.all_cons, hse]
    rw [hse] at h1 h2
    refine Ev.step (f := fun k => if s.f0 < 0 then some false else if s.f0 > 33 then some false else (laws_printed.f k s.f1).bind fun t => if t = true then (laws_printed.f k s.f2).bind fun u => if u = true then (if (s.f1.size : Int) > 100 then some false else if (s.f2.size : Int) > 200 then some false else if s.f3 < -10 then some false else if s.f3 > 1073741824 then some false else if s.f4 < -10 then some false else if s.f4 > 1073741824 then some false else laws_calm.l0 k l l (l.length : Int) ((i + 1 : Nat) : Int)) else some false else some false) (fun k => ?_) ?_
    · simp only [laws_calm.l0]
      rw [if_pos (by omega), if_pos (by omega), if_pos (by omega), wrap_add (by omega) (by omega), rdStep_nat _ _ hlt, hse]
      rfl
    · unfold calm1
      refine Ev.ite (fun c => Ev.val ?_) (fun c0 => ?_)
      · rw [decide_eq_false (by omega)]; rfl
      rw [decide_eq_true (show 0 ≤ s.f0 by omega), Bool.true_and]
      refine Ev.ite (fun c => Ev.val ?_) (fun c1 => ?_)
      · rw [decide_eq_false (by omega)]; rfl
      rw [decide_eq_true (show s.f0 ≤ 33 by omega), Bool.true_and]
      refine Ev.bind (printed_ends s.f1 (by omega)) ?_
      cases hp1 : isPrinted s.f1 with
      | false => exact Ev.if_false (by simp) (Ev.val rfl)
      | true =>
      refine Ev.if_true rfl (Ev.bind (printed_ends s.f2 (by omega)) ?_)
      cases hp2 : isPrinted s.f2 with
      | false => exact Ev.if_false (by simp) (Ev.val rfl)
      | true =>
      rw [Bool.true_and, Bool.true_and]
      refine Ev.if_true rfl (Ev.ite (fun c => Ev.val ?_) (fun c2 => ?_))
      · rw [decide_eq_false (show ¬ s.f1.size ≤ 100 by omega)]; rfl
      rw [decide_eq_true (show s.f1.size ≤ 100 by omega), Bool.true_and]
      refine Ev.ite (fun c => Ev.val ?_) (fun c3 => ?_)
      · rw [decide_eq_false (show ¬ s.f2.size ≤ 200 by omega)]; rfl
      rw [decide_eq_true (show s.f2.size ≤ 200 by omega), Bool.true_and]
      refine Ev.ite (fun c => Ev.val ?_) (fun c4 => ?_)
      · rw [decide_eq_false (show ¬ -10 ≤ s.f3 by omega)]; rfl
      rw [decide_eq_true (show -10 ≤ s.f3 by omega), Bool.true_and]
      refine Ev.ite (fun c => Ev.val ?_) (fun c5 => ?_)
      · rw [decide_eq_false (show ¬ s.f3 ≤ 1073741824 by omega)]; rfl
      rw [decide_eq_true (show s.f3 ≤ 1073741824 by omega), Bool.true_and]
      refine Ev.ite (fun c => Ev.val ?_) (fun c6 => ?_)
      · rw [decide_eq_false (show ¬ -10 ≤ s.f4 by omega)]; rfl
      rw [decide_eq_true (show -10 ≤ s.f4 by omega), Bool.true_and]
      refine Ev.ite (fun c => Ev.val ?_) (fun c7 => ?_)
      · rw [decide_eq_false (show ¬ s.f4 ≤ 1073741824 by omega)]; rfl
      rw [decide_eq_true (show s.f4 ≤ 1073741824 by omega), Bool.true_and]
      exact hih
theorem calm_ends (l : List S28) (hl : l.length ≤ 2147483647) (hs : ∀ s ∈ l, s.f1.size ≤ 2147483647 ∧ s.f2.size ≤ 2147483647) : Ev (fun k => laws_calm.f k l) (isCalm l) := calm_from l hl hs l.length 0 (by omega)
theorem calm_mem {l : List S28} (h : isCalm l = true) : l.length ≤ 40 ∧ ∀ s ∈ l, s.f1.size ≤ 100 ∧ s.f2.size ≤ 200 ∧ 0 ≤ s.f0 ∧ s.f0 ≤ 33 ∧ isPrinted s.f1 = true ∧ isPrinted s.f2 = true := by
  unfold isCalm at h
  simp only [Bool.and_eq_true, decide_eq_true_eq, List.all_eq_true] at h
  refine ⟨h.2, fun s hs => ?_⟩
  have := h.1 s hs
  unfold calm1 at this
  simp only [Bool.and_eq_true, decide_eq_true_eq] at this
  exact ⟨this.1.1.1.1.1.2, this.1.1.1.1.2, this.1.1.1.1.1.1.1.1.1, this.1.1.1.1.1.1.1.1.2, this.1.1.1.1.1.1.1.2, this.1.1.1.1.1.1.2⟩
open Go.Proofs.Ytoimkmoalmmooaa.Given Go.Proofs.Ytoimkmoalmmooaa.Gv
def o32 (x : Int) : Int := Go.bits .or .u8 x 32
theorem cic_from (a b : List Int) (hl : a.length = b.length) (hs : a.length ≤ 140737488351232) (d : Nat) : ∀ i : Nat, i + d = a.length → Ev (fun k => hertzutils_CaseInsensitiveCompare.l0 k a b (i : Int)) (decide ((a.drop i).map o32 = (b.drop i).map o32)) := by
  induction d with
  | zero =>
    intro i hi
    refine Ev.step (f := fun _ => some true) (fun k => ?_) (Ev.val ?_)
    · simp only [hertzutils_CaseInsensitiveCompare.l0]; rw [if_neg (by omega)]
    · rw [List.drop_eq_nil_of_le (by omega), List.drop_eq_nil_of_le (by omega)]; rfl
  | succ d ih =>
    intro i hi
    have ha : i < a.length := by omega
    have hb : i < b.length := by omega
    have ea : rd a (i : Int) = a[i] := by unfold rd; rw [Int.toNat_natCast, List.getD_eq_getElem?_getD, List.getElem?_eq_getElem ha]; rfl
    have eb : rd b (i : Int) = b[i] := by unfold rd; rw [Int.toNat_natCast, List.getD_eq_getElem?_getD, List.getElem?_eq_getElem hb]; rfl
    refine Ev.step (f := fun k => if o32 a[i] = o32 b[i] then hertzutils_CaseInsensitiveCompare.l0 k a b ((i + 1 : Nat) : Int) else some false) (fun k => ?_) ?_
    · simp only [hertzutils_CaseInsensitiveCompare.l0]
      rw [if_pos (by omega), if_pos (by omega), if_pos (by omega), ea, eb, wrap_add (by omega) (by omega)]
      rfl
    · rw [List.drop_eq_getElem_cons ha, List.drop_eq_getElem_cons hb, List.map_cons, List.map_cons]
      refine Ev.ite (fun h => ?_) (fun h => Ev.val ?_)
      · simp only [h, List.cons.injEq, true_and]
        exact ih (i + 1) (by omega)
      · simp [h]
theorem cic_ends (a b : List Int) (hs : a.length ≤ 140737488351232) : Ev (fun k => hertzutils_CaseInsensitiveCompare.f k a b) (decide (a.map o32 = b.map o32)) := by
  simp only [hertzutils_CaseInsensitiveCompare.f]
  refine Ev.ite (fun h => cic_from a b (by omega) hs a.length 0 (by omega)) (fun h => Ev.val ?_)
  rw [decide_eq_false]
  intro e
  have := congrArg List.length e
  simp at this
  omega
end Go.Proofs.Ytoimkmoalmmooaa.Base
namespace Go.Proofs.Ytoimkmoalmmooaa.Base
open Go.RowKit Go.Proofs.Ytoimkmoalmmooaa.QA Go.Proofs.YtoimkmoalmmooaaW.PrintWords Go.Proofs.YtoimkmoalmmooaaW.PrintLast
theorem sameTexts_ends (a b : List ByteArray) (ha : a.length ≤ 4611686018427387904) : Ev (fun k => laws_sameTexts.f k a b) (decide (a = b)) := by
  simp only [laws_sameTexts.f]
  by_cases hl : a.length = b.length
  · have key : ∀ d i : Nat, i + d = a.length → Ev (fun k => laws_sameTexts.l0 k a b (a.length : Int) (i : Int)) (decide (a.drop i = b.drop i)) := by
      intro d
      induction d with
      | zero =>
        intro i hi
        refine Ev.step (f := fun _ => some _) (fun k => ?_) (Ev.now _)
        simp only [laws_sameTexts.l0]
        rw [if_neg (by omega), List.drop_eq_nil_of_le (by omega), List.drop_eq_nil_of_le (by omega)]
        rfl
      | succ d ih =>
        intro i hi
        have h1 : i < a.length := by omega
        have h2 : i < b.length := by omega
        have e : (a.drop i = b.drop i) ↔ (a[i] = b[i] ∧ a.drop (i + 1) = b.drop (i + 1)) := by
          rw [List.drop_eq_getElem_cons h1, List.drop_eq_getElem_cons h2]
          exact ⟨fun h => List.cons.inj h, fun ⟨x, y⟩ => by rw [x, y]⟩
        by_cases c : a[i] = b[i]
        · refine Ev.step (f := fun k => laws_sameTexts.l0 k a b (a.length : Int) ((i + 1 : Nat) : Int)) (fun k => ?_) ?_
          · simp only [laws_sameTexts.l0]
            rw [if_pos (by omega), if_pos (by omega), if_pos (by omega), if_pos (by omega), rdOf_nat _ _ _ h1, rdOf_nat _ _ _ h2, if_pos (by rw [c]), wrap_add (by omega) (by omega)]
            rfl
          · have := ih (i + 1) (by omega)
            rw [decide_eq_decide.2 (show (a.drop i = b.drop i) ↔ (a.drop (i + 1) = b.drop (i + 1)) from e.trans ⟨fun h => h.2, fun h => ⟨c, h⟩⟩)]
            exact this
        · refine Ev.step (f := fun _ => some _) (fun k => ?_) (Ev.now _)
          simp only [laws_sameTexts.l0]
          rw [if_pos (by omega), if_pos (by omega), if_pos (by omega), if_pos (by omega), rdOf_nat _ _ _ h1, rdOf_nat _ _ _ h2, if_neg (fun e => c ((toList_eq_iff _ _).1 e)), decide_eq_false (fun h => c (e.1 h).1)]
    refine Ev.if_true (by omega) ?_
    have := key a.length 0 (by omega)
    simpa using this
  · refine Ev.if_false (by omega) ?_
    rw [decide_eq_false (fun e => hl (by rw [e]))]
    exact Ev.now _
end Go.Proofs.Ytoimkmoalmmooaa.Base
