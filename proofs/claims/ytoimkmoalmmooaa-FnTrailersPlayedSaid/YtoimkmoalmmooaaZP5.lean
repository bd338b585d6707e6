/- Texts of this claim, one behind the other (merged by wip/prune.py of this repo, without what the proof does not use): LCic, LWordOne, LNameOne, LSamePairs, LSteps. -/
import Derived.Test.YtoimkmoalmmooaaZP3
import Derived.Test.YtoimkmoalmmooaaZP4
namespace Go.Proofs.Ytoimkmoalmmooaa.Base
open Go.RowKit Go.Proofs.Ytoimkmoalmmooaa.QA Go.Proofs.YtoimkmoalmmooaaW.PrintWords Go.Proofs.YtoimkmoalmmooaaW.PrintLast Go.Proofs.Ytoimkmoalmmooaa.Given Go.Proofs.Ytoimkmoalmmooaa.Gv
def o32 (x : Int) : Int := Go.bits .or .u8 x 32
theorem cic_from (a b : List Int) (hl : a.length = b.length) (hs : a.length ≤ 140737488351232) (d : Nat) : ∀ i : Nat, i + d = a.length → Ev (fun k => hertzutils_CaseInsensitiveCompare.l0 k a b (i : Int)) (decide ((a.drop i).map o32 = (b.drop i).map o32)) := by
  induction d with
  | zero =>
    intro i hi
    refine Ev.step (f := fun _ => some true) (fun k => ?_) (Ev.val ?_)
    · simp only [hertzutils_CaseInsensitiveCompare.l0]; rw [if_neg (by omega)]
    · rw [List.drop_eq_nil_of_le (by omega), List.drop_eq_nil_of_le (by omega)]; rfl
  | succ d ih =>
    intro i hi
    have ha : i < a.length := by omega
    have hb : i < b.length := by omega
    have ea : rd a (i : Int) = a[i] := by unfold rd; rw [Int.toNat_natCast, List.getD_eq_getElem?_getD, List.getElem?_eq_getElem ha]; rfl
    have eb : rd b (i : Int) = b[i] := by unfold rd; rw [Int.toNat_natCast, List.getD_eq_getElem?_getD, List.getElem?_eq_getElem hb]; rfl
    refine Ev.step (f := fun k => if o32 a[i] = o32 b[i] then hertzutils_CaseInsensitiveCompare.l0 k a b ((i + 1 : Nat) : Int) else some false) (fun k => ?_) ?_
    · simp only [hertzutils_CaseInsensitiveCompare.l0]
      rw [if_pos (by omega), if_pos (by omega), if_pos (by omega), ea, eb, wrap_add (by omega) (by omega)]
      rfl
    · rw [List.drop_eq_getElem_cons ha, List.drop_eq_getElem_cons hb, List.map_cons, List.map_cons]
      refine Ev.ite (fun h => ?_) (fun h => Ev.val ?_)
      · simp only [h, List.cons.injEq, true_and]
        exact ih (i + 1) (by omega)
      · simp [h]
theorem cic_ends (a b : List Int) (hs : a.length ≤ 140737488351232) : Ev (fun k => hertzutils_CaseInsensitiveCompare.f k a b) (decide (a.map o32 = b.map o32)) := by
  simp only [hertzutils_CaseInsensitiveCompare.f]
  refine Ev.ite (fun h => cic_from a b (by omega) hs a.length 0 (by omega)) (fun h => Ev.val ?_)
  rw [decide_eq_false]
  intro e
  have := congrArg List.length e
  simp at this
  omega
theorem o32_lo_fin : ∀ n : Fin 256, o32 (lo ((n.val : Nat) : Int)) = o32 ((n.val : Nat) : Int) := by decide +kernel
theorem o32_lo (x : Int) (h0 : 0 ≤ x) (h1 : x ≤ 255) : o32 (lo x) = o32 x := by
  obtain ⟨n, rfl⟩ := Int.eq_ofNat_of_zero_le h0
  exact o32_lo_fin ⟨n, by omega⟩
theorem map_o32_lo (l : List Int) (h : ∀ x ∈ l, 0 ≤ x ∧ x ≤ 255) : (l.map lo).map o32 = l.map o32 := by
  rw [List.map_map]
  exact List.map_congr_left (fun x hx => o32_lo x (h x hx).1 (h x hx).2)
end Go.Proofs.Ytoimkmoalmmooaa.Base
namespace Go.Proofs.Ytoimkmoalmmooaa.Base
open Go.RowKit Go.Proofs.Ytoimkmoalmmooaa.QA Go.Proofs.YtoimkmoalmmooaaW.PrintWords Go.Proofs.YtoimkmoalmmooaaW.PrintLast
theorem word_from (s : ByteArray) (hs : s.size ≤ 140737488351232) (d : Nat) : ∀ i : Nat, i + d = s.size → Ev (fun k => laws_word.l0 k s (s.size : Int) (i : Int)) (((ns s).drop i).all wB && !(ns s).isEmpty) := by
  induction d with
  | zero =>
    intro i hi
    refine Ev.step (f := fun _ => some (s.toList != ([] : List UInt8))) (fun k => ?_) (Ev.val ?_)
    · simp only [laws_word.l0]; rw [if_neg (by omega)]
    · rw [List.drop_eq_nil_of_le (by rw [ns_length]; omega), toList_ne_nil]; rfl
  | succ d ih =>
    intro i hi
    have hlt : i < (ns s).length := by rw [ns_length]; omega
    have hr := ns_range s ((ns s)[i]) (List.getElem_mem hlt)
    have hb : bt s (i : Int) = (ns s)[i] := by rw [bt_ns, List.getD_eq_getElem?_getD, List.getElem?_eq_getElem hlt]; rfl
    refine Ev.step (f := fun k => if wB (ns s)[i] = true then laws_word.l0 k s (s.size : Int) ((i + 1 : Nat) : Int) else some false) (fun k => ?_) ?_
    · simp only [laws_word.l0]
      rw [if_pos (by omega), if_pos (by omega), if_pos (by omega), hb, word_round _ hr.1 hr.2, wrap_add (by omega) (by omega)]
      rfl
    · rw [List.drop_eq_getElem_cons hlt, List.all_cons]
      refine Ev.ite (fun h => ?_) (fun h => Ev.val ?_)
      · rw [h, Bool.true_and]
        exact ih (i + 1) (by omega)
      · simp only [Bool.not_eq_true] at h
        rw [h]; rfl
theorem word_ends (s : ByteArray) (hs : s.size ≤ 140737488351232) : Ev (fun k => laws_word.f k s) (isWord s) := word_from s hs s.size 0 (by omega)
end Go.Proofs.Ytoimkmoalmmooaa.Base
namespace Go.Proofs.Ytoimkmoalmmooaa.Base
open Go.RowKit Go.Proofs.Ytoimkmoalmmooaa.QA Go.Proofs.YtoimkmoalmmooaaW.PrintWords Go.Proofs.YtoimkmoalmmooaaW.PrintLast
def nB (x : Int) : Bool := decide (x = 45) || wB x
def isName (s : ByteArray) : Bool := decide (2 ≤ s.size) && decide (Go.bits .or .u8 (bt s 0) 32 = 120) && decide (s.size ≤ 60) && (ns s).all nB
theorem ns_one (s : ByteArray) (i : Nat) (h : i < s.size) : isWord (s.extract i (i + 1)) = wB (bt s (i : Int)) := by
  have hlt : i < (ns s).length := by rw [ns_length]; exact h
  have e : ns (s.extract i (i + 1)) = [(ns s)[i]] := by
    rw [ns_extract, List.drop_eq_getElem_cons hlt]
    have : i + 1 - i = 1 := by omega
    rw [this]; rfl
  unfold isWord
  rw [e, bt_ns, List.getD_eq_getElem?_getD, List.getElem?_eq_getElem hlt]
  simp
theorem name_from (s : ByteArray) (hs : s.size ≤ 140737488351232) (d : Nat) : ∀ i : Nat, i + d = s.size → Ev (fun k => laws_name.l0 k s (s.size : Int) (i : Int)) (((ns s).drop i).all nB) := by
  induction d with
  | zero =>
    intro i hi
    refine Ev.step (f := fun _ => some true) (fun k => ?_) (Ev.val ?_)
    · simp only [laws_name.l0]; rw [if_neg (by omega)]
    · rw [List.drop_eq_nil_of_le (by rw [ns_length]; omega)]; rfl
  | succ d ih =>
    intro i hi
    have hlt : i < (ns s).length := by rw [ns_length]; omega
    have hb : bt s (i : Int) = (ns s)[i] := by rw [bt_ns, List.getD_eq_getElem?_getD, List.getElem?_eq_getElem hlt]; rfl
    have hone := ns_one s i (by omega)
    have hsz : (s.extract i (i + 1)).size ≤ 140737488351232 := by rw [← ns_length, ns_extract]; simp; omega
    refine Ev.step (f := fun k => if bt s (i : Int) = 45 then laws_name.l0 k s (s.size : Int) ((i + 1 : Nat) : Int) else (laws_word.f k (s.extract i (i + 1))).bind fun t => if t = true then laws_name.l0 k s (s.size : Int) ((i + 1 : Nat) : Int) else some false) (fun k => ?_) ?_
    · simp only [laws_name.l0]
      rw [wrap_add (by omega) (by omega), if_pos (by omega), if_pos (by omega), if_pos (by omega)]
      by_cases h45 : bt s (i : Int) = 45
      · rw [if_pos h45, if_pos h45]; rfl
      · have e1 : ((i : Int)).toNat = i := by omega
        have e2 : ((i : Int) + 1).toNat = i + 1 := by omega
        rw [if_neg h45, if_neg h45, if_pos (by omega), if_pos (by omega), e1, e2]; rfl
    · rw [List.drop_eq_getElem_cons hlt, List.all_cons, ← hb]
      refine Ev.ite (fun h => ?_) (fun h => Ev.bind (word_ends _ hsz) ?_)
      · have : nB (bt s (i : Int)) = true := by rw [h]; rfl
        rw [this, Bool.true_and]
        exact ih (i + 1) (by omega)
      · rw [hone]
        have hn : nB (bt s (i : Int)) = wB (bt s (i : Int)) := by unfold nB; rw [decide_eq_false h, Bool.false_or]
        rw [hn]
        refine Ev.ite (fun g => ?_) (fun g => Ev.val ?_)
        · rw [g, Bool.true_and]
          exact ih (i + 1) (by omega)
        · simp only [Bool.not_eq_true] at g
          rw [g]; rfl
theorem name_ends (s : ByteArray) (hs : s.size ≤ 140737488351232) : Ev (fun k => laws_name.f k s) (isName s) := by
  simp only [laws_name.f]
  have s1 : Ev (fun k => laws_name.j0 k s true) false := Ev.step (f := fun _ => some false) (fun k => rfl) (Ev.now _)
  unfold isName
  refine Ev.ite (fun h => ?_) (fun h => Ev.if_true (by omega) (Ev.ite (fun g => ?_) (fun g => ?_)))
  · rw [decide_eq_false (show ¬ 2 ≤ s.size by omega)]; exact s1
  · rw [decide_eq_true (show 2 ≤ s.size by omega), decide_eq_true g, Bool.true_and, Bool.true_and]
    by_cases h60 : (s.size : Int) > 60
    · rw [decide_eq_true h60, decide_eq_false (show ¬ s.size ≤ 60 by omega)]; exact s1
    · rw [decide_eq_false h60, decide_eq_true (show s.size ≤ 60 by omega), Bool.true_and]
      refine Ev.step (f := fun k => laws_name.l0 k s (s.size : Int) 0) (fun k => by simp only [laws_name.j0]; rw [if_neg (by simp)]) ?_
      exact name_from s hs s.size 0 (by omega)
  · rw [decide_eq_false g, Bool.and_false, Bool.false_and]; exact s1
theorem isName_mem {s : ByteArray} (h : isName s = true) : 2 ≤ s.size ∧ s.size ≤ 60 ∧ ∀ x ∈ ns s, nB x = true := by
  unfold isName at h
  simp only [Bool.and_eq_true, decide_eq_true_eq, List.all_eq_true] at h
  exact ⟨h.1.1.1, h.1.2, h.2⟩
end Go.Proofs.Ytoimkmoalmmooaa.Base
set_option linter.unusedVariables false
namespace Go.Proofs.Ytoimkmoalmmooaa.Base
open Go.RowKit Go.Proofs.Ytoimkmoalmmooaa.QA Go.Proofs.YtoimkmoalmmooaaW.PrintWords Go.Proofs.YtoimkmoalmmooaaW.PrintLast
theorem samePairs_self (a : List S34) (ha : a.length ≤ 4611686018427387904) : Ev (fun k => laws_samePairs.f k a a) true := by
  simp only [laws_samePairs.f]
  refine Ev.if_true trivial ?_
  have key : ∀ d i : Nat, i + d = a.length → Ev (fun k => laws_samePairs.l0 k a a (a.length : Int) (i : Int)) true := by
    intro d
    induction d with
    | zero => intro i hi; exact Ev.step (f := fun _ => some true) (fun k => by simp only [laws_samePairs.l0]; rw [if_neg (by omega)]) (Ev.now _)
    | succ d ih =>
      intro i hi
      refine Ev.step (f := fun k => laws_samePairs.l0 k a a (a.length : Int) ((i + 1 : Nat) : Int)) (fun k => ?_) (ih (i + 1) (by omega))
      simp only [laws_samePairs.l0]
      rw [if_pos (by omega), if_pos (by omega), if_pos (by omega), if_pos (by omega), if_neg (by simp), wrap_add (by omega) (by omega)]
      rfl
  exact key a.length 0 (by omega)
end Go.Proofs.Ytoimkmoalmmooaa.Base
set_option linter.unusedVariables false
namespace Go.Proofs.Ytoimkmoalmmooaa.Base
open Go.RowKit Go.Proofs.Ytoimkmoalmmooaa.QA Go.Proofs.YtoimkmoalmmooaaW.PrintWords Go.Proofs.YtoimkmoalmmooaaW.PrintLast
theorem rdStep_nat (l : List S28) (i : Nat) (h : i < l.length) : rd_T28 l (i : Int) = l[i] := by
  unfold rd_T28
  simp [List.getD_eq_getElem?_getD, h]
def fits4 (s : S28) : Bool := decide (s.f1.size ≤ 2147483647) && decide (s.f2.size ≤ 2147483647)
def fits3 (l : List S28) : Bool := decide (l.length ≤ 2147483647) && l.all fits4
theorem fits4_is (s : S28) : laws_zzFits4.f s.f0 s.f1 s.f2 s.f3 s.f4 = some (fits4 s) := by
  unfold laws_zzFits4.f fits4
  by_cases h1 : (s.f1.size : Int) > 2147483647
  · rw [if_pos h1, decide_eq_false (by omega)]; rfl
  · rw [if_neg h1, decide_eq_true (show s.f1.size ≤ 2147483647 by omega), Bool.true_and]
    by_cases h2 : (s.f2.size : Int) > 2147483647
    · rw [if_pos h2, decide_eq_false (by omega)]
    · rw [if_neg h2, decide_eq_true (by omega)]
theorem fits3_from (l : List S28) (hl : l.length ≤ 2147483647) (d : Nat) : ∀ i : Nat, i + d = l.length → Ev (fun k => laws_zzFits3.l0 k l (l.length : Int) (i : Int)) ((l.drop i).all fits4) := by
  induction d with
  | zero =>
    intro i hi
    refine Ev.step (f := fun _ => some true) (fun k => ?_) (Ev.val ?_)
    · simp only [laws_zzFits3.l0]; rw [if_neg (by omega)]
    · rw [List.drop_eq_nil_of_le (by omega)]; rfl
  | succ d ih =>
    intro i hi
    have hlt : i < l.length := by omega
    refine Ev.step (f := fun k => if fits4 l[i] = true then laws_zzFits3.l0 k l (l.length : Int) ((i + 1 : Nat) : Int) else some false) (fun k => ?_) ?_
    · simp only [laws_zzFits3.l0]
      rw [if_pos (by omega), if_pos (by omega), if_pos (by omega), rdStep_nat _ _ hlt, wrap_add (by omega) (by omega), fits4_is]
      rfl
    · rw [List.drop_eq_getElem_cons hlt, List.all_cons]
      refine Ev.ite (fun g => ?_) (fun g => Ev.val ?_)
      · rw [g, Bool.true_and]
        exact ih (i + 1) (by omega)
      · simp only [Bool.not_eq_true] at g
        rw [g]; rfl
theorem fits3_ends (l : List S28) : Ev (fun k => laws_zzFits3.f k l) (fits3 l) := by
  simp only [laws_zzFits3.f]
  unfold fits3
  refine Ev.ite (fun h => Ev.val ?_) (fun h => ?_)
  · rw [decide_eq_false (by omega)]; rfl
  · rw [decide_eq_true (by omega), Bool.true_and]
    exact fits3_from l (by omega) l.length 0 (by omega)
theorem fits3_mem {l : List S28} (h : fits3 l = true) : l.length ≤ 2147483647 ∧ ∀ s ∈ l, s.f1.size ≤ 2147483647 ∧ s.f2.size ≤ 2147483647 := by
  unfold fits3 at h
  simp only [Bool.and_eq_true, decide_eq_true_eq, List.all_eq_true] at h
  refine ⟨h.1, fun s hs => ?_⟩
  have := h.2 s hs
  unfold fits4 at this
  simp only [Bool.and_eq_true, decide_eq_true_eq] at this
  exact this
def pB (x : Int) : Bool := decide (32 ≤ x) && decide (x ≤ 126)
def isPrinted (s : ByteArray) : Bool := (ns s).all pB && (decide (s.size = 0) || (decide (bt s 0 ≠ 32) && decide (bt s ((s.size - 1 : Nat) : Int) ≠ 32)))
theorem printed_from (s : ByteArray) (hs : s.size ≤ 140737488351232) (d : Nat) : ∀ i : Nat, i + d = s.size → Ev (fun k => laws_printed.l0 k s (s.size : Int) (i : Int)) (((ns s).drop i).all pB && (decide (s.size = 0) || (decide (bt s 0 ≠ 32) && decide (bt s ((s.size - 1 : Nat) : Int) ≠ 32)))) := by
  induction d with
  | zero =>
    intro i hi
    rw [List.drop_eq_nil_of_le (by rw [ns_length]; omega), List.all_nil, Bool.true_and]
    by_cases h0 : s.size = 0
    · refine Ev.step (f := fun _ => some true) (fun k => ?_) (Ev.val ?_)
      · simp only [laws_printed.l0]
        rw [if_neg (by omega), if_pos]
        rw [Lib.toList_data]
        exact List.length_eq_zero_iff.1 (by rw [← Lib.size_eq]; exact h0)
      · rw [decide_eq_true h0]; rfl
    · have hne : ¬ s.toList = ([] : List UInt8) := by
        rw [Lib.toList_data]
        intro e
        have := congrArg List.length e
        rw [← Lib.size_eq] at this
        exact h0 this
      have hw : wrap64 ((s.size : Int) - 1) = ((s.size - 1 : Nat) : Int) := by unfold wrap64; omega
      rw [decide_eq_false h0, Bool.false_or]
      by_cases hb : bt s 0 = 32
      · refine Ev.step (f := fun _ => some false) (fun k => ?_) (Ev.val ?_)
        · simp only [laws_printed.l0]
          rw [if_neg (by omega), if_neg hne, if_pos (by omega), if_pos hb]
        · rw [decide_eq_false (by omega)]; rfl
      · refine Ev.step (f := fun _ => some (bt s ((s.size - 1 : Nat) : Int) != 32)) (fun k => ?_) (Ev.val ?_)
        · simp only [laws_printed.l0]
          rw [if_neg (by omega), if_neg hne, if_pos (by omega), if_neg hb, hw, if_pos (by omega), if_pos (by omega)]
        · rw [decide_eq_true hb, Bool.true_and]
          by_cases hc : bt s ((s.size - 1 : Nat) : Int) = 32
          · rw [hc]; rfl
          · rw [decide_eq_true hc]; simpa using hc
  | succ d ih =>
    intro i hi
    have hlt : i < (ns s).length := by rw [ns_length]; omega
    have hb : bt s (i : Int) = (ns s)[i] := by rw [bt_ns, List.getD_eq_getElem?_getD, List.getElem?_eq_getElem hlt]; rfl
    rw [List.drop_eq_getElem_cons hlt, List.all_cons]
    refine Ev.step (f := fun k => if bt s (i : Int) < 32 then some false else if bt s (i : Int) > 126 then some false else laws_printed.l0 k s (s.size : Int) ((i + 1 : Nat) : Int)) (fun k => ?_) ?_
    · simp only [laws_printed.l0]
      rw [if_pos (by omega), if_pos (by omega), if_pos (by omega), wrap_add (by omega) (by omega)]
      rfl
    · unfold pB
      refine Ev.ite (fun h => Ev.val ?_) (fun h => Ev.ite (fun g => Ev.val ?_) (fun g => ?_))
      · rw [← hb, decide_eq_false (by omega)]; rfl
      · rw [← hb, decide_eq_false (show ¬ bt s (i : Int) ≤ 126 by omega), Bool.and_false]; rfl
      · rw [← hb, decide_eq_true (by omega), decide_eq_true (by omega), Bool.true_and, Bool.true_and]
        exact ih (i + 1) (by omega)
theorem printed_ends (s : ByteArray) (hs : s.size ≤ 140737488351232) : Ev (fun k => laws_printed.f k s) (isPrinted s) := printed_from s hs s.size 0 (by omega)
end Go.Proofs.Ytoimkmoalmmooaa.Base
