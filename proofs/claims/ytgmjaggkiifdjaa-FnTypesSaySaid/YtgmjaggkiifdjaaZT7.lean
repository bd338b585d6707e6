/- Texts of this claim, one behind the other (merged by wip/prune.py of this repo, without what the proof does not use): LTrimL, LShort, LHolds. -/
import Derived.Test.YtgmjaggkiifdjaaZT4
import Derived.Test.YtgmjaggkiifdjaaZT5
set_option linter.unusedVariables false
set_option linter.unusedSimpArgs false
namespace Go.Proofs.Ytgmjaggkiifdjaa.Given
open Go.RowKit Go.Proofs.YtgmjaggkiifdjaaW.PrintWords Go.Proofs.YtgmjaggkiifdjaaW.PrintLast Go.Proofs.YtgmjaggkiifdjaaW.PrintMore Go.Proofs.Ytgmjaggkiifdjaa.Base Go.Proofs.Ytgmjaggkiifdjaa.QA
def ltrim (xs : List Int) : List Int := xs.dropWhile (fun x => decide (x = 32))
theorem ltrim_drop (xs : List Int) (i : Nat) (h : ∀ j, j < i → xs.getD j 0 = 32) (hi : i ≤ xs.length) (he : i < xs.length → xs.getD i 0 ≠ 32) : ltrim xs = xs.drop i := by
  induction i generalizing xs with
  | zero =>
    cases xs with
    | nil => rfl
    | cons x xs =>
      have := he (by simp)
      simp at this
      simp [ltrim, this]
  | succ i ih =>
    cases xs with
    | nil => simp at hi
    | cons x xs =>
      have h0 : x = 32 := by have := h 0 (by omega); simpa using this
      subst h0
      have := ih xs (fun j hj => by have := h (j + 1) (by omega); simpa using this) (by simpa using hi) (fun hl => by have := he (by simpa using hl); simpa using this)
      simp only [ltrim] at this ⊢
      simp [this]
theorem trimL_ends (s : ByteArray) (hs : s.size ≤ 4611686018427387904) : Ev (fun k => fiberutils_TrimLeft.f k s 32) (strOfNums (ltrim (ns s))) := by
  have key : ∀ d i : Nat, i + d = s.size → (∀ j, j < i → (ns s).getD j 0 = 32) → Ev (fun k => fiberutils_TrimLeft.l0 k s 32 (s.size : Int) (i : Int)) (strOfNums (ltrim (ns s))) := by
    intro d
    have out : ∀ i : Nat, i ≤ s.size → (∀ j, j < i → (ns s).getD j 0 = 32) → (i < s.size → (ns s).getD i 0 ≠ 32) → s.extract i s.size = strOfNums (ltrim (ns s)) := by
      intro i hi h he
      have e1 : ltrim (ns s) = (ns s).drop i := ltrim_drop _ i h (by rw [ns_length]; exact hi) (by rw [ns_length]; exact he)
      have e2 : ns (s.extract i s.size) = (ns s).drop i := by
        rw [ns_extract, List.take_of_length_le]
        rw [List.length_drop, ns_length]
        omega
      apply ns_inj
      rw [e2, e1, ns_strOfNums]
      intro x hx
      exact ns_range s x (List.mem_of_mem_drop hx)
    induction d with
    | zero =>
      intro i hi h
      refine Ev.step (f := fun _ => some _) (fun k => ?_) (Ev.now _)
      simp only [fiberutils_TrimLeft.l0]
      rw [if_neg (by omega), if_pos (by omega), if_pos (by omega), Int.toNat_natCast, out i (by omega) h (fun hl => by omega)]
    | succ d ih =>
      intro i hi h
      by_cases c : (ns s).getD i 0 = 32
      · refine Ev.step (f := fun k => fiberutils_TrimLeft.l0 k s 32 (s.size : Int) ((i + 1 : Nat) : Int)) (fun k => ?_) (ih (i + 1) (by omega) (fun j hj => ?_))
        · simp only [fiberutils_TrimLeft.l0]
          rw [if_pos (by omega), if_pos (by omega), if_pos (by omega), if_pos (by rw [bt_ns]; exact c), wrap_add (by omega) (by omega)]
          rfl
        · rcases Nat.lt_or_ge j i with hj' | hj'
          · exact h j hj'
          · obtain rfl : j = i := by omega
            exact c
      · refine Ev.step (f := fun _ => some _) (fun k => ?_) (Ev.now _)
        simp only [fiberutils_TrimLeft.l0]
        rw [if_pos (by omega), if_pos (by omega), if_pos (by omega), if_neg (by rw [bt_ns]; exact c), if_pos (by omega), Int.toNat_natCast, out i (by omega) h (fun _ => c)]
  exact key s.size 0 (by omega) (fun j hj => by omega)
theorem trimL (s : ByteArray) (hs : s.size ≤ 4611686018427387904) : ∃ k, fiberutils_TrimLeft.f k s 32 = some (strOfNums (ltrim (ns s))) := Ev.rounds (trimL_ends s hs)
end Go.Proofs.Ytgmjaggkiifdjaa.Given
namespace Go.Proofs.Ytgmjaggkiifdjaa.Base
open Go.RowKit Go.Proofs.Ytgmjaggkiifdjaa.QA Go.Proofs.YtgmjaggkiifdjaaW.PrintWords Go.Proofs.YtgmjaggkiifdjaaW.PrintLast
def areShort (l : List ByteArray) : Bool := (l.all fun s => decide (s.size ≤ 200)) && decide (l.length ≤ 60)
theorem short_from (l : List ByteArray) (hl : l.length ≤ 140737488351232) (d : Nat) : ∀ i : Nat, i + d = l.length → Ev (fun k => laws_short.l0 k l l (l.length : Int) (i : Int)) (((l.drop i).all fun s => decide (s.size ≤ 200)) && decide (l.length ≤ 60)) := by
  induction d with
  | zero =>
    intro i hi
    refine Ev.step (f := fun _ => some (decide ((l.length : Int) ≤ 60))) (fun k => ?_) (Ev.val ?_)
    · simp only [laws_short.l0]; rw [if_neg (by omega)]
    · rw [List.drop_eq_nil_of_le (by omega)]
      simp only [List.all_nil, Bool.true_and]
      exact decide_eq_decide.2 (by omega)
  | succ d ih =>
    intro i hi
    have hlt : i < l.length := by omega
    refine Ev.step (f := fun k => if ((l[i]).size : Int) > 200 then some false else laws_short.l0 k l l (l.length : Int) ((i + 1 : Nat) : Int)) (fun k => ?_) ?_
    · simp only [laws_short.l0]
      rw [if_pos (by omega), if_pos (by omega), if_pos (by omega), rdOf_nat _ _ _ hlt, wrap_add (by omega) (by omega)]
      rfl
    · rw [List.drop_eq_getElem_cons hlt, List.all_cons]
      refine Ev.ite (fun g => Ev.val ?_) (fun g => ?_)
      · rw [decide_eq_false (by omega)]; simp
      · rw [decide_eq_true (by omega), Bool.true_and]
        exact ih (i + 1) (by omega)
theorem short_ends (l : List ByteArray) (hl : l.length ≤ 140737488351232) : Ev (fun k => laws_short.f k l) (areShort l) := short_from l hl l.length 0 (by omega)
theorem areShort_mem {l : List ByteArray} (h : areShort l = true) : l.length ≤ 60 ∧ ∀ s ∈ l, s.size ≤ 200 := by
  unfold areShort at h
  simp only [Bool.and_eq_true, decide_eq_true_eq, List.all_eq_true] at h
  exact ⟨h.2, h.1⟩
theorem holds_from (s : ByteArray) (c : Int) (hs : s.size ≤ 140737488351232) (d : Nat) : ∀ i : Nat, i + d = s.size → Ev (fun k => laws_holds.l0 k s c (s.size : Int) (i : Int)) (((ns s).drop i).any fun x => decide (x = c)) := by
  induction d with
  | zero =>
    intro i hi
    refine Ev.step (f := fun _ => some false) (fun k => ?_) (Ev.val ?_)
    · simp only [laws_holds.l0]; rw [if_neg (by omega)]
    · rw [List.drop_eq_nil_of_le (by rw [ns_length]; omega)]; rfl
  | succ d ih =>
    intro i hi
    have hlt : i < (ns s).length := by rw [ns_length]; omega
    have hb : bt s (i : Int) = (ns s)[i] := by rw [bt_ns, List.getD_eq_getElem?_getD, List.getElem?_eq_getElem hlt]; rfl
    refine Ev.step (f := fun k => if (ns s)[i] = c then some true else laws_holds.l0 k s c (s.size : Int) ((i + 1 : Nat) : Int)) (fun k => ?_) ?_
    · simp only [laws_holds.l0]
      rw [if_pos (by omega), if_pos (by omega), if_pos (by omega), hb, wrap_add (by omega) (by omega)]
      rfl
    · rw [List.drop_eq_getElem_cons hlt, List.any_cons]
      refine Ev.ite (fun h => Ev.val ?_) (fun h => ?_)
      · simp [h]
      · simp only [h, decide_false, Bool.false_or]
        exact ih (i + 1) (by omega)
theorem holds_ends (s : ByteArray) (c : Int) (hs : s.size ≤ 140737488351232) : Ev (fun k => laws_holds.f k s c) ((ns s).any fun x => decide (x = c)) := holds_from s c hs s.size 0 (by omega)
end Go.Proofs.Ytgmjaggkiifdjaa.Base
