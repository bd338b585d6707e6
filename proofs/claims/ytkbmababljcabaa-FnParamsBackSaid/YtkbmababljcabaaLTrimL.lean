/- TrimLeft of blanks, over any text. -/
import Derived.Test.YtkbmababljcabaaQA2
import Derived.Test.YtkbmababljcabaaBase
set_option linter.unusedVariables false
namespace Go.Proofs.Ytkbmababljcabaa.Given
open Go.RowKit Go.Proofs.YtkbmababljcabaaW.PrintWords Go.Proofs.YtkbmababljcabaaW.PrintLast Go.Proofs.YtkbmababljcabaaW.PrintMore Go.Proofs.Ytkbmababljcabaa.Base Go.Proofs.Ytkbmababljcabaa.QA

def ltrim (xs : List Int) : List Int := xs.dropWhile (fun x => decide (x = 32))
theorem ltrim_drop (xs : List Int) (i : Nat) (h : ∀ j, j < i → xs.getD j 0 = 32) (hi : i ≤ xs.length) (he : i < xs.length → xs.getD i 0 ≠ 32) : ltrim xs = xs.drop i := by
  induction i generalizing xs with
  | zero =>
    cases xs with
    | nil => rfl
    | cons x xs =>
      have := he (by simp)
      simp at this
      simp [ltrim, this]
  | succ i ih =>
    cases xs with
    | nil => simp at hi
    | cons x xs =>
      have h0 : x = 32 := by have := h 0 (by omega); simpa using this
      subst h0
      have := ih xs (fun j hj => by have := h (j + 1) (by omega); simpa using this) (by simpa using hi) (fun hl => by have := he (by simpa using hl); simpa using this)
      simp only [ltrim] at this ⊢
      simp [this]
theorem trimL_ends (s : ByteArray) (hs : s.size ≤ 4611686018427387904) : Ev (fun k => fiberutils_TrimLeft.f k s 32) (strOfNums (ltrim (ns s))) := by
  have key : ∀ d i : Nat, i + d = s.size → (∀ j, j < i → (ns s).getD j 0 = 32) → Ev (fun k => fiberutils_TrimLeft.l0 k s 32 (s.size : Int) (i : Int)) (strOfNums (ltrim (ns s))) := by
    intro d
    have out : ∀ i : Nat, i ≤ s.size → (∀ j, j < i → (ns s).getD j 0 = 32) → (i < s.size → (ns s).getD i 0 ≠ 32) → s.extract i s.size = strOfNums (ltrim (ns s)) := by
      intro i hi h he
      have e1 : ltrim (ns s) = (ns s).drop i := ltrim_drop _ i h (by rw [ns_length]; exact hi) (by rw [ns_length]; exact he)
      have e2 : ns (s.extract i s.size) = (ns s).drop i := by
        rw [ns_extract, List.take_of_length_le]
        rw [List.length_drop, ns_length]
        omega
      apply ns_inj
      rw [e2, e1, ns_strOfNums]
      intro x hx
      exact ns_range s x (List.mem_of_mem_drop hx)
    induction d with
    | zero =>
      intro i hi h
      refine Ev.step (f := fun _ => some _) (fun k => ?_) (Ev.now _)
      simp only [fiberutils_TrimLeft.l0]
      rw [if_neg (by omega), if_pos (by omega), if_pos (by omega), Int.toNat_natCast, out i (by omega) h (fun hl => by omega)]
    | succ d ih =>
      intro i hi h
      by_cases c : (ns s).getD i 0 = 32
      · refine Ev.step (f := fun k => fiberutils_TrimLeft.l0 k s 32 (s.size : Int) ((i + 1 : Nat) : Int)) (fun k => ?_) (ih (i + 1) (by omega) (fun j hj => ?_))
        · simp only [fiberutils_TrimLeft.l0]
          rw [if_pos (by omega), if_pos (by omega), if_pos (by omega), if_pos (by rw [bt_ns]; exact c), wrap_add (by omega) (by omega)]
          rfl
        · rcases Nat.lt_or_ge j i with hj' | hj'
          · exact h j hj'
          · obtain rfl : j = i := by omega
            exact c
      · refine Ev.step (f := fun _ => some _) (fun k => ?_) (Ev.now _)
        simp only [fiberutils_TrimLeft.l0]
        rw [if_pos (by omega), if_pos (by omega), if_pos (by omega), if_neg (by rw [bt_ns]; exact c), if_pos (by omega), Int.toNat_natCast, out i (by omega) h (fun _ => c)]
  exact key s.size 0 (by omega) (fun j hj => by omega)
theorem trimL (s : ByteArray) (hs : s.size ≤ 4611686018427387904) : ∃ k, fiberutils_TrimLeft.f k s 32 = some (strOfNums (ltrim (ns s))) := Ev.rounds (trimL_ends s hs)
end Go.Proofs.Ytkbmababljcabaa.Given
