/- Texts of this claim, one behind the other (merged by wip/prune.py of this repo, without what the proof does not use): LDec. -/
import Derived.Test.YtgmjaggkiifdjaaDoorZU3
import Derived.Test.YtgmjaggkiifdjaaDoorZU4
set_option linter.unusedVariables false
set_option linter.unusedSimpArgs false
namespace Go.Proofs.YtgmjaggkiifdjaaDoor.Base
open Go.RowKit Go.Proofs.YtgmjaggkiifdjaaDoor.QA Go.Proofs.YtgmjaggkiifdjaaDoorW.PrintWords Go.Proofs.YtgmjaggkiifdjaaDoorW.PrintLast
theorem dec_ends (n : Nat) : n < 9223372036854775808 → Ev (fun k => laws_decimal.f k (n : Int)) (strOfNums (decN n)) := by
  induction n using Nat.strongRecOn with
  | _ n ih =>
    intro hn
    have digit : ∀ m : Nat, m < 10 → Ev (fun k => laws_decimal.f k (m : Int)) (strOfNums (decN m)) := by
      intro m hm
      refine Ev.step (f := fun _ => some (strOfNums (([(wrap64 (48 + (m : Int))) % 256] : List Int)))) (fun k => ?_) (Ev.val ?_)
      · simp only [laws_decimal.f]; rw [if_neg (by omega), if_pos (by omega)]
      · rw [decN_lt m hm]
        have e : wrap64 (48 + (m : Int)) % 256 = 48 + m := by unfold wrap64; omega
        rw [e]
    by_cases h10 : n < 10
    · exact digit n h10
    · have e1 : wrap64 (Int.tdiv (n : Int) 10) = ((n / 10 : Nat) : Int) := by
        have : Int.tdiv (n : Int) 10 = ((n / 10 : Nat) : Int) := by
          rw [Int.tdiv_eq_ediv_of_nonneg (by omega)]; omega
        rw [this]; unfold wrap64; omega
      have e2 : Int.tmod (n : Int) 10 = ((n % 10 : Nat) : Int) := by
        rw [Int.tmod_eq_emod_of_nonneg (by omega)]; omega
      refine Ev.step (f := fun k => (laws_decimal.f k ((n / 10 : Nat) : Int)).bind fun t274 => ((laws_decimal.f k ((n % 10 : Nat) : Int)).bind fun t275 => (if t274.size + t275.size ≤ 9223372036854775807 then (some (t274 ++ t275)) else (none)))) (fun k => ?_) ?_
      · simp only [laws_decimal.f]; rw [if_neg (by omega), if_neg (by omega), e1, e2]
      · refine Ev.bind (ih (n / 10) (by omega) (by omega)) (Ev.bind (digit (n % 10) (by omega)) (Ev.if_true ?_ (Ev.val ?_)))
        · have h1 := decN_len (n / 10) (by omega)
          have h2 := decN_len (n % 10) (by omega)
          rw [strOfNums_size, strOfNums_size]
          omega
        · rw [decN_ge n (by omega)]
          refine ns_inj ?_
          rw [ns_append, ns_strOfNums (decN_range _), ns_strOfNums (decN_range _), ns_strOfNums ?_, decN_lt (n % 10) (by omega)]
          intro x hx
          rcases List.mem_append.1 hx with h | h
          · exact decN_range _ x h
          · simp only [List.mem_singleton] at h; omega
end Go.Proofs.YtgmjaggkiifdjaaDoor.Base
