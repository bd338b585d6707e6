/- A number's decimal digits, over numbers alone. -/
import Derived.Test.YtdfeojkombmiaaaDoorBase
namespace Go.Proofs.YtdfeojkombmiaaaDoor.Base
open Go.RowKit

def decF : Nat → Nat → List Int
  | 0, _ => []
  | f + 1, n => if n < 10 then [48 + (n : Int)] else decF f (n / 10) ++ [48 + ((n % 10 : Nat) : Int)]
/-- The digits of a number. -/
def decN (n : Nat) : List Int := decF (n + 1) n
theorem decF_more (f : Nat) : ∀ n, n < f → ∀ g, n < g → decF f n = decF g n := by
  induction f with
  | zero => intro n h; omega
  | succ f ih =>
    intro n h g hg
    cases g with
    | zero => omega
    | succ g =>
      unfold decF
      by_cases h10 : n < 10
      · rw [if_pos h10, if_pos h10]
      · rw [if_neg h10, if_neg h10, ih (n / 10) (by omega) g (by omega)]
theorem decN_lt (n : Nat) (h : n < 10) : decN n = [48 + (n : Int)] := by unfold decN decF; rw [if_pos h]
theorem decN_ge (n : Nat) (h : 10 ≤ n) : decN n = decN (n / 10) ++ [48 + ((n % 10 : Nat) : Int)] := by
  unfold decN
  conv => lhs; unfold decF
  rw [if_neg (by omega), decF_more n (n / 10) (by omega) (n / 10 + 1) (by omega)]
theorem decN_digits (n : Nat) : ∀ x ∈ decN n, 48 ≤ x ∧ x ≤ 57 := by
  induction n using Nat.strongRecOn with
  | _ n ih =>
    intro x hx
    by_cases h : n < 10
    · rw [decN_lt n h] at hx
      simp only [List.mem_singleton] at hx; omega
    · rw [decN_ge n (by omega)] at hx
      rcases List.mem_append.1 hx with h1 | h1
      · exact ih (n / 10) (by omega) x h1
      · simp only [List.mem_singleton] at h1; omega
theorem decN_range (n : Nat) : ∀ x ∈ decN n, 0 ≤ x ∧ x ≤ 255 := fun x hx => by have := decN_digits n x hx; omega
theorem decN_pos (n : Nat) : 1 ≤ (decN n).length := by
  by_cases h : n < 10
  · rw [decN_lt n h]; simp
  · rw [decN_ge n (by omega)]; simp
theorem decN_pow (k : Nat) : ∀ n, n < 10 ^ k → (decN n).length ≤ max k 1 := by
  induction k with
  | zero => intro n h; simp at h; subst h; decide
  | succ k ih =>
    intro n h
    by_cases h10 : n < 10
    · rw [decN_lt n h10]; simp only [List.length_singleton]; omega
    · rw [decN_ge n (by omega), List.length_append, List.length_singleton]
      have := ih (n / 10) (by rw [Nat.pow_succ] at h; omega)
      cases k with
      | zero => simp at h; omega
      | succ k => omega
theorem decN_len (n : Nat) (h : n < 9223372036854775808) : (decN n).length ≤ 19 := decN_pow 19 n (by omega)
end Go.Proofs.YtdfeojkombmiaaaDoor.Base
