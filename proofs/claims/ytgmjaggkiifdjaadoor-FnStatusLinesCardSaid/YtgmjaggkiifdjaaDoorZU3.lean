/- Texts of this claim, one behind the other (merged by wip/prune.py of this repo, without what the proof does not use): Base, LDecN. -/
import Derived.Test.YtgmjaggkiifdjaaDoorZU2
import Derived.Lib.Strings
set_option linter.unusedVariables false
set_option linter.unusedSimpArgs false
namespace Go.Proofs.YtgmjaggkiifdjaaDoor.Base
open Go.RowKit Go.Proofs.YtgmjaggkiifdjaaDoorW.PrintWords Go.Proofs.YtgmjaggkiifdjaaDoorW.PrintMore
def ns (s : ByteArray) : List Int := s.data.toList.map fun c => (c.toNat : Int)
theorem ns_length (s : ByteArray) : (ns s).length = s.size := by rw [ns, List.length_map, ← Lib.size_eq]
theorem ns_range (s : ByteArray) (x : Int) (h : x ∈ ns s) : 0 ≤ x ∧ x ≤ 255 := by
  obtain ⟨c, _, rfl⟩ := List.mem_map.1 h
  have := c.toNat_lt
  omega
theorem ns_inj {a b : ByteArray} (h : ns a = ns b) : a = b := by
  have h1 : a.data.toList = b.data.toList := by
    have hf : ∀ x y : UInt8, (x.toNat : Int) = (y.toNat : Int) → x = y := fun x y e => UInt8.toNat_inj.1 (by omega)
    unfold ns at h
    exact List.map_inj_right hf |>.1 h
  rw [← Lib.mk_data a, ← Lib.mk_data b, h1]
theorem ns_append (a b : ByteArray) : ns (a ++ b) = ns a ++ ns b := by simp [ns, ByteArray.data_append]
theorem ns_strOfNums {xs : List Int} (h : ∀ x ∈ xs, 0 ≤ x ∧ x ≤ 255) : ns (strOfNums xs) = xs := by
  unfold ns
  rw [strOfNums_data, List.map_map]
  conv => rhs; rw [← List.map_id xs]
  refine List.map_congr_left (fun x hx => ?_)
  have := h x hx
  simp only [Function.comp_apply, id_eq, UInt8.toNat_ofNat']
  omega
theorem wf_i64 {c : Int} (h : (Lit.int .i64 c).wf = true) : -9223372036854775808 ≤ c ∧ c ≤ 9223372036854775807 := by
  have a : IntKind.i64.min = -9223372036854775808 := by decide
  have b : IntKind.i64.max = 9223372036854775807 := by decide
  simp [Lit.wf] at h
  omega
theorem Ev.if_true {α : Type} {c : Prop} [Decidable c] {f g : Nat → Option α} {r : α} (h : c) (k : Ev f r) : Ev (fun n => if c then f n else g n) r := by
  simp only [if_pos h]; exact k
theorem Ev.val {α : Type} {a r : α} (h : a = r) : Ev (fun _ => some a) r := h ▸ Ev.now a
end Go.Proofs.YtgmjaggkiifdjaaDoor.Base
namespace Go.Proofs.YtgmjaggkiifdjaaDoor.Base
open Go.RowKit
def decF : Nat → Nat → List Int
  | 0, _ => []
  | f + 1, n => if n < 10 then [48 + (n : Int)] else decF f (n / 10) ++ [48 + ((n % 10 : Nat) : Int)]
def decN (n : Nat) : List Int := decF (n + 1) n
theorem decF_more (f : Nat) : ∀ n, n < f → ∀ g, n < g → decF f n = decF g n := by
  induction f with
  | zero => intro n h; omega
  | succ f ih =>
    intro n h g hg
    cases g with
    | zero => omega
    | succ g =>
      unfold decF
      by_cases h10 : n < 10
      · rw [if_pos h10, if_pos h10]
      · rw [if_neg h10, if_neg h10, ih (n / 10) (by omega) g (by omega)]
theorem decN_lt (n : Nat) (h : n < 10) : decN n = [48 + (n : Int)] := by unfold decN decF; rw [if_pos h]
theorem decN_ge (n : Nat) (h : 10 ≤ n) : decN n = decN (n / 10) ++ [48 + ((n % 10 : Nat) : Int)] := by
  unfold decN
  conv => lhs; unfold decF
  rw [if_neg (by omega), decF_more n (n / 10) (by omega) (n / 10 + 1) (by omega)]
theorem decN_digits (n : Nat) : ∀ x ∈ decN n, 48 ≤ x ∧ x ≤ 57 := by
  induction n using Nat.strongRecOn with
  | _ n ih =>
    intro x hx
    by_cases h : n < 10
    · rw [decN_lt n h] at hx
      simp only [List.mem_singleton] at hx; omega
    · rw [decN_ge n (by omega)] at hx
      rcases List.mem_append.1 hx with h1 | h1
      · exact ih (n / 10) (by omega) x h1
      · simp only [List.mem_singleton] at h1; omega
theorem decN_range (n : Nat) : ∀ x ∈ decN n, 0 ≤ x ∧ x ≤ 255 := fun x hx => by have := decN_digits n x hx; omega
theorem decN_pow (k : Nat) : ∀ n, n < 10 ^ k → (decN n).length ≤ max k 1 := by
  induction k with
  | zero => intro n h; simp at h; subst h; decide
  | succ k ih =>
    intro n h
    by_cases h10 : n < 10
    · rw [decN_lt n h10]; simp only [List.length_singleton]; omega
    · rw [decN_ge n (by omega), List.length_append, List.length_singleton]
      have := ih (n / 10) (by rw [Nat.pow_succ] at h; omega)
      cases k with
      | zero => simp at h; omega
      | succ k => omega
theorem decN_len (n : Nat) (h : n < 9223372036854775808) : (decN n).length ≤ 19 := decN_pow 19 n (by omega)
end Go.Proofs.YtgmjaggkiifdjaaDoor.Base
