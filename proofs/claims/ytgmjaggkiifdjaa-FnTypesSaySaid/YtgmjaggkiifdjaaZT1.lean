/- Texts of this claim, one behind the other (merged by wip/prune.py of this repo, without what the proof does not use): SortF. -/
import Derived.Laws.Cover2
import Derived.Laws.FloatArith
set_option linter.unusedVariables false
set_option linter.unusedSimpArgs false
namespace Go.Proofs.Ytgmjaggkiifdjaa.Fl
open Ieee
def fl (q : Int) : Nat := floatOfInt .f64 q
def okN (n : Nat) : Bool := match FloatKind.f64.format.read (fl (n : Int)) with
  | .number s m i => !s && decide (i ≤ 0) && decide (m = n <<< (-i).toNat)
  | _ => false
theorem okN_all : ∀ n : Fin 1001, okN n.val = true := by decide +kernel
theorem toInt_all : ∀ n : Fin 1001, floatToIntVal .f64 (fl (n.val : Int)) .i64 = some (n.val : Int) := by decide +kernel
theorem fl_int (q : Int) (h0 : 0 ≤ q) (h1 : q ≤ 1000) : floatToIntVal .f64 (fl q) .i64 = some q := by
  obtain ⟨n, rfl⟩ := Int.eq_ofNat_of_zero_le h0
  exact toInt_all ⟨n, by omega⟩
theorem read_of (n : Nat) (h : n ≤ 1000) : ∃ (i : Int), i ≤ 0 ∧ FloatKind.f64.format.read (fl (n : Int)) = .number false (n <<< (-i).toNat) i := by
  have := okN_all ⟨n, by omega⟩
  unfold okN at this
  split at this
  · rename_i s m i e
    simp only [Bool.and_eq_true, Bool.not_eq_true', decide_eq_true_eq] at this
    obtain ⟨⟨rfl, hi⟩, rfl⟩ := this
    exact ⟨i, hi, e⟩
  · cases this
theorem cmp_shift (a b k : Nat) : compare ((a <<< k : Nat) : Int) ((b <<< k : Nat) : Int) = compare (a : Int) (b : Int) := by
  have h : 0 < 2 ^ k := Nat.pow_pos (by decide)
  simp only [Nat.shiftLeft_eq, compare, compareOfLessAndEq]
  have h1 : ((a * 2 ^ k : Nat) : Int) < ((b * 2 ^ k : Nat) : Int) ↔ (a : Int) < (b : Int) := by
    rw [Int.ofNat_lt, Int.ofNat_lt]
    exact Nat.mul_lt_mul_right h
  have h2 : ((a * 2 ^ k : Nat) : Int) = ((b * 2 ^ k : Nat) : Int) ↔ (a : Int) = (b : Int) := by
    rw [Int.ofNat_inj, Int.ofNat_inj]
    exact Nat.mul_left_inj (by omega)
  simp only [h1, h2]
theorem fl_order (a b : Int) (ha : 0 ≤ a) (ha1 : a ≤ 1000) (hb : 0 ≤ b) (hb1 : b ≤ 1000) : FloatKind.f64.format.order (fl a) (fl b) = some (compare a b) := by
  obtain ⟨n, rfl⟩ := Int.eq_ofNat_of_zero_le ha
  obtain ⟨m, rfl⟩ := Int.eq_ofNat_of_zero_le hb
  obtain ⟨i, hi, e1⟩ := read_of n (by omega)
  obtain ⟨j, hj, e2⟩ := read_of m (by omega)
  unfold Format.order
  rw [e1, e2]
  simp only [Datum.order, signed, Bool.false_eq_true, if_false, ← Nat.shiftLeft_add]
  have s1 : (-i).toNat + (i - min i j).toNat = (-(min i j)).toNat := by omega
  have s2 : (-j).toNat + (j - min i j).toNat = (-(min i j)).toNat := by omega
  rw [s1, s2, cmp_shift]
theorem fl_lt (a b : Int) (ha : 0 ≤ a) (ha1 : a ≤ 1000) (hb : 0 ≤ b) (hb1 : b ≤ 1000) : (FloatKind.f64.format.order (fl a) (fl b) == some .lt) = decide (a < b) := by
  rw [fl_order a b ha ha1 hb hb1]
  simp only [compare, compareOfLessAndEq]
  by_cases h : a < b
  · rw [if_pos h, decide_eq_true h]; rfl
  · rw [if_neg h, decide_eq_false h]
    split <;> rfl
theorem fl_eq (a b : Int) (ha : 0 ≤ a) (ha1 : a ≤ 1000) (hb : 0 ≤ b) (hb1 : b ≤ 1000) : (FloatKind.f64.format.order (fl a) (fl b) == some .eq) = decide (a = b) := by
  rw [fl_order a b ha ha1 hb hb1]
  simp only [compare, compareOfLessAndEq]
  by_cases h : a < b
  · rw [if_pos h, decide_eq_false (by omega)]; rfl
  · rw [if_neg h]
    by_cases g : a = b
    · rw [if_pos g, decide_eq_true g]; rfl
    · rw [if_neg g, decide_eq_false g]; rfl
end Go.Proofs.Ytgmjaggkiifdjaa.Fl
