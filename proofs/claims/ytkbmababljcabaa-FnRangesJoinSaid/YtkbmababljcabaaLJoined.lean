/- What 'joined' tells: texts with one between. -/
import Derived.Test.YtkbmababljcabaaQA36
import Derived.Test.YtkbmababljcabaaBase
set_option linter.unusedVariables false
namespace Go.Proofs.Ytkbmababljcabaa.Base
open Go.RowKit Go.Proofs.Ytkbmababljcabaa.QA Go.Proofs.YtkbmababljcabaaW.PrintWords Go.Proofs.YtkbmababljcabaaW.PrintLast

/-- Lists with one between. -/
def joinN (sep : List Int) : List (List Int) → List Int
  | [] => []
  | x :: l => x ++ l.flatMap fun y => sep ++ y
theorem joined_from (sep : ByteArray) (l : List ByteArray) (B : Nat) (hB : B ≤ 2147483648) (hsep : sep.size ≤ B) (hl : l.length ≤ 4294967296 - 2) (hs : ∀ s ∈ l, s.size ≤ B) (hmul : l.length * (2 * B) ≤ 4611686018427387904) (d : Nat) :
    ∀ (i : Nat) (acc : ByteArray), 1 ≤ i → i + d = l.length → acc.size ≤ i * (2 * B) → ∃ r : ByteArray, Ev (fun k => laws_joined.l0 k sep acc l (l.length : Int) (i : Int)) r ∧ ns r = ns acc ++ (l.drop i).flatMap fun y => ns sep ++ ns y := by
  induction d with
  | zero =>
    intro i acc h1 hi hacc
    refine ⟨acc, Ev.step (f := fun _ => some acc) (fun k => ?_) (Ev.now _), ?_⟩
    · simp only [laws_joined.l0]; rw [if_neg (by omega)]
    · rw [List.drop_eq_nil_of_le (by omega)]; simp
  | succ d ih =>
    intro i acc h1 hi hacc
    have hlt : i < l.length := by omega
    have hsi := hs _ (List.getElem_mem hlt)
    have hm : (i + 1) * (2 * B) ≤ l.length * (2 * B) := Nat.mul_le_mul_right _ (by omega)
    have hm2 : (i + 1) * (2 * B) = i * (2 * B) + 2 * B := by rw [Nat.add_mul, Nat.one_mul]
    have z1 : (acc ++ sep).size = acc.size + sep.size := ByteArray.size_append
    have z2 : ((acc ++ sep) ++ l[i]).size = acc.size + sep.size + (l[i]).size := by rw [ByteArray.size_append, z1]
    obtain ⟨r, hr, hn⟩ := ih (i + 1) ((acc ++ sep) ++ l[i]) (by omega) (by omega) (by rw [z2]; omega)
    refine ⟨r, Ev.step (f := fun k => laws_joined.l0 k sep ((acc ++ sep) ++ l[i]) l (l.length : Int) ((i + 1 : Nat) : Int)) (fun k => ?_) hr, ?_⟩
    · simp only [laws_joined.l0]
      rw [if_pos (by omega), if_pos (by omega), if_pos (by omega), if_pos (by omega), rdOf_nat _ _ _ hlt, wrap_add (by omega) (by omega), if_pos (by omega), if_pos (by omega)]
      rfl
    · rw [hn, List.drop_eq_getElem_cons hlt, List.flatMap_cons, ns_append, ns_append]
      simp only [List.append_assoc]
theorem joined_ends (sep : ByteArray) (l : List ByteArray) (B : Nat) (hB : B ≤ 2147483648) (hsep : sep.size ≤ B) (hl : l.length ≤ 4294967296 - 2) (hs : ∀ s ∈ l, s.size ≤ B) (hmul : l.length * (2 * B) ≤ 4611686018427387904) :
    ∃ r : ByteArray, Ev (fun k => laws_joined.f k l sep) r ∧ ns r = joinN (ns sep) (l.map ns) := by
  simp only [laws_joined.f]
  cases l with
  | nil =>
    refine ⟨⟨#[]⟩, Ev.step (f := fun _ => some (⟨#[]⟩ : ByteArray)) (fun k => ?_) (Ev.now _), rfl⟩
    simp only [laws_joined.l0]; rw [if_neg (by simp)]
  | cons x l =>
    have hx := hs x (by simp)
    obtain ⟨r, hr, hn⟩ := joined_from sep (x :: l) B hB hsep hl hs hmul l.length 1 x (by omega) (by simp; omega) (by omega)
    have hemp : (⟨#[]⟩ : ByteArray) ++ x = x := ns_inj (by rw [ns_append]; rfl)
    have hz : (⟨#[]⟩ : ByteArray).size = 0 := rfl
    refine ⟨r, Ev.step (f := fun k => laws_joined.l0 k sep x (x :: l) ((x :: l).length : Int) 1) (fun k => ?_) hr, ?_⟩
    · have hr0 : rdOf ByteArray.empty (x :: l) 0 = x := rfl
      have hw : wrap64 (0 + 1) = 1 := by unfold wrap64; decide
      have hl0 : (0 : Int) < ((x :: l).length : Int) := by rw [List.length_cons]; omega
      simp only [laws_joined.l0]
      rw [if_pos hl0, if_pos (by omega), if_pos hl0, if_neg (by omega), hr0, hw, hemp, if_pos (by omega)]
    · rw [hn]
      simp only [List.drop_one, List.tail_cons, List.map_cons, joinN, List.flatMap_map]
end Go.Proofs.Ytkbmababljcabaa.Base
