/- CaseInsensitiveCompare tells whether two rows of bytes are alike but for the bit 32. -/
import Derived.Test.YtjnnadpecendpaaQA1
import Derived.Test.YtjnnadpecendpaaBase
import Derived.Test.YtjnnadpecendpaaGvNk
namespace Go.Proofs.Ytjnnadpecendpaa.Base
open Go.RowKit Go.Proofs.Ytjnnadpecendpaa.QA Go.Proofs.YtjnnadpecendpaaW.PrintWords Go.Proofs.YtjnnadpecendpaaW.PrintLast Go.Proofs.Ytjnnadpecendpaa.Given Go.Proofs.Ytjnnadpecendpaa.Gv

def o32 (x : Int) : Int := Go.bits .or .u8 x 32
theorem cic_from (a b : List Int) (hl : a.length = b.length) (hs : a.length ≤ 140737488351232) (d : Nat) : ∀ i : Nat, i + d = a.length → Ev (fun k => hertzutils_CaseInsensitiveCompare.l0 k a b (i : Int)) (decide ((a.drop i).map o32 = (b.drop i).map o32)) := by
  induction d with
  | zero =>
    intro i hi
    refine Ev.step (f := fun _ => some true) (fun k => ?_) (Ev.val ?_)
    · simp only [hertzutils_CaseInsensitiveCompare.l0]; rw [if_neg (by omega)]
    · rw [List.drop_eq_nil_of_le (by omega), List.drop_eq_nil_of_le (by omega)]; rfl
  | succ d ih =>
    intro i hi
    have ha : i < a.length := by omega
    have hb : i < b.length := by omega
    have ea : rd a (i : Int) = a[i] := by unfold rd; rw [Int.toNat_natCast, List.getD_eq_getElem?_getD, List.getElem?_eq_getElem ha]; rfl
    have eb : rd b (i : Int) = b[i] := by unfold rd; rw [Int.toNat_natCast, List.getD_eq_getElem?_getD, List.getElem?_eq_getElem hb]; rfl
    refine Ev.step (f := fun k => if o32 a[i] = o32 b[i] then hertzutils_CaseInsensitiveCompare.l0 k a b ((i + 1 : Nat) : Int) else some false) (fun k => ?_) ?_
    · simp only [hertzutils_CaseInsensitiveCompare.l0]
      rw [if_pos (by omega), if_pos (by omega), if_pos (by omega), ea, eb, wrap_add (by omega) (by omega)]
      rfl
    · rw [List.drop_eq_getElem_cons ha, List.drop_eq_getElem_cons hb, List.map_cons, List.map_cons]
      refine Ev.ite (fun h => ?_) (fun h => Ev.val ?_)
      · simp only [h, List.cons.injEq, true_and]
        exact ih (i + 1) (by omega)
      · simp [h]
theorem cic_ends (a b : List Int) (hs : a.length ≤ 140737488351232) : Ev (fun k => hertzutils_CaseInsensitiveCompare.f k a b) (decide (a.map o32 = b.map o32)) := by
  simp only [hertzutils_CaseInsensitiveCompare.f]
  refine Ev.ite (fun h => cic_from a b (by omega) hs a.length 0 (by omega)) (fun h => Ev.val ?_)
  rw [decide_eq_false]
  intro e
  have := congrArg List.length e
  simp at this
  omega
theorem o32_lo_fin : ∀ n : Fin 256, o32 (lo ((n.val : Nat) : Int)) = o32 ((n.val : Nat) : Int) := by decide +kernel
theorem o32_lo (x : Int) (h0 : 0 ≤ x) (h1 : x ≤ 255) : o32 (lo x) = o32 x := by
  obtain ⟨n, rfl⟩ := Int.eq_ofNat_of_zero_le h0
  exact o32_lo_fin ⟨n, by omega⟩
theorem map_o32_lo (l : List Int) (h : ∀ x ∈ l, 0 ≤ x ∧ x ≤ 255) : (l.map lo).map o32 = l.map o32 := by
  rw [List.map_map]
  exact List.map_congr_left (fun x hx => o32_lo x (h x hx).1 (h x hx).2)
end Go.Proofs.Ytjnnadpecendpaa.Base
