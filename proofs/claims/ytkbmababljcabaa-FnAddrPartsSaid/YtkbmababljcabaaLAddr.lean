/- What 'Addr' tells: an address parted at its last colon. -/
import Derived.Test.YtkbmababljcabaaQA6
import Derived.Test.YtkbmababljcabaaBase
set_option linter.unusedVariables false
namespace Go.Proofs.Ytkbmababljcabaa.Base
open Go.RowKit Go.Proofs.Ytkbmababljcabaa.QA Go.Proofs.YtkbmababljcabaaW.PrintWords Go.Proofs.YtkbmababljcabaaW.PrintLast

/-- The last place below j that holds c, or -1. -/
def lastTo (xs : List Int) (c : Int) : Nat → Int
  | 0 => -1
  | j + 1 => if xs.getD j 0 = c then (j : Int) else lastTo xs c j
theorem lastTo_range (xs : List Int) (c : Int) (j : Nat) : -1 ≤ lastTo xs c j ∧ lastTo xs c j < j := by
  induction j with
  | zero => simp [lastTo]
  | succ j ih =>
    unfold lastTo
    split <;> omega
theorem lastByte_ends (s : ByteArray) (c : Int) (hs : s.size ≤ 4611686018427387904) : Ev (fun k => bytealg_LastIndexByteString.f k s c) (lastTo (ns s) c s.size) := by
  have key : ∀ j : Nat, j ≤ s.size → Ev (fun k => bytealg_LastIndexByteString.l0 k s c ((j : Int) - 1)) (lastTo (ns s) c j) := by
    intro j
    induction j with
    | zero =>
      intro _
      refine Ev.step (f := fun _ => some (-1)) (fun k => ?_) (Ev.now _)
      simp only [bytealg_LastIndexByteString.l0]
      rw [if_neg (by omega)]
    | succ j ih =>
      intro hj
      have e : (((j + 1 : Nat) : Int) - 1) = (j : Int) := by omega
      rw [e]
      by_cases hc : (ns s).getD j 0 = c
      · refine Ev.step (f := fun _ => some (j : Int)) (fun k => ?_) (Ev.val ?_)
        · simp only [bytealg_LastIndexByteString.l0]
          rw [if_pos (by omega), if_pos (by omega), if_pos (by omega), if_pos (by rw [bt_ns]; exact hc)]
        · unfold lastTo; rw [if_pos hc]
      · have h2 := ih (by omega)
        unfold lastTo
        rw [if_neg hc]
        refine Ev.step (f := fun k => bytealg_LastIndexByteString.l0 k s c ((j : Int) - 1)) (fun k => ?_) h2
        simp only [bytealg_LastIndexByteString.l0]
        rw [if_pos (by omega), if_pos (by omega), if_pos (by omega), if_neg (by rw [bt_ns]; exact hc)]
        congr 1
        unfold wrap64
        omega
  have h := key s.size (Nat.le_refl _)
  have hw : wrap64 ((s.size : Int) - 1) = (s.size : Int) - 1 := by unfold wrap64; omega
  simp only [bytealg_LastIndexByteString.f, hw]
  exact h
theorem lastColon_ends (s : ByteArray) (hs : s.size ≤ 4611686018427387904) : Ev (fun k => strings_LastIndex.f k s (⟨#[58]⟩ : ByteArray)) (lastTo (ns s) 58 s.size) := by
  simp only [strings_LastIndex.f]
  refine Ev.if_false (by decide) (Ev.if_true (by decide) (Ev.if_true (by decide) ?_))
  have e : bt (⟨#[58]⟩ : ByteArray) 0 = 58 := by decide
  rw [e]
  exact Ev.bind (lastByte_ends s 58 hs) (Ev.now _)
def addrOf (s : ByteArray) : ByteArray × ByteArray :=
  if lastTo (ns s) 58 s.size = -1 then (s, ⟨#[]⟩) else (s.extract 0 (lastTo (ns s) 58 s.size).toNat, s.extract ((lastTo (ns s) 58 s.size).toNat + 1) s.size)
theorem addr_ends (s : ByteArray) (hs : s.size ≤ 4611686018427387904) : Ev (fun k => impl_Addr.f k s) (addrOf s) := by
  simp only [impl_Addr.f]
  refine Ev.bind (a := addrOf s) ?_ (Ev.now _)
  simp only [fiberhelpers_ZzAddr.f]
  refine Ev.bind (a := addrOf s) ?_ (Ev.now _)
  simp only [fiberhelpers_parseAddr.f]
  refine Ev.bind (lastColon_ends s hs) ?_
  have hr := lastTo_range (ns s) 58 s.size
  unfold addrOf
  by_cases h : lastTo (ns s) 58 s.size = -1
  · refine Ev.if_true h ?_
    rw [if_pos h]; exact Ev.now _
  · obtain ⟨j, hj⟩ := Int.eq_ofNat_of_zero_le (show 0 ≤ lastTo (ns s) 58 s.size by omega)
    rw [hj] at hr h ⊢
    have hw : wrap64 ((j : Int) + 1) = (j : Int) + 1 := wrap_add (by omega) (by omega)
    rw [hw]
    refine Ev.if_false h (Ev.if_true (by omega) (Ev.if_true (by omega) (Ev.if_true (by omega) (Ev.if_true (by omega) ?_))))
    rw [if_neg h, Int.toNat_natCast, show ((j : Int) + 1).toNat = j + 1 by omega]
    exact Ev.now _
theorem lastTo_none (xs : List Int) (c : Int) (h : c ∉ xs) : ∀ j, j ≤ xs.length → lastTo xs c j = -1 := by
  intro j
  induction j with
  | zero => intro _; rfl
  | succ j ih =>
    intro hj
    unfold lastTo
    rw [if_neg, ih (by omega)]
    intro e
    have hl : j < xs.length := by omega
    rw [List.getD_eq_getElem?_getD, List.getElem?_eq_getElem hl] at e
    exact h (by rw [← e]; exact List.getElem_mem _)
theorem lastTo_at (a b : List Int) (c : Int) (h : c ∉ b) : lastTo (a ++ c :: b) c (a ++ c :: b).length = (a.length : Int) := by
  have key : ∀ d, d ≤ b.length → lastTo (a ++ c :: b) c (a.length + 1 + d) = (a.length : Int) := by
    intro d
    induction d with
    | zero =>
      intro _
      rw [Nat.add_zero]
      unfold lastTo
      rw [if_pos]
      rw [List.getD_eq_getElem?_getD, List.getElem?_append_right (Nat.le_refl _), Nat.sub_self]
      rfl
    | succ d ih =>
      intro hd
      rw [← Nat.add_assoc]
      unfold lastTo
      rw [if_neg, ih (by omega)]
      intro e
      rw [List.getD_eq_getElem?_getD, List.getElem?_append_right (by omega), show a.length + 1 + d - a.length = d + 1 by omega, List.getElem?_cons_succ, List.getElem?_eq_getElem (by omega)] at e
      exact h (by rw [← e]; exact List.getElem_mem _)
  have := key b.length (Nat.le_refl _)
  rw [show (a ++ c :: b).length = a.length + 1 + b.length by simp; omega]
  exact this
theorem addr_none (s : ByteArray) (h : (58 : Int) ∉ ns s) : addrOf s = (s, ⟨#[]⟩) := by
  unfold addrOf
  rw [lastTo_none _ _ h _ (by rw [ns_length]; exact Nat.le_refl _), if_pos rfl]
theorem addr_at (s : ByteArray) (a b : ByteArray) (hs : ns s = ns a ++ 58 :: ns b) (h : (58 : Int) ∉ ns b) : addrOf s = (a, b) := by
  have hl : lastTo (ns s) 58 s.size = (a.size : Int) := by
    have := lastTo_at (ns a) (ns b) 58 h
    rw [← hs, ns_length, ns_length] at this
    exact this
  unfold addrOf
  rw [hl, if_neg (by omega), Int.toNat_natCast]
  have e1 : s.extract 0 a.size = a := ns_inj (by rw [ns_extract, hs, List.drop_zero, Nat.sub_zero]; exact List.take_left' (ns_length a))
  have e2 : s.extract (a.size + 1) s.size = b := ns_inj (by
    rw [ns_extract, hs, show ns a ++ 58 :: ns b = (ns a ++ [58]) ++ ns b by simp, List.drop_left' (by simp [ns_length])]
    refine List.take_of_length_le ?_
    have := congrArg List.length hs
    simp only [List.length_append, List.length_cons, ns_length] at this
    rw [ns_length]
    omega)
  rw [e1, e2]
end Go.Proofs.Ytkbmababljcabaa.Base
