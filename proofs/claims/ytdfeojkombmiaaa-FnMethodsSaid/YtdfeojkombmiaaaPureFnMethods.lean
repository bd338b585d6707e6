/- The law FnMethods answers true at every text: the safe methods are the four, the idempotent ones these and two more. No condition beyond the row's own. -/
import Derived.Test.YtdfeojkombmiaaaQA19
import Derived.Test.YtdfeojkombmiaaaBase
namespace Go.Proofs.Ytdfeojkombmiaaa.Pure
open Go.RowKit Go.Proofs.Ytdfeojkombmiaaa.QA Go.Proofs.YtdfeojkombmiaaaW.PrintWords Go.Proofs.YtdfeojkombmiaaaW.PrintLast Go.Proofs.Ytdfeojkombmiaaa.Base

theorem oneOf_from (a : ByteArray) (l : List ByteArray) (hl : l.length ≤ 1000) (d : Nat) : ∀ i : Nat, i + d = l.length → Ev (fun k => laws_oneOf.l0 k a l (l.length : Int) (i : Int)) ((l.drop i).any fun x => decide (x = a)) := by
  induction d with
  | zero =>
    intro i hi
    refine Ev.step (f := fun _ => some false) (fun k => ?_) (Ev.val ?_)
    · simp only [laws_oneOf.l0]; rw [if_neg (by omega)]
    · rw [List.drop_eq_nil_of_le (by omega)]; rfl
  | succ d ih =>
    intro i hi
    have hlt : i < l.length := by omega
    refine Ev.step (f := fun k => if l[i] = a then some true else laws_oneOf.l0 k a l (l.length : Int) ((i + 1 : Nat) : Int)) (fun k => ?_) ?_
    · simp only [laws_oneOf.l0]
      rw [if_pos (by omega), if_pos (by omega), if_pos (by omega), rdOf_nat _ _ _ hlt, wrap_add (by omega) (by omega)]
      simp only [toList_eq_iff]
      rfl
    · rw [List.drop_eq_getElem_cons hlt, List.any_cons]
      refine Ev.ite (fun h => Ev.val ?_) (fun h => ?_)
      · simp [h]
      · simp only [h, decide_false, Bool.false_or]
        exact ih (i + 1) (by omega)
theorem oneOf_ends (a : ByteArray) (l : List ByteArray) (hl : l.length ≤ 1000) : Ev (fun k => laws_oneOf.f k a l) (l.any fun x => decide (x = a)) := oneOf_from a l hl l.length 0 (by omega)

def G : ByteArray := ⟨#[71, 69, 84]⟩
def H : ByteArray := ⟨#[72, 69, 65, 68]⟩
def O : ByteArray := ⟨#[79, 80, 84, 73, 79, 78, 83]⟩
def T : ByteArray := ⟨#[84, 82, 65, 67, 69]⟩
def P : ByteArray := ⟨#[80, 85, 84]⟩
def D : ByteArray := ⟨#[68, 69, 76, 69, 84, 69]⟩
def safe (a : ByteArray) : Bool := [G, H, O, T].any fun x => decide (x = a)
theorem lit_iff (a : ByteArray) (l : List UInt8) : a.toList = l ↔ (⟨l.toArray⟩ : ByteArray) = a := by
  rw [← toList_eq_iff, ByteArray.toList_mk]
  simp only [ByteArray.toList_eq]; exact eq_comm
theorem safe_is (a : ByteArray) : impl_Safe.f a = some (safe a) := by
  unfold impl_Safe.f fiberhelpers_IsMethodSafe.f safe
  simp only [lit_iff, List.any_cons, List.any_nil, Bool.or_false]
  change Option.bind (if G = a then _ else if H = a then _ else if O = a then _ else if T = a then _ else _) _ = _
  by_cases h1 : G = a <;> by_cases h2 : H = a <;> by_cases h3 : O = a <;> by_cases h4 : T = a <;> simp [h1, h2, h3, h4]
theorem idem_is (a : ByteArray) : impl_Idempotent.f a = some (safe a || [P, D].any fun x => decide (x = a)) := by
  have hs := safe_is a
  unfold impl_Safe.f at hs
  obtain ⟨b, hb, hb2⟩ := Option.bind_eq_some_iff.1 hs
  obtain rfl : b = safe a := by simpa using hb2
  unfold impl_Idempotent.f fiberhelpers_IsMethodIdempotent.f
  rw [hb]
  simp only [Option.bind_some, lit_iff, List.any_cons, List.any_nil, Bool.or_false]
  change Option.bind (if safe a = true then _ else if P = a then _ else if D = a then _ else _) _ = _
  cases safe a <;> by_cases h1 : P = a <;> by_cases h2 : D = a <;> simp [h1, h2]
theorem FnMethods : laws_FnMethods.Pure := by
  intro a ha
  refine Ev.rounds ?_
  simp only [laws_FnMethods.f]
  refine Ev.ite (fun _ => Ev.now _) (fun _ => ?_)
  refine Ev.bind (oneOf_ends a _ (by decide)) ?_
  refine Ev.call (safe_is _) ?_
  refine Ev.if_true (by decide +kernel) ?_
  refine Ev.call (idem_is _) ?_
  refine Ev.if_true (by decide +kernel) ?_
  refine Ev.call (safe_is _) ?_
  refine Ev.if_true (by simp only [beq_iff_eq]; rfl) ?_
  refine Ev.call (idem_is _) ?_
  refine Ev.ite (fun h => Ev.val ?_) (fun h => ?_)
  · change safe a = true at h; simp [h]
  · refine Ev.bind (oneOf_ends a _ (by decide)) (Ev.val ?_)
    change ¬ safe a = true at h
    simp only [Bool.not_eq_true] at h
    rw [h, Bool.false_or, beq_iff_eq]
    rfl

end Go.Proofs.Ytdfeojkombmiaaa.Pure
