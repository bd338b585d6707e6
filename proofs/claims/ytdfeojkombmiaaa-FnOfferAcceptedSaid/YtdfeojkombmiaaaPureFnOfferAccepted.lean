/- The law FnOfferAccepted answers true at every two texts: an offer is accepted by a specification that ends with a star, or begins with it. No condition beyond the row's own. -/
import Derived.Test.YtdfeojkombmiaaaQA28
import Derived.Test.YtdfeojkombmiaaaLShort
namespace Go.Proofs.Ytdfeojkombmiaaa.Pure
open Go.RowKit Go.Proofs.Ytdfeojkombmiaaa.QA Go.Proofs.YtdfeojkombmiaaaW.PrintWords Go.Proofs.YtdfeojkombmiaaaW.PrintLast Go.Proofs.Ytdfeojkombmiaaa.Base

def beg (a b : ByteArray) : Bool := decide (b.size ≤ a.size) && ((a.extract 0 b.size).toList == b.toList)
def star (a : ByteArray) : Bool := decide (1 ≤ a.size) && bt a ((a.size : Int) - 1) == 42
theorem hasPrefix_is (a b : ByteArray) : strings_HasPrefix.f a b = some (beg a b) := by
  unfold strings_HasPrefix.f stringslite_HasPrefix.f beg
  by_cases h : b.size ≤ a.size
  · rw [if_pos (by omega), if_pos (by omega), if_pos (by omega), decide_eq_true h, Int.toNat_natCast]; rfl
  · rw [if_neg (by omega), decide_eq_false h]; rfl
theorem begins_is (a b : ByteArray) : laws_begins.f a b = some (beg a b) := by
  unfold laws_begins.f beg
  by_cases h : b.size ≤ a.size
  · rw [if_pos (by omega), if_pos (by omega), decide_eq_true h, Int.toNat_natCast]; rfl
  · rw [if_neg (by omega), decide_eq_false h]; rfl
theorem accepts_ends (a b : ByteArray) (ha : a.size ≤ 140737488351232) : Ev (fun k => impl_AcceptsOffer.f k a b) (star a || beg a b) := by
  simp only [impl_AcceptsOffer.f, fiberhelpers_ZzOffer.f]
  refine Ev.bind (a := star a || beg a b) (Ev.bind (a := star a || beg a b) ?_ (Ev.now _)) (Ev.now _)
  simp only [fiberhelpers_acceptsOffer.f]
  have step : ∀ c : Bool, Ev (fun k => fiberhelpers_acceptsOffer.j0 k a b c) (c || beg a b) := fun c => by
    refine Ev.step (f := fun k => if c = true then some true else (strings_HasPrefix.f a b).bind fun t => if t = true then some true else some false) (fun k => rfl) ?_
    refine Ev.ite (fun h => Ev.val (by rw [h]; rfl)) (fun h => Ev.call (hasPrefix_is a b) ?_)
    simp only [Bool.not_eq_true] at h
    rw [h, Bool.false_or]
    refine Ev.ite (fun g => Ev.val g.symm) (fun g => Ev.val ?_)
    simp only [Bool.not_eq_true] at g
    exact g.symm
  unfold star
  refine Ev.ite (fun h => ?_) (fun h => ?_)
  · rw [show wrap64 ((a.size : Int) - 1) = (a.size : Int) - 1 from wrap_sub (by omega) (by omega), decide_eq_true (by omega), Bool.true_and]
    refine Ev.if_true (by omega) (Ev.if_true (by omega) (step _))
  · rw [decide_eq_false (by omega), Bool.false_and]
    exact step false
theorem FnOfferAccepted : laws_FnOfferAccepted.Pure := by
  intro a b ha hb
  refine Ev.rounds ?_
  simp only [laws_FnOfferAccepted.f]
  have s2 : Ev (fun k => laws_FnOfferAccepted.j2 k a b true) true := Ev.step (f := fun _ => some true) (fun k => rfl) (Ev.now _)
  have s2' : a.toList ≠ ([] : List UInt8) → Ev (fun k => laws_FnOfferAccepted.j2 k a b false) true := fun hne => by
    have hpos : 1 ≤ a.size := by
      rcases Nat.eq_zero_or_pos a.size with h0 | h0
      · refine absurd ?_ hne
        rw [Lib.toList_data]
        rw [Lib.size_eq] at h0
        exact List.eq_nil_of_length_eq_zero h0
      · exact h0
    refine Ev.step (f := fun k => (impl_AcceptsOffer.f k a b).bind fun t112 => (if 0 ≤ (wrap64 ((a.size : Int) - 1)) then (if (wrap64 ((a.size : Int) - 1)) < (a.size : Int) then (if (bt a (wrap64 ((a.size : Int) - 1))) = 42 then (some (t112 == true)) else ((laws_begins.f a b).bind fun t113 => (some (t112 == t113)))) else (none)) else (none))) (fun k => by simp only [laws_FnOfferAccepted.j2]; rw [if_neg (by simp)]) ?_
    refine Ev.bind (accepts_ends a b ha) ?_
    have hw : wrap64 ((a.size : Int) - 1) = (a.size : Int) - 1 := wrap_sub (by omega) (by omega)
    rw [hw]
    refine Ev.if_true (by omega) (Ev.if_true (by omega) ?_)
    have hst : star a = (bt a ((a.size : Int) - 1) == 42) := by unfold star; rw [decide_eq_true hpos, Bool.true_and]
    refine Ev.ite (fun h => Ev.val ?_) (fun h => Ev.call (begins_is a b) (Ev.val ?_))
    · rw [hst, h]; rfl
    · rw [hst, beq_eq_false_iff_ne.2 h, Bool.false_or, beq_self_eq_true]
  have s1 : Ev (fun k => laws_FnOfferAccepted.j1 k a b false) true := by
    refine Ev.step (f := fun k => if a.toList = ([] : List UInt8) then (laws_FnOfferAccepted.j2 k a b true) else ((laws_short.f k (([a, b] : List ByteArray))).bind fun t111 => (laws_FnOfferAccepted.j2 k a b (!t111)))) (fun k => by simp only [laws_FnOfferAccepted.j1]; rw [if_neg (by simp)]) ?_
    refine Ev.ite (fun _ => s2) (fun h => Ev.bind (short_ends _ (by simp)) ?_)
    cases areShort [a, b]
    · exact s2
    · exact s2' h
  have s0 : Ev (fun k => laws_FnOfferAccepted.j0 k a b true) true := Ev.step (f := fun _ => some true) (fun k => rfl) (Ev.now _)
  have s0' : Ev (fun k => laws_FnOfferAccepted.j0 k a b false) true := by
    refine Ev.step (f := fun k => (impl_AcceptsOffer.f k (⟨#[117, 116, 102, 45, 56]⟩ : ByteArray) (⟨#[117, 116, 102, 45, 56]⟩ : ByteArray)).bind fun t106 => (if t106 = true then ((impl_AcceptsOffer.f k (⟨#[117, 116, 102, 45, 56]⟩ : ByteArray) (⟨#[120]⟩ : ByteArray)).bind fun t107 => (laws_FnOfferAccepted.j1 k a b t107)) else (laws_FnOfferAccepted.j1 k a b true))) (fun k => by simp only [laws_FnOfferAccepted.j0]; rw [if_neg (by simp)]) ?_
    refine Ev.bind (accepts_ends _ _ (by decide)) ?_
    refine Ev.if_true (by decide +kernel) ?_
    refine Ev.bind (accepts_ends _ _ (by decide)) ?_
    rw [show (star (⟨#[117, 116, 102, 45, 56]⟩ : ByteArray) || beg (⟨#[117, 116, 102, 45, 56]⟩ : ByteArray) (⟨#[120]⟩ : ByteArray)) = false from by decide +kernel]
    exact s1
  refine Ev.ite (fun _ => s0) (fun _ => ?_)
  cases decide ((b.size : Int) > 2147483647)
  · exact s0'
  · exact s0
end Go.Proofs.Ytdfeojkombmiaaa.Pure
