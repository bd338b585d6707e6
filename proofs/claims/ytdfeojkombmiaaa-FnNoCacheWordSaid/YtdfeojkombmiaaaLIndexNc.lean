/- What 'zzIndex' and 'NoCache' tell. -/
import Derived.Test.YtdfeojkombmiaaaQA25
import Derived.Test.YtdfeojkombmiaaaBase
set_option linter.unusedVariables false
namespace Go.Proofs.Ytdfeojkombmiaaa.Base
open Go.RowKit Go.Proofs.Ytdfeojkombmiaaa.QA Go.Proofs.YtdfeojkombmiaaaW.PrintWords Go.Proofs.YtdfeojkombmiaaaW.PrintLast

theorem zz_from (s sub : ByteArray) (hs : s.size ≤ 4611686018427387904) (hm : sub.size ≤ 1000) (p : Nat) (d : Nat) : ∀ i : Nat, i + d = p → p ≤ s.size + 1 →
    (∀ j, i ≤ j → j < p → ((ns s).drop j).take sub.size ≠ ns sub ∧ j + sub.size ≤ s.size) →
    ((p + sub.size ≤ s.size ∧ ((ns s).drop p).take sub.size = ns sub) → Ev (fun k => fiberhelpers_zzIndex.l0 k s sub (i : Int)) (p : Int)) ∧
    (s.size < p + sub.size → Ev (fun k => fiberhelpers_zzIndex.l0 k s sub (i : Int)) (-1)) := by
  induction d with
  | zero =>
    intro i hi hp hall
    obtain rfl : i = p := by omega
    have hw : wrap64 ((i : Int) + (sub.size : Int)) = (i : Int) + sub.size := by unfold wrap64; omega
    refine ⟨fun ⟨h1, h2⟩ => ?_, fun h1 => ?_⟩
    · refine Ev.step (f := fun _ => some (i : Int)) (fun k => ?_) (Ev.now _)
      simp only [fiberhelpers_zzIndex.l0]
      rw [hw, if_pos (by omega), if_pos (by omega), if_pos (by omega), if_pos]
      rw [toList_eq_iff]
      refine ns_inj ?_
      rw [ns_extract]
      have e1 : (((i : Int) + sub.size).toNat - (i : Int).toNat) = sub.size := by omega
      rw [e1, Int.toNat_natCast]
      exact h2
    · refine Ev.step (f := fun _ => some (-1 : Int)) (fun k => ?_) (Ev.now _)
      simp only [fiberhelpers_zzIndex.l0]
      rw [hw, if_neg (by omega)]
  | succ d ih =>
    intro i hi hp hall
    have h0 := hall i (Nat.le_refl _) (by omega)
    have hw : wrap64 ((i : Int) + (sub.size : Int)) = (i : Int) + sub.size := by unfold wrap64; omega
    obtain ⟨a, b⟩ := ih (i + 1) (by omega) hp (fun j h1 h2 => hall j (by omega) h2)
    have step : ∀ k, fiberhelpers_zzIndex.l0 (k + 1) s sub (i : Int) = fiberhelpers_zzIndex.l0 k s sub ((i + 1 : Nat) : Int) := by
      intro k
      simp only [fiberhelpers_zzIndex.l0]
      rw [hw, if_pos (by omega), if_pos (by omega), if_pos (by omega), if_neg, wrap_add (by omega) (by omega)]
      · rfl
      · intro e
        rw [toList_eq_iff] at e
        refine h0.1 ?_
        have e2 := congrArg ns e
        rw [ns_extract] at e2
        have e1 : (((i : Int) + sub.size).toNat - (i : Int).toNat) = sub.size := by omega
        rw [e1, Int.toNat_natCast] at e2
        exact e2
    exact ⟨fun h => Ev.step step (a h), fun h => Ev.step step (b h)⟩
/-- The first place of a text in another. -/
theorem zz_at (s sub : ByteArray) (hs : s.size ≤ 4611686018427387904) (hm : sub.size ≤ 1000) (p : Nat) (h1 : p + sub.size ≤ s.size) (h2 : ((ns s).drop p).take sub.size = ns sub) (hall : ∀ j, j < p → ((ns s).drop j).take sub.size ≠ ns sub) : Ev (fun k => fiberhelpers_zzIndex.f k s sub) (p : Int) :=
  (zz_from s sub hs hm p p 0 (by omega) (by omega) (fun j _ hj => ⟨hall j hj, by omega⟩)).1 ⟨h1, h2⟩
theorem zz_none (s sub : ByteArray) (hs : s.size ≤ 4611686018427387904) (hm : sub.size ≤ 1000) (hall : ∀ j, j + sub.size ≤ s.size → ((ns s).drop j).take sub.size ≠ ns sub) : Ev (fun k => fiberhelpers_zzIndex.f k s sub) (-1) := by
  by_cases h : sub.size ≤ s.size
  · exact (zz_from s sub hs hm (s.size - sub.size + 1) (s.size - sub.size + 1) 0 (by omega) (by omega) (fun j _ hj => ⟨hall j (by omega), by omega⟩)).2 (by omega)
  · exact (zz_from s sub hs hm 0 0 0 rfl (by omega) (fun j _ hj => by omega)).2 (by omega)
def nc : ByteArray := ⟨#[110, 111, 45, 99, 97, 99, 104, 101]⟩
def ncN : List Int := [110, 111, 45, 99, 97, 99, 104, 101]
theorem ns_nc : ns nc = ncN := by decide
theorem win45 (l : List Int) (j : Nat) (h : (l.drop j).take 8 = ncN) : l[j + 2]? = some 45 := by
  have h2 := congrArg (fun x : List Int => x[2]?) h
  simp only [List.getElem?_take, List.getElem?_drop] at h2
  simpa [ncN] using h2
theorem noCache_none (s : ByteArray) (hs : s.size ≤ 4611686018427387904) (h : (45 : Int) ∉ ns s) : Ev (fun k => impl_NoCache.f k s) false := by
  simp only [impl_NoCache.f, fiberhelpers_ZzNoCache.f]
  refine Ev.bind (Ev.bind ?_ (Ev.now _)) (Ev.now _)
  simp only [fiberhelpers_isNoCache.f]
  refine Ev.bind (zz_none s nc hs (by decide) (fun j _ e => h ?_)) (Ev.if_true rfl (Ev.now _))
  rw [ns_nc] at e
  exact List.mem_of_getElem? (win45 _ j e)
theorem noCache_at (s : ByteArray) (hs : s.size ≤ 4611686018427387904) (A B : List Int) (hAB : ns s = A ++ ncN ++ B) (hA : (45 : Int) ∉ A) (hend : A = [] ∨ ∃ A' c, A = A' ++ [c] ∧ (c = 32 ∨ c = 44)) (hB : B = [] ∨ ∃ B', B = 44 :: B') : Ev (fun k => impl_NoCache.f k s) true := by
  have hsz : s.size = A.length + 8 + B.length := by rw [← ns_length, hAB]; simp [ncN]; omega
  have hz : Ev (fun k => fiberhelpers_zzIndex.f k s nc) (A.length : Int) := by
    refine zz_at s nc hs (by decide) A.length (by show A.length + 8 ≤ _; omega) ?_ (fun j hj e => ?_)
    · rw [hAB, List.append_assoc, List.drop_left, ns_nc]
      exact List.take_left (l₁ := ncN)
    · rw [ns_nc] at e
      have h45 := win45 _ j e
      rw [hAB, List.append_assoc] at h45
      by_cases hj2 : j + 2 < A.length
      · rw [List.getElem?_append_left hj2] at h45
        exact hA (List.mem_of_getElem? h45)
      · rw [List.getElem?_append_right (by omega)] at h45
        rcases (by omega : j + 2 - A.length = 0 ∨ j + 2 - A.length = 1) with e0 | e0 <;> rw [e0] at h45 <;> simp [ncN] at h45
  simp only [impl_NoCache.f, fiberhelpers_ZzNoCache.f]
  refine Ev.bind (Ev.bind ?_ (Ev.now _)) (Ev.now _)
  simp only [fiberhelpers_isNoCache.f]
  refine Ev.bind hz (Ev.if_false (by omega) ?_)
  have fin : Ev (fun k => fiberhelpers_isNoCache.j0 k s (A.length : Int) false) true := by
    have hw : wrap64 ((A.length : Int) + 8) = (A.length : Int) + 8 := by unfold wrap64; omega
    refine Ev.step (f := _) (fun k => by simp only [fiberhelpers_isNoCache.j0]; rw [if_neg (by simp), hw]) ?_
    rcases hB with hB | ⟨B', hB⟩
    · refine Ev.if_true ?_ (Ev.now _)
      rw [hsz, hB]; simp
    · refine Ev.ite (fun _ => Ev.now _) (fun h1 => ?_)
      refine Ev.if_true (by omega) (Ev.if_true ?_ (Ev.if_true ?_ (Ev.now _)))
      · rw [hsz, hB]; simp only [List.length_cons]; omega
      · have e : ((A.length : Int) + 8) = ((A.length + 8 : Nat) : Int) := by omega
        rw [e, bt_ns, hAB, List.getD_eq_getElem?_getD, List.getElem?_append_right (by simp [ncN])]
        simp [ncN, hB]
  refine Ev.ite (fun h0 => ?_) (fun _ => fin)
  rcases hend with he | ⟨A', c, he, hc⟩
  · rw [he] at h0; simp at h0
  · have hA1 : A.length = A'.length + 1 := by rw [he, List.length_append, List.length_singleton]
    have hw : wrap64 ((A.length : Int) - 1) = (A'.length : Int) := by unfold wrap64; omega
    have hb : bt s (A'.length : Int) = c := by
      rw [bt_ns, hAB, he, List.append_assoc, List.append_assoc, List.getD_eq_getElem?_getD, List.getElem?_append_right (Nat.le_refl _), Nat.sub_self]; rfl
    rw [hw, hb]
    refine Ev.if_true (by omega) (Ev.if_true (by rw [hsz, he]; simp only [List.length_append, List.length_singleton]; omega) ?_)
    rcases hc with rfl | rfl
    · exact Ev.if_true rfl fin
    · exact Ev.if_false (by decide) fin
end Go.Proofs.Ytdfeojkombmiaaa.Base
