/- The law FnTypeAccepted answers true at every kinds, parts and parameters: a type with parameters is accepted by any, by its own with any below it, and by itself, if its parameters have all that are asked. No condition beyond the row's own. -/
import Derived.Test.YtkbmababljcabaaQA47
import Derived.Test.YtkbmababljcabaaLPairs
import Derived.Test.YtkbmababljcabaaLWord
set_option linter.unusedVariables false
namespace Go.Proofs.Ytkbmababljcabaa.Pure
open Go.RowKit Go.Proofs.Ytkbmababljcabaa.QA Go.Proofs.YtkbmababljcabaaW.PrintWords Go.Proofs.YtkbmababljcabaaW.PrintLast Go.Proofs.Ytkbmababljcabaa.Base Go.Proofs.Ytkbmababljcabaa.Given

def beg (a b : ByteArray) : Bool := decide (b.size ≤ a.size) && ((a.extract 0 b.size).toList == b.toList)
theorem hasPrefix_is (a b : ByteArray) : strings_HasPrefix.f a b = some (beg a b) := by
  unfold strings_HasPrefix.f stringslite_HasPrefix.f beg
  by_cases h : b.size ≤ a.size
  · rw [if_pos (by omega), if_pos (by omega), if_pos (by omega), decide_eq_true h, Int.toNat_natCast]; rfl
  · rw [if_neg (by omega), decide_eq_false h]; rfl
theorem idx_none (a : List Int) (c : Int) (h : c ∉ a) : idx a c = -1 := by
  induction a with
  | nil => rfl
  | cons x a ih =>
    simp only [List.mem_cons, not_or] at h
    rw [idx, if_neg (fun e => h.1 e.symm), ih h.2, if_pos rfl]
theorem idx_app (a b : List Int) (c : Int) (h : c ∉ a) : idx (a ++ c :: b) c = (a.length : Int) := by
  induction a with
  | nil => simp [idx]
  | cons x a ih =>
    simp only [List.mem_cons, not_or] at h
    rw [List.cons_append, idx, if_neg (fun e => h.1 e.symm), ih h.2, if_neg (by omega), List.length_cons]
    omega
theorem toList_is {s t : ByteArray} (h : s.toList = t.toList) : ns s = ns t := by rw [(toList_eq_iff s t).1 h]
theorem app_left {a b : ByteArray} {n : Nat} (h : a.size = n) : (a ++ b).extract 0 n = a := by
  refine ns_inj ?_
  rw [ns_extract, ns_append, List.drop_zero, Nat.sub_zero, ← h, ← ns_length, List.take_left]
theorem app_right {a b : ByteArray} {n m : Nat} (h : a.size = n) (hm : (a ++ b).size = m) : (a ++ b).extract n m = b := by
  refine ns_inj ?_
  have := ns_length (a ++ b)
  rw [ns_extract, ns_append, ← h, ← ns_length, List.drop_left]
  refine List.take_of_length_le ?_
  rw [ns_append, List.length_append] at this
  omega
theorem accepts_step (spec mime g want : ByteArray) (hm : (59 : Int) ∉ ns mime) (hg : ns g = [] ∨ ∃ q, ns g = 59 :: q) {r : Bool}
    (hj : Ev (fun k => fiberhelpers_acceptsOfferType.j0 k spec want mime g) r) : Ev (fun k => impl_AcceptsType.f k spec (mime ++ g) want) (r, true) := by
  simp only [impl_AcceptsType.f, fiberhelpers_ZzType.f, fiberhelpers_acceptsOfferType.f]
  refine Ev.bind (a := r) (Ev.bind (a := r) ?_ (Ev.now _)) (Ev.now _)
  have h1 := strings_IndexByte.is (mime ++ g) 59 (by decide) (by decide)
  rcases hg with hg | ⟨q, hg⟩
  · have hge : g = (⟨#[]⟩ : ByteArray) := ns_inj hg
    have hme : mime ++ g = mime := ns_inj (by rw [ns_append, hg, List.append_nil])
    rw [hme] at h1 ⊢
    rw [idx_none _ _ hm] at h1
    refine Ev.call h1 (Ev.if_true rfl ?_)
    rw [hge] at hj
    exact hj
  · rw [ns_append, hg, idx_app _ _ _ hm, ns_length] at h1
    have hsz : (mime ++ g).size = mime.size + g.size := ByteArray.size_append
    refine Ev.call h1 (Ev.if_false (by omega) (Ev.if_true (by omega) (Ev.if_true (by omega) ?_)))
    rw [Int.toNat_natCast, app_left rfl, app_right rfl rfl]
    exact hj
section
variable {spec want mime g : ByteArray} {kn : Nat} (hk : idx (ns mime) 47 = (kn : Int)) (hkl : kn ≤ mime.size)
include hk hkl
theorem j0_match {b : Bool} (hb : fiberhelpers_paramsMatch.f want g = some b)
    (h : spec = mime ∨ spec.toList = [42, 47, 42] ∨ (beg spec (mime.extract 0 kn) = true ∧ kn ≤ spec.size ∧ (spec.extract kn spec.size).toList = ([47, 42] : List UInt8))) :
    Ev (fun k => fiberhelpers_acceptsOfferType.j0 k spec want mime g) b := by
  have h47 := strings_IndexByte.is mime 47 (by decide) (by decide)
  rw [hk] at h47
  refine Ev.step (f := fun _ => some b) (fun k => ?_) (Ev.now _)
  simp only [fiberhelpers_acceptsOfferType.j0, hb, Option.bind_some]
  by_cases c1 : spec.toList = ([42, 47, 42] : List UInt8)
  · rw [if_pos c1]
  · rw [if_neg c1, h47]
    simp only [Option.bind_some]
    rw [if_neg (by omega)]
    by_cases c2 : spec.toList = mime.toList
    · rw [if_pos c2]
    · obtain ⟨g1, g2, g3⟩ := (h.resolve_left (fun e => c2 (by rw [e]))).resolve_left c1
      rw [if_neg c2, if_pos (by omega), if_pos (by omega), Int.toNat_natCast, hasPrefix_is, g1]
      simp only [Option.bind_some]
      rw [if_pos trivial, if_pos (by omega), if_pos g3]
theorem j0_no (h1 : spec.toList ≠ ([42, 47, 42] : List UInt8)) (h2 : spec ≠ mime) (h3 : kn ≤ spec.size) (h4 : (spec.extract kn spec.size).toList ≠ ([47, 42] : List UInt8)) (h5 : (mime.extract kn mime.size).toList ≠ ([47, 42] : List UInt8)) :
    Ev (fun k => fiberhelpers_acceptsOfferType.j0 k spec want mime g) false := by
  have h47 := strings_IndexByte.is mime 47 (by decide) (by decide)
  rw [hk] at h47
  refine Ev.step (f := fun _ => some false) (fun k => ?_) (Ev.now _)
  simp only [fiberhelpers_acceptsOfferType.j0]
  rw [if_neg h1, h47]
  simp only [Option.bind_some]
  rw [if_neg (by omega), if_neg (fun e => h2 ((toList_eq_iff _ _).1 e)), if_pos (by omega), if_pos (by omega), Int.toNat_natCast, hasPrefix_is]
  simp only [Option.bind_some]
  split
  · first
      | (rw [if_pos (by omega), if_neg h4, if_neg h5]; done)
      | (rw [if_pos (by omega)]; done)
      | simp [h4, h5]
  · rfl
end
theorem flat_head (l : List S47) : l.flatMap pairN = [] ∨ ∃ q, l.flatMap pairN = 59 :: q := by
  cases l with
  | nil => exact .inl rfl
  | cons p l => exact .inr ⟨_, by rw [List.flatMap_cons, pairN, List.cons_append]⟩
theorem match_some (a b : ByteArray) (ha : a.size ≤ 1000) (hb : b.size ≤ 1000) : ∃ m, fiberhelpers_paramsMatch.f a b = some m := ⟨_, by unfold fiberhelpers_paramsMatch.f; rw [if_pos ⟨by omega, by omega⟩]⟩
theorem word_mem {s : ByteArray} (h : isWord s = true) {c : Int} (hc : wB c = false) : c ∉ ns s := by
  intro hm
  unfold isWord at h
  simp only [Bool.and_eq_true, List.all_eq_true] at h
  rw [h.1 c hm] at hc
  cases hc
theorem j3_ends (K P : ByteArray) (l4 l5 : List S47) (spec : ByteArray) (fits : Bool) (hK : isWord K = true ∧ K.size ≤ 40) (hP : isWord P = true ∧ P.size ≤ 40) (h4 : Plain l4) (h5 : Plain l5)
    (h : ∀ want g b, fiberhelpers_paramsMatch.f want g = some b → Ev (fun k => fiberhelpers_acceptsOfferType.j0 k spec want ((K ++ (⟨#[47]⟩ : ByteArray)) ++ P) g) (fits && b)) :
    Ev (fun k => laws_FnTypeAccepted.j3 k K P l4 l5 spec fits) true := by
  obtain ⟨s5, g5, n5, z5⟩ := given_ends l5 h5.1 (fun j hj => ⟨(h5.2 j hj).key.2, (h5.2 j hj).val.2⟩)
  obtain ⟨s4, g4, n4, z4⟩ := given_ends l4 h4.1 (fun j hj => ⟨(h4.2 j hj).key.2, (h4.2 j hj).val.2⟩)
  obtain ⟨b, hb⟩ := match_some s4 s5 (by omega) (by omega)
  have e47 : ns (⟨#[47]⟩ : ByteArray) = [47] := by decide
  obtain ⟨A, hA⟩ : ∃ A, K ++ (⟨#[47]⟩ : ByteArray) = A := ⟨_, rfl⟩
  obtain ⟨M, hM⟩ : ∃ M, A ++ P = M := ⟨_, rfl⟩
  have zA : A.size = K.size + 1 := by rw [← hA, ByteArray.size_append]; rfl
  have zM : M.size = A.size + P.size := by rw [← hM, ByteArray.size_append]
  have nM : ns M = (ns K ++ [47]) ++ ns P := by rw [← hM, ns_append, ← hA, ns_append, e47]
  have d1 : K.size + 1 ≤ 9223372036854775807 := by have := hK.2; omega
  have d2 : A.size + P.size ≤ 9223372036854775807 := by have := hK.2; have := hP.2; omega
  have d3 : M.size + s5.size ≤ 9223372036854775807 := by have := hK.2; have := hP.2; omega
  have h59 : (59 : Int) ∉ ns M := by
    rw [nM]
    simp only [List.mem_append, List.mem_singleton, not_or]
    exact ⟨⟨word_mem hK.1 (by decide), by decide⟩, word_mem hP.1 (by decide)⟩
  rw [hA, hM] at h
  have hacc := accepts_step spec M s5 s4 h59 (by rw [n5]; exact flat_head l5) (h s4 s5 b hb)
  refine Ev.step (f := fun k => (laws_given.f k l5 ([] : List Int)).bind fun t386 => (if M.size + t386.size ≤ 9223372036854775807 then ((laws_given.f k l4 ([] : List Int)).bind fun t387 => ((impl_AcceptsType.f k spec (M ++ t386) t387).bind fun bt388 => (if bt388.2 = true then (if fits = true then ((laws_given.f k l4 ([] : List Int)).bind fun t390 => ((laws_given.f k l5 ([] : List Int)).bind fun t391 => ((impl_ParamsMatch.f t390 t391).bind fun t392 => (some (bt388.1 == t392))))) else (some (bt388.1 == false))) else (some false)))) else (none))) (fun k => ?_) ?_
  · simp only [laws_FnTypeAccepted.j3, hA, hM]
    rw [if_pos d1, if_pos d2]
  · refine Ev.bind g5 (Ev.if_true d3 (Ev.bind g4 (Ev.bind hacc (Ev.if_true rfl ?_))))
    cases fits with
    | false => exact Ev.if_false (by decide) (Ev.now _)
    | true =>
      refine Ev.if_true rfl (Ev.bind g4 (Ev.bind g5 (Ev.call (a := b) ?_ (Ev.val ?_))))
      · unfold impl_ParamsMatch.f fiberhelpers_ZzMatch.f
        rw [hb]; rfl
      · simp
theorem ends (K P O : ByteArray) (how : Int) (l4 l5 : List S47) (hh : 0 ≤ how ∧ how ≤ 255) (hK : isWord K = true ∧ K.size ≤ 40) (hP : isWord P = true ∧ P.size ≤ 40) (hO : isWord O = true ∧ O.size ≤ 40) (h4 : Plain l4) (h5 : Plain l5) :
    Ev (fun k => laws_FnTypeAccepted.j2 k K P O how l4 l5 false) true := by
  have e47 : ns (⟨#[47]⟩ : ByteArray) = [47] := by decide
  have e4742 : ns (⟨#[47, 42]⟩ : ByteArray) = [47, 42] := by decide
  obtain ⟨A, hA⟩ : ∃ A, K ++ (⟨#[47]⟩ : ByteArray) = A := ⟨_, rfl⟩
  have zA : A.size = K.size + 1 := by rw [← hA, ByteArray.size_append]; rfl
  have nA : ns A = ns K ++ [47] := by rw [← hA, ns_append, e47]
  have k1 := hK.2
  have k2 := hP.2
  have k3 := hO.2
  have w47 : (47 : Int) ∉ ns K := word_mem hK.1 (by decide)
  have hidx : idx (ns (A ++ P)) 47 = (K.size : Int) := by
    rw [ns_append, nA, List.append_assoc, List.singleton_append, idx_app _ _ _ w47, ns_length]
  have zM : (A ++ P).size = K.size + 1 + P.size := by rw [ByteArray.size_append, zA]
  have hM0 : (A ++ P).extract 0 K.size = K := by
    refine ns_inj ?_
    rw [ns_extract, ns_append, nA, List.drop_zero, Nat.sub_zero, ← ns_length, List.append_assoc, List.take_left]
  have tail_ne : ∀ X : ByteArray, isWord X = true → ((A ++ X).extract K.size (A ++ X).size).toList ≠ ([47, 42] : List UInt8) := by
    intro X hX e
    have e2 : ns ((A ++ X).extract K.size (A ++ X).size) = [47, 42] := by
      rw [toList_is (t := (⟨#[47, 42]⟩ : ByteArray)) (by rw [e]; decide +kernel), e4742]
    have zX : (A ++ X).size = K.size + 1 + X.size := by rw [ByteArray.size_append, zA]
    rw [ns_extract, ns_append, nA, ← ns_length K, List.append_assoc, List.drop_left, ns_length, List.take_of_length_le (by rw [List.length_append, ns_length]; simp; omega)] at e2
    simp only [List.singleton_append, List.cons.injEq, true_and] at e2
    exact word_mem hX (c := 42) (by decide) (by rw [e2]; simp)
  have star_ne : ∀ X : ByteArray, isWord X = true → (A ++ X).toList ≠ ([42, 47, 42] : List UInt8) := by
    intro X hX e
    have e2 : ns (A ++ X) = [42, 47, 42] := by
      rw [toList_is (t := (⟨#[42, 47, 42]⟩ : ByteArray)) (by rw [e]; decide +kernel)]; decide
    have hne : ns K ≠ [] := by
      have := hK.1
      unfold isWord at this
      intro h0
      rw [h0] at this
      simp at this
    obtain ⟨y, r, hy⟩ := List.exists_cons_of_ne_nil hne
    rw [ns_append, nA, hy] at e2
    simp only [List.cons_append, List.cons.injEq] at e2
    exact word_mem hK.1 (c := 42) (by decide) (by rw [hy, e2.1]; simp)
  have hmod : Int.tmod how 4 = how % 4 := Int.tmod_eq_emod_of_nonneg hh.1
  have d1 : K.size + 1 ≤ 9223372036854775807 := by omega
  have d2 : K.size + 2 ≤ 9223372036854775807 := by omega
  have d3 : A.size + P.size ≤ 9223372036854775807 := by omega
  have d4 : A.size + O.size ≤ 9223372036854775807 := by omega
  have same : Ev (fun k => laws_FnTypeAccepted.j3 k K P l4 l5 (A ++ P) true) true := j3_ends K P l4 l5 _ true hK hP h4 h5 (fun want g b hb => by
    rw [hA, Bool.true_and]
    exact j0_match hidx (by omega) hb (.inl rfl))
  by_cases m1 : how % 4 = 1
  · refine Ev.step (f := fun k => laws_FnTypeAccepted.j3 k K P l4 l5 (K ++ (⟨#[47, 42]⟩ : ByteArray)) true) (fun k => ?_) (j3_ends K P l4 l5 _ true hK hP h4 h5 (fun want g b hb => ?_))
    · simp only [laws_FnTypeAccepted.j2, hmod]
      rw [if_neg (by simp), if_pos m1, if_pos d2]
    · rw [hA, Bool.true_and]
      refine j0_match hidx (by omega) hb (.inr (.inr ⟨?_, ?_, ?_⟩))
      · rw [hM0]
        unfold beg
        rw [app_left rfl, decide_eq_true (by rw [ByteArray.size_append]; omega)]
        simp
      · rw [ByteArray.size_append]; omega
      · rw [app_right rfl rfl]; decide +kernel
  · by_cases m2 : how % 4 = 2
    · refine Ev.step (f := fun k => laws_FnTypeAccepted.j3 k K P l4 l5 (A ++ P) true) (fun k => ?_) same
      simp only [laws_FnTypeAccepted.j2, hmod, hA]
      rw [if_neg (by simp), if_neg m1, if_pos m2, if_pos d1, if_pos d3]
    · by_cases m3 : how % 4 = 3
      · have wO := low_is O (by omega)
        have wP := low_is P (by omega)
        by_cases c1 : lowS O = lowS P
        · by_cases c2 : O = P
          · subst c2
            refine Ev.step (f := fun k => laws_FnTypeAccepted.j3 k K O l4 l5 (A ++ O) true) (fun k => ?_) same
            simp only [laws_FnTypeAccepted.j2, hmod, hA, wO, Option.bind_some]
            rw [if_neg (by simp), if_neg m1, if_neg m2, if_pos m3, if_pos d1, if_pos d3, if_pos trivial, if_pos trivial]
            simp
          · refine Ev.step (f := fun _ => some true) (fun k => ?_) (Ev.now _)
            simp only [laws_FnTypeAccepted.j2, hmod, hA, wO, wP, Option.bind_some]
            rw [if_neg (by simp), if_neg m1, if_neg m2, if_pos m3, if_pos d1, if_pos d4, if_pos (by rw [c1]), if_neg (fun e => c2 ((toList_eq_iff _ _).1 e))]
        · have c2 : O ≠ P := fun e => c1 (by rw [e])
          have c1b : ((lowS O).toList == (lowS P).toList) = false := beq_eq_false_iff_ne.2 (fun e => c1 ((toList_eq_iff _ _).1 e))
          refine Ev.step (f := fun k => laws_FnTypeAccepted.j3 k K P l4 l5 (A ++ O) false) (fun k => ?_) (j3_ends K P l4 l5 _ false hK hP h4 h5 (fun want g b hb => ?_))
          · simp only [laws_FnTypeAccepted.j2, hmod, hA, wO, wP, Option.bind_some]
            rw [if_neg (by simp), if_neg m1, if_neg m2, if_pos m3, if_pos d1, if_pos d4, if_neg (fun e => c1 ((toList_eq_iff _ _).1 e)), c1b]
          · rw [hA, Bool.false_and]
            refine j0_no hidx (by omega) (star_ne O hO.1) (fun e => c2 ?_) (by rw [ByteArray.size_append]; omega) (tail_ne O hO.1) (tail_ne P hP.1)
            have e2 := congrArg ns e
            rw [ns_append, ns_append] at e2
            exact ns_inj (List.append_cancel_left e2)
      · refine Ev.step (f := fun k => laws_FnTypeAccepted.j3 k K P l4 l5 (⟨#[42, 47, 42]⟩ : ByteArray) true) (fun k => ?_) (j3_ends K P l4 l5 _ true hK hP h4 h5 (fun want g b hb => ?_))
        · simp only [laws_FnTypeAccepted.j2, hmod]
          rw [if_neg (by simp), if_neg m1, if_neg m2, if_neg m3]
        · rw [hA, Bool.true_and]
          exact j0_match hidx (by omega) hb (.inr (.inl (by decide +kernel)))
theorem FnTypeAccepted : laws_FnTypeAccepted.Pure := by
  intro K P O how l4 l5 hK hP hO hw h4 h5
  have hh := wf_u8 hw
  refine Ev.rounds ?_
  simp only [laws_FnTypeAccepted.f]
  have out0 : Ev (fun k => laws_FnTypeAccepted.j0 k K P O how l4 l5 true) true := Ev.step (f := fun _ => some true) (fun k => by simp only [laws_FnTypeAccepted.j0]; rw [if_pos trivial]) (Ev.now _)
  have out2 : Ev (fun k => laws_FnTypeAccepted.j2 k K P O how l4 l5 true) true := Ev.step (f := fun _ => some true) (fun k => by simp only [laws_FnTypeAccepted.j2]; rw [if_pos trivial]) (Ev.now _)
  refine Ev.ite (fun _ => out0) (fun z0 => Ev.ite (fun _ => out0) (fun z1 => Ev.ite (fun _ => out0) (fun z2 => ?_)))
  obtain ⟨f4, e4, m4⟩ := fits1_ends l4
  obtain ⟨f5, e5, m5⟩ := fits1_ends l5
  refine Ev.bind e4 (Ev.ite (fun hf4 => Ev.bind e5 ?_) (fun _ => out0))
  cases f5 with
  | false => exact out0
  | true =>
    obtain ⟨p4, q4⟩ := m4 hf4
    obtain ⟨p5, q5⟩ := m5 rfl
    have hab : Ev (fun k => impl_AcceptsType.f k (⟨#[97, 47, 42]⟩ : ByteArray) (⟨#[97, 47, 98]⟩ : ByteArray) (⟨#[]⟩ : ByteArray)) (true, true) := by
      have h := accepts_step (⟨#[97, 47, 42]⟩ : ByteArray) (⟨#[97, 47, 98]⟩ : ByteArray) (⟨#[]⟩ : ByteArray) (⟨#[]⟩ : ByteArray) (by decide) (.inl (by decide)) (r := true)
        (j0_match (kn := 1) (by decide) (by decide) (by decide +kernel) (.inr (.inr ⟨by decide +kernel, by decide, by decide +kernel⟩)))
      have e : (⟨#[97, 47, 98]⟩ : ByteArray) ++ (⟨#[]⟩ : ByteArray) = (⟨#[97, 47, 98]⟩ : ByteArray) := ns_inj (by decide)
      rw [e] at h
      exact h
    refine Ev.step (f := fun k => (impl_AcceptsType.f k (⟨#[97, 47, 42]⟩ : ByteArray) (⟨#[97, 47, 98]⟩ : ByteArray) (⟨#[]⟩ : ByteArray)).bind fun bt376 => (if bt376.1 = true then (laws_FnTypeAccepted.j1 k K P O how l4 l5 (!bt376.2)) else (laws_FnTypeAccepted.j1 k K P O how l4 l5 true))) (fun k => by simp only [laws_FnTypeAccepted.j0]; rw [if_neg (by simp)]) ?_
    refine Ev.bind hab (Ev.if_true rfl ?_)
    refine Ev.step (f := fun k => (laws_words.f k (([K, P, O] : List ByteArray))).bind fun t381 => (if t381 = true then ((laws_plainParams.f k l4).bind fun t382 => (if t382 = true then ((laws_plainParams.f k l5).bind fun t383 => (laws_FnTypeAccepted.j2 k K P O how l4 l5 (!t383))) else (laws_FnTypeAccepted.j2 k K P O how l4 l5 true))) else (laws_FnTypeAccepted.j2 k K P O how l4 l5 true))) (fun k => by simp only [laws_FnTypeAccepted.j1]; rw [if_neg (by simp)]) ?_
    refine Ev.bind (words_ends [K, P, O] (by simp) (fun s hs => by
      simp only [List.mem_cons, List.not_mem_nil, or_false] at hs
      rcases hs with rfl | rfl | rfl <;> omega)) (Ev.ite (fun hA => ?_) (fun _ => out2))
    obtain ⟨_, hm⟩ := areWords_mem hA
    obtain ⟨b4, r4, s4⟩ := plain_ends p4 q4
    obtain ⟨b5, r5, s5⟩ := plain_ends p5 q5
    refine Ev.bind r4 (Ev.ite (fun hb4 => Ev.bind r5 ?_) (fun _ => out2))
    cases b5 with
    | false => exact out2
    | true => exact ends K P O how l4 l5 hh (hm K (by simp)) (hm P (by simp)) (hm O (by simp)) (s4 hb4) (s5 rfl)
end Go.Proofs.Ytkbmababljcabaa.Pure
