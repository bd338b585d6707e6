/- The law FnParamsAll answers true at every two lists of parameters: an offer's parameters have all those of a specification just if each of these is one of them. No condition beyond the row's own. -/
import Derived.Test.YtkbmababljcabaaQA40
import Derived.Test.YtkbmababljcabaaQA39
import Derived.Test.YtkbmababljcabaaLPairs
import Derived.Test.YtkbmababljcabaaGMatchP
set_option linter.unusedVariables false
namespace Go.Proofs.Ytkbmababljcabaa.Pure
open Go.RowKit Go.Proofs.Ytkbmababljcabaa.QA Go.Proofs.YtkbmababljcabaaW.PrintWords Go.Proofs.YtkbmababljcabaaW.PrintLast Go.Proofs.Ytkbmababljcabaa.Base Go.Proofs.Ytkbmababljcabaa.Given Go.Proofs.Ytkbmababljcabaa.Gv

abbrev Pr := S47
structure PL (l : List Pr) : Prop where
  few : l.length ≤ 8
  word : ∀ p ∈ l, (isWord p.f0 = true ∧ p.f0.size ≤ 40) ∧ (isWord p.f1 = true ∧ p.f1.size ≤ 40) ∧ lowS p.f0 ≠ (⟨#[113]⟩ : ByteArray)
  apart : l.Pairwise (fun a b => lowS a.f0 ≠ lowS b.f0)
theorem PL.of {l : List Pr} (h : Plain l) : PL l := ⟨h.1, fun p hp => by obtain ⟨j, hj, rfl⟩ := List.getElem_of_mem hp; exact ⟨(h.2 j hj).key, (h.2 j hj).val, (h.2 j hj).noq⟩, List.pairwise_iff_getElem.2 (fun i j hi hj hij => (h.2 j hj).other i hij)⟩
theorem PL.rev {l : List Pr} (h : PL l) : PL l.reverse := ⟨by simpa using h.few, fun p hp => h.word p (List.mem_reverse.1 hp), List.pairwise_reverse.2 (h.apart.imp (fun hab => Ne.symm hab))⟩
theorem tok_word : ∀ n : Fin 256, wB ((n.val : Nat) : Int) = true → tokB ((n.val : Nat) : Int) = true ∧ ((n.val : Nat) : Int) ≠ 34 ∧ ((n.val : Nat) : Int) ≠ 32 := by decide +kernel
theorem tok_of {x : Int} (h : 0 ≤ x ∧ x ≤ 255) (hw : wB x = true) : tokB x = true ∧ x ≠ 34 ∧ x ≠ 32 := by
  obtain ⟨n, rfl⟩ := Int.eq_ofNat_of_zero_le h.1
  exact tok_word ⟨n, by omega⟩ hw
theorem tok61 : tokB 61 = false := by decide +kernel
theorem tok59 : tokB 59 = false := by decide +kernel
theorem tokN_app (a b : List Int) (ha : ∀ x ∈ a, tokB x = true) (hb : b = [] ∨ ∃ c r, b = c :: r ∧ tokB c = false) : tokN (a ++ b) = a.length := by
  induction a with
  | nil =>
    rcases hb with rfl | ⟨c, r, rfl, hc⟩
    · rfl
    · rw [List.nil_append, tokN, if_neg (by rw [hc]; simp)]; rfl
  | cons x a ih =>
    rw [List.cons_append, tokN, if_pos (ha x (by simp)), ih (fun y hy => ha y (List.mem_cons_of_mem _ hy)), List.length_cons]
    omega
theorem word_all {s : ByteArray} (h : isWord s = true) : ns s ≠ [] ∧ ∀ x ∈ ns s, tokB x = true ∧ x ≠ 34 ∧ x ≠ 32 := by
  have h0 := h
  unfold isWord at h
  simp only [Bool.and_eq_true, List.all_eq_true] at h
  exact ⟨fun e => by rw [e] at h; simp at h, fun x hx => tok_of (ns_range s x hx) (h.1 x hx)⟩
theorem one_pair (p : Pr) (h0 : isWord p.f0 = true) (h1 : isWord p.f1 = true) (rest : List Int) (hr : rest = [] ∨ ∃ r, rest = 59 :: r) : oneP (pairN p ++ rest) = some (ns p.f0, ns p.f1, rest) := by
  obtain ⟨n0, a0⟩ := word_all h0
  obtain ⟨n1, a1⟩ := word_all h1
  obtain ⟨x, xs, hx⟩ := List.exists_cons_of_ne_nil n0
  obtain ⟨y, ys, hy⟩ := List.exists_cons_of_ne_nil n1
  have hx32 : x ≠ 32 := (a0 x (by rw [hx]; simp)).2.2
  have hy34 : y ≠ 34 := (a1 y (by rw [hy]; simp)).2.1
  have e1 : ltrim (pairN p ++ rest) = pairN p ++ rest := by unfold pairN; simp [ltrim]
  have e2 : (pairN p ++ rest).drop 1 = ns p.f0 ++ (61 :: (ns p.f1 ++ rest)) := by simp [pairN]
  have e3 : ltrim (ns p.f0 ++ (61 :: (ns p.f1 ++ rest))) = ns p.f0 ++ (61 :: (ns p.f1 ++ rest)) := by rw [hx]; simp [ltrim, hx32]
  have e4 : ¬ ((pairN p ++ rest).length = 0 ∨ (pairN p ++ rest).getD 0 0 ≠ 59) := by unfold pairN; simp
  unfold oneP
  rw [e1, if_neg e4, e2, e3]
  obtain ⟨u, hu⟩ : ∃ u, ns p.f0 ++ (61 :: (ns p.f1 ++ rest)) = u := ⟨_, rfl⟩
  rw [hu]
  obtain ⟨N, hN⟩ : ∃ N, (ns p.f0).length = N := ⟨_, rfl⟩
  obtain ⟨M, hM⟩ : ∃ M, (ns p.f1).length = M := ⟨_, rfl⟩
  have N0 : N ≠ 0 := by rw [← hN, hx]; simp
  have M0 : M ≠ 0 := by rw [← hM, hy]; simp
  have d1 : u.drop (N + 1) = ns p.f1 ++ rest := by
    rw [← hu, show ns p.f0 ++ (61 :: (ns p.f1 ++ rest)) = (ns p.f0 ++ [61]) ++ (ns p.f1 ++ rest) by simp]
    exact List.drop_left' (by rw [List.length_append, hN]; rfl)
  have d2 : u.drop (N + 1 + M) = rest := by rw [← List.drop_drop, d1]; exact List.drop_left' hM
  have d3 : u.take N = ns p.f0 := by rw [← hu]; exact List.take_left' hN
  have g1 : tokN u = N := by rw [← hu, tokN_app _ _ (fun x hx => (a0 x hx).1) (.inr ⟨61, _, rfl, tok61⟩), hN]
  have g2 : u.getD N 0 = 61 := by rw [← hu, List.getD_eq_getElem?_getD, List.getElem?_append_right (by omega), hN, Nat.sub_self]; rfl
  have g3 : u.getD (N + 1) 0 ≠ 34 := by
    have := getD_drop u (N + 1) 0
    rw [d1, hy] at this
    rw [Nat.add_zero] at this
    rw [← this]
    simpa using hy34
  have g4 : tokN (u.drop (N + 1)) = M := by
    rw [d1, tokN_app _ _ (fun x hx => (a1 x hx).1) (by
      rcases hr with rfl | ⟨r, rfl⟩
      · exact .inl rfl
      · exact .inr ⟨59, r, rfl, tok59⟩), hM]
  have g5 : N + 1 < u.length := by
    rw [← hu, List.length_append, List.length_cons, List.length_append, hN, hM]
    omega
  rw [oneU_t g1 N0 g5 g2 g3 g4, if_neg M0, d1, d2, d3, List.take_left' hM]
def foldL {σ : Type} (step : σ → ByteArray → ByteArray → Bool × σ) : σ → List Pr → σ
  | s, [] => s
  | s, p :: l => if (step s p.f0 p.f1).1 = true then foldL step (step s p.f0 p.f1).2 l else (step s p.f0 p.f1).2
theorem flat_head (l : List Pr) : l.flatMap pairN = [] ∨ ∃ q, l.flatMap pairN = 59 :: q := by
  cases l with
  | nil => exact .inl rfl
  | cons p l => exact .inr ⟨_, by rw [List.flatMap_cons, pairN, List.cons_append]⟩
theorem fold_pairs {σ : Type} (step : σ → ByteArray → ByteArray → Bool × σ) : ∀ (l : List Pr) (f : Nat) (s : σ), (∀ p ∈ l, isWord p.f0 = true ∧ isWord p.f1 = true) → (l.flatMap pairN).length ≤ f → foldP step f s (l.flatMap pairN) = foldL step s l := by
  intro l
  induction l with
  | nil =>
    intro f s _ _
    exact fold_none (by simp [oneP, ltrim])
  | cons p l ih =>
    intro f s hw hf
    rw [List.flatMap_cons] at hf ⊢
    cases f with
    | zero => simp [pairN] at hf
    | succ f =>
      rw [foldP, one_pair p (hw p (by simp)).1 (hw p (by simp)).2 _ (flat_head l)]
      simp only [strOf_ns]
      rw [foldL]
      split
      · exact ih f _ (fun q hq => hw q (List.mem_cons_of_mem _ hq)) (by simp only [pairN, List.length_append, List.length_cons] at hf; omega)
      · rfl
theorem lo_up (x : Int) : lo (Gv.up x) = lo x := by
  unfold lo Gv.up
  by_cases h : 97 ≤ x ∧ x ≤ 122
  · rw [if_pos h, if_pos (by omega), if_neg (by omega)]; omega
  · rw [if_neg h]
theorem eqFold_low (a b : ByteArray) : eqFold a b = decide (lowS a = lowS b) := by
  unfold eqFold
  refine decide_eq_decide.2 ⟨fun h => ?_, fun h => ?_⟩
  · unfold lowS
    have h2 := congrArg (List.map lo) h
    rw [List.map_map, List.map_map, show lo ∘ Gv.up = lo from funext lo_up] at h2
    rw [h2]
  · have h2 := congrArg ns h
    unfold lowS at h2
    have hr : ∀ s : ByteArray, ∀ x ∈ (ns s).map lo, 0 ≤ x ∧ x ≤ 255 := fun s x hx => by
      obtain ⟨y, hy, rfl⟩ := List.mem_map.1 hx
      exact lo_range (ns_range s y hy)
    rw [ns_strOfNums (hr a), ns_strOfNums (hr b)] at h2
    have h3 := congrArg (List.map Gv.up) h2
    rwa [List.map_map, List.map_map, show Gv.up ∘ lo = Gv.up from funext up_lo] at h3
theorem findF_none (p : ByteArray) : ∀ sp : SP, (∀ q ∈ sp, eqFold p q.1 = false) → findF p sp = sp.length := by
  intro sp
  induction sp with
  | nil => intro _; rfl
  | cons q r ih =>
    intro h
    rw [findF, if_neg (by rw [h q (by simp)]; simp), ih (fun q hq => h q (List.mem_cons_of_mem _ hq)), List.length_cons, Nat.add_comm]
def prP (p : Pr) : ByteArray × ByteArray := (p.f0, p.f1)
theorem q_of {s : ByteArray} (h : s.toList = ([113] : List UInt8) ∨ s.toList = ([81] : List UInt8)) : lowS s = (⟨#[113]⟩ : ByteArray) := by
  rcases h with h | h
  · rw [(toList_eq_iff s (⟨#[113]⟩ : ByteArray)).1 (by rw [h]; decide +kernel)]; decide +kernel
  · rw [(toList_eq_iff s (⟨#[81]⟩ : ByteArray)).1 (by rw [h]; decide +kernel)]; decide +kernel
theorem spec_fold : ∀ (l acc : List Pr), (∀ p ∈ l, lowS p.f0 ≠ (⟨#[113]⟩ : ByteArray)) → (acc ++ l).Pairwise (fun a b => lowS a.f0 ≠ lowS b.f0) → foldL specStep (acc.map prP) l = (acc ++ l).map prP := by
  intro l
  induction l with
  | nil => intro acc _ _; simp [foldL]
  | cons p l ih =>
    intro acc hq hp
    have hs : specStep (acc.map prP) p.f0 p.f1 = (true, (acc ++ [p]).map prP) := by
      unfold specStep
      rw [if_neg (fun e => hq p (by simp) (q_of e)), findF_none, if_neg (by simp)]
      · simp [prP]
      · intro q hqm
        obtain ⟨a, ha, rfl⟩ := List.mem_map.1 hqm
        rw [eqFold_low]
        exact decide_eq_false (fun e => (List.pairwise_append.1 hp).2.2 a ha p (by simp) e.symm)
    rw [foldL, hs, if_pos rfl]
    have := ih (acc ++ [p]) (fun r hr => hq r (List.mem_cons_of_mem _ hr)) (by rw [List.append_assoc]; exact hp)
    rw [this, List.append_assoc]
    rfl
theorem hit_fold (q : ByteArray × ByteArray) : ∀ hav : List Pr, hav.Pairwise (fun a b => lowS a.f0 ≠ lowS b.f0) →
    ((foldL (hitStep q) (false, true) hav).1 && (foldL (hitStep q) (false, true) hav).2) = hav.any (fun h => eqFold q.1 h.f0 && eqFold q.2 h.f1) := by
  intro hav
  induction hav with
  | nil => intro _; rfl
  | cons p l ih =>
    intro hp
    obtain ⟨hp1, hp2⟩ := List.pairwise_cons.1 hp
    rw [foldL, List.any_cons]
    cases he : eqFold q.1 p.f0 with
    | true =>
      have hs : hitStep q (false, true) p.f0 p.f1 = (false, (true, eqFold q.2 p.f1)) := by unfold hitStep; rw [if_pos he]
      rw [hs, if_neg (by simp)]
      have hno : l.any (fun h => eqFold q.1 h.f0 && eqFold q.2 h.f1) = false := by
        rw [List.any_eq_false]
        intro h hh
        have hne := hp1 h hh
        rw [eqFold_low] at he
        have h1 := of_decide_eq_true he
        rw [eqFold_low q.1, decide_eq_false (fun e => hne (h1.symm.trans e))]
        simp
      rw [hno]
      simp
    | false =>
      have hs : hitStep q (false, true) p.f0 p.f1 = (true, (false, true)) := by unfold hitStep; rw [if_neg (by rw [he]; simp)]
      rw [hs, if_pos rfl, ih hp2]
      simp
def hasB (w h : Pr) : Bool := decide (lowS h.f0 = lowS w.f0) && decide (lowS h.f1 = lowS w.f1)
theorem has_fold (w h : Pr) : (eqFold w.f0 h.f0 && eqFold w.f1 h.f1) = hasB w h := by
  unfold hasB
  rw [eqFold_low, eqFold_low, decide_eq_decide.2 (eq_comm (a := lowS w.f0)), decide_eq_decide.2 (eq_comm (a := lowS w.f1))]
/-- What ParamsMatch tells of two plain lists. -/
theorem match_is (want hav : List Pr) (hw : PL want) (hh : PL hav) (s t : ByteArray) (hs : ns s = want.flatMap pairN) (ht : ns t = hav.flatMap pairN) : matchOf s t = want.all (fun w => hav.any (hasB w)) := by
  have hsp : specOf s = want.map prP := by
    unfold specOf
    rw [hs, fold_pairs specStep want s.size [] (fun p hp => ⟨(hw.word p hp).1.1, (hw.word p hp).2.1.1⟩) (by rw [← hs, ns_length]; exact Nat.le_refl _)]
    have := spec_fold want [] (fun p hp => (hw.word p hp).2.2) (by simpa using hw.apart)
    simpa using this
  have hit : ∀ w : Pr, hitOf t (prP w) = hav.any (hasB w) := by
    intro w
    unfold hitOf
    rw [ht, fold_pairs (hitStep (prP w)) hav t.size (false, true) (fun p hp => ⟨(hh.word p hp).1.1, (hh.word p hp).2.1.1⟩) (by rw [← ht, ns_length]; exact Nat.le_refl _), hit_fold _ _ hh.apart]
    congr 1
    funext h
    exact has_fold w h
  unfold matchOf
  split
  · rename_i hz
    have h0 : want.flatMap pairN = [] := by rw [← hs]; exact List.eq_nil_of_length_eq_zero (by rw [ns_length]; exact hz)
    cases want with
    | nil => rfl
    | cons p l => simp [pairN] at h0
  · rw [hsp, List.all_map]
    congr 1
    funext w
    exact hit w
theorem turned_from (l : List Pr) (hl : l.length ≤ 8) : ∀ (d i : Nat) (acc : List Pr), i + d = l.length → acc = l.reverse.take i → Ev (fun k => laws_turned.l0 k l acc (l.length : Int) (i : Int)) l.reverse := by
  intro d
  induction d with
  | zero =>
    intro i acc hi ha
    refine Ev.step (f := fun _ => some acc) (fun k => ?_) (Ev.val ?_)
    · simp only [laws_turned.l0]; rw [if_neg (by omega)]
    · rw [ha, List.take_of_length_le (by simp; omega)]
  | succ d ih =>
    intro i acc hi ha
    have hlt : l.length - 1 - i < l.length := by omega
    have hix : wrap64 (wrap64 ((l.length : Int) - 1) - (i : Int)) = ((l.length - 1 - i : Nat) : Int) := by unfold wrap64; omega
    have hw : wrap64 ((i : Int) + 1) = ((i + 1 : Nat) : Int) := by
      rw [wrap_add (by omega) (by omega)]
      rfl
    have hal : acc.length ≤ 8 := by rw [ha, List.length_take, List.length_reverse]; omega
    have g1 : (i : Int) < (l.length : Int) := by omega
    have g2 : (0 : Int) ≤ ((l.length - 1 - i : Nat) : Int) := by omega
    have g3 : ((l.length - 1 - i : Nat) : Int) < (l.length : Int) := by omega
    have g4 : acc.length < 4398046511104 := by omega
    have hr : l.reverse[i]'(by simp; omega) = l[l.length - 1 - i] := by rw [List.getElem_reverse]
    refine Ev.step (f := fun k => laws_turned.l0 k l (acc ++ [l[l.length - 1 - i]]) (l.length : Int) ((i + 1 : Nat) : Int)) (fun k => ?_) (ih (i + 1) _ (by omega) ?_)
    · simp only [laws_turned.l0, hix, hw, rdP l _ hlt]
      rw [if_pos g1, if_pos g2, if_pos g3, if_pos g4]
    · rw [ha, List.take_add_one, List.getElem?_eq_getElem (by simp; omega), hr]
      rfl
theorem turned_ends (l : List Pr) (hl : l.length ≤ 8) : Ev (fun k => laws_turned.f k l) l.reverse := by
  simp only [laws_turned.f]
  exact turned_from l hl l.length 0 [] (by omega) rfl
section
variable {want hav : List Pr} (hw : PL want) (hh : PL hav)
include hw hh
theorem last (is : Bool) (his : is = want.all (fun w => hav.any (hasB w))) : Ev (fun k => laws_FnParamsAll.l0 k want hav is want (want.length : Int) (want.length : Int)) true := by
  have sz : ∀ {l : List Pr}, PL l → ∀ j (hj : j < l.length), (l[j]).f0.size ≤ 40 ∧ (l[j]).f1.size ≤ 40 := fun h j hj => by
    have := h.word _ (List.getElem_mem hj)
    exact ⟨this.1.2, this.2.1.2⟩
  obtain ⟨s, g1, n1, z1⟩ := given_ends want hw.few (sz hw)
  obtain ⟨t, g2, n2, z2⟩ := given_ends hav hh.few (sz hh)
  obtain ⟨s', g3, n3, z3⟩ := given_ends want.reverse hw.rev.few (sz hw.rev)
  obtain ⟨t', g4, n4, z4⟩ := given_ends hav.reverse hh.rev.few (sz hh.rev)
  have m1 : impl_ParamsMatch.f s t = some is := by
    unfold impl_ParamsMatch.f fiberhelpers_ZzMatch.f fiberhelpers_paramsMatch.f
    rw [if_pos ⟨by omega, by omega⟩, match_is want hav hw hh s t n1 n2, ← his]
    rfl
  have m2 : impl_ParamsMatch.f s' t' = some is := by
    unfold impl_ParamsMatch.f fiberhelpers_ZzMatch.f fiberhelpers_paramsMatch.f
    have e : want.reverse.all (fun w => hav.reverse.any (hasB w)) = is := by
      rw [his, List.all_reverse]
      congr 1
      funext w
      rw [List.any_reverse]
    rw [if_pos ⟨by omega, by omega⟩, match_is want.reverse hav.reverse hw.rev hh.rev s' t' n3 n4, e]
    rfl
  refine Ev.step (f := fun k => (laws_given.f k want ([] : List Int)).bind fun t299 => ((laws_given.f k hav ([] : List Int)).bind fun t300 => ((impl_ParamsMatch.f t299 t300).bind fun t301 => (if (t301 == is) = true then ((laws_turned.f k want).bind fun t302 => ((laws_given.f k t302 ([] : List Int)).bind fun t305 => ((laws_turned.f k hav).bind fun t306 => ((laws_given.f k t306 ([] : List Int)).bind fun t309 => ((impl_ParamsMatch.f t305 t309).bind fun t310 => (some (t310 == is))))))) else (some false))))) (fun k => by simp only [laws_FnParamsAll.l0]; rw [if_neg (by omega)]) ?_
  refine Ev.bind g1 (Ev.bind g2 (Ev.call m1 (Ev.if_true (by simp) ?_)))
  refine Ev.bind (turned_ends want hw.few) (Ev.bind g3 (Ev.bind (turned_ends hav hh.few) (Ev.bind g4 (Ev.call m2 (Ev.val (by simp))))))
theorem inner (is : Bool) (i : Nat) (hi : i < want.length) : ∀ (d m : Nat) (has : Bool), m + d = hav.length →
    Ev (fun k => laws_FnParamsAll.l0 k want hav (is && (has || (hav.drop m).any (hasB (want[i])))) want (want.length : Int) ((i + 1 : Nat) : Int)) true →
    Ev (fun k => laws_FnParamsAll.l1 k want hav is has want (want.length : Int) (i : Int) hav (hav.length : Int) (m : Int) (want[i]).f0 (want[i]).f1) true := by
  intro d
  have wl := hw.few
  have hl := hh.few
  have hw64 : wrap64 ((i : Int) + 1) = ((i + 1 : Nat) : Int) := by
    rw [wrap_add (by omega) (by omega)]
    rfl
  have szw := hw.word _ (List.getElem_mem hi)
  have w0 := low_is (want[i]).f0 (by have := szw.1.2; omega)
  have w1 := low_is (want[i]).f1 (by have := szw.2.1.2; omega)
  induction d with
  | zero =>
    intro m has hm h
    obtain rfl : m = hav.length := by omega
    rw [List.drop_eq_nil_of_le (Nat.le_refl _), List.any_nil, Bool.or_false] at h
    refine Ev.step (f := fun k => laws_FnParamsAll.l0 k want hav (is && has) want (want.length : Int) ((i + 1 : Nat) : Int)) (fun k => ?_) h
    simp only [laws_FnParamsAll.l1, hw64]
    rw [if_neg (by omega)]
    cases is with
    | true => rw [if_pos rfl, Bool.true_and]
    | false => rw [if_neg (by simp), Bool.false_and]
  | succ d ih =>
    intro m has hm h
    have hlt : m < hav.length := by omega
    have hm64 : wrap64 ((m : Int) + 1) = ((m + 1 : Nat) : Int) := by
      rw [wrap_add (by omega) (by omega)]
      rfl
    have g1 : (m : Int) < (hav.length : Int) := by omega
    have g2 : (0 : Int) ≤ (m : Int) := by omega
    have szh := hh.word _ (List.getElem_mem hlt)
    have v0 := low_is (hav[m]).f0 (by have := szh.1.2; omega)
    have v1 := low_is (hav[m]).f1 (by have := szh.2.1.2; omega)
    rw [List.drop_eq_getElem_cons hlt, List.any_cons] at h
    have go : ∀ has', (has || (hasB (want[i]) (hav[m]) || (hav.drop (m + 1)).any (hasB (want[i])))) = (has' || (hav.drop (m + 1)).any (hasB (want[i]))) →
        Ev (fun k => laws_FnParamsAll.l1 k want hav is has' want (want.length : Int) (i : Int) hav (hav.length : Int) ((m + 1 : Nat) : Int) (want[i]).f0 (want[i]).f1) true := fun has' he => ih (m + 1) has' (by omega) (by rw [← he]; exact h)
    cases has with
    | true =>
      refine Ev.step (f := _) (fun k => ?_) (go true (by simp))
      simp only [laws_FnParamsAll.l1, hm64]
      rw [if_pos g1, if_pos g2, if_pos g1, if_pos trivial]
    | false =>
      by_cases c0 : lowS (hav[m]).f0 = lowS (want[i]).f0
      · refine Ev.step (f := _) (fun k => ?_) (go ((lowS (hav[m]).f1).toList == (lowS (want[i]).f1).toList) ?_)
        · simp only [laws_FnParamsAll.l1, hm64, rdP hav m hlt, w0, w1, v0, v1, Option.bind_some]
          rw [if_pos g1, if_pos g2, if_pos g1, if_neg (by simp), if_pos (by rw [c0])]
        · have e : ((lowS (hav[m]).f1).toList == (lowS (want[i]).f1).toList) = decide (lowS (hav[m]).f1 = lowS (want[i]).f1) := by
            rw [Bool.eq_iff_iff, beq_iff_eq, decide_eq_true_iff, toList_eq_iff]
          rw [e]
          unfold hasB
          rw [decide_eq_true c0]
          simp
      · refine Ev.step (f := _) (fun k => ?_) (go false ?_)
        · simp only [laws_FnParamsAll.l1, hm64, rdP hav m hlt, w0, w1, v0, v1, Option.bind_some]
          rw [if_pos g1, if_pos g2, if_pos g1, if_neg (by simp), if_neg (fun e => c0 ((toList_eq_iff _ _).1 e))]
        · unfold hasB
          rw [decide_eq_false c0]
          simp
theorem outer : ∀ (d i : Nat) (is : Bool), i + d = want.length → (is && (want.drop i).all (fun w => hav.any (hasB w))) = want.all (fun w => hav.any (hasB w)) → Ev (fun k => laws_FnParamsAll.l0 k want hav is want (want.length : Int) (i : Int)) true := by
  intro d
  induction d with
  | zero =>
    intro i is hi he
    obtain rfl : i = want.length := by omega
    rw [List.drop_eq_nil_of_le (Nat.le_refl _), List.all_nil, Bool.and_true] at he
    exact last hw hh is he
  | succ d ih =>
    intro i is hi he
    have hlt : i < want.length := by omega
    have g1 : (i : Int) < (want.length : Int) := by omega
    have g2 : (0 : Int) ≤ (i : Int) := by omega
    rw [List.drop_eq_getElem_cons hlt, List.all_cons] at he
    refine Ev.step (f := _) (fun k => ?_) (inner hw hh is i hlt hav.length 0 false (by omega) (ih (i + 1) _ (by omega) ?_))
    · simp only [laws_FnParamsAll.l0, rdP want i hlt]
      rw [if_pos g1, if_pos g2, if_pos g1]
      rfl
    · rw [← he, List.drop_zero, Bool.false_or, Bool.and_assoc]
end
theorem FnParamsAll : laws_FnParamsAll.Pure := by
  intro l0 l1 h0 h1
  refine Ev.rounds ?_
  simp only [laws_FnParamsAll.f]
  have out0 : Ev (fun k => laws_FnParamsAll.j0 k l0 l1 true) true := Ev.step (f := fun _ => some true) (fun k => by simp only [laws_FnParamsAll.j0]; rw [if_pos trivial]) (Ev.now _)
  have out2 : Ev (fun k => laws_FnParamsAll.j2 k l0 l1 true) true := Ev.step (f := fun _ => some true) (fun k => by simp only [laws_FnParamsAll.j2]; rw [if_pos trivial]) (Ev.now _)
  obtain ⟨f4, e4, m4⟩ := fits1_ends l0
  obtain ⟨f5, e5, m5⟩ := fits1_ends l1
  refine Ev.bind e4 (Ev.ite (fun hf4 => Ev.bind e5 ?_) (fun _ => out0))
  cases f5 with
  | false => exact out0
  | true =>
    obtain ⟨p4, q4⟩ := m4 hf4
    obtain ⟨p5, q5⟩ := m5 rfl
    have a1 : impl_ParamsMatch.f (⟨#[59, 97, 61, 98]⟩ : ByteArray) (⟨#[59, 99, 61, 100, 59, 97, 61, 98]⟩ : ByteArray) = some true := by decide +kernel
    have a2 : impl_ParamsMatch.f (⟨#[59, 97, 61, 98]⟩ : ByteArray) (⟨#[59, 97, 61, 99]⟩ : ByteArray) = some false := by decide +kernel
    refine Ev.step (f := fun k => (impl_ParamsMatch.f (⟨#[59, 97, 61, 98]⟩ : ByteArray) (⟨#[59, 99, 61, 100, 59, 97, 61, 98]⟩ : ByteArray)).bind fun t287 => (if t287 = true then ((impl_ParamsMatch.f (⟨#[59, 97, 61, 98]⟩ : ByteArray) (⟨#[59, 97, 61, 99]⟩ : ByteArray)).bind fun t288 => (laws_FnParamsAll.j1 k l0 l1 t288)) else (laws_FnParamsAll.j1 k l0 l1 true))) (fun k => by simp only [laws_FnParamsAll.j0]; rw [if_neg (by simp)]) ?_
    refine Ev.call a1 (Ev.if_true rfl (Ev.call a2 ?_))
    refine Ev.step (f := fun k => (laws_plainParams.f k l0).bind fun t289 => (if t289 = true then ((laws_plainParams.f k l1).bind fun t290 => (laws_FnParamsAll.j2 k l0 l1 (!t290))) else (laws_FnParamsAll.j2 k l0 l1 true))) (fun k => by simp only [laws_FnParamsAll.j1]; rw [if_neg (by simp)]) ?_
    obtain ⟨b4, r4, s4⟩ := plain_ends p4 q4
    obtain ⟨b5, r5, s5⟩ := plain_ends p5 q5
    refine Ev.bind r4 (Ev.ite (fun hb4 => Ev.bind r5 ?_) (fun _ => out2))
    cases b5 with
    | false => exact out2
    | true =>
      refine Ev.step (f := fun k => laws_FnParamsAll.l0 k l0 l1 true l0 (l0.length : Int) 0) (fun k => by simp only [laws_FnParamsAll.j2]; rw [if_neg (by simp)]) ?_
      exact outer (PL.of (s4 hb4)) (PL.of (s5 rfl)) l0.length 0 true (by omega) (by simp)
end Go.Proofs.Ytkbmababljcabaa.Pure
