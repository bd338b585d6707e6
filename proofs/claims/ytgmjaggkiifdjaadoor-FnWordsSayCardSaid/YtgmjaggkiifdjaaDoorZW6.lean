/- Texts of this claim, one behind the other (merged by wip/prune.py of this repo, without what the proof does not use): LSpecClean. -/
import Derived.Test.YtgmjaggkiifdjaaDoorZW3
import Derived.Test.YtgmjaggkiifdjaaDoorZW4
import Derived.Lib.Hide
set_option linter.unusedVariables false
set_option linter.unusedSimpArgs false
namespace Go.Proofs.YtgmjaggkiifdjaaDoor.Cln
open Go.RowKit Go.Proofs.YtgmjaggkiifdjaaDoorW.PrintWords Go.Proofs.YtgmjaggkiifdjaaDoorW.PrintLast Go.Proofs.YtgmjaggkiifdjaaDoorW.PrintMore Go.Proofs.YtgmjaggkiifdjaaDoor.Base Go.Proofs.YtgmjaggkiifdjaaDoor.QA
def okN (xs : List (List Int)) : Prop := ∀ x ∈ xs, x ≠ [] ∧ ∀ c ∈ x, c ≠ 47
theorem backFrom_wordN (R x : List Int) (hx : ∀ c ∈ x, c ≠ 47) (h1 : 1 < R.length) : ∀ j, j < x.length + 1 → backFrom (R ++ 47 :: x) (R.length + j) = R.length
  | 0, _ => by
    obtain ⟨w, hw⟩ : ∃ w, R.length = w + 2 := ⟨R.length - 2, by omega⟩
    rw [Nat.add_zero, hw]
    unfold backFrom
    rw [if_pos]
    rw [List.getD_eq_getElem?_getD, List.getElem?_append_right (by omega), hw, Nat.sub_self]
    rfl
  | j + 1, h => by
    obtain ⟨w, hw⟩ : ∃ w, R.length + (j + 1) = w + 2 := ⟨R.length + j - 1, by omega⟩
    have ih := backFrom_wordN R x hx h1 j (by omega)
    rw [hw]
    unfold backFrom
    rw [if_neg, show w + 1 = R.length + j by omega, ih]
    rw [← hw, List.getD_eq_getElem?_getD, List.getElem?_append_right (by omega), show R.length + (j + 1) - R.length = j + 1 by omega, List.getElem?_cons_succ, List.getElem?_eq_getElem (by omega)]
    exact hx _ (List.getElem_mem (by omega))
theorem backFrom_oneN (x : List Int) (hx : ∀ c ∈ x, c ≠ 47) : ∀ j, j < x.length → backFrom (47 :: x) (j + 1) = 1
  | 0, _ => rfl
  | j + 1, h => by
    have ih := backFrom_oneN x hx j (by omega)
    unfold backFrom
    rw [if_neg, ih]
    rw [List.getD_eq_getElem?_getD, List.getElem?_cons_succ, List.getElem?_eq_getElem h]
    exact hx _ (List.getElem_mem h)
theorem back_addN (R x : List Int) (h0 : x ≠ []) (hx : ∀ c ∈ x, c ≠ 47) (hR : R = [47] ∨ 1 < R.length) : backR (addE R x) = R := by
  have hxl : 0 < x.length := List.length_pos_iff.2 h0
  rcases hR with rfl | h1
  · have e : addE [47] x = 47 :: x := rfl
    unfold backR
    rw [e, if_pos (by simp; omega), show (47 :: x).length - 1 = (x.length - 1) + 1 by simp; omega, backFrom_oneN x hx _ (by omega)]
    rfl
  · have e : addE R x = R ++ 47 :: x := by unfold addE; rw [if_pos h1]; simp
    unfold backR
    rw [e, if_pos (by simp; omega), show (R ++ 47 :: x).length - 1 = R.length + x.length by simp, backFrom_wordN R x hx h1 _ (by omega), List.take_left]
theorem joinS_longN {ys : List (List Int)} (h : ys ≠ []) (hw : okN ys) : 1 < (joinS ys).length := by
  cases ys with
  | nil => exact absurd rfl h
  | cons x ys =>
    have := List.length_pos_iff.2 (hw x (by simp)).1
    simp [joinS]
    omega
theorem acc_addN (ys : List (List Int)) (x : List Int) (hw : okN ys) : addE (accOf ys) x = accOf (ys ++ [x]) := by
  unfold accOf
  by_cases h : ys = []
  · subst h
    rw [if_pos rfl, if_neg (by simp)]
    simp [joinS, addE]
  · rw [if_neg h, if_neg (by simp), joinS_append]
    unfold addE
    rw [if_pos (joinS_longN h hw)]
    simp [joinS]
theorem acc_formN (ys : List (List Int)) (hw : okN ys) : accOf ys = [47] ∨ 1 < (accOf ys).length := by
  unfold accOf
  by_cases h : ys = []
  · left; rw [if_pos h]
  · right; rw [if_neg h]; exact joinS_longN h hw
theorem back_acc (ys : List (List Int)) (hw : okN ys) : backR (accOf ys) = accOf ys.dropLast := by
  rcases List.eq_nil_or_concat ys with rfl | ⟨zs, x, rfl⟩
  · rfl
  · rw [List.concat_eq_append] at hw ⊢
    have hz : okN zs := fun y hy => hw y (List.mem_append_left _ hy)
    have hx := hw x (by simp)
    rw [List.dropLast_concat, ← acc_addN zs x hz, back_addN _ x hx.1 hx.2 (acc_formN zs hz)]
def stp (ps : List (List Int)) (s : List Int) : List (List Int) := if s = [] ∨ s = [46] then ps else if s = [46, 46] then ps.dropLast else ps ++ [s]
def spc : List (List Int) → List Int → List Int → List (List Int)
  | ps, cur, [] => stp ps cur
  | ps, cur, c :: q => if c = 47 then spc (stp ps cur) [] q else spc ps (cur ++ [c]) q
def lastSeg : List Int → List Int → List Int
  | cur, [] => cur
  | cur, c :: q => if c = 47 then lastSeg [] q else lastSeg (cur ++ [c]) q
theorem stp_ok {ps : List (List Int)} {s : List Int} (h : okN ps) (hs : ∀ c ∈ s, c ≠ 47) : okN (stp ps s) := by
  unfold stp
  split
  · exact h
  · rename_i h1
    split
    · exact fun x hx => h x (List.dropLast_subset _ hx)
    · intro x hx
      rcases List.mem_append.1 hx with hx | hx
      · exact h x hx
      · rw [List.mem_singleton] at hx
        subst hx
        exact ⟨fun e => h1 (.inl e), hs⟩
theorem spc_word : ∀ (x : List Int), (∀ c ∈ x, c ≠ 47) → ∀ (ps : List (List Int)) (cur t : List Int), spc ps cur (x ++ t) = spc ps (cur ++ x) t ∧ lastSeg cur (x ++ t) = lastSeg (cur ++ x) t
  | [], _, ps, cur, t => by simp
  | c :: x, hx, ps, cur, t => by
    have ih := spc_word x (fun y hy => hx y (List.mem_cons_of_mem _ hy)) ps (cur ++ [c]) t
    have hc := hx c (List.mem_cons_self ..)
    rw [List.cons_append, spc, if_neg hc, lastSeg, if_neg hc, ih.1, ih.2, List.append_assoc, List.singleton_append]
    exact ⟨rfl, rfl⟩
theorem tw_parts (q : List Int) : q = q.takeWhile nosl ++ q.dropWhile nosl ∧ (∀ c ∈ q.takeWhile nosl, c ≠ 47) ∧ (q.dropWhile nosl = [] ∨ ∃ t, q.dropWhile nosl = 47 :: t) := by
  refine ⟨(List.takeWhile_append_dropWhile).symm, fun c hc => ?_, ?_⟩
  · have := List.all_eq_true.1 (List.all_takeWhile (p := nosl) (l := q)) c hc
    exact (nosl_iff c).1 this
  · cases h : q.dropWhile nosl with
    | nil => exact .inl rfl
    | cons c t =>
      have hh := List.head?_dropWhile_not nosl q
      rw [h] at hh
      simp only [List.head?_cons] at hh
      have : nosl c = false := by simpa using hh
      have e : c = 47 := by
        unfold nosl at this
        have := of_decide_eq_false this
        omega
      exact .inr ⟨t, by rw [e]⟩
theorem cl_spc : ∀ (n : Nat) (q : List Int), q.length ≤ n → ∀ (f : Nat) (ps : List (List Int)) (tr : Bool), q.length ≤ f → okN ps → cl f q (accOf ps) tr = (accOf (spc ps [] q), tr || decide (lastSeg [] q = [46])) ∧ okN (spc ps [] q) := by
  have hnil : ∀ (f : Nat) (ps : List (List Int)) (tr : Bool), okN ps → cl f [] (accOf ps) tr = (accOf (spc ps [] []), tr || decide (lastSeg [] [] = [46])) ∧ okN (spc ps [] []) := by
    intro f ps tr hw
    rw [cl_nil]
    have e : spc ps [] [] = ps := rfl
    rw [e]
    exact ⟨by rw [decide_eq_false (by show ¬ ([] : List Int) = [46]; simp), Bool.or_false], hw⟩
  intro n
  induction n with
  | zero =>
    intro q hq f ps tr _ hw
    obtain rfl : q = [] := List.length_eq_zero_iff.1 (by omega)
    exact hnil f ps tr hw
  | succ n ih =>
    intro q hq f ps tr hf hw
    cases q with
    | nil => exact hnil f ps tr hw
    | cons c t =>
      obtain ⟨f, rfl⟩ : ∃ g, f = g + 1 := ⟨f - 1, by simp only [List.length_cons] at hf; omega⟩
      simp only [List.length_cons] at hq hf
      by_cases h47 : c = 47
      · subst h47
        rw [cl_slash]
        have e1 : spc ps [] (47 :: t) = spc ps [] t := rfl
        have e2 : lastSeg [] (47 :: t) = lastSeg [] t := rfl
        rw [e1, e2]
        exact ih t (by omega) f ps tr (by omega) hw
      · obtain ⟨hq1, hq2, hq3⟩ := tw_parts (c :: t)
        have hw1 := spc_word _ hq2 ps [] ((c :: t).dropWhile nosl)
        rw [← hq1, List.nil_append] at hw1
        obtain ⟨s, hs⟩ : ∃ s, (c :: t).takeWhile nosl = s := ⟨_, rfl⟩
        obtain ⟨u, hu⟩ : ∃ u, (c :: t).dropWhile nosl = u := ⟨_, rfl⟩
        rw [hs, hu] at hw1 hq1
        rw [hs] at hq2
        rw [hu] at hq3
        have hs0 : s ≠ [] := by
          rw [← hs, List.takeWhile_cons_of_pos ((nosl_iff c).2 h47)]; simp
        have hlen : s.length + u.length = t.length + 1 := by rw [← List.length_append, ← hq1]; rfl
        have hsl := List.length_pos_iff.2 hs0
        rw [hw1.1, hw1.2]
        have cont : ∀ (R : List (List Int)) (tr2 : Bool), okN R → cl f u (accOf R) tr2 = (accOf (spc R [] u), tr2 || decide (lastSeg [] u = [46])) ∧ okN (spc R [] u) := fun R tr2 hR => ih u (by omega) f R tr2 (by omega) hR
        have adv : ∀ (R : List (List Int)), R = stp ps s → spc ps s u = spc R [] u := by
          intro R hR
          rcases hq3 with h | ⟨v, h⟩
          · rw [h, hR]; rfl
          · rw [h, hR]; rfl
        have lst : u ≠ [] → lastSeg s u = lastSeg [] u := by
          intro h
          rcases hq3 with h' | ⟨v, h'⟩
          · exact absurd h' h
          · rw [h']; rfl
        by_cases hd1 : s = [46]
        · have hst : stp ps s = ps := by unfold stp; rw [if_pos (.inr hd1)]
          rw [adv ps hst.symm]
          rw [hd1] at hq1
          rcases hq3 with h | ⟨v, h⟩
          · rw [hq1, h]
            have e : cl (f + 1) ([46] ++ []) (accOf ps) tr = (accOf ps, true) := by simp [cl, cl_nil]
            rw [e, hd1]
            exact ⟨by rw [show lastSeg [46] [] = [46] from rfl, decide_eq_true rfl, Bool.or_true]; rfl, hw⟩
          · rw [lst (by rw [h]; simp), h, hq1, h]
            rw [show ([46] : List Int) ++ 47 :: v = 46 :: 47 :: v from rfl, cl_dot]
            have e1 : spc ps [] (47 :: v) = spc ps [] v := rfl
            have e2 : lastSeg [] (47 :: v) = lastSeg [] v := rfl
            rw [e1, e2]
            rw [h] at hlen
            simp only [List.length_cons] at hlen
            exact ih v (by omega) f ps tr (by omega) hw
        · by_cases hd2 : s = [46, 46]
          · have hst : stp ps s = ps.dropLast := by unfold stp; rw [if_neg (by rw [hd2]; simp), if_pos hd2]
            have hwd : okN ps.dropLast := fun x hx => hw x (List.dropLast_subset _ hx)
            rw [adv _ hst.symm]
            rw [hd2] at hq1
            rcases hq3 with h | ⟨v, h⟩
            · rw [hq1, h]
              have e : cl (f + 1) ([46, 46] ++ []) (accOf ps) tr = (backR (accOf ps), tr) := by simp [cl, cl_nil]
              rw [e, hd2, back_acc ps hw]
              exact ⟨by rw [decide_eq_false (by show ¬ ([46, 46] : List Int) = [46]; simp), Bool.or_false]; rfl, hwd⟩
            · rw [lst (by rw [h]; simp), h, hq1, h]
              rw [show ([46, 46] : List Int) ++ 47 :: v = 46 :: 46 :: 47 :: v from rfl, cl_back, back_acc ps hw]
              have e1 : spc ps.dropLast [] (47 :: v) = spc ps.dropLast [] v := rfl
              have e2 : lastSeg [] (47 :: v) = lastSeg [] v := rfl
              rw [e1, e2]
              rw [h] at hlen
              simp only [List.length_cons] at hlen
              exact ih v (by omega) f _ tr (by omega) hwd
          · have hst : stp ps s = ps ++ [s] := by unfold stp; rw [if_neg (by simp [hs0, hd1]), if_neg hd2]
            have hok : okN (ps ++ [s]) := by rw [← hst]; exact stp_ok hw hq2
            rw [adv _ hst.symm]
            have e : cl (f + 1) (c :: t) (accOf ps) tr = cl f u (addE (accOf ps) s) tr := by
              have a1 : ¬ (c = 46 ∧ t = []) := by
                rintro ⟨rfl, rfl⟩
                exact hd1 hs.symm
              have a2 : ¬ (c = 46 ∧ t.headD 0 = 47) := by
                rintro ⟨rfl, h⟩
                cases t with
                | nil => cases h
                | cons d t =>
                  have : d = 47 := h
                  subst this
                  exact hd1 hs.symm
              have a3 : ¬ (c = 46 ∧ t.headD 0 = 46 ∧ (t.length = 1 ∨ (t.drop 1).headD 0 = 47)) := by
                rintro ⟨rfl, h, h'⟩
                cases t with
                | nil => cases h
                | cons d t =>
                  have : d = 46 := h
                  subst this
                  rcases h' with h' | h'
                  · have : t = [] := List.length_eq_zero_iff.1 (by simpa using h')
                    subst this
                    exact hd2 hs.symm
                  · cases t with
                    | nil => cases h'
                    | cons e t =>
                      have : e = 47 := h'
                      subst this
                      exact hd2 hs.symm
              rw [cl, if_neg h47, if_neg a1, if_neg a2, if_neg a3, hu, hs]
            rw [e, acc_addN ps s hw]
            have hc := cont (ps ++ [s]) tr hok
            refine ⟨hc.1.trans ?_, hc.2⟩
            rcases hq3 with h | ⟨v, h⟩
            · rw [h]
              rw [show lastSeg s [] = s from rfl, decide_eq_false hd1, show lastSeg ([] : List Int) [] = [] from rfl, decide_eq_false (by simp)]
            · rw [lst (by rw [h]; simp)]
theorem last_parts : ∀ (q cur : List Int), (lastSeg cur q = cur ++ q ∧ ∀ c ∈ q, c ≠ 47) ∨ ∃ u v, q = u ++ 47 :: v ∧ lastSeg cur q = v ∧ ∀ c ∈ v, c ≠ 47
  | [], cur => .inl ⟨by rw [List.append_nil]; rfl, by simp⟩
  | c :: q, cur => by
    by_cases h : c = 47
    · subst h
      rw [show lastSeg cur (47 :: q) = lastSeg [] q from rfl]
      rcases last_parts q [] with ⟨h1, h2⟩ | ⟨u, v, h1, h2, h3⟩
      · exact .inr ⟨[], q, rfl, by rw [h1]; rfl, h2⟩
      · exact .inr ⟨47 :: u, v, by rw [h1]; rfl, h2, h3⟩
    · rw [lastSeg, if_neg h]
      rcases last_parts q (cur ++ [c]) with ⟨h1, h2⟩ | ⟨u, v, h1, h2, h3⟩
      · refine .inl ⟨by rw [h1]; simp, fun x hx => ?_⟩
        rcases List.mem_cons.1 hx with rfl | hx
        · exact h
        · exact h2 x hx
      · exact .inr ⟨c :: u, v, by rw [h1]; rfl, h2, h3⟩
theorem last_dot (q : List Int) : lastSeg [] q = [46] ↔ q = [46] ∨ ∃ u, q = u ++ [47, 46] := by
  rcases last_parts q [] with ⟨h1, h2⟩ | ⟨u, v, h1, h2, h3⟩
  · rw [h1, List.nil_append]
    constructor
    · exact .inl
    · rintro (h | ⟨u, h⟩)
      · exact h
      · exact absurd rfl (h2 47 (by rw [h]; simp))
  · rw [h2]
    constructor
    · intro h
      exact .inr ⟨u, by rw [h1, h]⟩
    · rintro (h | ⟨u', h⟩)
      · rw [h1] at h
        have := congrArg List.length h
        cases u with
        | nil => simp at h
        | cons a u => simp at h
      · rw [h1] at h
        have hv : v.length = 1 := by
          rcases Nat.lt_trichotomy v.length 1 with hl | hl | hl
          · have : v = [] := List.length_eq_zero_iff.1 (by omega)
            subst this
            have := congrArg List.getLast? h
            simp at this
          · exact hl
          · exfalso
            have e := congrArg List.reverse h
            simp only [List.reverse_append, List.reverse_cons, List.reverse_nil, List.nil_append, List.append_assoc, List.singleton_append] at e
            have hr : v.reverse.length = v.length := List.length_reverse
            cases hvr : v.reverse with
            | nil => rw [hvr] at hr; simp at hr; omega
            | cons a w =>
              cases w with
              | nil => rw [hvr] at hr; simp at hr; omega
              | cons b w =>
                rw [hvr] at e
                simp at e
                have hm : b ∈ v := by rw [← List.mem_reverse, hvr]; simp
                exact h3 b hm e.2.1
        obtain ⟨a, rfl⟩ : ∃ a, v = [a] := List.length_eq_one_iff.1 hv
        have := congrArg List.getLast? h
        simp at this
        rw [this]
def specP (p : List Int) : List Int :=
  let ps := spc [] [] p
  if joinS ps = [] then [47]
  else if (1 < p.length ∧ p.getD (p.length - 1) 0 = 47) ∨ (1 < p.length ∧ p.getD (p.length - 1) 0 = 46 ∧ p.getD (p.length - 2) 0 = 47) then joinS ps ++ [47] else joinS ps
theorem spec_clean (p : List Int) : specP p = cleanG p := by
  unfold specP cleanG
  by_cases hp : p = []
  · subst hp; rfl
  rw [if_neg hp]
  obtain ⟨q, hq⟩ : ∃ q, (if p.headD 0 = 47 then p.drop 1 else p) = q := ⟨_, rfl⟩
  have hql : q.length ≤ p.length := by rw [← hq]; split <;> simp
  have hps : spc [] [] p = spc [] [] q := by
    rw [← hq]
    split
    · rename_i h
      cases p with
      | nil => exact absurd rfl hp
      | cons c t => have : c = 47 := h; subst this; rfl
    · rfl
  have hdot : lastSeg [] q = [46] ↔ p = [46] ∨ p = [47, 46] ∨ ∃ u, q = u ++ [47, 46] := by
    rw [last_dot, ← hq]
    split
    · rename_i h
      cases p with
      | nil => exact absurd rfl hp
      | cons c t =>
        have : c = 47 := h
        subst this
        simp
    · rename_i h
      constructor
      · rintro (h1 | h1)
        · exact .inl h1
        · exact .inr (.inr h1)
      · rintro (h1 | h1 | h1)
        · exact .inl h1
        · rw [h1] at h; exact absurd rfl h
        · exact .inr h1
  rw [hq, hps]
  obtain ⟨h1, h2⟩ := cl_spc q.length q (Nat.le_refl _) p.length [] (decide (1 < p.length) && decide (p.getD (p.length - 1) 0 = 47)) hql (fun x hx => by cases hx)
  rw [show accOf [] = [47] from rfl] at h1
  rw [h1]
  obtain ⟨ps, hpe⟩ : ∃ ps, spc [] [] q = ps := ⟨_, rfl⟩
  rw [hpe] at h2
  simp only [hpe]
  by_cases hps0 : ps = []
  · subst hps0
    rw [show joinS [] = [] from rfl, if_pos rfl, show accOf [] = [47] from rfl, if_neg (by simp)]
  · have hj : joinS ps ≠ [] := by cases ps with
      | nil => exact absurd rfl hps0
      | cons a b => simp [joinS]
    have ha : accOf ps = joinS ps := by unfold accOf; rw [if_neg hps0]
    have hl := joinS_longN hps0 h2
    rw [if_neg hj, ha]
    have key : ((1 < p.length ∧ p.getD (p.length - 1) 0 = 47) ∨ (1 < p.length ∧ p.getD (p.length - 1) 0 = 46 ∧ p.getD (p.length - 2) 0 = 47)) ↔ ((decide (1 < p.length) && decide (p.getD (p.length - 1) 0 = 47)) || decide (lastSeg [] q = [46])) = true := by
      rw [Bool.or_eq_true, Bool.and_eq_true, decide_eq_true_eq, decide_eq_true_eq, decide_eq_true_eq, hdot]
      refine or_congr Iff.rfl ⟨?_, ?_⟩
      · rintro ⟨a1, a2, a3⟩
        have hsp : p = p.take (p.length - 2) ++ [47, 46] := by
          conv => lhs; rw [← List.take_append_drop (p.length - 2) p]
          congr 1
          rw [List.drop_eq_getElem_cons (by omega), List.drop_eq_getElem_cons (by omega), List.drop_eq_nil_of_le (by omega)]
          rw [List.getD_eq_getElem?_getD, List.getElem?_eq_getElem (by omega)] at a2 a3
          simp only [Option.getD_some] at a2 a3
          have e1 : p[p.length - 2 + 1]'(by omega) = p[p.length - 1]'(by omega) := by congr 1; omega
          rw [a3, e1, a2]
        by_cases h47 : p.headD 0 = 47
        · by_cases hl2 : p.length = 2
          · right; left
            rw [hsp, hl2]; rfl
          · right; right
            refine ⟨(p.take (p.length - 2)).drop 1, ?_⟩
            rw [← hq, if_pos h47]
            conv => lhs; rw [hsp]
            rw [List.drop_append_of_le_length (by rw [List.length_take]; omega)]
        · right; right
          exact ⟨p.take (p.length - 2), by rw [← hq, if_neg h47]; exact hsp⟩
      · intro h
        have hgen : ∀ u : List Int, p = u ++ [47, 46] → 1 < p.length ∧ p.getD (p.length - 1) 0 = 46 ∧ p.getD (p.length - 2) 0 = 47 := by
          intro u hu
          have hl : p.length = u.length + 2 := by rw [hu]; simp
          refine ⟨by omega, ?_, ?_⟩
          · rw [hl, hu, List.getD_eq_getElem?_getD, List.getElem?_append_right (by omega), show u.length + 2 - 1 - u.length = 1 by omega]; rfl
          · rw [hl, hu, List.getD_eq_getElem?_getD, List.getElem?_append_right (by omega), show u.length + 2 - 2 - u.length = 0 by omega]; rfl
        rcases h with h | h | ⟨u, h⟩
        · exfalso
          rw [h] at hq
          have : q = [46] := by rw [← hq]; rfl
          rw [this] at hpe
          exact hps0 hpe.symm
        · exact hgen [] h
        · by_cases h47 : p.headD 0 = 47
          · refine hgen (47 :: u) ?_
            rw [← hq, if_pos h47] at h
            cases p with
            | nil => exact absurd rfl hp
            | cons c t =>
              have : c = 47 := h47
              subst this
              rw [show t = u ++ [47, 46] from h]; rfl
          · rw [← hq, if_neg h47] at h
            exact hgen u h
    by_cases hk : (1 < p.length ∧ p.getD (p.length - 1) 0 = 47) ∨ (1 < p.length ∧ p.getD (p.length - 1) 0 = 46 ∧ p.getD (p.length - 2) 0 = 47)
    · rw [if_pos hk, if_pos ⟨key.1 hk, hl⟩]
    · rw [if_neg hk, if_neg (fun h => hk (key.2 h.1))]
theorem tl_nil' (s : ByteArray) : s.toList = ([] : List UInt8) ↔ s.size = 0 := by
  rw [Lib.toList_data, Lib.size_eq]
  exact List.length_eq_zero_iff.symm
theorem sof_ns' (s : ByteArray) : strOfNums (ns s) = s := ns_inj (ns_strOfNums (fun x hx => ns_range s x hx))
def rgB (xs : List Int) : Prop := ∀ x ∈ xs, 0 ≤ x ∧ x ≤ 255
theorem toL_lit (s : ByteArray) (l : List UInt8) : s.toList = l ↔ ns s = l.map fun c => (c.toNat : Int) := by
  have : l = (⟨l.toArray⟩ : ByteArray).toList := by rw [Lib.toList_data]
  constructor
  · intro h
    rw [← h, Lib.toList_data]; rfl
  · intro h
    rw [this, toList_eq_iff]
    exact ns_inj (by rw [h]; rfl)
theorem stp_map (ps : List (List Int)) (s : List Int) (h : ∀ p ∈ ps, rgB p) (hs : rgB s) : ∀ p ∈ stp ps s, rgB p := by
  unfold stp
  split
  · exact h
  · split
    · exact fun p hp => h p (List.dropLast_subset _ hp)
    · intro p hp
      rcases List.mem_append.1 hp with hp | hp
      · exact h p hp
      · rw [List.mem_singleton] at hp; rw [hp]; exact hs
theorem stp_len (ps : List (List Int)) (s : List Int) : (stp ps s).length ≤ ps.length + 1 := by
  unfold stp
  split
  · omega
  · split
    · rw [List.length_dropLast]; omega
    · rw [List.length_append, List.length_singleton]; omega
def trailP (p : List Int) : Prop := (1 < p.length ∧ p.getD (p.length - 1) 0 = 47) ∨ (1 < p.length ∧ p.getD (p.length - 1) 0 = 46 ∧ p.getD (p.length - 2) 0 = 47)
instance (p : List Int) : Decidable (trailP p) := by unfold trailP; infer_instance
theorem joinS_ge (qs : List (List Int)) : qs.length ≤ (joinS qs).length := by
  induction qs with
  | nil => simp
  | cons q qs ih => simp only [joinS, List.length_cons, List.length_append]; omega
theorem fin_ends (x : ByteArray) (hs : x.size ≤ 1099511627776) (qs : List (List Int)) (hr : ∀ q ∈ qs, rgB q) (hj : (joinS qs).length ≤ 1099511627776) (d : Nat) : ∀ (j : Nat) (acc : List Int), j + d = qs.length → rgB acc → acc ++ joinS (qs.drop j) = joinS qs →
    Ev (fun k => spec_CleanPath.l1 k x (strOfNums acc) (qs.map strOfNums) ((qs.map strOfNums).length : Int) (j : Int)) (strOfNums (if joinS qs = [] then [47] else if trailP (ns x) then joinS qs ++ [47] else joinS qs)) := by
  have hl := ns_length x
  have hjg := joinS_ge qs
  have hml : (qs.map strOfNums).length = qs.length := List.length_map _
  induction d with
  | zero =>
    intro j acc hj0 ha hacc
    rw [List.drop_eq_nil_of_le (by omega), show joinS [] = [] from rfl, List.append_nil] at hacc
    have hsz : (strOfNums acc).size = acc.length := by rw [← ns_length, ns_strOfNums ha]
    have hal : acc.length ≤ 1099511627776 := by rw [hacc]; exact hj
    have app : strOfNums acc ++ (⟨#[47]⟩ : ByteArray) = strOfNums (acc ++ [47]) := by
      refine ns_inj ?_
      rw [ns_append, ns_strOfNums ha, ns_strOfNums]
      · rfl
      · intro y hy
        rcases List.mem_append.1 hy with h | h
        · exact ha y h
        · simp at h; omega
    rw [← hacc]
    refine Ev.step (f := fun _ => some (strOfNums (if acc = [] then [47] else if trailP (ns x) then acc ++ [47] else acc))) (fun k => ?_) (Ev.now _)
    rw [spec_CleanPath.l1, if_neg (by omega)]
    by_cases h0 : acc = []
    · rw [if_pos ((tl_nil' _).2 (by rw [hsz, h0]; rfl)), if_pos (by omega), if_pos h0, h0]; rfl
    · have hne : ¬ (strOfNums acc).toList = ([] : List UInt8) := fun h => h0 (List.length_eq_zero_iff.1 (by have := (tl_nil' _).1 h; omega))
      rw [if_neg hne, if_neg h0]
      by_cases h1 : 1 < (ns x).length
      · have w1 : wrap64 ((x.size : Int) - 1) = (((ns x).length - 1 : Nat) : Int) := by unfold wrap64; omega
        have w2 : wrap64 ((x.size : Int) - 2) = (((ns x).length - 2 : Nat) : Int) := by unfold wrap64; omega
        rw [if_pos (by omega), w1, if_pos (by omega), if_pos (by omega), bt_ns]
        by_cases c1 : (ns x).getD ((ns x).length - 1) 0 = 47
        · rw [if_pos c1, if_pos (by omega), if_pos (show trailP (ns x) from .inl ⟨h1, c1⟩), app]
        · rw [if_neg c1]
          by_cases c2 : (ns x).getD ((ns x).length - 1) 0 = 46
          · rw [if_pos c2, w2, if_pos (by omega), if_pos (by omega), bt_ns]
            by_cases c3 : (ns x).getD ((ns x).length - 2) 0 = 47
            · rw [if_pos c3, if_pos (by omega), if_pos (show trailP (ns x) from .inr ⟨h1, c2, c3⟩), app]
            · rw [if_neg c3, if_neg (show ¬ trailP (ns x) by rintro (h | h); exact c1 h.2; exact c3 h.2.2)]
          · rw [if_neg c2, if_neg (show ¬ trailP (ns x) by rintro (h | h); exact c1 h.2; exact c2 h.2.1)]
      · rw [if_neg (by omega), if_neg (show ¬ trailP (ns x) by rintro (h | h); exact h1 h.1; exact h1 h.1)]
  | succ d ih =>
    intro j acc hj0 ha hacc
    have hlt : j < qs.length := by omega
    have hq := hr _ (List.getElem_mem hlt)
    rw [List.drop_eq_getElem_cons hlt, joinS] at hacc
    obtain ⟨q, hqe⟩ : ∃ q, qs[j] = q := ⟨_, rfl⟩
    rw [hqe] at hacc hq
    have ha2 : rgB (acc ++ 47 :: q) := by
      intro y hy
      rcases List.mem_append.1 hy with h | h
      · exact ha y h
      · rcases List.mem_cons.1 h with rfl | h
        · omega
        · exact hq y h
    have hlen := congrArg List.length hacc
    simp only [List.length_append, List.length_cons] at hlen
    have z1 : (strOfNums acc).size = acc.length := by rw [← ns_length, ns_strOfNums ha]
    have z2 : (strOfNums q).size = q.length := by rw [← ns_length, ns_strOfNums hq]
    have z3 : ((⟨#[47]⟩ : ByteArray) ++ strOfNums q).size = 1 + q.length := by rw [ByteArray.size_append, z2]; rfl
    have hrd : rdOf ByteArray.empty (qs.map strOfNums) (j : Int) = strOfNums q := by rw [rdOf_nat _ _ _ (by omega), List.getElem_map, hqe]
    have app : strOfNums acc ++ ((⟨#[47]⟩ : ByteArray) ++ strOfNums q) = strOfNums (acc ++ 47 :: q) := by
      refine ns_inj ?_
      rw [ns_append, ns_append, ns_strOfNums ha, ns_strOfNums hq, ns_strOfNums ha2]; rfl
    have h2 := ih (j + 1) (acc ++ 47 :: q) (by omega) ha2 (by rw [← hacc]; simp)
    refine Ev.step (fun k => ?_) h2
    rw [spec_CleanPath.l1, if_pos (by omega), if_pos (by omega), if_pos (by omega), hrd, if_pos (by omega), if_pos (by omega), app, wrap_add (by omega) (by omega)]
    rfl
theorem parts_ends (x : ByteArray) (hs : x.size ≤ 1099511627776) (r : ByteArray) (d : Nat) : ∀ (i b : Nat) (ps : List (List Int)), i + d = x.size → b ≤ i → ps.length ≤ i → (∀ p ∈ ps, rgB p) →
    Ev (fun k => spec_CleanPath.l1 k x (⟨#[]⟩ : ByteArray) ((spc ps (((ns x).drop b).take (i - b)) ((ns x).drop i)).map strOfNums) (((spc ps (((ns x).drop b).take (i - b)) ((ns x).drop i)).map strOfNums).length : Int) 0) r →
      Ev (fun k => spec_CleanPath.l0 k x (ps.map strOfNums) (b : Int) (i : Int)) r := by
  have hl := ns_length x
  -- a part ends at i
  have step : ∀ (i b : Nat) (ps : List (List Int)), i ≤ x.size → b ≤ i → ps.length ≤ i → (∀ p ∈ ps, rgB p) → Ev (fun k => spec_CleanPath.l0 k x ((stp ps (((ns x).drop b).take (i - b))).map strOfNums) ((i + 1 : Nat) : Int) ((i + 1 : Nat) : Int)) r → Ev (fun k => spec_CleanPath.j1 k x (ps.map strOfNums) (b : Int) (i : Int) false) r := by
    intro i b ps hi hb hpl hpr hr
    have hw := Lib.hid (show wrap64 ((i : Int) + 1) = ((i + 1 : Nat) : Int) by unfold wrap64; omega)
    have hex : x.extract b i = strOfNums (((ns x).drop b).take (i - b)) := by rw [← sof_ns' (x.extract b i), ns_extract]
    obtain ⟨s, hse⟩ : ∃ s, ((ns x).drop b).take (i - b) = s := ⟨_, rfl⟩
    have hsr : rgB s := fun y hy => by rw [← hse] at hy; exact ns_range x y (List.mem_of_mem_drop (List.mem_of_mem_take hy))
    have hns : ns (x.extract b i) = s := by rw [ns_extract, hse]
    rw [hse] at hex hr
    have hml : (ps.map strOfNums).length = ps.length := List.length_map _
    have e0 : (x.extract b i).toList = ([] : List UInt8) ↔ s = [] := by rw [toL_lit, hns]; simp
    have e1 : (x.extract b i).toList = ([46] : List UInt8) ↔ s = [46] := by rw [toL_lit, hns]; simp
    have e2 : (x.extract b i).toList = ([46, 46] : List UInt8) ↔ s = [46, 46] := by rw [toL_lit, hns]; simp
    have j2t : s = [] ∨ s = [46] → Ev (fun k => spec_CleanPath.j2 k x (ps.map strOfNums) (i : Int) (x.extract b i) true) r := by
      intro h
      have : stp ps s = ps := by unfold stp; rw [if_pos h]
      rw [this] at hr
      exact Ev.step (fun k => by rw [spec_CleanPath.j2, if_pos rfl, hw.out]) hr
    have j2f : ¬ (s = [] ∨ s = [46]) → Ev (fun k => spec_CleanPath.j2 k x (ps.map strOfNums) (i : Int) (x.extract b i) false) r := by
      intro h
      by_cases h2 : s = [46, 46]
      · have hst : stp ps s = ps.dropLast := by unfold stp; rw [if_neg h, if_pos h2]
        rw [hst] at hr
        by_cases h3 : ps.length = 0
        · have : ps = [] := List.length_eq_zero_iff.1 h3
          subst this
          exact Ev.step (fun k => by rw [spec_CleanPath.j2, if_neg (by simp), if_pos (e2.2 h2), if_neg (by simp), hw.out]; rfl) hr
        · have w1 : wrap64 ((((ps.map strOfNums).length : Nat) : Int) - 1) = ((ps.length - 1 : Nat) : Int) := by rw [hml]; unfold wrap64; omega
          have ht : (ps.map strOfNums).take (ps.length - 1) = ps.dropLast.map strOfNums := by rw [← List.map_take, List.dropLast_eq_take]
          refine Ev.step (fun k => ?_) hr
          rw [spec_CleanPath.j2, if_neg (by simp), if_pos (e2.2 h2), if_pos (by omega), w1, if_pos (by omega), if_pos (by omega), Int.toNat_natCast, ht, hw.out]
      · have hst : stp ps s = ps ++ [s] := by unfold stp; rw [if_neg h, if_neg h2]
        rw [hst, List.map_append, List.map_cons, List.map_nil, ← hex] at hr
        refine Ev.step (fun k => ?_) hr
        rw [spec_CleanPath.j2, if_neg (by simp), if_neg (fun g => h2 (e2.1 g)), if_pos (by omega), hw.out]
    refine Ev.step (f := fun k => if (x.extract b i).toList = ([] : List UInt8) then (spec_CleanPath.j2 k x (ps.map strOfNums) (i : Int) (x.extract b i) true) else (spec_CleanPath.j2 k x (ps.map strOfNums) (i : Int) (x.extract b i) ((x.extract b i).toList == ([46] : List UInt8)))) (fun k => ?_) ?_
    · rw [spec_CleanPath.j1, if_neg (by simp), if_pos (by omega), if_pos (by omega), if_pos (by omega), Int.toNat_natCast, Int.toNat_natCast]
    · refine Ev.ite (fun h => j2t (.inl (e0.1 h))) (fun h => ?_)
      by_cases h1 : s = [46]
      · rw [beq_iff_eq.2 (e1.2 h1)]; exact j2t (.inr h1)
      · rw [beq_eq_false_iff_ne.2 (fun g => h1 (e1.1 g))]
        exact j2f (fun g => g.elim (fun g => h (e0.2 g)) h1)
  induction d with
  | zero =>
    intro i b ps hi hb hpl hpr hr
    have e0 : (ns x).drop i = [] := List.drop_eq_nil_of_le (by omega)
    rw [e0, spc] at hr
    refine Ev.step (f := fun k => spec_CleanPath.j1 k x (ps.map strOfNums) (b : Int) (i : Int) false) (fun k => by rw [spec_CleanPath.l0, if_pos (by omega), if_neg (by omega)]) (step i b ps (by omega) hb hpl hpr ?_)
    refine Ev.step (fun k => ?_) hr
    rw [spec_CleanPath.l0, if_neg (by omega)]
  | succ d ih =>
    intro i b ps hi hb hpl hpr hr
    have hlt : i < (ns x).length := by omega
    have hbt : bt x (i : Int) = (ns x)[i] := by rw [bt_ns, List.getD_eq_getElem?_getD, List.getElem?_eq_getElem hlt]; rfl
    have hnx : ((ns x).drop b).take (i + 1 - b) = ((ns x).drop b).take (i - b) ++ [(ns x)[i]] := by
      rw [show i + 1 - b = (i - b) + 1 by omega, List.take_add_one, List.getElem?_drop, show b + (i - b) = i by omega, List.getElem?_eq_getElem hlt]; rfl
    have hw := Lib.hid (show wrap64 ((i : Int) + 1) = ((i + 1 : Nat) : Int) by unfold wrap64; omega)
    obtain ⟨c, hc⟩ : ∃ c, (ns x)[i] = c := ⟨_, rfl⟩
    rw [hc] at hbt hnx
    rw [List.drop_eq_getElem_cons hlt, hc, spc] at hr
    have l0 : ∀ v : Bool, (c != 47) = v → Ev (fun k => spec_CleanPath.j1 k x (ps.map strOfNums) (b : Int) (i : Int) v) r → Ev (fun k => spec_CleanPath.l0 k x (ps.map strOfNums) (b : Int) (i : Int)) r := fun v hv h =>
      Ev.step (fun k => by rw [spec_CleanPath.l0, if_pos (by omega), if_pos (by omega), if_pos (by omega), hbt, hv]) h
    by_cases h47 : c = 47
    · rw [if_pos h47] at hr
      refine l0 false (by rw [h47]; rfl) (step i b ps (by omega) hb hpl hpr ?_)
      have hsr : rgB (((ns x).drop b).take (i - b)) := fun y hy => ns_range x y (List.mem_of_mem_drop (List.mem_of_mem_take hy))
      refine ih (i + 1) (i + 1) (stp ps (((ns x).drop b).take (i - b))) (by omega) (by omega) (by have := stp_len ps (((ns x).drop b).take (i - b)); omega) (stp_map ps _ hpr hsr) ?_
      rw [Nat.sub_self, List.take_zero]
      exact hr
    · rw [if_neg h47] at hr
      refine l0 true (bne_iff_ne.2 h47) (Ev.step (fun k => by rw [spec_CleanPath.j1, if_pos rfl, hw.out]) (ih (i + 1) b ps (by omega) (by omega) (by omega) hpr ?_))
      rw [hnx]
      exact hr
theorem spc_range : ∀ (q : List Int) (ps : List (List Int)) (cur : List Int), rgB q → rgB cur → (∀ p ∈ ps, rgB p) → ∀ p ∈ spc ps cur q, rgB p
  | [], ps, cur, hq, hc, hp => stp_map ps cur hp hc
  | c :: q, ps, cur, hq, hc, hp => by
    rw [spc]
    split
    · exact spc_range q _ [] (fun x hx => hq x (List.mem_cons_of_mem _ hx)) (fun x hx => by cases hx) (stp_map ps cur hp hc)
    · refine spc_range q ps _ (fun x hx => hq x (List.mem_cons_of_mem _ hx)) (fun x hx => ?_) hp
      rcases List.mem_append.1 hx with h | h
      · exact hc x h
      · rw [List.mem_singleton] at h; rw [h]; exact hq c (List.mem_cons_self ..)
theorem joinS_stp (ps : List (List Int)) (s : List Int) : (joinS (stp ps s)).length ≤ (joinS ps).length + s.length + 1 := by
  unfold stp
  split
  · omega
  · split
    · rcases List.eq_nil_or_concat ps with rfl | ⟨zs, y, rfl⟩
      · simp [joinS]
      · rw [List.concat_eq_append, List.dropLast_concat, joinS_append]; simp; omega
    · rw [joinS_append, List.length_append]; simp [joinS]; omega
theorem joinS_spc : ∀ (q : List Int) (ps : List (List Int)) (cur : List Int), (joinS (spc ps cur q)).length ≤ (joinS ps).length + cur.length + q.length + 1
  | [], ps, cur => by have := joinS_stp ps cur; rw [spc]; simp only [List.length_nil]; omega
  | c :: q, ps, cur => by
    rw [spc]
    simp only [List.length_cons]
    split
    · have h1 := joinS_stp ps cur
      have h2 := joinS_spc q (stp ps cur) []
      simp only [List.length_nil] at h2
      omega
    · have h2 := joinS_spc q ps (cur ++ [c])
      rw [List.length_append, List.length_singleton] at h2
      omega
theorem specClean_ends (x : ByteArray) (hs : x.size ≤ 549755813888) : Ev (fun k => spec_CleanPath.f k x) (strOfNums (cleanG (ns x))) := by
  rw [← spec_clean]
  simp only [spec_CleanPath.f]
  have hr := spc_range (ns x) [] [] (fun y hy => ns_range x y hy) (fun y hy => by cases hy) (fun p hp => by cases hp)
  have hj := joinS_spc (ns x) [] []
  rw [ns_length] at hj
  simp only [joinS, List.length_nil] at hj
  refine parts_ends x (by omega) _ x.size 0 0 [] (by omega) (by omega) (by simp) (fun p hp => by cases hp) ?_
  rw [Nat.sub_zero, List.take_zero, List.drop_zero]
  have h := fin_ends x (by omega) (spc [] [] (ns x)) hr (by omega) (spc [] [] (ns x)).length 0 [] (by omega) (fun y hy => by cases hy) (by rw [List.drop_zero]; rfl)
  exact h
end Go.Proofs.YtgmjaggkiifdjaaDoor.Cln
