/- What 'given' with signs for quoting writes, what 'Params' reads of it, 'samePairs' of one list with itself. -/
import Derived.Test.YtkbmababljcabaaLParse
set_option linter.unusedVariables false
namespace Go.Proofs.Ytkbmababljcabaa.Par
open Go.RowKit Go.Proofs.Ytkbmababljcabaa.QA Go.Proofs.YtkbmababljcabaaW.PrintWords Go.Proofs.YtkbmababljcabaaW.PrintLast Go.Proofs.Ytkbmababljcabaa.Base Go.Proofs.Ytkbmababljcabaa.Given Go.Proofs.Ytkbmababljcabaa.Gv

theorem rd_nat (z : List Int) (i : Nat) : rd z (i : Int) = z.getD i 0 := by unfold rd; rw [Int.toNat_natCast]
theorem givenQ_from (z : List Int) (l : List Pr) (hl : l.length ≤ 8) (hsz : ∀ j (hj : j < l.length), (l[j]).f0.size ≤ 40 ∧ (l[j]).f1.size ≤ 40) : ∀ d i : Nat, i + d = l.length → ∀ acc : ByteArray, acc.size ≤ 84 * i →
    ∃ s : ByteArray, Ev (fun k => laws_given.l0 k z acc l (l.length : Int) (i : Int)) s ∧ ns s = ns acc ++ givN z i (l.drop i) ∧ s.size ≤ 84 * 8 := by
  intro d
  induction d with
  | zero =>
    intro i hi acc ha
    refine ⟨acc, Ev.step (f := fun _ => some acc) (fun k => ?_) (Ev.now _), ?_, by omega⟩
    · simp only [laws_given.l0]; rw [if_neg (by omega)]
    · rw [List.drop_eq_nil_of_le (by omega), givN, List.append_nil]
  | succ d ih =>
    intro i hi acc ha
    have hlt : i < l.length := by omega
    obtain ⟨s0, s1⟩ := hsz i hlt
    obtain ⟨p, hp⟩ : ∃ p, l[i] = p := ⟨_, rfl⟩
    rw [hp] at s0 s1
    have g1 : (i : Int) < (l.length : Int) := by omega
    have g2 : (0 : Int) ≤ (i : Int) := by omega
    have hw : wrap64 ((i : Int) + 1) = ((i + 1 : Nat) : Int) := by
      rw [wrap_add (by omega) (by omega)]
      rfl
    have e59 : ns (⟨#[59]⟩ : ByteArray) = [59] := by decide
    have e61 : ns (⟨#[61]⟩ : ByteArray) = [61] := by decide
    have e34 : ns (⟨#[34]⟩ : ByteArray) = [34] := by decide
    obtain ⟨B, hB⟩ : ∃ B, (⟨#[59]⟩ : ByteArray) ++ p.f0 = B := ⟨_, rfl⟩
    obtain ⟨C, hC⟩ : ∃ C, B ++ (⟨#[61]⟩ : ByteArray) = C := ⟨_, rfl⟩
    obtain ⟨D, hD⟩ : ∃ D, acc ++ C = D := ⟨_, rfl⟩
    have zB : B.size = 1 + p.f0.size := by rw [← hB, ByteArray.size_append]; rfl
    have zC : C.size = B.size + 1 := by rw [← hC, ByteArray.size_append]; rfl
    have zD : D.size = acc.size + C.size := by rw [← hD, ByteArray.size_append]
    have nD : ns D = ns acc ++ (59 :: (ns p.f0 ++ [61])) := by rw [← hD, ns_append, ← hC, ns_append, ← hB, ns_append, e59, e61]; simp
    have d1 : 1 + p.f0.size ≤ 9223372036854775807 := by omega
    have d2 : B.size + 1 ≤ 9223372036854775807 := by omega
    have d3 : acc.size + C.size ≤ 9223372036854775807 := by omega
    by_cases q : i < z.length ∧ Int.tmod (z.getD i 0) 2 = 1
    · obtain ⟨F, hF⟩ : ∃ F, (⟨#[34]⟩ : ByteArray) ++ p.f1 = F := ⟨_, rfl⟩
      obtain ⟨G, hG⟩ : ∃ G, F ++ (⟨#[34]⟩ : ByteArray) = G := ⟨_, rfl⟩
      obtain ⟨E, hE⟩ : ∃ E, D ++ G = E := ⟨_, rfl⟩
      have zF : F.size = 1 + p.f1.size := by rw [← hF, ByteArray.size_append]; rfl
      have zG : G.size = F.size + 1 := by rw [← hG, ByteArray.size_append]; rfl
      have zE : E.size = D.size + G.size := by rw [← hE, ByteArray.size_append]
      have nE : ns E = ns acc ++ pairQ true p := by rw [← hE, ns_append, nD, ← hG, ns_append, ← hF, ns_append, e34]; simp [pairQ]
      obtain ⟨s, h1, h2, h3⟩ := ih (i + 1) (by omega) E (by omega)
      have d4 : 1 + p.f1.size ≤ 9223372036854775807 := by omega
      have d5 : F.size + 1 ≤ 9223372036854775807 := by omega
      have d6 : D.size + G.size ≤ 9223372036854775807 := by omega
      have c1 : (i : Int) < (z.length : Int) := by omega
      refine ⟨s, Ev.step (f := fun k => laws_given.l0 k z E l (l.length : Int) ((i + 1 : Nat) : Int)) (fun k => ?_) h1, ?_, h3⟩
      · simp only [laws_given.l0, rdP l i hlt, hp, hB, hC, hD, hF, hG, hE, hw, rd_nat]
        rw [if_pos g1, if_pos g2, if_pos g1, if_pos d1, if_pos d2, if_pos d3, if_pos c1, if_pos q.2, if_pos d4, if_pos d5, if_pos d6]
      · rw [h2, List.drop_eq_getElem_cons hlt, hp, givN, decide_eq_true q.1, decide_eq_true q.2, nE, List.append_assoc]
        rfl
    · obtain ⟨E, hE⟩ : ∃ E, D ++ p.f1 = E := ⟨_, rfl⟩
      have zE : E.size = D.size + p.f1.size := by rw [← hE, ByteArray.size_append]
      have nE : ns E = ns acc ++ pairQ false p := by rw [← hE, ns_append, nD]; simp [pairQ]
      obtain ⟨s, h1, h2, h3⟩ := ih (i + 1) (by omega) E (by omega)
      have d4 : D.size + p.f1.size ≤ 9223372036854775807 := by omega
      have qb : (decide (i < z.length) && decide (Int.tmod (z.getD i 0) 2 = 1)) = false := by
        rw [Bool.and_eq_false_iff]
        by_cases h : i < z.length
        · exact .inr (decide_eq_false (fun e => q ⟨h, e⟩))
        · exact .inl (decide_eq_false h)
      refine ⟨s, Ev.step (f := fun k => laws_given.l0 k z E l (l.length : Int) ((i + 1 : Nat) : Int)) (fun k => ?_) h1, ?_, h3⟩
      · simp only [laws_given.l0, rdP l i hlt, hp, hB, hC, hD, hE, hw, rd_nat]
        rw [if_pos g1, if_pos g2, if_pos g1, if_pos d1, if_pos d2, if_pos d3]
        by_cases h : i < z.length
        · rw [if_pos (by omega), if_neg (fun e => q ⟨h, e⟩), if_pos d4]
        · rw [if_neg (by omega), if_pos d4]
      · rw [h2, List.drop_eq_getElem_cons hlt, hp, givN, qb, nE, List.append_assoc]
theorem givenQ_ends (z : List Int) (l : List Pr) (h : PL l) : ∃ s : ByteArray, Ev (fun k => laws_given.f k l z) s ∧ ns s = givN z 0 l ∧ s.size ≤ 672 := by
  obtain ⟨s, h1, h2, h3⟩ := givenQ_from z l h.few (fun j hj => ⟨(h.word _ (List.getElem_mem hj)).1.2, (h.word _ (List.getElem_mem hj)).2.1.2⟩) l.length 0 (by omega) (⟨#[]⟩ : ByteArray) (by decide)
  refine ⟨s, by simp only [laws_given.f]; exact h1, ?_, h3⟩
  rw [h2, List.drop_zero]
  simp [ns]
theorem pairs_from (L : List Pr) (hL : L.length ≤ 100) : ∀ (d i : Nat) (acc : List Pr), i + d = L.length → acc = L.take i → Ev (fun k => impl_Params.l0 k (L.flatMap pr2) acc ((2 * i : Nat) : Int)) L := by
  have hlen : ∀ M : List Pr, (M.flatMap pr2).length = 2 * M.length := by
    intro M
    induction M with
    | nil => rfl
    | cons a M ih => rw [List.flatMap_cons, List.length_append, ih, List.length_cons]; simp [pr2]; omega
  have hget : ∀ (M : List Pr) (i : Nat) (h : i < M.length), (M.flatMap pr2)[2 * i]'(by rw [hlen]; omega) = (M[i]).f0 ∧ (M.flatMap pr2)[2 * i + 1]'(by rw [hlen]; omega) = (M[i]).f1 := by
    intro M
    induction M with
    | nil => intro i h; simp at h
    | cons a M ih =>
      intro i h
      cases i with
      | zero => exact ⟨rfl, rfl⟩
      | succ i =>
        have := ih i (by simpa using h)
        exact this
  intro d
  induction d with
  | zero =>
    intro i acc hi ha
    refine Ev.step (f := fun _ => some acc) (fun k => ?_) (Ev.val ?_)
    · have hw : wrap64 (((2 * i : Nat) : Int) + 1) = ((2 * i : Nat) : Int) + 1 := wrap_add (by omega) (by omega)
      simp only [impl_Params.l0, hw]
      rw [if_neg (by rw [hlen]; omega)]
    · rw [ha, List.take_of_length_le (by omega)]
  | succ d ih =>
    intro i acc hi ha
    have hlt : i < L.length := by omega
    have hw : wrap64 (((2 * i : Nat) : Int) + 1) = ((2 * i + 1 : Nat) : Int) := by
      rw [wrap_add (by omega) (by omega)]
      rfl
    have hw2 : wrap64 (((2 * i : Nat) : Int) + 2) = ((2 * (i + 1) : Nat) : Int) := by unfold wrap64; omega
    have r0 : rdOf ByteArray.empty (L.flatMap pr2) ((2 * i : Nat) : Int) = (L[i]).f0 := by rw [rdOf_nat _ _ _ (by rw [hlen]; omega)]; exact (hget L i hlt).1
    have r1 : rdOf ByteArray.empty (L.flatMap pr2) ((2 * i + 1 : Nat) : Int) = (L[i]).f1 := by rw [rdOf_nat _ _ _ (by rw [hlen]; omega)]; exact (hget L i hlt).2
    have c1 : ((2 * i + 1 : Nat) : Int) < ((L.flatMap pr2).length : Int) := by rw [hlen]; omega
    have c2 : (0 : Int) ≤ ((2 * i : Nat) : Int) := by omega
    have c3 : ((2 * i : Nat) : Int) < ((L.flatMap pr2).length : Int) := by rw [hlen]; omega
    have c4 : (0 : Int) ≤ ((2 * i + 1 : Nat) : Int) := by omega
    have c5 : acc.length < 4398046511104 := by rw [ha, List.length_take]; omega
    refine Ev.step (f := fun k => impl_Params.l0 k (L.flatMap pr2) (acc ++ [L[i]]) ((2 * (i + 1) : Nat) : Int)) (fun k => ?_) (ih (i + 1) _ (by omega) ?_)
    · simp only [impl_Params.l0, hw, hw2, r0, r1]
      rw [if_pos c1, if_pos c2, if_pos c3, if_pos c4, if_pos c5]
    · rw [ha, List.take_add_one, List.getElem?_eq_getElem hlt]
      rfl
theorem params_ends (z : List Int) (l : List Pr) (h : PL l) (s : ByteArray) (hs : ns s = givN z 0 l) (hz : s.size ≤ 672) (most : Int) (hm : most = -1 ∨ (0 ≤ most ∧ most ≤ 20)) :
    Ev (fun k => impl_Params.f k s most) (if most < 0 then l else l.take most.toNat) := by
  have hzz : fiberhelpers_ZzParams.f s most = some ((if most < 0 then l else l.take most.toNat).flatMap pr2) := by
    unfold fiberhelpers_ZzParams.f zzOf
    rw [if_pos (by omega)]
    congr 1
    by_cases h0 : most = 0
    · rw [if_pos h0, h0]; simp
    · rw [if_neg h0, hs, zz_fold z most (by omega) l 0 s.size 0 [] (fun p hp => ⟨(h.word p hp).1.1, (h.word p hp).2.1.1⟩) (by rw [← hs, ns_length]; exact Nat.le_refl _) rfl (fun h => by omega), List.nil_append, Nat.sub_zero]
  simp only [impl_Params.f]
  refine Ev.call hzz ?_
  have hl : (if most < 0 then l else l.take most.toNat).length ≤ 100 := by
    have := h.few
    split
    · omega
    · rw [List.length_take]; omega
  obtain ⟨L, hLL⟩ : ∃ L, (if most < 0 then l else l.take most.toNat) = L := ⟨_, rfl⟩
  rw [hLL] at hl ⊢
  exact pairs_from L hl L.length 0 [] (by omega) rfl
theorem same_self (a : List Pr) (ha : a.length ≤ 100) : Ev (fun k => laws_samePairs.f k a a) true := by
  simp only [laws_samePairs.f]
  refine Ev.if_true (by first | trivial | rfl) ?_
  have key : ∀ d i : Nat, i + d = a.length → Ev (fun k => laws_samePairs.l0 k a a (a.length : Int) (i : Int)) true := by
    intro d
    induction d with
    | zero => intro i hi; exact Ev.step (f := fun _ => some true) (fun k => by simp only [laws_samePairs.l0]; rw [if_neg (by omega)]) (Ev.now _)
    | succ d ih =>
      intro i hi
      have g1 : (i : Int) < (a.length : Int) := by omega
      have g2 : (0 : Int) ≤ (i : Int) := by omega
      have hw : wrap64 ((i : Int) + 1) = ((i + 1 : Nat) : Int) := by
        rw [wrap_add (by omega) (by omega)]
        rfl
      refine Ev.step (f := fun k => laws_samePairs.l0 k a a (a.length : Int) ((i + 1 : Nat) : Int)) (fun k => ?_) (ih (i + 1) (by omega))
      simp only [laws_samePairs.l0, hw]
      rw [if_pos g1, if_pos g2, if_pos g1, if_pos g1, if_neg (by simp)]
  exact key a.length 0 (by omega)
end Go.Proofs.Ytkbmababljcabaa.Par
