/- Parameters as they are written, quoted or not, and what is read of them. -/
import Derived.Test.YtkbmababljcabaaQA20
import Derived.Test.YtkbmababljcabaaQA41
import Derived.Test.YtkbmababljcabaaLPairs
import Derived.Test.YtkbmababljcabaaGZzParams
set_option linter.unusedVariables false
namespace Go.Proofs.Ytkbmababljcabaa.Par
open Go.RowKit Go.Proofs.Ytkbmababljcabaa.QA Go.Proofs.YtkbmababljcabaaW.PrintWords Go.Proofs.YtkbmababljcabaaW.PrintLast Go.Proofs.Ytkbmababljcabaa.Base Go.Proofs.Ytkbmababljcabaa.Given Go.Proofs.Ytkbmababljcabaa.Gv

abbrev Pr := S47
structure PL (l : List Pr) : Prop where
  few : l.length ≤ 8
  word : ∀ p ∈ l, (isWord p.f0 = true ∧ p.f0.size ≤ 40) ∧ (isWord p.f1 = true ∧ p.f1.size ≤ 40) ∧ lowS p.f0 ≠ (⟨#[113]⟩ : ByteArray)
  apart : l.Pairwise (fun a b => lowS a.f0 ≠ lowS b.f0)
theorem PL.of {l : List Pr} (h : Plain l) : PL l := ⟨h.1, fun p hp => by obtain ⟨j, hj, rfl⟩ := List.getElem_of_mem hp; exact ⟨(h.2 j hj).key, (h.2 j hj).val, (h.2 j hj).noq⟩, List.pairwise_iff_getElem.2 (fun i j hi hj hij => (h.2 j hj).other i hij)⟩
theorem tok_word : ∀ n : Fin 256, wB ((n.val : Nat) : Int) = true → tokB ((n.val : Nat) : Int) = true ∧ ((n.val : Nat) : Int) ≠ 34 ∧ ((n.val : Nat) : Int) ≠ 32 := by decide +kernel
theorem tok_of {x : Int} (h : 0 ≤ x ∧ x ≤ 255) (hw : wB x = true) : tokB x = true ∧ x ≠ 34 ∧ x ≠ 32 := by
  obtain ⟨n, rfl⟩ := Int.eq_ofNat_of_zero_le h.1
  exact tok_word ⟨n, by omega⟩ hw
theorem tok61 : tokB 61 = false := by decide +kernel
theorem tok59 : tokB 59 = false := by decide +kernel
theorem tokN_app (a b : List Int) (ha : ∀ x ∈ a, tokB x = true) (hb : b = [] ∨ ∃ c r, b = c :: r ∧ tokB c = false) : tokN (a ++ b) = a.length := by
  induction a with
  | nil =>
    rcases hb with rfl | ⟨c, r, rfl, hc⟩
    · rfl
    · rw [List.nil_append, tokN, if_neg (by rw [hc]; simp)]; rfl
  | cons x a ih =>
    rw [List.cons_append, tokN, if_pos (ha x (by simp)), ih (fun y hy => ha y (List.mem_cons_of_mem _ hy)), List.length_cons]
    omega
theorem word_all {s : ByteArray} (h : isWord s = true) : ns s ≠ [] ∧ ∀ x ∈ ns s, tokB x = true ∧ x ≠ 34 ∧ x ≠ 32 := by
  have h0 := h
  unfold isWord at h
  simp only [Bool.and_eq_true, List.all_eq_true] at h
  exact ⟨fun e => by rw [e] at h; simp at h, fun x hx => tok_of (ns_range s x hx) (h.1 x hx)⟩
theorem one_pair (p : Pr) (h0 : isWord p.f0 = true) (h1 : isWord p.f1 = true) (rest : List Int) (hr : rest = [] ∨ ∃ r, rest = 59 :: r) : oneP (pairN p ++ rest) = some (ns p.f0, ns p.f1, rest) := by
  obtain ⟨n0, a0⟩ := word_all h0
  obtain ⟨n1, a1⟩ := word_all h1
  obtain ⟨x, xs, hx⟩ := List.exists_cons_of_ne_nil n0
  obtain ⟨y, ys, hy⟩ := List.exists_cons_of_ne_nil n1
  have hx32 : x ≠ 32 := (a0 x (by rw [hx]; simp)).2.2
  have hy34 : y ≠ 34 := (a1 y (by rw [hy]; simp)).2.1
  have e1 : ltrim (pairN p ++ rest) = pairN p ++ rest := by unfold pairN; simp [ltrim]
  have e2 : (pairN p ++ rest).drop 1 = ns p.f0 ++ (61 :: (ns p.f1 ++ rest)) := by simp [pairN]
  have e3 : ltrim (ns p.f0 ++ (61 :: (ns p.f1 ++ rest))) = ns p.f0 ++ (61 :: (ns p.f1 ++ rest)) := by rw [hx]; simp [ltrim, hx32]
  have e4 : ¬ ((pairN p ++ rest).length = 0 ∨ (pairN p ++ rest).getD 0 0 ≠ 59) := by unfold pairN; simp
  unfold oneP
  rw [e1, if_neg e4, e2, e3]
  obtain ⟨u, hu⟩ : ∃ u, ns p.f0 ++ (61 :: (ns p.f1 ++ rest)) = u := ⟨_, rfl⟩
  rw [hu]
  obtain ⟨N, hN⟩ : ∃ N, (ns p.f0).length = N := ⟨_, rfl⟩
  obtain ⟨M, hM⟩ : ∃ M, (ns p.f1).length = M := ⟨_, rfl⟩
  have N0 : N ≠ 0 := by rw [← hN, hx]; simp
  have M0 : M ≠ 0 := by rw [← hM, hy]; simp
  have d1 : u.drop (N + 1) = ns p.f1 ++ rest := by
    rw [← hu, show ns p.f0 ++ (61 :: (ns p.f1 ++ rest)) = (ns p.f0 ++ [61]) ++ (ns p.f1 ++ rest) by simp]
    exact List.drop_left' (by rw [List.length_append, hN]; rfl)
  have d2 : u.drop (N + 1 + M) = rest := by rw [← List.drop_drop, d1]; exact List.drop_left' hM
  have d3 : u.take N = ns p.f0 := by rw [← hu]; exact List.take_left' hN
  have g1 : tokN u = N := by rw [← hu, tokN_app _ _ (fun x hx => (a0 x hx).1) (.inr ⟨61, _, rfl, tok61⟩), hN]
  have g2 : u.getD N 0 = 61 := by rw [← hu, List.getD_eq_getElem?_getD, List.getElem?_append_right (by omega), hN, Nat.sub_self]; rfl
  have g3 : u.getD (N + 1) 0 ≠ 34 := by
    have := getD_drop u (N + 1) 0
    rw [d1, hy] at this
    rw [Nat.add_zero] at this
    rw [← this]
    simpa using hy34
  have g4 : tokN (u.drop (N + 1)) = M := by
    rw [d1, tokN_app _ _ (fun x hx => (a1 x hx).1) (by
      rcases hr with rfl | ⟨r, rfl⟩
      · exact .inl rfl
      · exact .inr ⟨59, r, rfl, tok59⟩), hM]
  have g5 : N + 1 < u.length := by
    rw [← hu, List.length_append, List.length_cons, List.length_append, hN, hM]
    omega
  rw [oneU_t g1 N0 g5 g2 g3 g4, if_neg M0, d1, d2, d3, List.take_left' hM]
theorem quo_word (v rest : List Int) (h : ∀ x ∈ v, x ≠ 34 ∧ x ≠ 92) : quoN false (v ++ 34 :: rest) = v.length := by
  induction v with
  | nil => rw [List.nil_append, quoN, if_pos ⟨rfl, rfl⟩]; rfl
  | cons x v ih =>
    obtain ⟨h1, h2⟩ := h x (by simp)
    have e : (x == 92 && !false) = false := by rw [beq_eq_false_iff_ne.2 h2]; rfl
    rw [List.cons_append, quoN, if_neg (fun e => h1 e.1), e, ih (fun y hy => h y (List.mem_cons_of_mem _ hy)), List.length_cons, Nat.add_comm]
/-- A pair as it is written: quoted or not. -/
def pairQ (q : Bool) (p : Pr) : List Int := 59 :: (ns p.f0 ++ 61 :: (if q then 34 :: (ns p.f1 ++ [34]) else ns p.f1))
theorem no92 {s : ByteArray} (h : isWord s = true) : ∀ x ∈ ns s, x ≠ 34 ∧ x ≠ 92 := by
  intro x hx
  refine ⟨((word_all h).2 x hx).2.1, ?_⟩
  rintro rfl
  unfold isWord at h
  simp only [Bool.and_eq_true, List.all_eq_true] at h
  exact absurd (h.1 92 hx) (by decide)
theorem one_quoted (p : Pr) (h0 : isWord p.f0 = true) (h1 : isWord p.f1 = true) (rest : List Int) : oneP (pairQ true p ++ rest) = some (ns p.f0, ns p.f1, rest) := by
  obtain ⟨n0, a0⟩ := word_all h0
  obtain ⟨x, xs, hx⟩ := List.exists_cons_of_ne_nil n0
  have hx32 : x ≠ 32 := (a0 x (by rw [hx]; simp)).2.2
  have e1 : ltrim (pairQ true p ++ rest) = pairQ true p ++ rest := by unfold pairQ; simp [ltrim]
  have e2 : (pairQ true p ++ rest).drop 1 = ns p.f0 ++ (61 :: (34 :: (ns p.f1 ++ 34 :: rest))) := by simp [pairQ]
  have e3 : ltrim (ns p.f0 ++ (61 :: (34 :: (ns p.f1 ++ 34 :: rest)))) = ns p.f0 ++ (61 :: (34 :: (ns p.f1 ++ 34 :: rest))) := by rw [hx]; simp [ltrim, hx32]
  have e4 : ¬ ((pairQ true p ++ rest).length = 0 ∨ (pairQ true p ++ rest).getD 0 0 ≠ 59) := by unfold pairQ; simp
  unfold oneP
  rw [e1, if_neg e4, e2, e3]
  obtain ⟨u, hu⟩ : ∃ u, ns p.f0 ++ (61 :: (34 :: (ns p.f1 ++ 34 :: rest))) = u := ⟨_, rfl⟩
  rw [hu]
  obtain ⟨N, hN⟩ : ∃ N, (ns p.f0).length = N := ⟨_, rfl⟩
  obtain ⟨M, hM⟩ : ∃ M, (ns p.f1).length = M := ⟨_, rfl⟩
  have N0 : N ≠ 0 := by rw [← hN, hx]; simp
  have d1 : u.drop (N + 2) = ns p.f1 ++ 34 :: rest := by
    rw [← hu, show ns p.f0 ++ (61 :: (34 :: (ns p.f1 ++ 34 :: rest))) = (ns p.f0 ++ [61, 34]) ++ (ns p.f1 ++ 34 :: rest) by simp]
    exact List.drop_left' (by rw [List.length_append, hN]; rfl)
  have d2 : u.drop (N + 2 + M + 1) = rest := by
    rw [show N + 2 + M + 1 = (N + 2) + (M + 1) by omega, ← List.drop_drop, d1, show ns p.f1 ++ 34 :: rest = (ns p.f1 ++ [34]) ++ rest by simp]
    exact List.drop_left' (by rw [List.length_append, hM]; rfl)
  have d3 : u.take N = ns p.f0 := by rw [← hu]; exact List.take_left' hN
  have g1 : tokN u = N := by rw [← hu, tokN_app _ _ (fun x hx => (a0 x hx).1) (.inr ⟨61, _, rfl, tok61⟩), hN]
  have g2 : u.getD N 0 = 61 := by rw [← hu, List.getD_eq_getElem?_getD, List.getElem?_append_right (by omega), hN, Nat.sub_self]; rfl
  have g3 : u.getD (N + 1) 0 = 34 := by rw [← hu, List.getD_eq_getElem?_getD, List.getElem?_append_right (by omega), hN, show N + 1 - N = 1 by omega]; rfl
  have hlen : u.length = N + 2 + M + 1 + rest.length := by
    rw [← hu]; simp only [List.length_append, List.length_cons, hN, hM]; omega
  have g4 : quoN false (u.drop (N + 2)) = M := by rw [d1, quo_word _ _ (no92 h1), hM]
  rw [oneU_q g1 N0 (by omega) g2 g3 g4, if_pos (by omega), d1, d2, d3, List.take_left' hM]
theorem one_any (q : Bool) (p : Pr) (h0 : isWord p.f0 = true) (h1 : isWord p.f1 = true) (rest : List Int) (hr : rest = [] ∨ ∃ r, rest = 59 :: r) : oneP (pairQ q p ++ rest) = some (ns p.f0, ns p.f1, rest) := by
  cases q with
  | true => exact one_quoted p h0 h1 rest
  | false => exact one_pair p h0 h1 rest hr
/-- The text of pairs from place i on, by the signs for quoting. -/
def givN (z : List Int) : Nat → List Pr → List Int
  | _, [] => []
  | i, p :: l => pairQ (decide (i < z.length) && decide (Int.tmod (z.getD i 0) 2 = 1)) p ++ givN z (i + 1) l
theorem giv_head (z : List Int) (i : Nat) (l : List Pr) : givN z i l = [] ∨ ∃ q, givN z i l = 59 :: q := by
  cases l with
  | nil => exact .inl rfl
  | cons p l => exact .inr ⟨_, by rw [givN, pairQ, List.cons_append]⟩
def pr2 (p : Pr) : List ByteArray := [p.f0, p.f1]
/-- What is read: all, or as many as are asked for. -/
theorem zz_fold (z : List Int) (most : Int) (hm : most = -1 ∨ (0 < most ∧ most ≤ 20)) : ∀ (l : List Pr) (i f j : Nat) (outs : List ByteArray), (∀ p ∈ l, isWord p.f0 = true ∧ isWord p.f1 = true) → (givN z i l).length ≤ f → outs.length = 2 * j → (0 < most → (j : Int) < most) →
    foldP (zzStep most) f outs (givN z i l) = outs ++ (if most < 0 then l else l.take (most.toNat - j)).flatMap pr2 := by
  intro l
  induction l with
  | nil =>
    intro i f j outs _ _ _ _
    rw [givN, fold_none (by simp [oneP, ltrim])]
    split <;> simp
  | cons p l ih =>
    intro i f j outs hw hf hj hjm
    rw [givN] at hf ⊢
    cases f with
    | zero => simp [pairQ] at hf
    | succ f =>
      have h0 := hw p (by simp)
      rw [foldP, one_any _ p h0.1 h0.2 _ (giv_head z (i + 1) l)]
      simp only [strOf_ns]
      have hst : zzStep most outs p.f0 p.f1 = (decide (most < 0) || decide (((outs.length + 2 : Nat) : Int) < wrap64 (2 * most)), outs ++ pr2 p) := rfl
      rw [hst]
      have hfl : (givN z (i + 1) l).length ≤ f := by simp only [pairQ, List.length_append, List.length_cons] at hf; omega
      have hol : (outs ++ pr2 p).length = 2 * (j + 1) := by rw [List.length_append, hj]; simp [pr2]; omega
      rcases hm with hm | ⟨hm0, hm1⟩
      · have hlt : most < 0 := by omega
        rw [if_pos (by rw [decide_eq_true hlt]; rfl), if_pos hlt]
        rw [ih (i + 1) f (j + 1) (outs ++ pr2 p) (fun q hq => hw q (List.mem_cons_of_mem _ hq)) hfl hol (fun h => absurd h (by omega)), if_pos hlt, List.append_assoc]
        rfl
      · have hlt : ¬ most < 0 := by omega
        have hwr : wrap64 (2 * most) = 2 * most := by unfold wrap64; omega
        have hjl := hjm hm0
        rw [if_neg hlt, decide_eq_false hlt, Bool.false_or, hwr]
        have htk : most.toNat - j = (most.toNat - (j + 1)) + 1 := by omega
        rw [htk, List.take_succ_cons, List.flatMap_cons]
        by_cases hgo : ((outs.length + 2 : Nat) : Int) < 2 * most
        · rw [if_pos (decide_eq_true hgo), ih (i + 1) f (j + 1) (outs ++ pr2 p) (fun q hq => hw q (List.mem_cons_of_mem _ hq)) hfl hol (fun _ => by omega), if_neg hlt, List.append_assoc]
        · rw [if_neg (by rw [decide_eq_false hgo]; simp), show most.toNat - (j + 1) = 0 by omega]
          simp
end Go.Proofs.Ytkbmababljcabaa.Par
