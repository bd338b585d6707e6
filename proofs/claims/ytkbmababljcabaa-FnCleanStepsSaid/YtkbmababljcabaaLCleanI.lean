/- CleanPath's outer loop as a relation between the place that is read and what is written. Plain: no model in sight. -/
import Derived.Test.YtkbmababljcabaaLClean
set_option linter.unusedVariables false
set_option linter.unusedSimpArgs false
namespace Go.Proofs.Ytkbmababljcabaa.Cln
open Go.RowKit Go.Proofs.Ytkbmababljcabaa.Base

/-- What stands behind r is still to be walked; R is written; d: by how much R may be ahead. -/
def CInv (p : List Int) (d r : Nat) (R : List Int) (tr : Bool) (RES : List Int × Bool) : Prop :=
  1 ≤ R.length ∧ r ≤ p.length + 1 ∧ R.length ≤ r + d ∧ R.length ≤ p.length + d ∧
  (R.length = r + d → r + d = 1 ∨ (1 ≤ r ∧ p.getD (r - 1) 0 ≠ 47 ∧ (r = p.length ∨ p.getD r 0 = 47))) ∧
  (r = p.length + 1 → R.length < p.length + d) ∧
  (tr = true → (1 < p.length ∧ p.getD (p.length - 1) 0 = 47) ∨ (R.length < p.length + d ∧ p.length ≤ r)) ∧
  ∃ f, p.length - r ≤ f ∧ cl f (p.drop r) R tr = RES
theorem drop_at (p : List Int) (r : Nat) (h : r < p.length) : p.drop r = p.getD r 0 :: p.drop (r + 1) := by
  rw [List.drop_eq_getElem_cons h, List.getD_eq_getElem?_getD, List.getElem?_eq_getElem h]; rfl
theorem headD_drop (p : List Int) (r : Nat) : (p.drop r).headD 0 = p.getD r 0 := by
  rw [List.headD_eq_head?_getD, List.head?_drop, List.getD_eq_getElem?_getD]
section
variable {p : List Int} {d r : Nat} {R : List Int} {tr : Bool} {RES : List Int × Bool}
theorem CInv.fuel (h : CInv p d r R tr RES) (hr : r < p.length) : ∃ f, p.length - (r + 1) ≤ f ∧ cl (f + 1) (p.drop r) R tr = RES := by
  obtain ⟨_, _, _, _, _, _, _, f, hf, hc⟩ := h
  obtain ⟨g, rfl⟩ : ∃ g, f = g + 1 := ⟨f - 1, by omega⟩
  exact ⟨g, by omega, hc⟩
theorem CInv.exit (h : CInv p d r R tr RES) (hr : p.length ≤ r) : RES = (R, tr) ∧ (tr = true → 1 < R.length → R.length < p.length + d) := by
  obtain ⟨h1, h2, h3, h4, h5, h6, h7, f, hf, hc⟩ := h
  rw [List.drop_eq_nil_of_le hr, cl_nil] at hc
  refine ⟨hc.symm, fun ht hl => ?_⟩
  rcases h7 ht with ⟨q1, q2⟩ | ⟨q1, q2⟩
  · rcases Nat.lt_or_ge R.length (p.length + d) with k | k
    · exact k
    · have hrn : r = p.length := by
        rcases (by omega : r = p.length ∨ r = p.length + 1) with e | e
        · exact e
        · have := h6 e; omega
      rcases h5 (by omega) with e | ⟨e1, e2, e3⟩
      · omega
      · rw [hrn] at e2
        exact absurd q2 e2
  · exact q1
theorem CInv.slash (h : CInv p d r R tr RES) (hr : r < p.length) (hc : p.getD r 0 = 47) : CInv p d (r + 1) R tr RES := by
  obtain ⟨f, hf, hcl⟩ := h.fuel hr
  obtain ⟨h1, h2, h3, h4, h5, h6, h7, _⟩ := h
  rw [drop_at p r hr, hc, cl_slash] at hcl
  refine ⟨h1, by omega, by omega, h4, fun e => by omega, fun e => by omega, fun ht => ?_, f, hf, hcl⟩
  rcases h7 ht with q | ⟨q1, q2⟩
  · exact .inl q
  · omega
theorem CInv.dotEnd (h : CInv p d r R tr RES) (hr : r + 1 = p.length) (hc : p.getD r 0 = 46) : CInv p d (r + 1) R true RES := by
  obtain ⟨f, hf, hcl⟩ := h.fuel (by omega)
  obtain ⟨h1, h2, h3, h4, h5, h6, h7, _⟩ := h
  rw [drop_at p r (by omega), hc, List.drop_eq_nil_of_le (by omega)] at hcl
  have e : cl (f + 1) [46] R tr = cl f [] R true := by simp [cl]
  rw [e] at hcl
  refine ⟨h1, by omega, by omega, h4, fun e => by omega, fun e => by omega, fun ht => .inr ⟨by omega, by omega⟩, f, hf, ?_⟩
  rw [List.drop_eq_nil_of_le (by omega)]
  exact hcl
theorem CInv.dot (h : CInv p d r R tr RES) (hr : r + 1 < p.length) (hc : p.getD r 0 = 46) (hc2 : p.getD (r + 1) 0 = 47) : CInv p d (r + 2) R tr RES := by
  obtain ⟨f, hf, hcl⟩ := h.fuel (by omega)
  obtain ⟨h1, h2, h3, h4, h5, h6, h7, _⟩ := h
  rw [drop_at p r (by omega), hc, drop_at p (r + 1) hr, hc2, cl_dot] at hcl
  refine ⟨h1, by omega, by omega, h4, fun e => by omega, fun e => by omega, fun ht => ?_, f, by omega, hcl⟩
  rcases h7 ht with q | ⟨q1, q2⟩
  · exact .inl q
  · omega
theorem backFrom_le (R : List Int) : ∀ w, backFrom R w ≤ w
  | 0 => Nat.le_refl _
  | 1 => Nat.le_refl _
  | w + 2 => by
    unfold backFrom
    split
    · exact Nat.le_refl _
    · have := backFrom_le R (w + 1); omega
theorem backFrom_pos (R : List Int) : ∀ w, 1 ≤ w → 1 ≤ backFrom R w
  | 0, h => h
  | 1, h => h
  | w + 2, h => by
    unfold backFrom
    split
    · omega
    · exact backFrom_pos R (w + 1) (by omega)
theorem backR_len (R : List Int) (h : 1 ≤ R.length) : 1 ≤ (backR R).length ∧ (backR R).length ≤ R.length ∧ (1 < R.length → (backR R).length < R.length) := by
  unfold backR
  split
  · rename_i h1
    have a := backFrom_le R (R.length - 1)
    have b := backFrom_pos R (R.length - 1) (by omega)
    rw [List.length_take]
    omega
  · omega
theorem CInv.back (h : CInv p d r R tr RES) (hr : r + 1 < p.length) (hc : p.getD r 0 = 46) (hc2 : p.getD (r + 1) 0 = 46) (hc3 : r + 2 = p.length ∨ p.getD (r + 2) 0 = 47) : CInv p d (r + 3) (backR R) tr RES := by
  obtain ⟨f, hf, hcl⟩ := h.fuel (by omega)
  obtain ⟨h1, h2, h3, h4, h5, h6, h7, _⟩ := h
  have hb := backR_len R h1
  rw [drop_at p r (by omega), hc, drop_at p (r + 1) hr, hc2] at hcl
  have e : cl (f + 1) (46 :: 46 :: p.drop (r + 1 + 1)) R tr = cl f (p.drop (r + 3)) (backR R) tr := by
    have hh : (46 :: p.drop (r + 2)).length = 1 ∨ ((46 :: p.drop (r + 2)).drop 1).headD 0 = 47 := by
      rcases hc3 with e | e
      · left; rw [List.drop_eq_nil_of_le (by omega)]; rfl
      · right; rw [List.drop_one, List.tail_cons, headD_drop]; exact e
    have hdd : (46 :: p.drop (r + 2)).drop 2 = p.drop (r + 3) := by
      show (p.drop (r + 2)).drop 1 = _
      rw [List.drop_drop]
    have : cl (f + 1) (46 :: (46 :: p.drop (r + 2))) R tr = cl f ((46 :: p.drop (r + 2)).drop 2) (backR R) tr := by
      rw [cl, if_neg (by decide), if_neg (by simp), if_neg (by simp), if_pos ⟨rfl, rfl, hh⟩]
    rw [show r + 1 + 1 = r + 2 from rfl, this, hdd]
  rw [e] at hcl
  refine ⟨hb.1, by omega, by omega, by omega, fun e => by omega, fun e => by omega, fun ht => ?_, f, by omega, hcl⟩
  rcases h7 ht with q | ⟨q1, q2⟩
  · exact .inl q
  · omega
theorem backFrom_stop (R : List Int) (k : Nat) (h : k ≤ 1 ∨ R.getD k 0 = 47) : backFrom R k = k := by
  match k with
  | 0 => rfl
  | 1 => rfl
  | k + 2 =>
    unfold backFrom
    rw [if_pos]
    rcases h with h | h
    · omega
    · exact h
theorem backFrom_step (R : List Int) (k : Nat) (h1 : 1 < k) (h : R.getD k 0 ≠ 47) : backFrom R k = backFrom R (k - 1) := by
  obtain ⟨j, rfl⟩ : ∃ j, k = j + 2 := ⟨k - 2, by omega⟩
  conv => lhs; unfold backFrom
  rw [if_neg h]
  rfl
/-- In a word: R is written so far, FIN is what is written behind the word. -/
def WInv (p : List Int) (d r0 r : Nat) (R FIN : List Int) : Prop :=
  r0 ≤ r ∧ r ≤ p.length ∧ 1 ≤ R.length ∧ R.length ≤ r + d ∧ (r = r0 ∨ p.getD (r - 1) 0 ≠ 47) ∧ R ++ (p.drop r).takeWhile nosl = FIN ∧ (p.drop r0).dropWhile nosl = (p.drop r).dropWhile nosl
def wordCase (p : List Int) (r : Nat) : Prop := p.getD r 0 ≠ 47 ∧ ¬ (p.getD r 0 = 46 ∧ (r + 1 = p.length ∨ p.getD (r + 1) 0 = 47 ∨ (p.getD (r + 1) 0 = 46 ∧ (r + 2 = p.length ∨ p.getD (r + 2) 0 = 47))))
/-- A slash ahead of the word, if there is something. -/
theorem CInv.room (h : CInv p d r R tr RES) (hr : r < p.length) (hc : p.getD r 0 ≠ 47) (h1 : 1 < R.length) : R.length < r + d := by
  obtain ⟨q1, q2, h3, h4, h5, h6, h7, _⟩ := h
  rcases Nat.lt_or_ge R.length (r + d) with k | k
  · exact k
  · rcases h5 (by omega) with e | ⟨_, _, e | e⟩
    · omega
    · omega
    · exact absurd e hc
theorem CInv.word (h : CInv p d r R tr RES) (hr : r < p.length) (hw : wordCase p r) : WInv p d r r (if 1 < R.length then R ++ [47] else R) (addE R ((p.drop r).takeWhile nosl)) := by
  have hroom := h.room hr hw.1
  obtain ⟨h1, h2, h3, h4, h5, h6, h7, _⟩ := h
  refine ⟨Nat.le_refl _, by omega, ?_, ?_, .inl rfl, rfl, rfl⟩
  · split
    · rw [List.length_append]; omega
    · exact h1
  · split
    · rename_i k
      have := hroom k
      rw [List.length_append, List.length_singleton]; omega
    · exact h3
theorem nosl_iff (c : Int) : nosl c = true ↔ c ≠ 47 := by unfold nosl; exact decide_eq_true_iff
theorem WInv.step {r0 : Nat} {FIN : List Int} (h : WInv p d r0 r R FIN) (hr : r < p.length) (hc : p.getD r 0 ≠ 47) : WInv p d r0 (r + 1) (R ++ [p.getD r 0]) FIN := by
  obtain ⟨h1, h2, h3, h4, h5, h6, h7⟩ := h
  rw [drop_at p r hr] at h6 h7
  rw [List.takeWhile_cons_of_pos ((nosl_iff _).2 hc)] at h6
  rw [List.dropWhile_cons_of_pos ((nosl_iff _).2 hc)] at h7
  refine ⟨by omega, by omega, by rw [List.length_append]; omega, by rw [List.length_append, List.length_singleton]; omega, .inr (by rw [Nat.add_sub_cancel]; exact hc), ?_, h7⟩
  rw [List.append_assoc]
  exact h6
theorem WInv.done {r0 : Nat} (h : CInv p d r0 R tr RES) (hr0 : r0 < p.length) (hw : wordCase p r0) {R' : List Int} (k : WInv p d r0 r R' (addE R ((p.drop r0).takeWhile nosl))) (he : r = p.length ∨ p.getD r 0 = 47) : CInv p d r R' tr RES := by
  obtain ⟨f, hf, hcl⟩ := h.fuel hr0
  obtain ⟨h1, h2, h3, h4, h5, h6, h7, _⟩ := h
  obtain ⟨k1, k2, k3, k4, k5, k6, k7⟩ := k
  have hne : r ≠ r0 := fun e => by
    rcases he with e' | e'
    · omega
    · rw [e] at e'; exact hw.1 e'
  have htk : (p.drop r).takeWhile nosl = [] := by
    rcases he with e | e
    · rw [List.drop_eq_nil_of_le (by omega)]; rfl
    · rcases Nat.lt_or_ge r p.length with q | q
      · rw [drop_at p r q, List.takeWhile_cons_of_neg (by rw [nosl_iff]; simpa using e)]
      · rw [List.drop_eq_nil_of_le q]; rfl
  have hdw : (p.drop r).dropWhile nosl = p.drop r := by
    have := List.takeWhile_append_dropWhile (p := nosl) (l := p.drop r)
    rw [htk, List.nil_append] at this
    exact this
  rw [htk, List.append_nil] at k6
  have hc1 : cl (f + 1) (p.drop r0) R tr = cl f ((p.drop r0).dropWhile nosl) (addE R ((p.drop r0).takeWhile nosl)) tr := by
    conv => lhs; rw [drop_at p r0 hr0]
    conv => rhs; rw [drop_at p r0 hr0]
    simp only [cl]
    have hl : (p.drop (r0 + 1) = []) ↔ r0 + 1 = p.length := by
      rw [List.drop_eq_nil_iff]; omega
    have hl2 : (p.drop (r0 + 1)).length = 1 ↔ r0 + 2 = p.length := by rw [List.length_drop]; omega
    have hd2 : ((p.drop (r0 + 1)).drop 1).headD 0 = p.getD (r0 + 2) 0 := by rw [List.drop_drop, headD_drop]
    have n1 := hw.1
    have n2 := hw.2
    rw [if_neg n1, if_neg (fun q => n2 ⟨q.1, .inl (hl.1 q.2)⟩), if_neg (fun q => n2 ⟨q.1, .inr (.inl ((headD_drop _ _).symm.trans q.2))⟩), if_neg (fun q => n2 ⟨q.1, .inr (.inr ⟨(headD_drop _ _).symm.trans q.2.1, q.2.2.imp hl2.1 (fun e => hd2.symm.trans e)⟩)⟩)]
  rw [hc1, k7, hdw, ← k6] at hcl
  refine ⟨k3, by omega, k4, by omega, fun e => .inr ⟨by omega, ?_, he.imp id id⟩, fun e => by omega, fun ht => ?_, f, by omega, hcl⟩
  · rcases k5 with e' | e'
    · exact absurd e' hne
    · exact e'
  · rcases h7 ht with q | ⟨q1, q2⟩
    · exact .inl q
    · omega
end
/-- What CleanPath makes of any path. -/
def cleanG (p : List Int) : List Int :=
  if p = [] then [47] else
  let z := cl p.length (if p.headD 0 = 47 then p.drop 1 else p) [47] (decide (1 < p.length) && decide (p.getD (p.length - 1) 0 = 47))
  if z.2 = true ∧ 1 < z.1.length then z.1 ++ [47] else z.1
theorem cleanG_slash (p : List Int) (h : p.headD 0 = 47) : cleanG p = cleanP p := by
  unfold cleanG cleanP
  cases p with
  | nil => cases h
  | cons c t => rw [if_neg (by simp), if_pos h]
/-- The loop's start: behind the slash, or at the path's begin. -/
theorem CInv.start (p : List Int) (hp : p ≠ []) (hs : p.headD 0 = 47) : CInv p 0 1 [47] (decide (1 < p.length) && decide (p.getD (p.length - 1) 0 = 47)) (cl p.length (p.drop 1) [47] (decide (1 < p.length) && decide (p.getD (p.length - 1) 0 = 47))) := by
  have := List.length_pos_iff.2 hp
  refine ⟨by simp, by omega, by simp, by simp; omega, fun _ => .inl rfl, fun e => by omega, fun ht => ?_, p.length, by omega, rfl⟩
  simp only [Bool.and_eq_true, decide_eq_true_eq] at ht
  exact .inl ht
theorem CInv.start' (p : List Int) (hp : p ≠ []) : CInv p 1 0 [47] (decide (1 < p.length) && decide (p.getD (p.length - 1) 0 = 47)) (cl p.length p [47] (decide (1 < p.length) && decide (p.getD (p.length - 1) 0 = 47))) := by
  have := List.length_pos_iff.2 hp
  refine ⟨by simp, by omega, by simp, by simp, fun _ => .inl rfl, fun e => by omega, fun ht => ?_, p.length, by omega, by rw [List.drop_zero]⟩
  simp only [Bool.and_eq_true, decide_eq_true_eq] at ht
  exact .inl ht
end Go.Proofs.Ytkbmababljcabaa.Cln
