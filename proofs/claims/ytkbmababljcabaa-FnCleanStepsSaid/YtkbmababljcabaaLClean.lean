/- A path made clean, as the code of CleanPath makes it (for paths with a slash ahead), and what it does at words. Plain: no model in sight. -/
import Derived.Test.YtkbmababljcabaaBase
set_option linter.unusedVariables false
set_option linter.unusedSimpArgs false
namespace Go.Proofs.Ytkbmababljcabaa.Cln
open Go.RowKit Go.Proofs.Ytkbmababljcabaa.Base

/-- How far the way back goes: from w down to a slash, not below 1. -/
def backFrom (R : List Int) : Nat → Nat
  | 0 => 0
  | 1 => 1
  | w + 2 => if R.getD (w + 2) 0 = 47 then w + 2 else backFrom R (w + 1)
def backR (R : List Int) : List Int := if 1 < R.length then R.take (backFrom R (R.length - 1)) else R
/-- An element behind what is there. -/
def addE (R x : List Int) : List Int := (if 1 < R.length then R ++ [47] else R) ++ x
def nosl (c : Int) : Bool := decide (c ≠ 47)
def cl : Nat → List Int → List Int → Bool → List Int × Bool
  | 0, _, R, tr => (R, tr)
  | _ + 1, [], R, tr => (R, tr)
  | f + 1, c :: t, R, tr =>
    if c = 47 then cl f t R tr
    else if c = 46 ∧ t = [] then cl f [] R true
    else if c = 46 ∧ t.headD 0 = 47 then cl f (t.drop 1) R tr
    else if c = 46 ∧ t.headD 0 = 46 ∧ (t.length = 1 ∨ (t.drop 1).headD 0 = 47) then cl f (t.drop 2) (backR R) tr
    else cl f ((c :: t).dropWhile nosl) (addE R ((c :: t).takeWhile nosl)) tr
/-- The clean path of a path that begins with a slash. -/
def cleanP (p : List Int) : List Int :=
  let z := cl p.length (p.drop 1) [47] (decide (1 < p.length) && decide (p.getD (p.length - 1) 0 = 47))
  if z.2 = true ∧ 1 < z.1.length then z.1 ++ [47] else z.1
theorem cl_nil (f : Nat) (R : List Int) (tr : Bool) : cl f [] R tr = (R, tr) := by cases f <;> rfl
theorem cl_slash (f : Nat) (t R : List Int) (tr : Bool) : cl (f + 1) (47 :: t) R tr = cl f t R tr := by simp [cl]
theorem cl_dot (f : Nat) (t R : List Int) (tr : Bool) : cl (f + 1) (46 :: 47 :: t) R tr = cl f t R tr := by simp [cl]
theorem cl_back (f : Nat) (t R : List Int) (tr : Bool) : cl (f + 1) (46 :: 46 :: 47 :: t) R tr = cl f t (backR R) tr := by simp [cl]
theorem take_word (x t : List Int) (hx : ∀ c ∈ x, wB c = true) (ht : t = [] ∨ ∃ q, t = 47 :: q) : (x ++ t).takeWhile nosl = x ∧ (x ++ t).dropWhile nosl = t := by
  have hn : ∀ c ∈ x, nosl c = true := fun c hc => by
    have := wB_ne (hx c hc)
    unfold nosl
    exact decide_eq_true this.2.2.2.2.2.1
  have e : t.takeWhile nosl = [] ∧ t.dropWhile nosl = t := by
    rcases ht with rfl | ⟨q, rfl⟩
    · exact ⟨rfl, rfl⟩
    · constructor <;> simp [nosl]
  rw [List.takeWhile_append_of_pos hn, List.dropWhile_append_of_pos hn, e.1, e.2, List.append_nil]
  exact ⟨rfl, rfl⟩
/-- A word is laid behind what is there. -/
theorem cl_word (f : Nat) (x t R : List Int) (tr : Bool) (h0 : x ≠ []) (hx : ∀ c ∈ x, wB c = true) (ht : t = [] ∨ ∃ q, t = 47 :: q) : cl (f + 1) (x ++ t) R tr = cl f t (addE R x) tr := by
  obtain ⟨c, y, rfl⟩ : ∃ c y, x = c :: y := by
    cases x with
    | nil => exact absurd rfl h0
    | cons c y => exact ⟨c, y, rfl⟩
  have hc := wB_ne (hx c (by simp))
  have htw := take_word (c :: y) t hx ht
  rw [List.cons_append] at htw ⊢
  have n47 : c ≠ 47 := hc.2.2.2.2.2.1
  have n46 : c ≠ 46 := hc.2.2.2.2.1
  simp only [cl, n47, n46, false_and, if_false, htw.1, htw.2]
theorem backFrom_word (R x : List Int) (hx : ∀ c ∈ x, wB c = true) (h1 : 1 < R.length) : ∀ j, j < x.length + 1 → backFrom (R ++ 47 :: x) (R.length + j) = R.length
  | 0, _ => by
    obtain ⟨w, hw⟩ : ∃ w, R.length = w + 2 := ⟨R.length - 2, by omega⟩
    rw [Nat.add_zero, hw]
    unfold backFrom
    rw [if_pos]
    rw [List.getD_eq_getElem?_getD, List.getElem?_append_right (by omega), hw, Nat.sub_self]
    rfl
  | j + 1, h => by
    obtain ⟨w, hw⟩ : ∃ w, R.length + (j + 1) = w + 2 := ⟨R.length + j - 1, by omega⟩
    have ih := backFrom_word R x hx h1 j (by omega)
    rw [hw]
    unfold backFrom
    rw [if_neg, show w + 1 = R.length + j by omega, ih]
    rw [← hw, List.getD_eq_getElem?_getD, List.getElem?_append_right (by omega), show R.length + (j + 1) - R.length = j + 1 by omega, List.getElem?_cons_succ, List.getElem?_eq_getElem (by omega)]
    exact (wB_ne (hx _ (List.getElem_mem (by omega)))).2.2.2.2.2.1
theorem backFrom_one (x : List Int) (hx : ∀ c ∈ x, wB c = true) : ∀ j, j < x.length → backFrom (47 :: x) (j + 1) = 1
  | 0, _ => rfl
  | j + 1, h => by
    have ih := backFrom_one x hx j (by omega)
    unfold backFrom
    rw [if_neg, ih]
    rw [List.getD_eq_getElem?_getD, List.getElem?_cons_succ, List.getElem?_eq_getElem h]
    exact (wB_ne (hx _ (List.getElem_mem h))).2.2.2.2.2.1
/-- A word and a step back change nothing. -/
theorem back_add (R x : List Int) (h0 : x ≠ []) (hx : ∀ c ∈ x, wB c = true) (hR : R = [47] ∨ 1 < R.length) : backR (addE R x) = R := by
  have hxl : 0 < x.length := List.length_pos_iff.2 h0
  rcases hR with rfl | h1
  · have e : addE [47] x = 47 :: x := rfl
    unfold backR
    rw [e, if_pos (by simp; omega), show (47 :: x).length - 1 = (x.length - 1) + 1 by simp; omega, backFrom_one x hx _ (by omega)]
    rfl
  · have e : addE R x = R ++ 47 :: x := by unfold addE; rw [if_pos h1]; simp
    unfold backR
    rw [e, if_pos (by simp; omega), show (R ++ 47 :: x).length - 1 = R.length + x.length by simp, backFrom_word R x hx h1 _ (by omega), List.take_left]
/-- Words, each behind a slash. -/
def joinS : List (List Int) → List Int
  | [] => []
  | x :: xs => 47 :: (x ++ joinS xs)
def accOf (ys : List (List Int)) : List Int := if ys = [] then [47] else joinS ys
def okW (xs : List (List Int)) : Prop := ∀ x ∈ xs, x ≠ [] ∧ ∀ c ∈ x, wB c = true
theorem joinS_append (a b : List (List Int)) : joinS (a ++ b) = joinS a ++ joinS b := by
  induction a with
  | nil => rfl
  | cons x a ih => simp [joinS, ih]
theorem joinS_long {ys : List (List Int)} (h : ys ≠ []) (hw : okW ys) : 1 < (joinS ys).length := by
  cases ys with
  | nil => exact absurd rfl h
  | cons x ys =>
    have := List.length_pos_iff.2 (hw x (by simp)).1
    simp [joinS]
    omega
theorem acc_add (ys : List (List Int)) (x : List Int) (hw : okW ys) : addE (accOf ys) x = accOf (ys ++ [x]) := by
  unfold accOf
  by_cases h : ys = []
  · subst h
    rw [if_pos rfl, if_neg (by simp)]
    simp [joinS, addE]
  · rw [if_neg h, if_neg (by simp), joinS_append]
    unfold addE
    rw [if_pos (joinS_long h hw)]
    simp [joinS]
theorem acc_form (ys : List (List Int)) (hw : okW ys) : accOf ys = [47] ∨ 1 < (accOf ys).length := by
  unfold accOf
  by_cases h : ys = []
  · left; rw [if_pos h]
  · right; rw [if_neg h]; exact joinS_long h hw
theorem joinS_head (xs : List (List Int)) (t : List Int) (ht : t = [] ∨ ∃ q, t = 47 :: q) : joinS xs ++ t = [] ∨ ∃ q, joinS xs ++ t = 47 :: q := by
  cases xs with
  | nil => exact ht
  | cons x xs => exact Or.inr ⟨_, rfl⟩
theorem cl_join (t : List Int) (tr : Bool) (ht : t = [] ∨ ∃ q, t = 47 :: q) : ∀ (xs ys : List (List Int)) (f : Nat), okW ys → okW xs → cl (f + 2 * xs.length) (joinS xs ++ t) (accOf ys) tr = cl f t (accOf (ys ++ xs)) tr
  | [], ys, f, _, _ => by rw [List.append_nil]; rfl
  | x :: xs, ys, f, hy, hx => by
    have hx1 := hx x (by simp)
    have hy2 : okW (ys ++ [x]) := fun z hz => by
      rcases List.mem_append.1 hz with h | h
      · exact hy z h
      · rw [List.mem_singleton.1 h]; exact hx1
    have ih := cl_join t tr ht xs (ys ++ [x]) f hy2 (fun z hz => hx z (by simp [hz]))
    rw [show f + 2 * (x :: xs).length = (f + 2 * xs.length) + 1 + 1 by simp; omega]
    rw [show joinS (x :: xs) ++ t = 47 :: (x ++ (joinS xs ++ t)) by simp [joinS], cl_slash, cl_word _ _ _ _ _ hx1.1 hx1.2 (joinS_head xs t ht), acc_add ys x hy, ih, List.append_assoc]
    rfl
theorem joinS_len (xs : List (List Int)) (hw : okW xs) : 2 * xs.length ≤ (joinS xs).length := by
  induction xs with
  | nil => simp [joinS]
  | cons x xs ih =>
    have h1 := List.length_pos_iff.2 (hw x (by simp)).1
    have h2 := ih (fun z hz => hw z (by simp [hz]))
    simp [joinS]
    omega
theorem cleanP_eq (q : List Int) : cleanP (47 :: q) = (let z := cl (q.length + 2) (47 :: q) [47] (decide (1 < (47 :: q).length) && decide ((47 :: q).getD ((47 :: q).length - 1) 0 = 47)); if z.2 = true ∧ 1 < z.1.length then z.1 ++ [47] else z.1) := by
  unfold cleanP
  rw [show q.length + 2 = (q.length + 1) + 1 by omega, cl_slash]
  rfl
/-- A text that ends with a word ends with no slash. -/
theorem last_word (a x : List Int) (h0 : x ≠ []) (hx : ∀ c ∈ x, wB c = true) : (a ++ x).getD ((a ++ x).length - 1) 0 ≠ 47 := by
  have hl := List.length_pos_iff.2 h0
  rw [List.length_append, List.getD_eq_getElem?_getD, List.getElem?_append_right (by omega), show a.length + x.length - 1 - a.length = x.length - 1 by omega, List.getElem?_eq_getElem (by omega)]
  exact (wB_ne (hx _ (List.getElem_mem (by omega)))).2.2.2.2.2.1
theorem snoc_of {xs : List (List Int)} (h : xs ≠ []) : ∃ a x, xs = a ++ [x] := by
  rcases List.eq_nil_or_concat xs with h' | ⟨a, x, e⟩
  · exact absurd h' h
  · exact ⟨a, x, by rw [e, List.concat_eq_append]⟩
theorem last_joinS (a : List Int) (xs : List (List Int)) (h : xs ≠ []) (hw : okW xs) : (a ++ joinS xs).getD ((a ++ joinS xs).length - 1) 0 ≠ 47 := by
  obtain ⟨b, x, rfl⟩ := snoc_of h
  have hx := hw x (by simp)
  rw [joinS_append, show joinS b ++ joinS [x] = (joinS b ++ [47]) ++ x by simp [joinS], ← List.append_assoc]
  exact last_word _ x hx.1 hx.2
theorem clean_of (p R : List Int) (q : List Int) (hp : p = 47 :: q) (tr : Bool) (htr : (decide (1 < p.length) && decide (p.getD (p.length - 1) 0 = 47)) = tr) (hc : cl (q.length + 2) p [47] tr = (R, tr)) (hl : 1 < R.length) : cleanP p = if tr = true then R ++ [47] else R := by
  subst hp
  rw [cleanP_eq, htr, hc]
  cases tr
  · simp
  · simp [hl]
/-- A path of words stays as it is. -/
theorem clean_words (xs : List (List Int)) (h : xs ≠ []) (hw : okW xs) : cleanP (joinS xs) = joinS xs := by
  obtain ⟨x, ys, rfl⟩ : ∃ x ys, xs = x :: ys := by cases xs with
    | nil => exact absurd rfl h
    | cons x ys => exact ⟨x, ys, rfl⟩
  have hl := joinS_len (x :: ys) hw
  have hlast := last_joinS [] (x :: ys) h hw
  rw [List.nil_append] at hlast
  obtain ⟨f, hf⟩ : ∃ f, (x ++ joinS ys).length + 2 = f + 2 * (x :: ys).length := ⟨(x ++ joinS ys).length + 2 - 2 * (x :: ys).length, by
    have : (joinS (x :: ys)).length = (x ++ joinS ys).length + 1 := rfl
    omega⟩
  have hj := cl_join [] false (Or.inl rfl) (x :: ys) [] f (by intro z hz; cases hz) hw
  rw [List.append_nil, cl_nil, List.nil_append, ← hf] at hj
  have ha : accOf (x :: ys) = joinS (x :: ys) := if_neg (by simp)
  rw [ha] at hj
  have := clean_of (joinS (x :: ys)) (joinS (x :: ys)) (x ++ joinS ys) rfl false (by rw [decide_eq_false hlast, Bool.and_false]) hj (joinS_long (by simp) hw)
  rw [this]
  rfl
/-- A slash at the end stays. -/
theorem clean_slash (xs : List (List Int)) (h : xs ≠ []) (hw : okW xs) : cleanP (joinS xs ++ [47]) = joinS xs ++ [47] := by
  obtain ⟨x, ys, rfl⟩ : ∃ x ys, xs = x :: ys := by cases xs with
    | nil => exact absurd rfl h
    | cons x ys => exact ⟨x, ys, rfl⟩
  have hl := joinS_len (x :: ys) hw
  have hlen : (joinS (x :: ys)).length = (x ++ joinS ys).length + 1 := rfl
  obtain ⟨f, hf⟩ : ∃ f, (x ++ joinS ys ++ [47]).length + 2 = (f + 1) + 2 * (x :: ys).length := ⟨(x ++ joinS ys).length + 2 - 2 * (x :: ys).length, by
    rw [List.length_append]
    simp only [List.length_singleton]
    omega⟩
  have hj := cl_join [47] true (Or.inr ⟨[], rfl⟩) (x :: ys) [] (f + 1) (by intro z hz; cases hz) hw
  rw [cl_slash, cl_nil, List.nil_append, ← hf] at hj
  have ha : accOf (x :: ys) = joinS (x :: ys) := if_neg (by simp)
  rw [ha] at hj
  have hlast : (joinS (x :: ys) ++ [47]).getD ((joinS (x :: ys) ++ [47]).length - 1) 0 = 47 := by
    rw [List.length_append, List.length_singleton, Nat.add_sub_cancel, List.getD_eq_getElem?_getD, List.getElem?_append_right (Nat.le_refl _), Nat.sub_self]
    rfl
  have := clean_of (joinS (x :: ys) ++ [47]) (joinS (x :: ys)) (x ++ joinS ys ++ [47]) (by simp [joinS]) true (by rw [decide_eq_true hlast, decide_eq_true (by rw [List.length_append]; have := joinS_long (ys := x :: ys) (by simp) hw; omega)]; rfl) hj (joinS_long (by simp) hw)
  rw [this]
  rfl
/-- What is put ahead of a word changes nothing: a word and a step back, a step onto itself, a slash. -/
theorem clean_ins (ys zs : List (List Int)) (x ins : List Int) (hy : okW ys) (hz : okW (x :: zs)) (hins : ins = [47] ∨ ins = [47, 46] ∨ ∃ m, (m ≠ [] ∧ ∀ c ∈ m, wB c = true) ∧ ins = 47 :: (m ++ [47, 46, 46])) :
    cleanP (joinS ys ++ (ins ++ joinS (x :: zs))) = joinS (ys ++ x :: zs) := by
  have hwall : okW (ys ++ x :: zs) := fun z hzz => by
    rcases List.mem_append.1 hzz with h | h
    · exact hy z h
    · exact hz z h
  have hlast := last_joinS (joinS ys ++ ins) (x :: zs) (by simp) hz
  rw [List.append_assoc] at hlast
  obtain ⟨q, hq⟩ : ∃ q, joinS ys ++ (ins ++ joinS (x :: zs)) = 47 :: q := by
    have hi : ∃ r, ins = 47 :: r := by
      rcases hins with rfl | rfl | ⟨m, _, rfl⟩ <;> exact ⟨_, rfl⟩
    obtain ⟨r, rfl⟩ := hi
    cases ys with
    | nil => exact ⟨_, rfl⟩
    | cons y ys => exact ⟨_, rfl⟩
  have hly := joinS_len ys hy
  have hlz := joinS_len (x :: zs) hz
  have hqlen : q.length + 1 = (joinS ys).length + (ins.length + (joinS (x :: zs)).length) := by
    have := congrArg List.length hq
    rw [List.length_append, List.length_append, List.length_cons] at this
    omega
  have hacc : accOf (ys ++ x :: zs) = joinS (ys ++ x :: zs) := if_neg (by simp)
  -- what stands behind the words ahead, for enough fuel
  have hrest : ∀ f, ins.length + 2 * (x :: zs).length ≤ f → cl f (ins ++ joinS (x :: zs)) (accOf ys) false = (joinS (ys ++ x :: zs), false) := by
    intro f hf
    have tail : ∀ g, 2 * (x :: zs).length ≤ g → cl g (joinS (x :: zs)) (accOf ys) false = (joinS (ys ++ x :: zs), false) := fun g hg => by
      obtain ⟨e, he⟩ : ∃ e, g = e + 2 * (x :: zs).length := ⟨g - 2 * (x :: zs).length, by omega⟩
      have := cl_join [] false (Or.inl rfl) (x :: zs) ys e hy hz
      rw [List.append_nil, cl_nil, hacc] at this
      rw [he, this]
    have body : ∀ g, 2 * (x :: zs).length ≤ g + 1 → cl g (x ++ joinS zs) (accOf ys) false = (joinS (ys ++ x :: zs), false) := fun g hg => by
      have := tail (g + 1) hg
      rwa [show joinS (x :: zs) = 47 :: (x ++ joinS zs) from rfl, cl_slash] at this
    rcases hins with rfl | rfl | ⟨m, hm, rfl⟩
    · obtain ⟨g, rfl⟩ : ∃ g, f = g + 1 := ⟨f - 1, by simp at hf; omega⟩
      rw [List.singleton_append, cl_slash]
      exact tail g (by simp at hf ⊢; omega)
    · obtain ⟨g, rfl⟩ : ∃ g, f = g + 1 + 1 := ⟨f - 2, by simp at hf; omega⟩
      rw [show [47, 46] ++ joinS (x :: zs) = 47 :: 46 :: 47 :: (x ++ joinS zs) from rfl, cl_slash, cl_dot]
      exact body g (by simp at hf ⊢; omega)
    · have hml := List.length_pos_iff.2 hm.1
      obtain ⟨g, rfl⟩ : ∃ g, f = g + 1 + 1 + 1 + 1 := ⟨f - 4, by simp at hf; omega⟩
      rw [show 47 :: (m ++ [47, 46, 46]) ++ joinS (x :: zs) = 47 :: (m ++ (47 :: 46 :: 46 :: 47 :: (x ++ joinS zs))) by simp [joinS], cl_slash, cl_word _ _ _ _ _ hm.1 hm.2 (Or.inr ⟨_, rfl⟩), cl_slash, cl_back, back_add _ m hm.1 hm.2 (acc_form ys hy)]
      exact body g (by simp at hf ⊢; omega)
  have hc : cl (q.length + 2) (joinS ys ++ (ins ++ joinS (x :: zs))) [47] false = (joinS (ys ++ x :: zs), false) := by
    obtain ⟨f, hf⟩ : ∃ f, q.length + 2 = f + 2 * ys.length := ⟨q.length + 2 - 2 * ys.length, by omega⟩
    have hhead : ins ++ joinS (x :: zs) = [] ∨ ∃ r, ins ++ joinS (x :: zs) = 47 :: r := by
      rcases hins with rfl | rfl | ⟨m, _, rfl⟩ <;> exact Or.inr ⟨_, rfl⟩
    have := cl_join (ins ++ joinS (x :: zs)) false hhead ys [] f (by intro z hzz; cases hzz) hy
    rw [List.nil_append] at this
    rw [hf]
    rw [show accOf ([] : List (List Int)) = [47] from rfl] at this
    rw [this]
    exact hrest f (by omega)
  have := clean_of _ (joinS (ys ++ x :: zs)) q hq false (by rw [decide_eq_false hlast, Bool.and_false]) hc (joinS_long (by simp) hwall)
  rw [this]
  rfl
end Go.Proofs.Ytkbmababljcabaa.Cln
