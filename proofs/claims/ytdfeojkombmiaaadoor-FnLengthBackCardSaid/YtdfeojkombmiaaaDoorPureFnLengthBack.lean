/- The law FnLengthBack answers true at every number and text: a content length from 0 on is read as it is written; what has another sign is none. No condition beyond the row's own. -/
import Derived.Test.YtdfeojkombmiaaaDoorQA6
import Derived.Test.YtdfeojkombmiaaaDoorLShort
import Derived.Test.YtdfeojkombmiaaaDoorLDec
set_option linter.unusedVariables false
namespace Go.Proofs.YtdfeojkombmiaaaDoor.Pure
open Go.RowKit Go.Proofs.YtdfeojkombmiaaaDoor.QA Go.Proofs.YtdfeojkombmiaaaDoorW.PrintWords Go.Proofs.YtdfeojkombmiaaaDoorW.PrintLast Go.Proofs.YtdfeojkombmiaaaDoor.Base Go.Proofs.YtdfeojkombmiaaaDoor.Given

def valF : Int → List Int → Int
  | v, [] => v
  | v, c :: r => valF (10 * v + (c - 48)) r
theorem valF_append (v : Int) (xs : List Int) (c : Int) : valF v (xs ++ [c]) = 10 * valF v xs + (c - 48) := by
  induction xs generalizing v with
  | nil => rfl
  | cons x xs ih => simp only [List.cons_append, valF, ih]
theorem valF_le (xs : List Int) : ∀ v, 0 ≤ v → (∀ x ∈ xs, 48 ≤ x ∧ x ≤ 57) → v ≤ valF v xs := by
  induction xs with
  | nil => intro v _ _; exact Int.le_refl _
  | cons x xs ih =>
    intro v h0 h
    have hx := h x (by simp)
    have := ih (10 * v + (x - 48)) (by omega) (fun y hy => h y (List.mem_cons_of_mem _ hy))
    simp only [valF]
    omega
theorem valF_dec (n : Nat) : valF 0 (decN n) = (n : Int) := by
  induction n using Nat.strongRecOn with
  | _ n ih =>
    rcases Nat.lt_or_ge n 10 with h | h
    · rw [decN_lt n h]; simp only [valF]; omega
    · rw [decN_ge n h, valF_append, ih (n / 10) (by omega)]
      omega
theorem uint_dec (xs : List Int) : ∀ (i : Nat) (v : Int), 0 ≤ v → (∀ x ∈ xs, 48 ≤ x ∧ x ≤ 57) → valF v xs ≤ 1152921504606846976 → (i ≠ 0 ∨ xs ≠ []) → uintGo i v xs = some (valF v xs, i + xs.length) := by
  induction xs with
  | nil =>
    intro i v _ _ _ h
    have : i ≠ 0 := by rcases h with h | h; exact h; exact absurd rfl h
    simp only [uintGo]
    rw [if_neg this]
    rfl
  | cons x xs ih =>
    intro i v h0 hd hm _
    have hx := hd x (by simp)
    have hd2 : ∀ y ∈ xs, 48 ≤ y ∧ y ≤ 57 := fun y hy => hd y (List.mem_cons_of_mem _ hy)
    have hle := valF_le xs (10 * v + (x - 48)) (by omega) hd2
    simp only [valF] at hm
    have hmore : more10 v x = 10 * v + (x - 48) := by unfold more10 wrap64; omega
    simp only [uintGo]
    rw [if_pos hx, hmore, if_neg (by omega), ih (i + 1) _ (by omega) hd2 hm (.inl (by omega)), valF, List.length_cons]
    congr 2
    omega
theorem uint_stops (xs : List Int) : ∀ (i : Nat) (v : Int), (∃ x ∈ xs, ¬ (48 ≤ x ∧ x ≤ 57)) → uintGo i v xs = none ∨ ∃ r m, uintGo i v xs = some (r, m) ∧ m < i + xs.length := by
  induction xs with
  | nil => intro i v h; obtain ⟨x, hx, _⟩ := h; cases hx
  | cons c xs ih =>
    intro i v h
    by_cases hc : 48 ≤ c ∧ c ≤ 57
    · simp only [uintGo]
      rw [if_pos hc]
      by_cases ho : more10 v c < v
      · rw [if_pos ho]; exact .inl rfl
      · rw [if_neg ho]
        have hx : ∃ x ∈ xs, ¬ (48 ≤ x ∧ x ≤ 57) := by
          obtain ⟨x, hx, hn⟩ := h
          rcases List.mem_cons.1 hx with rfl | hx
          · exact absurd hc hn
          · exact ⟨x, hx, hn⟩
        rcases ih (i + 1) (more10 v c) hx with h1 | ⟨r, m, h1, h2⟩
        · exact .inl h1
        · exact .inr ⟨r, m, h1, by rw [List.length_cons]; omega⟩
    · simp only [uintGo]
      rw [if_neg hc]
      by_cases hi : i = 0
      · rw [if_pos hi]; exact .inl rfl
      · rw [if_neg hi]; exact .inr ⟨v, i, rfl, by rw [List.length_cons]; omega⟩
theorem length_dec (n : Nat) (h : n ≤ 1125899906842624) : impl_LengthOf.f (strOfNums (decN n)) = some ((n : Int), true) := by
  have hns : ns (strOfNums (decN n)) = decN n := ns_strOfNums (decN_range n)
  have hsz : (strOfNums (decN n)).size ≤ 19 := by rw [← ns_length, hns]; exact decN_len n (by omega)
  have hne : decN n ≠ [] := by
    have := decN_pos n
    intro e
    rw [e] at this
    simp at this
  unfold impl_LengthOf.f lenOf
  rw [if_pos (by omega), hns, uint_dec (decN n) 0 0 (by omega) (decN_digits n) (by rw [valF_dec]; omega) (.inr hne), valF_dec]
  simp
theorem length_not (s : ByteArray) (hs : s.size ≤ 4611686018427387904) (h : ∃ x ∈ ns s, ¬ (48 ≤ x ∧ x ≤ 57)) : impl_LengthOf.f s = some (0, false) := by
  unfold impl_LengthOf.f lenOf
  rw [if_pos hs]
  rcases uint_stops (ns s) 0 0 h with h1 | ⟨r, m, h1, h2⟩
  · rw [h1]
  · rw [h1]
    simp only
    rw [if_neg (by omega)]
theorem FnLengthBack : laws_FnLengthBack.Pure := by
  intro n s hwf hs
  have hr := wf_i64 hwf
  refine Ev.rounds ?_
  simp only [laws_FnLengthBack.f]
  refine Ev.ite (fun _ => Ev.now _) (fun _ => ?_)
  have h12 : impl_LengthOf.f (⟨#[49, 50]⟩ : ByteArray) = some (12, true) := by
    have e : (⟨#[49, 50]⟩ : ByteArray) = strOfNums (decN 12) := ns_inj (by rw [ns_strOfNums (decN_range 12)]; decide)
    rw [e]
    exact length_dec 12 (by decide)
  refine Ev.call h12 (Ev.if_true rfl ?_)
  have out : Ev (fun k => laws_FnLengthBack.j1 k n s true) true := Ev.step (f := fun _ => some true) (fun k => by simp only [laws_FnLengthBack.j1]; rw [if_pos trivial]) (Ev.now _)
  refine Ev.step (f := fun k => if n < 0 then (laws_FnLengthBack.j1 k n s true) else (if n > 1125899906842624 then (laws_FnLengthBack.j1 k n s true) else ((laws_short.f k (([s] : List ByteArray))).bind fun t130 => (laws_FnLengthBack.j1 k n s (!t130))))) (fun k => by simp only [laws_FnLengthBack.j0]; rw [if_neg (by simp)]) ?_
  refine Ev.ite (fun _ => out) (fun h0 => Ev.ite (fun _ => out) (fun h50 => ?_))
  refine Ev.bind (short_ends [s] (by simp)) ?_
  cases hsh : areShort [s] with
  | false => exact out
  | true =>
    obtain ⟨m, rfl⟩ := Int.eq_ofNat_of_zero_le (Int.not_lt.1 h0)
    have tail : ∀ d i : Nat, i + d = s.size → Ev (fun k => laws_FnLengthBack.l0 k s (s.size : Int) (i : Int)) true := by
      intro d
      induction d with
      | zero =>
        intro i hi
        exact Ev.step (f := fun _ => some true) (fun k => by simp only [laws_FnLengthBack.l0]; rw [if_neg (by omega)]) (Ev.now _)
      | succ d ih =>
        intro i hi
        have hlt : i < s.size := by omega
        have hin : (ns s).getD i 0 ∈ ns s := by
          have hl : i < (ns s).length := by rw [ns_length]; exact hlt
          rw [List.getD_eq_getElem?_getD, List.getElem?_eq_getElem hl]; exact List.getElem_mem _
        by_cases c1 : bt s (i : Int) < 48
        · have hnot := length_not s (by omega) ⟨_, hin, by rw [bt_ns] at c1; omega⟩
          exact Ev.step (f := fun _ => some true) (fun k => by
            simp only [laws_FnLengthBack.l0]
            rw [if_pos (by omega), if_pos (by omega), if_pos (by omega), if_pos c1, hnot]; rfl) (Ev.now _)
        · by_cases c2 : bt s (i : Int) > 57
          · have hnot := length_not s (by omega) ⟨_, hin, by rw [bt_ns] at c2; omega⟩
            exact Ev.step (f := fun _ => some true) (fun k => by
              simp only [laws_FnLengthBack.l0]
              rw [if_pos (by omega), if_pos (by omega), if_pos (by omega), if_neg c1, if_pos c2, hnot]; rfl) (Ev.now _)
          · exact Ev.step (f := fun k => laws_FnLengthBack.l0 k s (s.size : Int) ((i + 1 : Nat) : Int)) (fun k => by
              simp only [laws_FnLengthBack.l0]
              rw [if_pos (by omega), if_pos (by omega), if_pos (by omega), if_neg c1, if_neg c2, wrap_add (by omega) (by omega)]; rfl) (ih (i + 1) (by omega))
    refine Ev.step (f := fun k => (laws_decimal.f k (m : Int)).bind fun t131 => ((impl_LengthOf.f t131).bind fun bt132 => (if bt132.2 = true then (laws_FnLengthBack.j2 k s (bt132.1 != (m : Int))) else (laws_FnLengthBack.j2 k s true)))) (fun k => by simp only [laws_FnLengthBack.j1]; rw [if_neg (by simp)]) ?_
    refine Ev.bind (dec_ends m (by omega)) ?_
    refine Ev.call (length_dec m (by omega)) (Ev.if_true rfl ?_)
    rw [show ((m : Int) != (m : Int)) = false by simp]
    exact Ev.step (f := fun k => laws_FnLengthBack.l0 k s (s.size : Int) ((0 : Nat) : Int)) (fun k => by simp only [laws_FnLengthBack.j2]; rw [if_neg (by simp)]; rfl) (tail s.size 0 (by omega))
end Go.Proofs.YtdfeojkombmiaaaDoor.Pure
