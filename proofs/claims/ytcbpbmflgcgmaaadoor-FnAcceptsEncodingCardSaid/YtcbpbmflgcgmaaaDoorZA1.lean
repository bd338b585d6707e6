/- Texts of this claim, one behind the other (merged by wip/prune.py of this repo, without what the proof does not use): LAcc. -/
set_option linter.unusedVariables false
set_option linter.unusedSimpArgs false
namespace Go.Proofs.YtcbpbmflgcgmaaaDoor.Own
def idxL (e : List Int) : List Int → Option Nat
  | [] => if e = [] then some 0 else none
  | x :: t => if e <+: x :: t then some 0 else (idxL e t).map (· + 1)
def accL (xs e : List Int) : Bool := match idxL e xs with
  | none => false
  | some n => (xs.drop (n + e.length) == [] || (xs.drop (n + e.length)).head? == some 44) && (n == 0 || xs[n - 1]? == some 32)
def accR (ok : Bool) (e : List Int) : List Int → Bool
  | [] => if e = [] then ok else false
  | x :: t => if e <+: x :: t then (((x :: t).drop e.length == [] || ((x :: t).drop e.length).head? == some 44) && ok) else accR (x == 32) e t
theorem idxL_le (e : List Int) : ∀ (xs : List Int) (n : Nat), idxL e xs = some n → n + e.length ≤ xs.length
  | [], n, h => by
    unfold idxL at h
    split at h
    · rename_i he; subst he; cases h; simp
    · cases h
  | x :: t, n, h => by
    unfold idxL at h
    split at h
    · rename_i he; cases h; have := he.length_le; omega
    · cases hi : idxL e t with
      | none => rw [hi] at h; cases h
      | some m => rw [hi] at h; cases h; have := idxL_le e t m hi; simp only [List.length_cons]; omega
theorem acc_go (e : List Int) : ∀ (xs : List Int) (ok : Bool),
    (match idxL e xs with
      | none => false
      | some n => (xs.drop (n + e.length) == [] || (xs.drop (n + e.length)).head? == some 44) && (if n = 0 then ok else xs[n - 1]? == some 32)) = accR ok e xs
  | [], ok => by
    unfold idxL accR
    by_cases h : e = []
    · subst h; simp
    · simp [h]
  | x :: t, ok => by
    unfold idxL accR
    by_cases h : e <+: x :: t
    · simp [h]
    · rw [if_neg h, if_neg h, ← acc_go e t (x == 32)]
      cases hi : idxL e t with
      | none => rfl
      | some n =>
        simp only [Option.map_some]
        rw [show n + 1 + e.length = (n + e.length) + 1 by omega, List.drop_succ_cons, if_neg (by omega), Nat.add_sub_cancel]
        cases n with
        | zero => simp
        | succ m => simp
theorem accL_accR (xs e : List Int) : accL xs e = accR true e xs := by
  rw [← acc_go]
  unfold accL
  cases idxL e xs with
  | none => rfl
  | some n =>
    by_cases h : n = 0
    · simp [h]
    · simp only [if_neg h, show (n == 0) = false from by simpa using h, Bool.false_or]
def Wd (x : List Int) : Prop := ∀ c ∈ x, c ≠ 44 ∧ c ≠ 32
theorem not_pre_sep {e : List Int} (he : Wd e) (x r : List Int) (hx : ¬ e <+: x) (c : Int) (hc : c = 44 ∨ c = 32) : ¬ e <+: x ++ c :: r := by
  intro h
  rcases Nat.lt_or_ge x.length e.length with hl | hl
  · obtain ⟨s, hs⟩ := h
    have : (e ++ s)[x.length]? = some c := by rw [hs]; simp
    rw [List.getElem?_append_left hl] at this
    have := he c (List.mem_of_getElem? this)
    omega
  · exact hx (List.prefix_of_prefix_length_le h (List.prefix_append _ _) hl)
theorem accR_skip {e : List Int} (he : Wd e) (h0 : e ≠ []) (r : List Int) : ∀ (x : List Int) (ok : Bool), (∀ i, ¬ e <+: x.drop i) → accR ok e (x ++ 44 :: 32 :: r) = accR true e r
  | [], ok, h => by
    have n0 : ¬ e <+: ([] : List Int) := h 0
    have n1 := not_pre_sep he [] (32 :: r) n0 44 (.inl rfl)
    have n2 := not_pre_sep he [] r n0 32 (.inr rfl)
    rw [List.nil_append] at n1 n2
    rw [List.nil_append, accR, if_neg n1, accR, if_neg n2]
    rfl
  | c :: x, ok, h => by
    have n0 : ¬ e <+: c :: x := h 0
    have n1 := not_pre_sep he (c :: x) (32 :: r) n0 44 (.inl rfl)
    rw [List.cons_append] at n1
    rw [List.cons_append, accR, if_neg n1]
    exact accR_skip he h0 r x _ (fun i => h (i + 1))
theorem accR_miss {e : List Int} (h0 : e ≠ []) : ∀ (x : List Int) (ok : Bool), (∀ i, ¬ e <+: x.drop i) → accR ok e x = false
  | [], ok, h => by simp [accR, h0]
  | c :: x, ok, h => by
    have n0 : ¬ e <+: c :: x := h 0
    rw [accR, if_neg n0]
    exact accR_miss h0 x _ (fun i => h (i + 1))
theorem accR_hit (e r : List Int) (h0 : e ≠ []) (hr : r = [] ∨ r.head? = some 44) : accR true e (e ++ r) = true := by
  cases e with
  | nil => exact absurd rfl h0
  | cons c e =>
    rw [List.cons_append, accR, if_pos (by rw [← List.cons_append]; exact List.prefix_append _ _), ← List.cons_append, List.drop_left]
    rcases hr with rfl | h <;> simp [*]
def joinW : List (List Int) → List Int
  | [] => []
  | [x] => x
  | x :: y :: t => x ++ 44 :: 32 :: joinW (y :: t)
theorem accR_words {e : List Int} (he : Wd e) (h0 : e ≠ []) : ∀ (l : List (List Int)), (∀ x ∈ l, x ≠ e → ∀ i, ¬ e <+: x.drop i) → accR true e (joinW l) = l.any (· == e)
  | [], _ => by simp [joinW, accR, h0]
  | [x], h => by
    by_cases hx : x = e
    · subst hx
      have := accR_hit x [] h0 (.inl rfl)
      rw [List.append_nil] at this
      simp [joinW, this]
    · rw [joinW, accR_miss h0 x true (h x (by simp) hx)]
      simp [hx]
  | x :: y :: t, h => by
    by_cases hx : x = e
    · subst hx
      rw [joinW, accR_hit x _ h0 (.inr rfl)]
      simp
    · rw [joinW, accR_skip he h0 _ x true (h x (by simp) hx), accR_words he h0 (y :: t) (fun z hz => h z (List.mem_cons_of_mem _ hz))]
      simp [List.any_cons, hx]
end Go.Proofs.YtcbpbmflgcgmaaaDoor.Own
