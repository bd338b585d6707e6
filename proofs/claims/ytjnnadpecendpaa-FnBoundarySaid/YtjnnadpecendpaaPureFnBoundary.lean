/- The law FnBoundary answers true at every text: the boundary of a content type that has one is that one. No condition beyond the row's own. -/
import Derived.Test.YtjnnadpecendpaaQA5
import Derived.Test.YtjnnadpecendpaaLWordOne
import Derived.Test.YtjnnadpecendpaaLShort
namespace Go.Proofs.Ytjnnadpecendpaa.Pure
open Go.RowKit Go.Proofs.Ytjnnadpecendpaa.QA Go.Proofs.YtjnnadpecendpaaW.PrintWords Go.Proofs.YtjnnadpecendpaaW.PrintLast Go.Proofs.Ytjnnadpecendpaa.Base Go.Proofs.Ytjnnadpecendpaa.Given Go.Proofs.Ytjnnadpecendpaa.Gv

theorem bytesOf_ns (s : ByteArray) : bytesOf s = ns s := rfl
theorem idx_none (r : List Int) (c : Int) (h : ∀ x ∈ r, x ≠ c) : idx r c = -1 := by
  induction r with
  | nil => rfl
  | cons x r ih =>
    unfold idx
    rw [if_neg (h x (by simp)), ih (fun y hy => h y (by simp [hy])), if_pos rfl]
theorem idx_at (r t : List Int) (c : Int) (h : ∀ x ∈ r, x ≠ c) : idx (r ++ c :: t) c = r.length := by
  induction r with
  | nil => simp [idx]
  | cons x r ih =>
    have := ih (fun y hy => h y (by simp [hy]))
    rw [List.cons_append]
    unfold idx
    rw [if_neg (h x (by simp)), this, if_neg (by omega), List.length_cons]
    omega
theorem isPre_type (r : List Int) : isPre preB (typeB r) = true := by
  unfold isPre typeB
  rw [decide_eq_true_eq]
  refine ⟨by simp, ?_⟩
  rw [List.append_assoc, List.append_assoc, List.append_assoc, List.take_left]
/-- The boundary of a boundary's content type, whatever stands behind a semicolon. -/
theorem told_type (r t : List Int) (h1 : r ≠ []) (hr : ∀ x ∈ r, x ≠ 59 ∧ x ≠ 34) (ht : t = [] ∨ ∃ q, t = 59 :: q) : boundTold (typeB r ++ t) = some r := by
  have e0 : typeB r ++ t = typeB (r ++ t) := by unfold typeB; simp
  have e1 : (typeB (r ++ t)).take 30 = preB ++ 59 :: 32 :: (preC ++ [61]) := by
    have : typeB (r ++ t) = (preB ++ 59 :: 32 :: (preC ++ [61])) ++ (r ++ t) := by unfold typeB; simp
    rw [this]
    exact List.take_left' rfl
  have e2 : (typeB (r ++ t)).drop 30 = r ++ t := by
    have : typeB (r ++ t) = (preB ++ 59 :: 32 :: (preC ++ [61])) ++ (r ++ t) := by unfold typeB; simp
    rw [this]
    exact List.drop_left' rfl
  rw [e0]
  unfold boundTold
  rw [if_neg (by rw [isPre_type]; simp), e1, e2]
  obtain ⟨a, b, rfl⟩ : ∃ a b, r = a :: b := by
    cases r with
    | nil => exact absurd rfl h1
    | cons a b => exact ⟨a, b, rfl⟩
  have ha := hr a (by simp)
  have hi : idx (a :: b ++ t) 59 ≠ 0 := by
    rw [List.cons_append]
    unfold idx
    rw [if_neg ha.1]
    have := idx_range (b ++ t) 59
    split <;> omega
  rw [if_pos (by simp only [Bool.and_eq_true, decide_eq_true_eq]; exact ⟨⟨trivial, ha.2⟩, hi⟩)]
  congr 1
  unfold boundOf
  rcases ht with rfl | ⟨q, rfl⟩
  · rw [List.append_nil, if_pos (idx_none _ _ (fun x hx => (hr x hx).1))]
  · rw [idx_at _ _ _ (fun x hx => (hr x hx).1), if_neg (by omega), Int.toNat_natCast, List.take_left]
theorem typeB_range (r : List Int) (h : ∀ x ∈ r, 0 ≤ x ∧ x ≤ 255) : ∀ x ∈ typeB r, 0 ≤ x ∧ x ≤ 255 := by
  intro x hx
  unfold typeB at hx
  rcases List.mem_append.1 hx with hx | hx
  · have k : ∀ y ∈ preB ++ [59, 32] ++ preC ++ [61], 0 ≤ y ∧ y ≤ 255 := by decide
    exact k x hx
  · exact h x hx
theorem typeB_length (r : List Int) : (typeB r).length = r.length + 30 := by
  unfold typeB
  rw [List.length_append]
  show 30 + r.length = _
  omega
/-- The content type of a text, as a text. -/
def typeS (s : ByteArray) : ByteArray := strOfNums (typeB (ns s))
theorem typeS_ns (s : ByteArray) : ns (typeS s) = typeB (ns s) := ns_strOfNums (typeB_range _ (fun x hx => ns_range s x hx))
theorem typeS_size (s : ByteArray) : (typeS s).size = s.size + 30 := by rw [← ns_length, typeS_ns, typeB_length, ns_length]
theorem type_is (s : ByteArray) (h : s.size ≤ 140737488355) : impl_BoundaryType.f s = some (typeS s) := if_pos h
theorem bound_is (s u : ByteArray) (h : u.size ≤ 140737488355) (ht : boundTold (ns u) = some (ns s)) : impl_Boundary.f u = some s := by
  unfold impl_Boundary.f
  rw [if_pos h, ht, Option.bind_some]
  congr 1
  exact ns_inj (ns_strOfNums (fun x hx => ns_range s x hx))
theorem word_ok (s : ByteArray) (h : isWord s = true) : ns s ≠ [] ∧ ∀ x ∈ ns s, x ≠ 59 ∧ x ≠ 34 := by
  unfold isWord at h
  simp only [Bool.and_eq_true, Bool.not_eq_true', List.all_eq_true] at h
  refine ⟨fun e => by rw [e] at h; simp at h, fun x hx => ?_⟩
  have := wB_ne (h.1 x hx)
  exact ⟨this.2.2.2.2.2.2.2.1, this.2.1⟩
theorem told_word (s : ByteArray) (h : isWord s = true) (hs : s.size ≤ 1000) : impl_Boundary.f (typeS s) = some s := by
  obtain ⟨h1, h2⟩ := word_ok s h
  refine bound_is s _ (by rw [typeS_size]; omega) ?_
  rw [typeS_ns]
  have := told_type (ns s) [] h1 h2 (Or.inl rfl)
  rwa [List.append_nil] at this
theorem FnBoundary : laws_FnBoundary.Pure := by
  intro s hs
  refine Ev.rounds ?_
  unfold laws_FnBoundary.f
  refine Ev.ite (fun _ => Ev.now _) (fun _ => ?_)
  refine Ev.call (type_is _ (by decide)) (Ev.call (told_word _ (by decide) (by decide)) (Ev.if_true (by rw [Lib.toList_data]) ?_))
  have s1 : Ev (fun k => laws_FnBoundary.j0 k s true) true := Ev.step (f := fun _ => some true) (fun k => rfl) (Ev.now _)
  refine Ev.bind (word_ends s hs) (Ev.ite (fun hw => ?_) (fun _ => s1))
  refine Ev.bind (short_ends [s] (by simp)) ?_
  cases hsh : areShort [s]
  · exact s1
  · have h2 := (areShort_mem hsh).2 s (by simp)
    obtain ⟨w1, w2⟩ := word_ok s hw
    refine Ev.step (f := _) (fun k => by simp only [laws_FnBoundary.j0]; rw [if_neg (by simp)]) ?_
    refine Ev.call (type_is s (by omega)) (Ev.call (told_word s hw (by omega)) (Ev.if_true rfl ?_))
    have hb : laws_begins.f (typeS s) (⟨#[109, 117, 108, 116, 105, 112, 97, 114, 116, 47, 102, 111, 114, 109, 45, 100, 97, 116, 97]⟩ : ByteArray) = some true := by
      unfold laws_begins.f
      rw [if_pos (by rw [typeS_size]; show (19 : Int) ≤ _; omega), if_pos (by decide)]
      congr 1
      rw [beq_iff_eq, toList_eq_iff]
      refine ns_inj ?_
      rw [ns_extract, typeS_ns, List.drop_zero]
      show (typeB (ns s)).take 19 = preB
      unfold typeB
      rw [List.append_assoc, List.append_assoc, List.append_assoc]
      exact List.take_left' rfl
    refine Ev.call hb (Ev.if_true rfl (Ev.if_true (by rw [typeS_size]; omega) ?_))
    have hc : impl_Boundary.f (typeS s ++ (⟨#[59, 32, 99, 104, 97, 114, 115, 101, 116, 61, 120]⟩ : ByteArray)) = some s := by
      refine bound_is s _ (by rw [ByteArray.size_append, typeS_size]; show s.size + 30 + 11 ≤ _; omega) ?_
      rw [ns_append, typeS_ns]
      exact told_type (ns s) _ w1 w2 (Or.inr ⟨_, rfl⟩)
    refine Ev.call hc (Ev.if_true rfl ?_)
    have hn : impl_Boundary.f (⟨#[116, 101, 120, 116, 47, 112, 108, 97, 105, 110]⟩ : ByteArray) = some ⟨#[]⟩ := by
      unfold impl_Boundary.f
      rw [if_pos (by decide), show boundTold (ns ⟨#[116, 101, 120, 116, 47, 112, 108, 97, 105, 110]⟩) = some [] from by decide +kernel]
      rfl
    refine Ev.call hn (Ev.val ?_)
    rw [Lib.toList_data]
    rfl
end Go.Proofs.Ytjnnadpecendpaa.Pure
