/- The law FnNoCacheWord answers true at every list of texts and number: a header of words with commas between asks for no cache just if one of them is no-cache. No condition beyond the row's own. -/
import Derived.Test.YtdfeojkombmiaaaQA26
import Derived.Test.YtdfeojkombmiaaaLWord
import Derived.Test.YtdfeojkombmiaaaLFits
import Derived.Test.YtdfeojkombmiaaaLJoined
import Derived.Test.YtdfeojkombmiaaaLIndexNc
set_option linter.unusedVariables false
namespace Go.Proofs.Ytdfeojkombmiaaa.Pure
open Go.RowKit Go.Proofs.Ytdfeojkombmiaaa.QA Go.Proofs.YtdfeojkombmiaaaW.PrintWords Go.Proofs.YtdfeojkombmiaaaW.PrintLast Go.Proofs.Ytdfeojkombmiaaa.Base

theorem joinN_mid (sep : List Int) (pre : List (List Int)) (z : List Int) (post : List (List Int)) : joinN sep (pre ++ z :: post) = (pre.flatMap fun y => y ++ sep) ++ z ++ (post.flatMap fun y => sep ++ y) := by
  have key : ∀ pre : List (List Int), ((pre ++ z :: post).flatMap fun y => sep ++ y) = sep ++ ((pre.flatMap fun y => y ++ sep) ++ z ++ (post.flatMap fun y => sep ++ y)) := by
    intro pre
    induction pre with
    | nil => simp
    | cons p pre ih => simp only [List.cons_append, List.flatMap_cons, ih, List.append_assoc]
  cases pre with
  | nil => simp [joinN]
  | cons p pre => simp only [List.cons_append, joinN, key, List.flatMap_cons, List.append_assoc]
def isW (l : List ByteArray) : Prop := ∀ s ∈ l, isWord s = true ∧ s.size ≤ 40
/-- What the loop has put together: words, with no-cache among them if its place is behind. -/
def Built (hit : Prop) (acc : List ByteArray) : Prop := (hit → ∃ pre post, acc = pre ++ nc :: post ∧ isW pre ∧ isW post) ∧ (¬ hit → isW acc)
theorem word45 (s : ByteArray) (h : isWord s = true) : (45 : Int) ∉ ns s := by
  unfold isWord at h
  simp only [Bool.and_eq_true, List.all_eq_true] at h
  intro hm
  have := h.1 _ hm
  simp [wB] at this
theorem sizes (hit : Prop) [Decidable hit] (acc : List ByteArray) (h : Built hit acc) : ∀ s ∈ acc, s.size ≤ 40 := by
  intro s hs
  by_cases hh : hit
  · obtain ⟨pre, post, rfl, h1, h2⟩ := h.1 hh
    rcases List.mem_append.1 hs with h3 | h3
    · exact (h1 s h3).2
    · rcases List.mem_cons.1 h3 with rfl | h3
      · decide
      · exact (h2 s h3).2
  · exact (h.2 hh s hs).2
theorem told (hit : Prop) [Decidable hit] (acc : List ByteArray) (h : Built hit acc) (hl : acc.length ≤ 100) (sep : ByteArray) (hsep : sep.size ≤ 40) (S : List Int) (c : Int) (hS : ns sep = S) (hS1 : S = [44, 32] ∨ S = [44]) :
    ∃ s : ByteArray, Ev (fun k => laws_joined.f k acc sep) s ∧ Ev (fun k => impl_NoCache.f k s) (decide hit) := by
  have hm : acc.length * (2 * 40) ≤ 4611686018427387904 := by omega
  obtain ⟨r, hr, hn⟩ := joined_ends sep acc 40 (by decide) hsep (by omega) (sizes hit acc h) hm
  have h45S : (45 : Int) ∉ S := by rcases hS1 with rfl | rfl <;> decide
  have flat : ∀ l : List ByteArray, isW l → (45 : Int) ∉ (l.map ns).flatMap fun y => S ++ y := by
    intro l hw hmem
    obtain ⟨y, hy, h2⟩ := List.mem_flatMap.1 hmem
    obtain ⟨s, hs, rfl⟩ := List.mem_map.1 hy
    rcases List.mem_append.1 h2 with h3 | h3
    · exact h45S h3
    · exact word45 s (hw s hs).1 h3
  have hrsz : r.size ≤ 4611686018427387904 := by
    have hlen : ∀ l : List ByteArray, (∀ s ∈ l, s.size ≤ 40) → ((l.map ns).flatMap fun y => S ++ y).length ≤ l.length * 42 := by
      intro l
      induction l with
      | nil => intro _; simp
      | cons a l ih =>
        intro hs
        have h1 := ih (fun s hs' => hs s (List.mem_cons_of_mem _ hs'))
        have h2 := hs a (by simp)
        have h3 : S.length ≤ 2 := by rcases hS1 with rfl | rfl <;> decide
        simp only [List.map_cons, List.flatMap_cons, List.length_append, List.length_cons, ns_length]
        omega
    rw [← ns_length, hn, hS]
    cases acc with
    | nil => simp [joinN]
    | cons a l =>
      have h1 := hlen l (fun s hs' => sizes hit _ h s (List.mem_cons_of_mem _ hs'))
      have h2 := sizes hit _ h a (by simp)
      simp only [List.map_cons, joinN, List.length_append, ns_length]
      simp only [List.length_cons] at hl
      omega
  refine ⟨r, hr, ?_⟩
  by_cases hh : hit
  · rw [decide_eq_true hh]
    obtain ⟨pre, post, rfl, h1, h2⟩ := h.1 hh
    rw [hS, List.map_append, List.map_cons, joinN_mid, ns_nc] at hn
    refine noCache_at r hrsz _ _ hn ?_ ?_ ?_
    · intro hmem
      obtain ⟨y, hy, h3⟩ := List.mem_flatMap.1 hmem
      obtain ⟨s, hs, rfl⟩ := List.mem_map.1 hy
      rcases List.mem_append.1 h3 with h4 | h4
      · exact word45 s (h1 s hs).1 h4
      · exact h45S h4
    · rcases List.eq_nil_or_concat pre with rfl | ⟨pre', p, rfl⟩
      · exact .inl rfl
      · refine .inr ?_
        rw [List.concat_eq_append, List.map_append, List.flatMap_append]
        simp only [List.map_cons, List.map_nil, List.flatMap_cons, List.flatMap_nil, List.append_nil]
        rcases hS1 with rfl | rfl
        · exact ⟨((pre'.map ns).flatMap fun y => y ++ [44, 32]) ++ (ns p ++ [44]), 32, by simp, .inl rfl⟩
        · exact ⟨((pre'.map ns).flatMap fun y => y ++ [44]) ++ ns p, 44, by simp, .inr rfl⟩
    · cases post with
      | nil => exact .inl rfl
      | cons p post =>
        refine .inr ?_
        simp only [List.map_cons, List.flatMap_cons]
        rcases hS1 with rfl | rfl
        · exact ⟨_, rfl⟩
        · exact ⟨_, rfl⟩
  · rw [decide_eq_false hh]
    have hw := h.2 hh
    refine noCache_none r hrsz ?_
    rw [hn, hS]
    cases acc with
    | nil => simp [joinN]
    | cons a l =>
      simp only [List.map_cons, joinN, List.mem_append, not_or]
      exact ⟨word45 a (hw a (by simp)).1, flat l (fun s hs => hw s (List.mem_cons_of_mem _ hs))⟩
theorem step_built (p q : Prop) (acc : List ByteArray) (x : ByteArray) (hx : isWord x = true ∧ x.size ≤ 40) (hpq : q ↔ p) (h : Built p acc) : Built q (acc ++ [x]) := by
  refine ⟨fun hq => ?_, fun hq => ?_⟩
  · obtain ⟨pre, post, rfl, h1, h2⟩ := h.1 (hpq.1 hq)
    refine ⟨pre, post ++ [x], by simp, h1, fun s hs => ?_⟩
    rcases List.mem_append.1 hs with h3 | h3
    · exact h2 s h3
    · simp only [List.mem_singleton] at h3; rw [h3]; exact hx
  · have := h.2 (fun hp => hq (hpq.2 hp))
    intro s hs
    rcases List.mem_append.1 hs with h3 | h3
    · exact this s h3
    · simp only [List.mem_singleton] at h3; rw [h3]; exact hx
theorem FnNoCacheWord : laws_FnNoCacheWord.Pure := by
  intro l at_ hl hat
  have hat2 := wf_i64 hat
  refine Ev.rounds ?_
  simp only [laws_FnNoCacheWord.f]
  refine Ev.bind (fits6_ends l) (Ev.ite (fun hf => ?_) (fun _ => Ev.now _))
  have hfm := fits6_mem hf
  have c1 := noCache_at (⟨#[97, 44, 32, 110, 111, 45, 99, 97, 99, 104, 101]⟩ : ByteArray) (by decide) [97, 44, 32] [] (by decide +kernel) (by decide) (.inr ⟨[97, 44], 32, rfl, .inl rfl⟩) (.inl rfl)
  refine Ev.bind c1 (Ev.if_true rfl ?_)
  refine Ev.bind (noCache_none (⟨#[97]⟩ : ByteArray) (by decide) (by decide +kernel)) ?_
  refine Ev.step (f := _) (fun k => by simp only [laws_FnNoCacheWord.j0]; rw [if_neg (by simp)]) ?_
  have s1t : Ev (fun k => laws_FnNoCacheWord.j1 k l at_ true) true := Ev.step (f := fun _ => some true) (fun k => rfl) (Ev.now _)
  refine Ev.bind (words_ends l (by omega) (fun s hs => by have := hfm.2 s hs; omega)) (Ev.ite (fun hw => ?_) (fun _ => s1t))
  obtain ⟨hlen, hwm⟩ := areWords_mem hw
  have j3 : ∀ acc : List ByteArray, acc.length ≤ 100 → Built (0 ≤ at_) acc → Ev (fun k => laws_FnNoCacheWord.j3 k at_ acc) true := by
    intro acc hal hb
    refine Ev.step (f := _) (fun k => by simp only [laws_FnNoCacheWord.j3]; exact rfl) ?_
    obtain ⟨s1, e1, n1⟩ := told (0 ≤ at_) acc hb hal (⟨#[44, 32]⟩ : ByteArray) (by decide) [44, 32] 0 (by decide) (.inl rfl)
    obtain ⟨s2, e2, n2⟩ := told (0 ≤ at_) acc hb hal (⟨#[44]⟩ : ByteArray) (by decide) [44] 0 (by decide) (.inr rfl)
    refine Ev.bind e1 (Ev.bind n1 (Ev.if_true (by simp) (Ev.bind e2 (Ev.bind n2 (Ev.val (by simp))))))
  have loop : -1 ≤ at_ → at_ ≤ l.length → ∀ (d i : Nat) (acc : List ByteArray), i + d = l.length → acc.length ≤ 2 * i + 1 → Built (0 ≤ at_ ∧ at_ < i) acc → Ev (fun k => laws_FnNoCacheWord.l0 k l at_ acc l (l.length : Int) (i : Int)) true := by
    intro h1 h2 d
    induction d with
    | zero =>
      intro i acc hi hal hb
      refine Ev.step (f := fun k => if at_ = (l.length : Int) then (if acc.length < 8796093022208 then (laws_FnNoCacheWord.j3 k at_ (acc ++ [nc])) else (none)) else (laws_FnNoCacheWord.j3 k at_ acc)) (fun k => ?_) ?_
      · simp only [laws_FnNoCacheWord.l0]; rw [if_neg (by omega)]; rfl
      · refine Ev.ite (fun he => Ev.if_true (by omega) (j3 _ (by simp; omega) ⟨fun _ => ⟨acc, [], rfl, hb.2 (by omega), fun s hs => by simp at hs⟩, fun hn => by omega⟩)) (fun he => j3 _ (by omega) ⟨fun h3 => hb.1 ⟨h3, by omega⟩, fun h3 => hb.2 (by omega)⟩)
    | succ d ih =>
      intro i acc hi hal hb
      have hlt : i < l.length := by omega
      have hx := hwm _ (List.getElem_mem hlt)
      refine Ev.step (f := fun k => if (i : Int) = at_ then (if acc.length < 8796093022208 then ((some (acc ++ [nc] : List ByteArray)).bind fun y193 => (if y193.length < 8796093022208 then (laws_FnNoCacheWord.l0 k l at_ (y193 ++ [l[i]]) l (l.length : Int) ((i + 1 : Nat) : Int)) else (none))) else (none)) else (if acc.length < 8796093022208 then (laws_FnNoCacheWord.l0 k l at_ (acc ++ [l[i]]) l (l.length : Int) ((i + 1 : Nat) : Int)) else (none))) (fun k => ?_) ?_
      · simp only [laws_FnNoCacheWord.l0]
        rw [if_pos (by omega), if_pos (by omega), if_pos (by omega), rdOf_nat _ _ _ hlt, wrap_add (by omega) (by omega)]
        rfl
      · refine Ev.ite (fun he => Ev.if_true (by omega) (Ev.call rfl (Ev.if_true (by simp; omega) (ih (i + 1) _ (by omega) (by simp; omega) ⟨fun _ => ⟨acc, [l[i]], by simp, hb.2 (by omega), fun s hs => by simp only [List.mem_singleton] at hs; rw [hs]; exact hx⟩, fun hn => by omega⟩)))) (fun he => Ev.if_true (by omega) (ih (i + 1) _ (by omega) (by simp; omega) (step_built _ _ acc _ hx (by omega) hb)))
  refine Ev.ite (fun _ => s1t) (fun h1 => ?_)
  by_cases h2 : at_ > (l.length : Int)
  · rw [decide_eq_true h2]; exact s1t
  · rw [decide_eq_false h2]
    refine Ev.step (f := fun k => laws_FnNoCacheWord.l0 k l at_ [] l (l.length : Int) 0) (fun k => by simp only [laws_FnNoCacheWord.j1]; rw [if_neg (by simp)]) ?_
    exact loop (by omega) (by omega) l.length 0 [] (by omega) (by simp) ⟨fun h => by omega, fun _ s hs => by simp at hs⟩
end Go.Proofs.Ytdfeojkombmiaaa.Pure
