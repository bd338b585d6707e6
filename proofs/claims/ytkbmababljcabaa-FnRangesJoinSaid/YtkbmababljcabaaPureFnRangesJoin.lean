/- The law FnRangesJoin answers true at every list of texts and switches: media ranges that are joined by commas are told as they were. No condition beyond the row's own. -/
import Derived.Test.YtkbmababljcabaaQA37
import Derived.Test.YtkbmababljcabaaLWord
import Derived.Test.YtkbmababljcabaaLFits
import Derived.Test.YtkbmababljcabaaLJoined
import Derived.Test.YtkbmababljcabaaLSame
set_option linter.unusedVariables false
namespace Go.Proofs.Ytkbmababljcabaa.Pure
open Go.RowKit Go.Proofs.Ytkbmababljcabaa.QA Go.Proofs.YtkbmababljcabaaW.PrintWords Go.Proofs.YtkbmababljcabaaW.PrintLast Go.Proofs.Ytkbmababljcabaa.Base Go.Proofs.Ytkbmababljcabaa.Given

theorem str_ns (s : ByteArray) : strOfNums (ns s) = s := ns_inj (ns_strOfNums (fun x hx => ns_range s x hx))
def plainR (u : List Int) : Prop := ∀ x ∈ u, x ≠ 32 ∧ x ≠ 34 ∧ x ≠ 44 ∧ x ≠ 92
theorem scanQ_plain (u : List Int) : ∀ (q : Nat) (esc : Bool) (rest : List Int), plainR u → scanQ q esc (u ++ rest) = u.length + scanQ q esc rest := by
  induction u with
  | nil => intro q esc rest _; simp
  | cons c u ih =>
    intro q esc rest h
    obtain ⟨_, h2, h3, h4⟩ := h c (by simp)
    rw [List.cons_append, scanQ, if_neg h3, if_neg h2, if_neg h4, ih q esc rest (fun x hx => h x (List.mem_cons_of_mem _ hx)), List.length_cons]
    omega
/-- A range: a word twice with a slash between, and a quoted parameter with a comma in it or none. -/
def rngN (u : List Int) (c : Bool) : List Int := (u ++ [47] ++ u) ++ (if c then ([59, 112, 61] ++ [34] ++ u ++ [44] ++ u ++ [34]) else [])
theorem scanQ_rng (u : List Int) (c : Bool) (hu : plainR u) (post : List Int) (hp : post = [] ∨ ∃ r, post = 44 :: r) : scanQ 0 false (rngN u c ++ post) = (rngN u c).length := by
  have hend : ∀ q : Nat, q % 2 = 0 → scanQ q false post = 0 := by
    intro q hq
    rcases hp with rfl | ⟨r, rfl⟩
    · rfl
    · rw [scanQ, if_pos rfl, if_pos hq]
  have h47 : plainR [47] := by intro x hx; rw [List.mem_singleton.1 hx]; decide
  have h59 : plainR [59, 112, 61] := by
    intro x hx
    simp only [List.mem_cons, List.not_mem_nil, or_false] at hx
    rcases hx with rfl | rfl | rfl <;> decide
  cases c with
  | false =>
    simp only [rngN, Bool.false_eq_true, if_false, List.append_nil, List.append_assoc, List.length_append]
    rw [scanQ_plain u _ _ _ hu, scanQ_plain [47] _ _ _ h47, scanQ_plain u _ _ _ hu, hend 0 rfl]
    omega
  | true =>
    have q1 : ∀ rest, scanQ 0 false ([34] ++ rest) = 1 + scanQ 1 false rest := fun rest => by
      rw [List.singleton_append, scanQ, if_neg (by decide), if_pos rfl, if_neg (by decide)]
    have q2 : ∀ rest, scanQ 1 false ([34] ++ rest) = 1 + scanQ 2 false rest := fun rest => by
      rw [List.singleton_append, scanQ, if_neg (by decide), if_pos rfl, if_neg (by decide)]
    have q3 : ∀ rest, scanQ 1 false ([44] ++ rest) = 1 + scanQ 1 false rest := fun rest => by
      rw [List.singleton_append, scanQ, if_pos rfl, if_neg (by decide)]
    simp only [rngN, if_true, List.append_assoc, List.length_append]
    rw [scanQ_plain u _ _ _ hu, scanQ_plain [47] _ _ _ h47, scanQ_plain u _ _ _ hu, scanQ_plain [59, 112, 61] _ _ _ h59, q1, scanQ_plain u _ _ _ hu, q3, scanQ_plain u _ _ _ hu, q2, hend 2 rfl]
    simp
theorem idx_plain (u post : List Int) (h : (44 : Int) ∉ u) (hp : post = [] ∨ ∃ r, post = 44 :: r) : (if idx (u ++ post) 44 = -1 then (u ++ post).length else (idx (u ++ post) 44).toNat) = u.length := by
  induction u with
  | nil =>
    rcases hp with rfl | ⟨r, rfl⟩
    · simp [idx]
    · simp [idx]
  | cons x u ih =>
    simp only [List.mem_cons, not_or] at h
    have h1 := ih h.2
    have hr := idx_rng (u ++ post) 44
    have hx : idx (x :: (u ++ post)) 44 = if idx (u ++ post) 44 = -1 then -1 else idx (u ++ post) 44 + 1 := by
      conv => lhs; unfold idx
      rw [if_neg (show ¬ x = 44 from fun e => h.1 e.symm)]
    rw [List.cons_append, hx, List.length_cons, List.length_cons]
    by_cases e : idx (u ++ post) 44 = -1
    · rw [if_pos e] at h1
      rw [e, if_pos rfl, if_pos rfl]
      omega
    · rw [if_neg e] at h1
      rw [if_neg e, if_neg (show ¬ (idx (u ++ post) 44 + 1 = -1) by omega)]
      omega
theorem rng_no44 (u : List Int) (hu : plainR u) : (44 : Int) ∉ rngN u false := by
  intro h
  simp only [rngN, Bool.false_eq_true, if_false, List.append_nil, List.mem_append, List.mem_singleton] at h
  rcases h with (h | h) | h
  · exact (hu _ h).2.2.1 rfl
  · exact absurd h (by decide)
  · exact (hu _ h).2.2.1 rfl
abbrev rg (p : List Int × Bool) : List Int := rngN p.1 p.2
theorem cut_rng (dq : Bool) (p : List Int × Bool) (hu : plainR p.1) (hd : dq = false → p.2 = false) (post : List Int) (hp : post = [] ∨ ∃ r, post = 44 :: r) : cutAt dq (rg p ++ post) = (rg p).length := by
  unfold cutAt
  cases dq with
  | true => rw [if_pos rfl]; exact scanQ_rng p.1 p.2 hu post hp
  | false =>
    rw [if_neg (by decide)]
    have e : rg p = rngN p.1 false := by unfold rg; rw [hd rfl]
    rw [e]
    exact idx_plain _ _ (rng_no44 p.1 hu) hp
theorem ltrim_rng (p : List Int × Bool) (hne : p.1 ≠ []) (hu : plainR p.1) (b0 post : List Int) (hb : b0 = [] ∨ b0 = [32]) : ltrim (b0 ++ (rg p ++ post)) = rg p ++ post := by
  obtain ⟨u, c⟩ := p
  cases u with
  | nil => exact absurd rfl hne
  | cons x u =>
    have hx := (hu x (by simp)).1
    rcases hb with rfl | rfl <;> simp [ltrim, rg, rngN, hx]
theorem ranges_from (dq : Bool) (bl : List Int) (hbl : bl = [] ∨ bl = [32]) : ∀ (rs : List (List Int × Bool)) (r : List Int × Bool) (b0 : List Int) (f : Nat), (b0 = [] ∨ b0 = [32]) → (∀ p ∈ r :: rs, p.1 ≠ [] ∧ plainR p.1 ∧ (dq = false → p.2 = false)) →
    (b0 ++ joinN (44 :: bl) ((r :: rs).map rg)).length ≤ f → rangesF dq f (b0 ++ joinN (44 :: bl) ((r :: rs).map rg)) = (r :: rs).map rg := by
  intro rs
  induction rs with
  | nil =>
    intro r b0 f hb0 hall hf
    obtain ⟨h1, h2, h3⟩ := hall r (by simp)
    have hj : joinN (44 :: bl) (([r] : List (List Int × Bool)).map rg) = rg r ++ [] := by simp [joinN]
    have hlen : 0 < (rg r).length := by
      have := List.length_pos_iff.2 h1
      simp only [rg, rngN, List.length_append]
      omega
    rw [hj] at hf ⊢
    cases f with
    | zero => simp only [List.length_append, List.length_nil] at hf; omega
    | succ f =>
      have hne : ¬ (b0 ++ (rg r ++ [])).length = 0 := by simp only [List.length_append, List.length_nil]; omega
      rw [rangesF, if_neg hne, ltrim_rng r h1 h2 b0 [] hb0, cut_rng dq r h2 h3 [] (.inl rfl), List.take_left, if_pos (by simp)]
      rfl
  | cons s rs ih =>
    intro r b0 f hb0 hall hf
    obtain ⟨h1, h2, h3⟩ := hall r (by simp)
    have hj : joinN (44 :: bl) ((r :: s :: rs).map rg) = rg r ++ (44 :: (bl ++ joinN (44 :: bl) ((s :: rs).map rg))) := by simp [joinN]
    have hlen : 0 < (rg r).length := by
      have := List.length_pos_iff.2 h1
      simp only [rg, rngN, List.length_append]
      omega
    rw [hj] at hf ⊢
    cases f with
    | zero => simp at hf
    | succ f =>
      have hne : ¬ (b0 ++ (rg r ++ (44 :: (bl ++ joinN (44 :: bl) ((s :: rs).map rg))))).length = 0 := by simp
      have hdrop : (rg r ++ (44 :: (bl ++ joinN (44 :: bl) ((s :: rs).map rg)))).drop ((rg r).length + 1) = bl ++ joinN (44 :: bl) ((s :: rs).map rg) := by
        rw [show rg r ++ (44 :: (bl ++ joinN (44 :: bl) ((s :: rs).map rg))) = (rg r ++ [44]) ++ (bl ++ joinN (44 :: bl) ((s :: rs).map rg)) by simp]
        exact List.drop_left' (by simp)
      rw [rangesF, if_neg hne, ltrim_rng r h1 h2 b0 _ hb0, cut_rng dq r h2 h3 _ (.inr ⟨_, rfl⟩), List.take_left, if_neg (by simp), hdrop,
        ih s bl f hbl (fun p hp => hall p (List.mem_cons_of_mem _ hp)) (by simp only [List.length_append, List.length_cons] at hf ⊢; omega)]
      rfl
theorem idx_mem (xs : List Int) (c : Int) (h : idx xs c = -1) : c ∉ xs := by
  induction xs with
  | nil => simp
  | cons x xs ih =>
    have hr := idx_rng xs c
    unfold idx at h
    by_cases e : x = c
    · rw [if_pos e] at h; omega
    · rw [if_neg e] at h
      by_cases e2 : idx xs c = -1
      · intro hm
        rcases List.mem_cons.1 hm with h3 | h3
        · exact e h3.symm
        · exact ih e2 h3
      · rw [if_neg e2] at h; omega
theorem join_mem (sep : List Int) (l : List (List Int)) (x : List Int) (hx : x ∈ l) (c : Int) (hc : c ∈ x) : c ∈ joinN sep l := by
  cases l with
  | nil => cases hx
  | cons y l =>
    simp only [joinN, List.mem_append, List.mem_flatMap]
    rcases List.mem_cons.1 hx with rfl | hx
    · exact .inl hc
    · exact .inr ⟨x, hx, .inr hc⟩
/-- A header of ranges is told as these. -/
theorem ranges_told (ps : List (List Int × Bool)) (hne : ps ≠ []) (hall : ∀ p ∈ ps, p.1 ≠ [] ∧ plainR p.1) (bl : List Int) (hbl : bl = [] ∨ bl = [32]) (s : ByteArray) (hs : ns s = joinN (44 :: bl) (ps.map rg)) : rangesOf (ns s) = (ps.map rg).map strOfNums := by
  unfold rangesOf
  congr 1
  cases ps with
  | nil => exact absurd rfl hne
  | cons r rs =>
    obtain ⟨dq, hdq⟩ : ∃ dq, decide (idx (ns s) 34 ≠ -1) = dq := ⟨_, rfl⟩
    rw [hdq]
    have := ranges_from dq bl hbl rs r [] (ns s).length (.inl rfl) (fun p hp => ⟨(hall p hp).1, (hall p hp).2, fun hd => ?_⟩) (by rw [List.nil_append, ← hs]; exact Nat.le_refl _)
    · rw [List.nil_append, ← hs] at this
      exact this
    · rw [hd] at hdq
      have h34 : (34 : Int) ∉ ns s := idx_mem _ _ (by simpa using hdq)
      cases hc : p.2 with
      | false => rfl
      | true =>
        exfalso
        refine h34 ?_
        rw [hs]
        refine join_mem _ _ (rg p) (List.mem_map_of_mem hp) 34 ?_
        simp [rg, rngN, hc]
theorem join_bound (sep : List Int) (B : Nat) : ∀ l : List (List Int), (∀ x ∈ l, x.length ≤ B) → (joinN sep l).length ≤ l.length * (B + sep.length) := by
  have key : ∀ l : List (List Int), (∀ x ∈ l, x.length ≤ B) → (l.flatMap fun y => sep ++ y).length ≤ l.length * (B + sep.length) := by
    intro l
    induction l with
    | nil => intro _; simp
    | cons x l ih =>
      intro h
      have h1 := ih (fun y hy => h y (List.mem_cons_of_mem _ hy))
      have h2 := h x (by simp)
      simp only [List.flatMap_cons, List.length_append, List.length_cons, Nat.add_mul] at h1 ⊢
      omega
  intro l h
  cases l with
  | nil => simp [joinN]
  | cons x l =>
    have h1 := key l (fun y hy => h y (List.mem_cons_of_mem _ hy))
    have h2 := h x (by simp)
    simp only [joinN, List.length_append, List.length_cons, Nat.add_mul] at h1 ⊢
    omega
theorem word_plainR (s : ByteArray) (h : isWord s = true) : ns s ≠ [] ∧ plainR (ns s) := by
  unfold isWord at h
  simp only [Bool.and_eq_true, List.all_eq_true] at h
  refine ⟨fun e => by rw [e] at h; simp at h, fun x hx => ?_⟩
  have hw := h.1 x hx
  refine ⟨?_, ?_, ?_, ?_⟩ <;> (rintro rfl; simp [wB] at hw)
/-- What is put together is told as it was, by either sign between. -/
theorem told_back (acc : List ByteArray) (ps : List (List Int × Bool)) (hne : ps ≠ []) (hall : ∀ p ∈ ps, p.1 ≠ [] ∧ plainR p.1) (hm : acc.map ns = ps.map rg) (hsz : ∀ s ∈ acc, s.size ≤ 200) (hl : acc.length ≤ 20) (sep : ByteArray) (bl : List Int) (hbl : bl = [] ∨ bl = [32]) (hsep : ns sep = 44 :: bl) :
    ∃ s : ByteArray, Ev (fun k => laws_joined.f k acc sep) s ∧ impl_MediaRanges.f s = some acc := by
  have hss : sep.size ≤ 200 := by rw [← ns_length, hsep]; rcases hbl with rfl | rfl <;> decide
  obtain ⟨s, h1, h2⟩ := joined_ends sep acc 200 (by decide) hss (by omega) hsz (by omega)
  refine ⟨s, h1, ?_⟩
  have hb := join_bound (44 :: bl) 200 (acc.map ns) (fun x hx => by obtain ⟨y, hy, rfl⟩ := List.mem_map.1 hx; rw [ns_length]; exact hsz y hy)
  rw [hsep] at h2
  have hbl2 : bl.length ≤ 1 := by rcases hbl with rfl | rfl <;> simp
  have hss2 : s.size ≤ 20 * 202 := by
    rw [← ns_length, h2]
    refine Nat.le_trans hb ?_
    rw [List.length_map, List.length_cons]
    exact Nat.mul_le_mul hl (by omega)
  unfold impl_MediaRanges.f
  rw [if_pos (by omega), ranges_told ps hne hall bl hbl s (by rw [h2, hm]), ← hm, List.map_map]
  congr 1
  conv => rhs; rw [← List.map_id acc]
  exact List.map_congr_left (fun y _ => str_ns y)
theorem ends (l : List ByteArray) (z : List Int) (acc : List ByteArray) (ps : List (List Int × Bool)) (hne : ps ≠ []) (hall : ∀ p ∈ ps, p.1 ≠ [] ∧ plainR p.1) (hm : acc.map ns = ps.map rg) (hsz : ∀ s ∈ acc, s.size ≤ 200) (hl : acc.length ≤ 20) :
    Ev (fun k => laws_FnRangesJoin.l0 k z acc l (l.length : Int) (l.length : Int)) true := by
  obtain ⟨s1, j1, m1⟩ := told_back acc ps hne hall hm hsz hl (⟨#[44, 32]⟩ : ByteArray) [32] (.inr rfl) (by decide)
  obtain ⟨s2, j2, m2⟩ := told_back acc ps hne hall hm hsz hl (⟨#[44]⟩ : ByteArray) [] (.inl rfl) (by decide)
  refine Ev.step (f := fun k => (laws_joined.f k acc (⟨#[44, 32]⟩ : ByteArray)).bind fun t292 => ((impl_MediaRanges.f t292).bind fun t293 => ((laws_sameTexts.f k t293 acc).bind fun t296 => (if t296 = true then ((laws_joined.f k acc (⟨#[44]⟩ : ByteArray)).bind fun t297 => ((impl_MediaRanges.f t297).bind fun t298 => ((laws_sameTexts.f k t298 acc).bind fun t301 => (some t301)))) else (some false))))) (fun k => by simp only [laws_FnRangesJoin.l0]; rw [if_neg (by omega)]) ?_
  refine Ev.bind j1 (Ev.call m1 (Ev.bind (sameTexts_ends acc acc (by omega)) ?_))
  rw [decide_eq_true (rfl : acc = acc)]
  refine Ev.if_true rfl (Ev.bind j2 (Ev.call m2 (Ev.bind (sameTexts_ends acc acc (by omega)) ?_)))
  rw [decide_eq_true (rfl : acc = acc)]
  exact Ev.now _
theorem caps {n a b c d e f g : Nat} (h : n ≤ 40) (z1 : a = n + 1) (z2 : b = a + n) (z3 : c = 4 + n) (z4 : d = c + 1) (z5 : e = d + n) (z6 : f = e + 1) (z7 : g = b + f) :
    (b ≤ 200 ∧ g ≤ 200) ∧ (n + 1 ≤ 9223372036854775807 ∧ a + n ≤ 9223372036854775807 ∧ 4 + n ≤ 9223372036854775807) ∧ (c + 1 ≤ 9223372036854775807 ∧ d + n ≤ 9223372036854775807) ∧ e + 1 ≤ 9223372036854775807 ∧ b + f ≤ 9223372036854775807 := by omega
theorem loop (l : List ByteArray) (z : List Int) (hl0 : l ≠ []) (hl : l.length ≤ 20) (hw : ∀ s ∈ l, isWord s = true ∧ s.size ≤ 40) : ∀ (d i : Nat) (acc : List ByteArray) (ps : List (List Int × Bool)), i + d = l.length → acc.length = i → (∀ p ∈ ps, p.1 ≠ [] ∧ plainR p.1) → acc.map ns = ps.map rg → (∀ s ∈ acc, s.size ≤ 200) →
    Ev (fun k => laws_FnRangesJoin.l0 k z acc l (l.length : Int) (i : Int)) true := by
  intro d
  induction d with
  | zero =>
    intro i acc ps hi ha hall hm hsz
    obtain rfl : i = l.length := by omega
    refine ends l z acc ps ?_ hall hm hsz (by omega)
    rintro rfl
    have := congrArg List.length hm
    rw [List.length_map, ha] at this
    exact hl0 (List.eq_nil_of_length_eq_zero this)
  | succ d ih =>
    intro i acc ps hi ha hall hm hsz
    have hlt : i < l.length := by omega
    obtain ⟨s, hse⟩ : ∃ s, l[i] = s := ⟨_, rfl⟩
    obtain ⟨hws, hss⟩ := hw s (by rw [← hse]; exact List.getElem_mem hlt)
    have cont : ∀ (c : Bool) (y : ByteArray), ns y = rg (ns s, c) → y.size ≤ 200 → Ev (fun k => laws_FnRangesJoin.l0 k z (acc ++ [y]) l (l.length : Int) ((i + 1 : Nat) : Int)) true := by
      intro c y hy hys
      refine ih (i + 1) (acc ++ [y]) (ps ++ [(ns s, c)]) (by omega) (by simp; omega) ?_ ?_ ?_
      · intro p hp
        rcases List.mem_append.1 hp with h | h
        · exact hall p h
        · rw [List.mem_singleton.1 h]; exact word_plainR s hws
      · rw [List.map_append, List.map_append, hm]; simp [hy]
      · intro q hq
        rcases List.mem_append.1 hq with h | h
        · exact hsz q h
        · rw [List.mem_singleton.1 h]; exact hys
    have d1 : (i : Int) < (l.length : Int) := by omega
    have d2 : (0 : Int) ≤ (i : Int) := by omega
    have d10 : acc.length < 8796093022208 := by omega
    have hwr : wrap64 ((i : Int) + 1) = ((i + 1 : Nat) : Int) := by
      rw [wrap_add (by omega) (by omega)]
      rfl
    have e47 : ns (⟨#[47]⟩ : ByteArray) = [47] := by decide
    have e59 : ns (⟨#[59, 112, 61, 34]⟩ : ByteArray) = [59, 112, 61, 34] := by decide
    have e44 : ns (⟨#[44]⟩ : ByteArray) = [44] := by decide
    have e34 : ns (⟨#[34]⟩ : ByteArray) = [34] := by decide
    obtain ⟨A, hA⟩ : ∃ A, s ++ (⟨#[47]⟩ : ByteArray) = A := ⟨_, rfl⟩
    obtain ⟨B, hB⟩ : ∃ B, A ++ s = B := ⟨_, rfl⟩
    obtain ⟨C, hC⟩ : ∃ C, (⟨#[59, 112, 61, 34]⟩ : ByteArray) ++ s = C := ⟨_, rfl⟩
    obtain ⟨D, hD⟩ : ∃ D, C ++ (⟨#[44]⟩ : ByteArray) = D := ⟨_, rfl⟩
    obtain ⟨E, hE⟩ : ∃ E, D ++ s = E := ⟨_, rfl⟩
    obtain ⟨F, hF⟩ : ∃ F, E ++ (⟨#[34]⟩ : ByteArray) = F := ⟨_, rfl⟩
    obtain ⟨G, hG⟩ : ∃ G, B ++ F = G := ⟨_, rfl⟩
    have z1 : A.size = s.size + 1 := by rw [← hA, ByteArray.size_append]; rfl
    have z2 : B.size = A.size + s.size := by rw [← hB, ByteArray.size_append]
    have z3 : C.size = 4 + s.size := by rw [← hC, ByteArray.size_append]; rfl
    have z4 : D.size = C.size + 1 := by rw [← hD, ByteArray.size_append]; rfl
    have z5 : E.size = D.size + s.size := by rw [← hE, ByteArray.size_append]
    have z6 : F.size = E.size + 1 := by rw [← hF, ByteArray.size_append]; rfl
    have z7 : G.size = B.size + F.size := by rw [← hG, ByteArray.size_append]
    have nB : ns B = (ns s ++ [47]) ++ ns s := by rw [← hB, ns_append, ← hA, ns_append, e47]
    have nF : ns F = [59, 112, 61, 34] ++ ns s ++ [44] ++ ns s ++ [34] := by rw [← hF, ns_append, ← hE, ns_append, ← hD, ns_append, ← hC, ns_append, e59, e44, e34]
    obtain ⟨⟨dB, dG⟩, ⟨d3, d4, d5⟩, ⟨d6, d7⟩, d8, d9⟩ := caps hss z1 z2 z3 z4 z5 z6 z7
    clear z1 z2 z3 z4 z5 z6 z7
    have hf := cont false B (by rw [nB]; simp only [rg, rngN, Bool.false_eq_true, if_false, List.append_nil]) dB
    have ht := cont true G (by rw [← hG, ns_append, nB, nF]; simp only [rg, rngN, if_true, List.append_assoc, List.cons_append, List.nil_append]) dG
    have hread : rdOf ByteArray.empty l (i : Int) = s := by rw [rdOf_nat _ _ _ hlt, hse]
    by_cases c1 : (i : Int) < (z.length : Int)
    · by_cases c2 : Int.tmod (rd z (i : Int)) 2 = 1
      · refine Ev.step (f := fun k => laws_FnRangesJoin.l0 k z (acc ++ [G]) l (l.length : Int) ((i + 1 : Nat) : Int)) (fun k => ?_) ht
        simp only [laws_FnRangesJoin.l0, hread, hA, hB, hC, hD, hE, hF, hG, hwr]
        rw [if_pos d1, if_pos d2, if_pos d1, if_pos d3, if_pos d4, if_pos c1, if_pos c2, if_pos d5, if_pos d6, if_pos d7, if_pos d8, if_pos d9, if_pos d10]
      · refine Ev.step (f := fun k => laws_FnRangesJoin.l0 k z (acc ++ [B]) l (l.length : Int) ((i + 1 : Nat) : Int)) (fun k => ?_) hf
        simp only [laws_FnRangesJoin.l0, hread, hA, hB, hC, hD, hE, hF, hG, hwr]
        rw [if_pos d1, if_pos d2, if_pos d1, if_pos d3, if_pos d4, if_pos c1, if_neg c2, if_pos d10]
    · refine Ev.step (f := fun k => laws_FnRangesJoin.l0 k z (acc ++ [B]) l (l.length : Int) ((i + 1 : Nat) : Int)) (fun k => ?_) hf
      simp only [laws_FnRangesJoin.l0, hread, hA, hB, hC, hD, hE, hF, hG, hwr]
      rw [if_pos d1, if_pos d2, if_pos d1, if_pos d3, if_pos d4, if_neg c1, if_pos d10]
theorem FnRangesJoin : laws_FnRangesJoin.Pure := by
  intro l z hl hz1 hz2 hz3
  refine Ev.rounds ?_
  simp only [laws_FnRangesJoin.f]
  have out0 : Ev (fun k => laws_FnRangesJoin.j0 k l z true) true := Ev.step (f := fun _ => some true) (fun k => by simp only [laws_FnRangesJoin.j0]; rw [if_pos trivial]) (Ev.now _)
  have out1 : Ev (fun k => laws_FnRangesJoin.j1 k l z true) true := Ev.step (f := fun _ => some true) (fun k => by simp only [laws_FnRangesJoin.j1]; rw [if_pos trivial]) (Ev.now _)
  refine Ev.bind (fits6_ends l) ?_
  refine Ev.ite (fun hf => ?_) (fun _ => out0)
  obtain ⟨hlen, hsz⟩ := fits6_mem hf
  by_cases hg : (z.length : Int) > 2147483647
  · rw [decide_eq_true hg]; exact out0
  rw [decide_eq_false hg]
  have hab : impl_MediaRanges.f (⟨#[97, 47, 98, 44, 32, 99, 47, 100]⟩ : ByteArray) = some [(⟨#[97, 47, 98]⟩ : ByteArray), (⟨#[99, 47, 100]⟩ : ByteArray)] := by decide +kernel
  refine Ev.step (f := fun k => (impl_MediaRanges.f (⟨#[97, 47, 98, 44, 32, 99, 47, 100]⟩ : ByteArray)).bind fun t273 => ((laws_sameTexts.f k t273 (([(⟨#[97, 47, 98]⟩ : ByteArray), (⟨#[99, 47, 100]⟩ : ByteArray)] : List ByteArray))).bind fun t279 => (if t279 = true then (if (l.length : Int) = 0 then (laws_FnRangesJoin.j1 k l z true) else ((laws_words.f k l).bind fun t280 => (laws_FnRangesJoin.j1 k l z (!t280)))) else (some false)))) (fun k => by simp only [laws_FnRangesJoin.j0]; rw [if_neg (by simp)]) ?_
  refine Ev.call hab (Ev.bind (sameTexts_ends _ _ (by decide)) ?_)
  have ht : decide ([(⟨#[97, 47, 98]⟩ : ByteArray), (⟨#[99, 47, 100]⟩ : ByteArray)] = [(⟨#[97, 47, 98]⟩ : ByteArray), (⟨#[99, 47, 100]⟩ : ByteArray)]) = true := decide_eq_true rfl
  rw [ht]
  refine Ev.if_true rfl (Ev.ite (fun _ => out1) (fun hne => ?_))
  refine Ev.bind (words_ends l (by omega) (fun s hs => by have := hsz s hs; omega)) ?_
  by_cases hw : areWords l = true
  · rw [hw]
    obtain ⟨hl20, hwm⟩ := areWords_mem hw
    refine Ev.step (f := fun k => laws_FnRangesJoin.l0 k z ([] : List ByteArray) l (l.length : Int) 0) (fun k => by simp only [laws_FnRangesJoin.j1]; rw [if_neg (by simp)]) ?_
    exact loop l z (fun e => hne (by rw [e]; rfl)) hl20 hwm l.length 0 [] [] (by omega) rfl (by simp) rfl (by simp)
  · rw [Bool.not_eq_true] at hw
    rw [hw]
    exact out1
end Go.Proofs.Ytkbmababljcabaa.Pure
