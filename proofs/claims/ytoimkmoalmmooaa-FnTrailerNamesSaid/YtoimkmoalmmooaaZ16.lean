/- Texts of this claim, one behind the other (merged by wip/prune.py of this repo, without what the proof does not use): PureFnTrailerNames. -/
import Derived.Test.YtoimkmoalmmooaaZ6
import Derived.Test.YtoimkmoalmmooaaZ14
import Derived.Test.YtoimkmoalmmooaaZ15
set_option linter.unusedVariables false
namespace Go.Proofs.Ytoimkmoalmmooaa.Pure
open Go.RowKit Go.Proofs.Ytoimkmoalmmooaa.QA Go.Proofs.YtoimkmoalmmooaaW.PrintWords Go.Proofs.YtoimkmoalmmooaaW.PrintLast Go.Proofs.YtoimkmoalmmooaaW.PrintMore Go.Proofs.Ytoimkmoalmmooaa.Base Go.Proofs.Ytoimkmoalmmooaa.Given Go.Proofs.Ytoimkmoalmmooaa.Gv Go.Proofs.Ytoimkmoalmmooaa.Own
theorem joinN_joinC : ∀ l : List (List Int), joinN [44, 32] l = joinC l
  | [] => rfl
  | [x] => by simp [joinN, joinC]
  | x :: y :: t => by
    have := joinN_joinC (y :: t)
    simp only [joinN, joinC, List.flatMap_cons, List.append_assoc, List.cons_append, List.nil_append] at this ⊢
    rw [this]
def okKey (K : List Int) : Prop := K ≠ [] ∧ ∀ x ∈ K, x ≠ 44 ∧ x ≠ 32
theorem idx_at (c : Int) : ∀ (K rest : List Int), (∀ x ∈ K, x ≠ c) → idx (K ++ c :: rest) c = K.length
  | [], rest, _ => by simp [idx]
  | x :: l, rest, h => by
    have e := idx_at c l rest (fun y hy => h y (List.mem_cons_of_mem _ hy))
    rw [List.cons_append, idx, if_neg (h x (by simp)), e]
    rw [if_neg (by omega)]
    simp
theorem cutI_at {K rest : List Int} (h : ∀ x ∈ K, x ≠ 44) : cutI (K ++ 44 :: rest) = K.length := by
  rw [cutI, idx_at 44 K rest h, if_neg (by omega)]; simp
theorem keyT_from (dn : Bool) {p K rest : List Int} (hp : p = [] ∨ p = [32]) (hK : okKey K) (hr : rest = [] ∨ ∃ r, rest = 44 :: r) : keyT dn (p ++ K ++ rest) = nkd dn K ∧ cutI (p ++ K ++ rest) = (p ++ K).length := by
  have hno : ∀ x ∈ p ++ K, x ≠ 44 := by
    intro x hx
    rcases List.mem_append.1 hx with h | h
    · rcases hp with rfl | rfl
      · simp at h
      · simp at h; omega
    · exact (hK.2 x h).1
  have hc : cutI (p ++ K ++ rest) = (p ++ K).length := by
    rcases hr with rfl | ⟨r, rfl⟩
    · rw [List.append_nil]; exact cutI_none hno
    · exact cutI_at hno
  refine ⟨?_, hc⟩
  have ht : (p ++ K ++ rest).take (p ++ K).length = p ++ K := by
    rw [List.take_append_of_le_length (Nat.le_refl _), List.take_length]
  unfold keyT
  rw [hc, ht]
  have hl : trimL (p ++ K) = K := by
    rcases hp with rfl | rfl
    · exact trimL_none (fun x hx => (hK.2 x hx).2)
    · show trimL (32 :: K) = K
      rw [trimL_sp]; exact trimL_none (fun x hx => (hK.2 x hx).2)
  rw [hl, trimR_none (fun x hx => (hK.2 x hx).2)]
def keepN (Ks : List (List Int)) : List KVx := (Ks.filter fun K => !badK (nk K)).map fun K => ⟨nk K, [], true⟩
theorem setGo_join : ∀ (Ks : List (List Int)) (p : List Int) (f : Nat) (acc : List KVx) (b : Bool), (p = [] ∨ p = [32]) → (∀ K ∈ Ks, okKey K) → (p = [] → Ks ≠ []) → (hn : Ks ≠ []) → Ks.length ≤ f →
    setGo false f (p ++ joinC Ks) acc b = some (acc ++ keepN Ks, badK (nk (Ks.getLast hn)))
  | [], _, _, _, _, _, _, _, hn, _ => absurd rfl hn
  | K :: t, p, 0, _, _, _, _, _, _, hf => by simp at hf
  | K :: t, p, f + 1, acc, b, hp, hok, _, hn, hf => by
    have hK := hok K (by simp)
    have hsplit : p ++ joinC (K :: t) = p ++ K ++ (if t = [] then [] else 44 :: 32 :: joinC t) := by
      cases t with
      | nil => simp [joinC]
      | cons a t => simp [joinC]
    obtain ⟨hk, hc⟩ := keyT_from false (p := p) (K := K) (rest := if t = [] then [] else 44 :: 32 :: joinC t) hp hK (by
      by_cases h : t = []
      · left; rw [if_pos h]
      · right; exact ⟨_, if_neg h⟩)
    have hne : p ++ joinC (K :: t) ≠ [] := by
      rw [hsplit]
      intro e
      rw [List.append_assoc] at e
      exact hK.1 (List.append_eq_nil_iff.1 (List.append_eq_nil_iff.1 e).2).1
    obtain ⟨y, ys, hy⟩ : ∃ y ys, p ++ joinC (K :: t) = y :: ys := by
      cases h : p ++ joinC (K :: t) with
      | nil => exact absurd h hne
      | cons y ys => exact ⟨y, ys, rfl⟩
    have hy2 : p ++ K ++ (if t = [] then [] else 44 :: 32 :: joinC t) = y :: ys := by rw [← hsplit, hy]
    rw [hy2] at hk hc
    have hkn : ¬ nkd false K = [] := by
      intro e
      have := congrArg List.length e
      rw [nkd_length] at this
      exact hK.1 (List.length_eq_zero_iff.1 this)
    rw [hy, setGo, hk, if_neg hkn, hc, ← hy2]
    have hkeep : keepN (K :: t) = (if badK (nk K) = true then [] else [⟨nk K, [], true⟩]) ++ keepN t := by
      unfold keepN
      rw [List.filter_cons]
      cases h : badK (nk K) <;> simp
    have hnk : nkd false K = nk K := rfl
    rw [hnk]
    have hacc : (if badK (nk K) = true then acc else acc ++ [(⟨nk K, [], true⟩ : KVx)]) ++ keepN t = acc ++ keepN (K :: t) := by
      rw [hkeep]
      cases h : badK (nk K) <;> simp
    cases t with
    | nil =>
      rw [if_pos rfl, List.append_nil, List.drop_eq_nil_of_le (by omega)]
      have hnil : keepN [] = [] := rfl
      rw [hnil, List.append_nil] at hacc
      cases f with
      | zero => rw [setGo, hacc]; rfl
      | succ f => rw [setGo, hacc]; rfl
    | cons a t =>
      rw [if_neg (by simp)]
      have hd : (p ++ K ++ 44 :: 32 :: joinC (a :: t)).drop ((p ++ K).length + 1) = [32] ++ joinC (a :: t) := by
        rw [show (p ++ K ++ 44 :: 32 :: joinC (a :: t)) = (p ++ K ++ [44]) ++ (32 :: joinC (a :: t)) from by simp]
        rw [show (p ++ K).length + 1 = (p ++ K ++ [44]).length from by simp; omega, List.drop_left]
        rfl
      rw [hd, setGo_join (a :: t) [32] f _ _ (.inr rfl) (fun K' h' => hok K' (List.mem_cons_of_mem _ h')) (by simp) (by simp) (by simp at hf ⊢; omega), hacc]
      rfl
theorem name_key {s : ByteArray} (h : isName s = true ∨ forbOf s = true) : okKey (ns s) ∧ s.size ≤ 60 := by
  rcases h with h | h
  · obtain ⟨h1, h2, h3, _⟩ := name_x h
    exact ⟨⟨fun e => by have := ns_length s; rw [e] at this; simp at this; omega, h3⟩, h2⟩
  · unfold forbOf at h
    obtain ⟨c, hc, e⟩ := List.any_eq_true.1 h
    have e := of_decide_eq_true e
    have k : ∀ c ∈ forbL, c.length ≤ 60 ∧ c ≠ [] ∧ ∀ x ∈ c, x ≠ 44 ∧ x ≠ 32 := by decide +kernel
    obtain ⟨k1, k2, k3⟩ := k c hc
    have hl : (ns s).length = c.length := by rw [← e, List.length_map]
    refine ⟨⟨fun e' => ?_, fun x hx => ?_⟩, by rw [← ns_length, hl]; exact k1⟩
    · rw [e'] at hl
      exact k2 (List.length_eq_zero_iff.1 hl.symm)
    · have hm : lo x ∈ c := by rw [← e]; exact List.mem_map.2 ⟨x, hx, rfl⟩
      have := k3 _ hm
      unfold lo at this
      split at this <;> omega
theorem x_script : ∃ T, scriptF false [] [] [⟨4, ⟨#[]⟩, ⟨#[88, 45, 65]⟩, 0, 0⟩, ⟨7, ⟨#[]⟩, ⟨#[]⟩, 0, 0⟩] = some ([⟨⟨#[]⟩, true, 0, [], []⟩, ⟨⟨#[]⟩, false, 0, [], [⟨⟨#[88, 45, 65]⟩, ⟨#[]⟩⟩]⟩], T, true) := by
  have hk : ns (⟨#[88, 45, 65]⟩ : ByteArray) = [88, 45, 65] := by decide
  have hn : nk [88, 45, 65] = [88, 45, 65] := by decide
  have hz : (⟨#[]⟩ : ByteArray).size = 0 := rfl
  have e1 : stepF false [] ⟨4, ⟨#[]⟩, ⟨#[88, 45, 65]⟩, 0, 0⟩ = some ((⟨#[]⟩, true, []), false, [⟨[88, 45, 65], [], true⟩]) := by
    rw [stepF_4 _ _ _ rfl (by simp) (by decide) (by decide)]
    show (setGo false 3 (ns _) [] false).map _ = _
    rw [hk, setGo_one false 2 (by decide) (by decide), badK_x (nkd_x false (by decide) (by decide))]
    show some (_, _, _) = _
    rw [show nkd false [88, 45, 65] = [88, 45, 65] from hn]; rfl
  have e2 : stepF false [⟨[88, 45, 65], [], true⟩] ⟨7, ⟨#[]⟩, ⟨#[]⟩, 0, 0⟩ = some ((⟨#[]⟩, false, [⟨⟨#[88, 45, 65]⟩, ⟨#[]⟩⟩]), false, [⟨[88, 45, 65], [], true⟩]) := by
    rw [stepF_7 _ _ _ rfl (by simp) (by simp [hz]) (by simp [hz])]
    rfl
  rw [script_cons e1, script_cons e2, scriptF, if_pos ⟨by simp, by decide, by decide⟩]
  exact ⟨_, rfl⟩
theorem stepF_5 (dn : Bool) (L : List KVx) (s : Step) (hd : s.f0 = 5) (hL : L.length ≤ 1000000) (h1 : s.f1.size ≤ 1000000) (h2 : s.f2.size ≤ 1000000) (hs : sizeKV L ≤ 140737488355328) : stepF dn L s = some ((strOfNums (joinC (L.map KVx.k)), false, []), dn, L) := by
  unfold stepF
  rw [if_neg (by omega), if_neg (by omega), if_neg (by omega), if_neg (by omega), if_neg (by omega), if_pos hd, if_pos hs]
theorem stepF_8 (dn : Bool) (L : List KVx) (s : Step) (hd : s.f0 = 8) (hL : L.length ≤ 1000000) (h1 : s.f1.size ≤ 1000000) (h2 : s.f2.size ≤ 1000000) : stepF dn L s = some ((⟨#[]⟩, decide (L.length = 0), []), dn, L) := by
  unfold stepF
  rw [if_neg (by omega), if_neg (by omega), if_neg (by omega), if_neg (by omega), if_neg (by omega), if_neg (by omega), if_neg (by omega), if_neg (by omega), if_pos hd]
def wantN (l : List ByteArray) : List Pair := (l.filter fun s => !forbOf s).map fun s => ⟨strOfNums (nk (ns s)), ⟨#[]⟩⟩
theorem keep_filter : ∀ (l : List ByteArray), (∀ s ∈ l, isName s = true ∨ forbOf s = true) → keepN (l.map ns) = (l.filter fun s => !forbOf s).map fun s => ⟨nk (ns s), [], true⟩
  | [], _ => rfl
  | s :: t, h => by
    have ih := keep_filter t (fun x hx => h x (List.mem_cons_of_mem _ hx))
    have hb : badK (nk (ns s)) = forbOf s := badK_is false s (h s (by simp))
    unfold keepN at ih ⊢
    rw [List.map_cons, List.filter_cons, List.filter_cons, hb]
    cases forbOf s <;> simp [ih]
theorem names_script (l : List ByteArray) (J : ByteArray) (hne : l ≠ []) (hl : l.length ≤ 12) (h : ∀ s ∈ l, isName s = true ∨ forbOf s = true) (hJ : ns J = joinC (l.map ns)) (hJs : J.size ≤ 1000000) :
    ∃ T, scriptF false [] [] [⟨4, ⟨#[]⟩, J, 0, 0⟩, ⟨7, ⟨#[]⟩, ⟨#[]⟩, 0, 0⟩, ⟨5, ⟨#[]⟩, ⟨#[]⟩, 0, 0⟩, ⟨8, ⟨#[]⟩, ⟨#[]⟩, 0, 0⟩] =
      some ([⟨⟨#[]⟩, !forbOf (l.getLast hne), 0, [], []⟩, ⟨⟨#[]⟩, false, 0, [], wantN l⟩, ⟨strOfNums (joinC ((wantN l).map fun p => ns p.f0)), false, 0, [], []⟩, ⟨⟨#[]⟩, decide ((wantN l).length = 0), 0, [], []⟩], T, true) := by
  have hz : (⟨#[]⟩ : ByteArray).size = 0 := rfl
  have hlen : l.length ≤ J.size := by
    rw [← ns_length, hJ]
    have : ∀ Ks : List (List Int), (∀ K ∈ Ks, K ≠ []) → Ks.length ≤ (joinC Ks).length := by
      intro Ks
      induction Ks with
      | nil => intro _; simp
      | cons K t ih =>
        intro hk
        have h1 : 0 < K.length := List.length_pos_iff.2 (hk K (by simp))
        have h2 := ih (fun x hx => hk x (List.mem_cons_of_mem _ hx))
        rw [joinC_cons]
        simp only [List.length_append, List.length_cons]
        omega
    have := this (l.map ns) (fun K hK => by
      obtain ⟨s, hs, rfl⟩ := List.mem_map.1 hK
      exact (name_key (h s hs)).1.1)
    rwa [List.length_map] at this
  have hm : l.map ns ≠ [] := by simpa using hne
  have hgo := setGo_join (l.map ns) [] J.size [] false (.inl rfl) (fun K hK => by
      obtain ⟨s, hs, rfl⟩ := List.mem_map.1 hK
      exact (name_key (h s hs)).1) (fun _ => hm) hm (by rw [List.length_map]; exact hlen)
  rw [List.nil_append, List.nil_append, ← hJ, List.getLast_map, keep_filter l h] at hgo
  have hlast := h (l.getLast hne) (List.getLast_mem hne)
  have hb : badK (nk (ns (l.getLast hne))) = forbOf (l.getLast hne) := badK_is false _ hlast
  rw [hb] at hgo
  obtain ⟨F, hF⟩ : ∃ F, (l.filter fun s => !forbOf s) = F := ⟨_, rfl⟩
  have hFl : F.length ≤ 12 := by
    rw [← hF]
    exact Nat.le_trans (List.length_filter_le _ _) hl
  have hFm : ∀ s ∈ F, s.size ≤ 60 := fun s hs => by
    rw [← hF] at hs
    exact (name_key (h s (List.mem_filter.1 hs).1)).2
  rw [hF] at hgo
  obtain ⟨L, hL⟩ : ∃ L, (F.map fun s => (⟨nk (ns s), [], true⟩ : KVx)) = L := ⟨_, rfl⟩
  rw [hL] at hgo
  have hLl : L.length = F.length := by rw [← hL, List.length_map]
  have hP : L.map toP = wantN l := by
    rw [← hL]; unfold wantN
    rw [hF, List.map_map]
    refine List.map_congr_left (fun s _ => ?_)
    rfl
  have hk : L.map KVx.k = (wantN l).map fun p => ns p.f0 := by
    rw [← hL]; unfold wantN
    rw [hF, List.map_map, List.map_map]
    refine List.map_congr_left (fun s _ => ?_)
    exact (ns_strOfNums (nk_row s)).symm
  have hsz : sizeKV L ≤ 1000 := by
    rw [← hL]
    unfold sizeKV
    rw [List.map_map]
    have : ∀ G : List ByteArray, (∀ s ∈ G, s.size ≤ 60) → (G.map ((fun x : KVx => x.k.length + x.v.length + 4) ∘ fun s => ⟨nk (ns s), [], true⟩)).sum ≤ G.length * 64 := by
      intro G
      induction G with
      | nil => intro _; simp
      | cons s t ih =>
        intro hs
        have h1 := hs s (by simp)
        have h2 := ih (fun x hx => hs x (List.mem_cons_of_mem _ hx))
        simp only [List.map_cons, List.sum_cons, Function.comp_apply, List.length_cons, nk_length, ns_length, List.length_nil]
        omega
    have := this F hFm
    omega
  have e1 : stepF false [] ⟨4, ⟨#[]⟩, J, 0, 0⟩ = some ((⟨#[]⟩, !forbOf (l.getLast hne), []), false, L) := by
    rw [stepF_4 _ _ _ rfl (by simp) (by simp [hz]) hJs]
    show (setGo false J.size (ns J) [] false).map _ = _
    rw [hgo]; rfl
  have e2 : stepF false L ⟨7, ⟨#[]⟩, ⟨#[]⟩, 0, 0⟩ = some ((⟨#[]⟩, false, wantN l), false, L) := by
    rw [stepF_7 _ _ _ rfl (by omega) (by simp [hz]) (by simp [hz]), hP]
  have e3 : stepF false L ⟨5, ⟨#[]⟩, ⟨#[]⟩, 0, 0⟩ = some ((strOfNums (joinC ((wantN l).map fun p => ns p.f0)), false, []), false, L) := by
    rw [stepF_5 _ _ _ rfl (by omega) (by simp [hz]) (by simp [hz]) (by omega), hk]
  have e4 : stepF false L ⟨8, ⟨#[]⟩, ⟨#[]⟩, 0, 0⟩ = some ((⟨#[]⟩, decide ((wantN l).length = 0), []), false, L) := by
    rw [stepF_8 _ _ _ rfl (by omega) (by simp [hz]) (by simp [hz]), ← hP, List.length_map]
  have hr : RgK L := by
    intro x hx y hy
    rw [← hL] at hx
    obtain ⟨s, _, rfl⟩ := List.mem_map.1 hx
    exact nk_row s y hy
  rw [script_cons e1, script_cons e2, script_cons e3, script_cons e4, scriptF, if_pos ⟨by omega, hr, by omega⟩]
  exact ⟨_, rfl⟩
theorem wantN_snoc (l : List ByteArray) (s : ByteArray) : wantN (l ++ [s]) = wantN l ++ (if forbOf s = true then [] else [⟨strOfNums (nk (ns s)), ⟨#[]⟩⟩]) := by
  unfold wantN
  rw [List.filter_append, List.map_append]
  cases h : forbOf s <;> simp [h]
theorem take_snoc {α : Type} (l : List α) (i : Nat) (h : i < l.length) : l.take (i + 1) = l.take i ++ [l[i]] := by
  rw [List.take_succ_eq_append_getElem h]
theorem FnTrailerNames : laws_FnTrailerNames.Pure := by
  intro l hl0
  refine Ev.rounds ?_
  unfold laws_FnTrailerNames.f
  have s1t : Ev (fun k => laws_FnTrailerNames.j1 k l true) true := Ev.step (f := fun _ => some true) (fun k => rfl) (Ev.now _)
  have s3t : ∀ acc s A n i, Ev (fun k => laws_FnTrailerNames.j3 k l acc s A n i true) true := fun acc s A n i => Ev.step (f := fun _ => some true) (fun k => by simp only [laws_FnTrailerNames.j3]; rw [if_pos trivial]) (Ev.now _)
  refine Ev.bind (fits6_ends l) (Ev.ite (fun hfit => ?_) (fun _ => Ev.now _))
  obtain ⟨hfl, hfs⟩ := fits6_mem hfit
  obtain ⟨T1, x1⟩ := x_script
  refine Ev.call (script_is (by decide) x1) (Ev.if_true rfl (Ev.if_true rfl (Ev.if_true (by show (0 : Int) < ((2 : Nat) : Int); decide) (Ev.if_true rfl (Ev.if_true (by show (1 : Int) < ((2 : Nat) : Int); decide) (Ev.if_true rfl (Ev.if_true (by show (0 : Int) < ((1 : Nat) : Int); decide) ?_)))))))
  refine Ev.step (f := _) (fun k => by simp only [laws_FnTrailerNames.j0]; rw [if_neg (by decide +kernel)]) ?_
  refine Ev.ite (fun _ => s1t) (fun hne0 => ?_)
  by_cases h12 : (l.length : Int) > 12
  · rw [decide_eq_true h12]; exact s1t
  rw [decide_eq_false h12]
  have hne : l ≠ [] := fun e => by rw [e] at hne0; exact hne0 rfl
  refine Ev.step (f := _) (fun k => by simp only [laws_FnTrailerNames.j1]; rw [if_neg (by simp)]) ?_
  -- behind the loop
  have tail : (∀ s ∈ l, isName s = true ∨ forbOf s = true) → Ev (fun k => (laws_joined.f k l (⟨#[44, 32]⟩ : ByteArray)).bind fun t => ((impl_TrailerScript.f (([(⟨4, (⟨#[]⟩ : ByteArray), t, 0, 0⟩ : Step), (⟨7, (⟨#[]⟩ : ByteArray), (⟨#[]⟩ : ByteArray), 0, 0⟩ : Step), (⟨5, (⟨#[]⟩ : ByteArray), (⟨#[]⟩ : ByteArray), 0, 0⟩ : Step), (⟨8, (⟨#[]⟩ : ByteArray), (⟨#[]⟩ : ByteArray), 0, 0⟩ : Step)] : List Step))).bind fun bt => (if bt.2.2 = true then (if (bt.1.length : Int) = 4 then (if 0 < (bt.1.length : Int) then (if 0 ≤ (wrap64 ((l.length : Int) - 1)) then (if (wrap64 ((l.length : Int) - 1)) < (l.length : Int) then ((laws_forbidden.f (rdOf ByteArray.empty l (wrap64 ((l.length : Int) - 1)))).bind fun t3 => (if (((rd_T32 bt.1 0).f1) == t3) = true then (laws_FnTrailerNames.j4 k (wantN l) bt.1 true) else (if 1 < (bt.1.length : Int) then ((laws_samePairs.f k ((rd_T32 bt.1 1).f4) (wantN l)).bind fun t5 => (if t5 = true then (if 3 < (bt.1.length : Int) then (laws_FnTrailerNames.j4 k (wantN l) bt.1 (((rd_T32 bt.1 3).f1) != (((wantN l).length : Int) == 0))) else (none)) else (laws_FnTrailerNames.j4 k (wantN l) bt.1 true))) else (none)))) else (none)) else (none)) else (none)) else (laws_FnTrailerNames.j4 k (wantN l) bt.1 true)) else (laws_FnTrailerNames.j4 k (wantN l) bt.1 true)))) true := by
    intro hall
    have hsz : ∀ s ∈ l, s.size ≤ 60 := fun s hs => (name_key (hall s hs)).2
    obtain ⟨J, hJ, hJn⟩ := joined_endsC (⟨#[44, 32]⟩ : ByteArray) l 100 (by decide) (by omega) (fun s hs => by have := hsz s hs; show s.size + 2 ≤ 100; omega) (by omega)
    rw [show ns (⟨#[44, 32]⟩ : ByteArray) = [44, 32] from by decide, joinN_joinC] at hJn
    have hJs : J.size ≤ 1000000 := by
      rw [← ns_length, hJn]
      have : ∀ G : List ByteArray, (∀ s ∈ G, s.size ≤ 60) → (joinC (G.map ns)).length ≤ G.length * 62 := by
        intro G
        induction G with
        | nil => intro _; simp [joinC]
        | cons s t ih =>
          intro hs
          have h1 := hs s (by simp)
          have h2 := ih (fun x hx => hs x (List.mem_cons_of_mem _ hx))
          rw [List.map_cons, joinC_cons]
          simp only [List.length_append, List.length_cons, ns_length]
          split <;> simp <;> omega
      have := this l hsz
      omega
    obtain ⟨T2, x2⟩ := names_script l J hne (by omega) hall hJn hJs
    refine Ev.bind hJ (Ev.call (script_is (by simp) x2) (Ev.if_true rfl (Ev.if_true rfl (Ev.if_true (by simp) ?_))))
    have hlpos : 0 < l.length := List.length_pos_iff.2 hne
    have hw : wrap64 ((l.length : Int) - 1) = ((l.length - 1 : Nat) : Int) := by unfold wrap64; omega
    have hrd : rdOf ByteArray.empty l ((l.length - 1 : Nat) : Int) = l.getLast hne := by
      rw [rdOf_nat _ _ _ (by omega), List.getLast_eq_getElem]
    rw [hw, hrd]
    refine Ev.if_true (by omega) (Ev.if_true (by omega) (Ev.call (forb_is _ (by have := hsz _ (List.getLast_mem hne); omega)) (Ev.if_false ?_ (Ev.if_true (by simp) ?_))))
    · show ¬ (((!forbOf (l.getLast hne)) == forbOf (l.getLast hne)) = true)
      cases forbOf (l.getLast hne) <;> decide
    refine Ev.bind (samePairs_self (wantN l) ?_) (Ev.if_true rfl (Ev.if_true (by simp) ?_))
    · unfold wantN
      rw [List.length_map]
      have := List.length_filter_le (fun s => !forbOf s) l
      omega
    have hsame : ((decide ((wantN l).length = 0)) != (((wantN l).length : Int) == 0)) = false := by
      cases h : wantN l with
      | nil => rfl
      | cons a t => simp; omega
    show Ev (fun k => laws_FnTrailerNames.j4 k (wantN l) _ ((decide ((wantN l).length = 0)) != (((wantN l).length : Int) == 0))) true
    rw [hsame]
    refine Ev.step (f := _) (fun k => by simp only [laws_FnTrailerNames.j4]; rw [if_neg (by simp)]) ?_
    obtain ⟨W, hW⟩ : ∃ W, wantN l = W := ⟨_, rfl⟩
    have hWl : W.length ≤ 12 := by
      rw [← hW]; unfold wantN
      rw [List.length_map]
      have := List.length_filter_le (fun s => !forbOf s) l
      omega
    have hWs : ∀ p ∈ W, p.f0.size ≤ 60 := fun p hp => by
      rw [← hW] at hp
      unfold wantN at hp
      obtain ⟨s, hs, rfl⟩ := List.mem_map.1 hp
      show (strOfNums (nk (ns s))).size ≤ 60
      rw [strOfNums_size, nk_length, ns_length]
      exact hsz s (List.mem_filter.1 hs).1
    rw [hW]
    obtain ⟨AN, hAN⟩ : ∃ AN : List Ans, ([⟨⟨#[]⟩, !forbOf (l.getLast hne), 0, [], []⟩, ⟨⟨#[]⟩, false, 0, [], W⟩, ⟨strOfNums (joinC (W.map fun p => ns p.f0)), false, 0, [], []⟩, ⟨⟨#[]⟩, decide (W.length = 0), 0, [], []⟩] : List Ans) = AN := ⟨_, rfl⟩
    have hA2 : (rd_T32 AN 2).f0 = strOfNums (joinC (W.map fun p => ns p.f0)) := by rw [← hAN]; rfl
    have hAl : AN.length = 4 := by rw [← hAN]; rfl
    show Ev (fun k => laws_FnTrailerNames.l1 k _ [] W (W.length : Int) 0) true
    rw [hAN]
    have loop : ∀ (d i : Nat), i + d = W.length → Ev (fun k => laws_FnTrailerNames.l1 k AN ((W.take i).map fun p => p.f0) W (W.length : Int) (i : Int)) true := by
      intro d
      induction d with
      | zero =>
        intro i hi
        have hWt : W.take i = W := List.take_of_length_le (by omega)
        rw [hWt]
        obtain ⟨J2, hJ2, hJ2n⟩ := joined_endsC (⟨#[44, 32]⟩ : ByteArray) (W.map fun p => p.f0) 100 (by decide) (by rw [List.length_map]; omega) (fun s hs => by
          obtain ⟨p, hp, rfl⟩ := List.mem_map.1 hs
          have := hWs p hp; show p.f0.size + 2 ≤ 100; omega) (by rw [List.length_map]; omega)
        rw [show ns (⟨#[44, 32]⟩ : ByteArray) = [44, 32] from by decide, joinN_joinC, List.map_map] at hJ2n
        refine Ev.step (f := _) (fun k => by simp only [laws_FnTrailerNames.l1]; rw [if_neg (by omega)]) ?_
        refine Ev.if_true (by omega) (Ev.bind hJ2 (Ev.val ?_))
        rw [hA2]
        have : strOfNums (joinC (W.map fun p => ns p.f0)) = J2 := by
          have e2 : joinC (W.map fun p => ns p.f0) = ns J2 := hJ2n.symm
          rw [e2]; exact self_str J2
        rw [this]; simp
      | succ d ih =>
        intro i hi
        have hlt : i < W.length := by omega
        refine Ev.step (f := fun k => laws_FnTrailerNames.l1 k AN ((W.take (i + 1)).map fun p => p.f0) W (W.length : Int) ((i + 1 : Nat) : Int)) (fun k => ?_) (ih (i + 1) (by omega))
        have hr : rd_T34 W (i : Int) = W[i] := by
          unfold rd_T34
          simp [List.getD_eq_getElem?_getD, hlt]
        simp only [laws_FnTrailerNames.l1]
        rw [if_pos (by omega), if_pos (by omega), if_pos (by omega), if_pos (by rw [List.length_map, List.length_take]; omega), wrap_add (by omega) (by omega), hr, take_snoc W i hlt, List.map_append]
        rfl
    have := loop W.length 0 (by omega)
    simpa using this
  -- the loop
  have loop : ∀ (d i : Nat), i + d = l.length → (∀ s ∈ l.take i, isName s = true ∨ forbOf s = true) → Ev (fun k => laws_FnTrailerNames.l0 k l (wantN (l.take i)) l (l.length : Int) (i : Int)) true := by
    intro d
    induction d with
    | zero =>
      intro i hi hall
      have ht : l.take i = l := List.take_of_length_le (by omega)
      rw [ht] at hall ⊢
      refine Ev.step (f := _) (fun k => by simp only [laws_FnTrailerNames.l0]; rw [if_neg (by omega)]) ?_
      exact tail hall
    | succ d ih =>
      intro i hi hall
      have hlt : i < l.length := by omega
      have hsi := hfs _ (List.getElem_mem hlt)
      have hwl : (wantN (l.take i)).length < 4398046511104 := by
        unfold wantN
        rw [List.length_map]
        have h1 := List.length_filter_le (fun s => !forbOf s) (l.take i)
        have h2 : (l.take i).length ≤ i := List.length_take_le _ _
        omega
      have next : (isName l[i] = true ∨ forbOf l[i] = true) → Ev (fun k => laws_FnTrailerNames.j3 k l (wantN (l.take i)) l[i] l (l.length : Int) (i : Int) false) true := by
        intro hn
        have hall2 : ∀ s ∈ l.take (i + 1), isName s = true ∨ forbOf s = true := by
          intro s hs
          rw [take_snoc l i hlt] at hs
          rcases List.mem_append.1 hs with h | h
          · exact hall s h
          · rw [List.mem_singleton] at h; rw [h]; exact hn
        have hih := ih (i + 1) (by omega) hall2
        rw [take_snoc l i hlt, wantN_snoc] at hih
        refine Ev.step (f := _) (fun k => by simp only [laws_FnTrailerNames.j3]; rw [if_neg (by simp)]) ?_
        rw [wrap_add (by omega) (by omega)]
        refine Ev.call (forb_is _ (by omega)) (Ev.ite (fun hf => ?_) (fun hf => Ev.call (normal_is _ (by omega)) (Ev.if_true hwl ?_)))
        · rw [if_pos hf, List.append_nil] at hih
          exact hih
        · rw [if_neg hf] at hih
          exact hih
      refine Ev.step (f := fun k => (laws_name.f k l[i]).bind fun t => if t = true then laws_FnTrailerNames.j3 k l (wantN (l.take i)) l[i] l (l.length : Int) (i : Int) false else (laws_forbidden.f l[i]).bind fun t2 => laws_FnTrailerNames.j3 k l (wantN (l.take i)) l[i] l (l.length : Int) (i : Int) (!t2)) (fun k => ?_) ?_
      · simp only [laws_FnTrailerNames.l0]
        rw [if_pos (by omega), if_pos (by omega), if_pos (by omega), rdOf_nat _ _ _ hlt]
      · refine Ev.bind (name_ends _ (by omega)) (Ev.ite (fun h => next (.inl h)) (fun _ => Ev.call (forb_is _ (by omega)) ?_))
        cases hf : forbOf l[i] with
        | true => exact next (.inr hf)
        | false => exact s3t _ _ _ _ _
  have := loop l.length 0 (by omega) (by simp)
  exact this
end Go.Proofs.Ytoimkmoalmmooaa.Pure
