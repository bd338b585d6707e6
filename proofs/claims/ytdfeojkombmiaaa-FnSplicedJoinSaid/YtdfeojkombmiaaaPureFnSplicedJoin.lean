/- The law FnSplicedJoin answers true at every list of texts: parts that are joined by commas are told as they were. No condition beyond the row's own. -/
import Derived.Test.YtdfeojkombmiaaaQA34
import Derived.Test.YtdfeojkombmiaaaLWord
import Derived.Test.YtdfeojkombmiaaaLFits
import Derived.Test.YtdfeojkombmiaaaLJoined
import Derived.Test.YtdfeojkombmiaaaLJoinedC
import Derived.Test.YtdfeojkombmiaaaLSame
set_option linter.unusedVariables false
namespace Go.Proofs.Ytdfeojkombmiaaa.Pure
open Go.RowKit Go.Proofs.Ytdfeojkombmiaaa.QA Go.Proofs.YtdfeojkombmiaaaW.PrintWords Go.Proofs.YtdfeojkombmiaaaW.PrintLast Go.Proofs.Ytdfeojkombmiaaa.Base Go.Proofs.Ytdfeojkombmiaaa.Given

theorem joinN_two (sep x y : List Int) (r : List (List Int)) : joinN sep (x :: y :: r) = x ++ (sep ++ joinN sep (y :: r)) := by
  simp [joinN]
theorem split_parts (all : List Int) (hall : all.length ≤ 254) : ∀ (segs : List (List Int)) (pre : List Int), segs ≠ [] → (∀ s ∈ segs, (44 : Int) ∉ s) → all = pre ++ joinN [44] segs → splTl all pre.length pre.length = segs.map fun s => strOfNums (ltrim s) := by
  intro segs
  induction segs with
  | nil => intro _ h; exact absurd rfl h
  | cons x segs ih =>
    intro pre _ hno he
    have hx := hno x (by simp)
    have hbytes : ∀ post, all = pre ++ (x ++ post) → (∀ j, pre.length ≤ j → j < pre.length + x.length → all.getD j 0 ≠ 44) ∧ commaPart all pre.length (pre.length + x.length) = strOfNums (ltrim x) := by
      intro post hp
      refine ⟨fun j h1 h2 => ?_, ?_⟩
      · rw [hp, List.getD_eq_getElem?_getD, List.getElem?_append_right h1, List.getElem?_append_left (by omega), List.getElem?_eq_getElem (by omega)]
        intro e
        exact hx (by rw [← e]; exact List.getElem_mem _)
      · unfold commaPart
        rw [hp, ← List.append_assoc, show pre.length + x.length = (pre ++ x).length by simp, List.take_left, List.drop_left]
    cases segs with
    | nil =>
      have hp : all = pre ++ (x ++ []) := by rw [he]; simp [joinN]
      obtain ⟨hb, hpt⟩ := hbytes [] hp
      have hl : all.length = pre.length + x.length := by rw [hp]; simp
      rw [splTl_skip all pre.length x.length pre.length (by omega) hb, splTl_hit _ _ _ (by omega) (.inl hl.symm), hpt]
      unfold splTl
      rw [if_neg (by omega)]
      rfl
    | cons y r =>
      have hp : all = pre ++ (x ++ (44 :: joinN [44] (y :: r))) := by rw [he, joinN_two]; rfl
      obtain ⟨hb, hpt⟩ := hbytes _ hp
      have hl : pre.length + x.length + 1 ≤ all.length := by rw [hp]; simp; omega
      have h44 : all.getD (pre.length + x.length) 0 = 44 := by
        rw [hp, ← List.append_assoc, List.getD_eq_getElem?_getD, List.getElem?_append_right (by simp), show pre.length + x.length - (pre ++ x).length = 0 by simp]
        rfl
      rw [splTl_skip all pre.length x.length pre.length (by omega) hb, splTl_hit _ _ _ (by omega) (.inr h44), hpt, Nat.mod_eq_of_lt (by omega)]
      have := ih (pre ++ x ++ [44]) (by simp) (fun s hs => hno s (List.mem_cons_of_mem _ hs)) (by rw [hp]; simp)
      have hpl : (pre ++ x ++ [(44 : Int)]).length = pre.length + x.length + 1 := by simp; omega
      rw [hpl] at this
      rw [this]
      rfl
theorem ltrim_word (s : ByteArray) (h : isWord s = true) : ltrim (ns s) = ns s := by
  have hw := isWord_at h
  have h0 := hw.2 0 (by omega)
  have h1 := (wB_ne h0).1
  rw [bt_ns] at h1
  refine ltrim_drop (ns s) 0 (fun j hj => by omega) (by omega) (fun _ => h1)
theorem word44 (s : ByteArray) (h : isWord s = true) : (44 : Int) ∉ ns s := by
  unfold isWord at h
  simp only [Bool.and_eq_true, List.all_eq_true] at h
  intro hm
  have := h.1 _ hm
  simp [wB] at this
theorem str_ns (s : ByteArray) : strOfNums (ns s) = s := ns_inj (ns_strOfNums (fun x hx => ns_range s x hx))
theorem join_len (sep : List Int) : ∀ l : List (List Int), l ≠ [] → (joinN sep l).length + sep.length = (l.map fun x => x.length + sep.length).sum := by
  intro l
  induction l with
  | nil => intro h; exact absurd rfl h
  | cons x l ih =>
    intro _
    cases l with
    | nil => simp [joinN]
    | cons y r =>
      have := ih (by simp)
      rw [joinN_two, List.map_cons, List.sum_cons, ← this]
      simp
      omega
theorem join_blank (x : List Int) : ∀ r : List (List Int), joinN [44, 32] (x :: r) = joinN [44] (x :: r.map fun y => 32 :: y) := by
  intro r
  simp only [joinN, List.flatMap_map]
  rfl
theorem spliced_words (l : List ByteArray) (hl : l ≠ []) (hw : ∀ s ∈ l, isWord s = true) (s : ByteArray) (hlen : s.size ≤ 254) (blank : Bool) (hs : ns s = joinN (if blank then [44, 32] else [44]) (l.map ns)) : impl_Spliced.f s = some (l, true) := by
  unfold impl_Spliced.f
  have hs0 : s.size ≠ 0 := by
    intro h0
    have h1 : ns s = [] := by apply List.eq_nil_of_length_eq_zero; rw [ns_length]; exact h0
    cases l with
    | nil => exact hl rfl
    | cons x r =>
      rw [h1] at hs
      have := (isWord_at (hw x (by simp))).1
      have h2 := congrArg List.length hs
      simp only [List.map_cons, joinN, List.length_append, List.length_nil, ns_length] at h2
      omega
  rw [if_pos (by omega), if_neg hs0]
  have main : ∀ segs : List (List Int), segs ≠ [] → (∀ x ∈ segs, (44 : Int) ∉ x) → ns s = joinN [44] segs → splTl (ns s) 0 0 = segs.map fun x => strOfNums (ltrim x) :=
    fun segs h1 h2 h3 => split_parts (ns s) (by rw [ns_length]; exact hlen) segs [] h1 h2 h3
  cases l with
  | nil => exact absurd rfl hl
  | cons x r =>
    have hx := hw x (by simp)
    have tailw : ∀ y ∈ r, isWord y = true := fun y hy => hw y (List.mem_cons_of_mem _ hy)
    cases blank with
    | false =>
      rw [main ((x :: r).map ns) (by simp) (fun z hz => by obtain ⟨y, hy, rfl⟩ := List.mem_map.1 hz; exact word44 y (hw y hy)) hs]
      have : ((x :: r).map ns).map (fun z => strOfNums (ltrim z)) = x :: r := by
        rw [List.map_map]
        conv => rhs; rw [← List.map_id (x :: r)]
        apply List.map_congr_left
        intro y hy
        simp only [Function.comp]
        rw [ltrim_word y (hw y hy), str_ns]
        rfl
      rw [this]
    | true =>
      rw [List.map_cons] at hs
      have hs2 : ns s = joinN [44] (ns x :: (r.map ns).map fun y => 32 :: y) := by rw [hs]; exact join_blank _ _
      rw [main (ns x :: (r.map ns).map fun y => 32 :: y) (by simp) (fun z hz => by
        rcases List.mem_cons.1 hz with rfl | hz
        · exact word44 x hx
        · obtain ⟨y, hy, rfl⟩ := List.mem_map.1 hz
          obtain ⟨u, hu, rfl⟩ := List.mem_map.1 hy
          intro hm
          rcases List.mem_cons.1 hm with h | h
          · exact absurd h (by decide)
          · exact word44 u (tailw u hu) h) hs2]
      have : ((r.map ns).map fun y => 32 :: y).map (fun z => strOfNums (ltrim z)) = r := by
        rw [List.map_map, List.map_map]
        conv => rhs; rw [← List.map_id r]
        apply List.map_congr_left
        intro y hy
        simp only [Function.comp]
        have e : ltrim (32 :: ns y) = ltrim (ns y) := by simp [ltrim]
        rw [e, ltrim_word y (tailw y hy), str_ns]
        rfl
      rw [List.map_cons, this, ltrim_word x hx, str_ns]
theorem FnSplicedJoin : laws_FnSplicedJoin.Pure := by
  intro l hl0
  refine Ev.rounds ?_
  simp only [laws_FnSplicedJoin.f]
  refine Ev.bind (fits6_ends l) ?_
  refine Ev.ite (fun hf => ?_) (fun _ => Ev.now _)
  obtain ⟨hlen, hsz⟩ := fits6_mem hf
  have hab : impl_Spliced.f (⟨#[97, 44, 32, 98]⟩ : ByteArray) = some ([(⟨#[97]⟩ : ByteArray), (⟨#[98]⟩ : ByteArray)], true) := by
    refine spliced_words _ (by simp) (by decide) _ (by decide) true (by decide)
  refine Ev.call hab (Ev.if_true rfl ?_)
  refine Ev.bind (sameTexts_ends _ _ (by decide)) ?_
  have ht : decide ([(⟨#[97]⟩ : ByteArray), (⟨#[98]⟩ : ByteArray)] = [(⟨#[97]⟩ : ByteArray), (⟨#[98]⟩ : ByteArray)]) = true := decide_eq_true rfl
  rw [ht]
  refine Ev.step (f := fun k => (laws_joined.f k l (⟨#[44]⟩ : ByteArray)).bind fun t233 => (if (l.length : Int) = 0 then (laws_FnSplicedJoin.j1 k l t233 true) else ((laws_words.f k l).bind fun t234 => (if t234 = true then (laws_FnSplicedJoin.j1 k l t233 (decide ((wrap64 ((t233.size : Int) + (l.length : Int))) > 240))) else (laws_FnSplicedJoin.j1 k l t233 true))))) (fun k => by simp only [laws_FnSplicedJoin.j0]; rw [if_neg (by simp)]) ?_
  obtain ⟨s, hs, hns⟩ := joined_endsC (⟨#[44]⟩ : ByteArray) l 2147483648 (by decide) (by omega) (fun s hs => by have := hsz s hs; show s.size + 1 ≤ _; omega) (by omega)
  refine Ev.bind hs ?_
  have out : ∀ s, Ev (fun k => laws_FnSplicedJoin.j1 k l s true) true := fun s => Ev.step (f := fun _ => some true) (fun k => by simp only [laws_FnSplicedJoin.j1]; rw [if_pos trivial]) (Ev.now _)
  refine Ev.ite (fun _ => out s) (fun hne => ?_)
  refine Ev.bind (words_ends l (by omega) (fun s hs => by have := hsz s hs; omega)) ?_
  refine Ev.ite (fun hw => ?_) (fun _ => out s)
  obtain ⟨hl20, hwm⟩ := areWords_mem hw
  have e44 : ns (⟨#[44]⟩ : ByteArray) = [44] := by decide
  have e4432 : ns (⟨#[44, 32]⟩ : ByteArray) = [44, 32] := by decide
  rw [e44] at hns
  have hlne : l ≠ [] := by rintro rfl; exact hne rfl
  have hlen1 := join_len [44] (l.map ns) (by simpa using hlne)
  rw [← hns, ns_length] at hlen1
  have hsum : ∀ (m : List ByteArray) (c : Nat), (∀ s ∈ m, s.size ≤ 40) → ((m.map ns).map fun x => x.length + c).sum ≤ m.length * (40 + c) := by
    intro m c
    induction m with
    | nil => intro _; simp
    | cons a m ih =>
      intro h
      have h1 := ih (fun s hs => h s (List.mem_cons_of_mem _ hs))
      have h2 := h a (by simp)
      simp only [List.map_cons, List.sum_cons, List.length_cons, ns_length]
      rw [Nat.add_mul]
      omega
  have hs1 := hsum l 1 (fun s hs => (hwm s hs).2)
  have hbig : s.size ≤ 900 := by
    have : ([44] : List Int).length = 1 := rfl
    rw [this] at hlen1
    omega
  have hwr : wrap64 ((s.size : Int) + (l.length : Int)) = (s.size : Int) + (l.length : Int) := by unfold wrap64; omega
  rw [hwr]
  by_cases hgt : (s.size : Int) + (l.length : Int) > 240
  · rw [decide_eq_true hgt]; exact out s
  rw [decide_eq_false hgt]
  refine Ev.step (f := fun k => (impl_Spliced.f s).bind fun bt235 => ((laws_joined.f k l (⟨#[44, 32]⟩ : ByteArray)).bind fun t239 => ((impl_Spliced.f t239).bind fun bt240 => (if bt235.2 = true then (if bt240.2 = true then ((laws_sameTexts.f k bt235.1 l).bind fun t244 => (if t244 = true then ((laws_sameTexts.f k bt240.1 l).bind fun t245 => (some t245)) else (some false))) else (some false)) else (some false))))) (fun k => by simp only [laws_FnSplicedJoin.j1]; rw [if_neg (by simp)]) ?_
  refine Ev.call (spliced_words l hlne (fun s hs => (hwm s hs).1) s (by omega) false hns) ?_
  obtain ⟨s2, hs2, hns2⟩ := joined_endsC (⟨#[44, 32]⟩ : ByteArray) l 2147483649 (by decide) (by omega) (fun s hs => by have := hsz s hs; show s.size + 2 ≤ _; omega) (by omega)
  rw [e4432] at hns2
  refine Ev.bind hs2 ?_
  have hlen2 := join_len [44, 32] (l.map ns) (by simpa using hlne)
  rw [← hns2, ns_length] at hlen2
  have hdiff : ∀ m : List ByteArray, ((m.map ns).map fun x => x.length + 2).sum = ((m.map ns).map fun x => x.length + 1).sum + m.length := by
    intro m
    induction m with
    | nil => rfl
    | cons a m ih => simp only [List.map_cons, List.sum_cons, List.length_cons, ih]; omega
  have hd := hdiff l
  have z1 : ([44] : List Int).length = 1 := rfl
  have z2 : ([44, 32] : List Int).length = 2 := rfl
  rw [z1] at hlen1
  rw [z2] at hlen2
  refine Ev.call (spliced_words l hlne (fun s hs => (hwm s hs).1) s2 (by omega) true hns2) ?_
  refine Ev.if_true rfl (Ev.if_true rfl ?_)
  refine Ev.bind (sameTexts_ends l l (by omega)) ?_
  rw [decide_eq_true (rfl : l = l)]
  refine Ev.if_true rfl ?_
  refine Ev.bind (sameTexts_ends l l (by omega)) ?_
  rw [decide_eq_true (rfl : l = l)]
  exact Ev.now _
end Go.Proofs.Ytdfeojkombmiaaa.Pure
