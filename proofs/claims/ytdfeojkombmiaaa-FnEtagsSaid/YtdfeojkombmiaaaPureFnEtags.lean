/- The law FnEtags answers true at every text, switch, list of texts and marks: etags match that are the same but for W/ ahead of them; one is stale to a header that has none that matches. No condition beyond the row's own. -/
import Derived.Test.YtdfeojkombmiaaaQA8
import Derived.Test.YtdfeojkombmiaaaLWord
import Derived.Test.YtdfeojkombmiaaaLFits
import Derived.Test.YtdfeojkombmiaaaLJoined
set_option linter.unusedVariables false
namespace Go.Proofs.Ytdfeojkombmiaaa.Pure
open Go.RowKit Go.Proofs.Ytdfeojkombmiaaa.QA Go.Proofs.YtdfeojkombmiaaaW.PrintWords Go.Proofs.YtdfeojkombmiaaaW.PrintLast Go.Proofs.Ytdfeojkombmiaaa.Base Go.Proofs.Ytdfeojkombmiaaa.Given

/-! ### the scan over tags with commas between -/
theorem go_plain (tag : List Int) (u : List Int) (hu : ∀ x ∈ u, x ≠ 32 ∧ x ≠ 44) : ∀ (seg rest : List Int), staleGo tag seg [] (u ++ rest) = staleGo tag (seg ++ u) [] rest := by
  induction u with
  | nil => intro seg rest; simp
  | cons c u ih =>
    intro seg rest
    have hc := hu c (by simp)
    rw [List.cons_append]
    conv => lhs; unfold staleGo
    rw [if_neg hc.1, if_neg hc.2, List.append_nil, ih (fun x hx => hu x (List.mem_cons_of_mem _ hx))]
    simp
theorem go_list (tag S : List Int) (hS : S = [44, 32] ∨ S = [44]) (T : List (List Int)) (hT : ∀ t ∈ T, ∀ x ∈ t, x ≠ 32 ∧ x ≠ 44) : ∀ t : List Int, (∀ x ∈ t, x ≠ 32 ∧ x ≠ 44) → staleGo tag [] [] (t ++ T.flatMap fun y => S ++ y) = (t :: T).all fun t => !etagM t tag := by
  induction T with
  | nil =>
    intro t ht
    rw [List.flatMap_nil, go_plain tag t ht, List.nil_append]
    unfold staleGo
    simp
  | cons t2 T ih =>
    intro t ht
    have h2 := ih (fun x hx => hT x (List.mem_cons_of_mem _ hx)) t2 (hT t2 (by simp))
    rw [List.flatMap_cons, go_plain tag t ht, List.nil_append, List.all_cons, ← h2]
    rcases hS with rfl | rfl
    · simp only [List.cons_append, List.nil_append]
      conv => lhs; unfold staleGo
      rw [if_neg (by decide), if_pos rfl]
      cases hm : etagM t tag
      · simp only [Bool.not_false, Bool.true_and, Bool.false_eq_true, if_false]
        conv => lhs; unfold staleGo
        rw [if_pos rfl, if_pos rfl]
      · simp
    · simp only [List.cons_append, List.nil_append]
      conv => lhs; unfold staleGo
      rw [if_neg (by decide), if_pos rfl]
      cases hm : etagM t tag <;> simp
/-! ### tags -/
/-- A tag: quoted, with W/ ahead or not. -/
def tg (weak : Bool) (s : List Int) : List Int := if weak then wk ++ ([34] ++ s ++ [34]) else [34] ++ s ++ [34]
theorem quote_inj (a b : List Int) : [34] ++ a ++ [34] = [34] ++ b ++ [34] ↔ a = b := by simp
theorem etagM_tg (u v : Bool) (a b : List Int) : etagM (tg u a) (tg v b) = decide (a = b) := by
  unfold etagM tg
  cases u <;> cases v <;> simp [wk]
theorem tg_plain (u : Bool) (s : List Int) (hs : ∀ x ∈ s, x ≠ 32 ∧ x ≠ 44) : ∀ x ∈ tg u s, x ≠ 32 ∧ x ≠ 44 := by
  intro x hx
  unfold tg at hx
  cases u
  · simp at hx
    rcases hx with rfl | h | rfl
    · decide
    · exact hs x h
    · decide
  · simp [wk] at hx
    rcases hx with rfl | rfl | rfl | h | rfl
    · decide
    · decide
    · decide
    · exact hs x h
    · decide
theorem em_is (s t : ByteArray) (hs : s.size ≤ 4611686018427387904) (ht : t.size ≤ 4611686018427387904) : impl_EtagMatch.f s t = some (etagM (ns s) (ns t)) := by
  unfold impl_EtagMatch.f fiberhelpers_ZzEtag.f
  rw [matchEtag_is s t hs ht]; rfl
theorem es_is (s t : ByteArray) (hs : s.size ≤ 4611686018427387904) (ht : t.size ≤ 4611686018427387904) : impl_EtagStale.f s t = some (staleGo (ns s) [] [] (ns t)) := by
  unfold impl_EtagStale.f fiberhelpers_ZzStale.f
  rw [if_pos ⟨hs, ht⟩]; rfl
/-- Without W/ ahead. -/
def bare (l : List Int) : List Int := if l.take 2 = wk then l.drop 2 else l
theorem bare_ends (s : ByteArray) : ∃ r : ByteArray, laws_bareTag.f s = some r ∧ ns r = bare (ns s) := by
  have hb : laws_begins.f s (⟨#[87, 47]⟩ : ByteArray) = some (decide ((ns s).take 2 = wk)) := by
    unfold laws_begins.f
    have e2 : ((⟨#[87, 47]⟩ : ByteArray).size : Int) = 2 := rfl
    have ew : ns (⟨#[87, 47]⟩ : ByteArray) = wk := by decide
    rw [e2]
    by_cases h : (2 : Int) ≤ s.size
    · rw [if_pos h, if_pos (by decide)]
      congr 1
      rw [Bool.eq_iff_iff, beq_iff_eq, decide_eq_true_eq, toList_ns, ns_extract, ew]
      rfl
    · rw [if_neg h]
      congr 1
      rw [eq_comm, decide_eq_false]
      intro e
      have := congrArg List.length e
      rw [List.length_take, ns_length] at this
      simp [wk] at this
      omega
  unfold laws_bareTag.f
  rw [hb]
  simp only [Option.bind_some]
  by_cases h : (ns s).take 2 = wk
  · have h2 : (2 : Int) ≤ s.size := by
      have := congrArg List.length h
      rw [List.length_take, ns_length] at this
      simp [wk] at this
      omega
    rw [if_pos (decide_eq_true h), if_pos h2]
    refine ⟨_, rfl, ?_⟩
    unfold bare
    rw [if_pos h, ns_extract, List.take_of_length_le (by rw [List.length_drop, ns_length]; omega)]
  · rw [if_neg (by simp [h])]
    exact ⟨s, rfl, by unfold bare; rw [if_neg h]⟩
theorem bare_tg (u : Bool) (s : List Int) : bare (tg u s) = [34] ++ s ++ [34] := by
  unfold bare tg
  cases u
  · rw [if_neg]
    · rfl
    · simp [wk]
  · rw [if_pos]
    · simp [wk]
    · simp [wk]
def q : ByteArray := ⟨#[34]⟩
def wkB : ByteArray := ⟨#[87, 47]⟩
theorem ns_q : ns q = [34] := by decide
theorem ns_wk : ns wkB = wk := by decide
theorem word_plain (s : ByteArray) (h : isWord s = true) : ∀ x ∈ ns s, x ≠ 32 ∧ x ≠ 44 := by
  unfold isWord at h
  simp only [Bool.and_eq_true, List.all_eq_true] at h
  intro x hx
  have := wB_ne (h.1 x hx)
  exact ⟨this.1, this.2.2.1⟩
theorem FnEtags : laws_FnEtags.Pure := by
  intro e weak l marks he hl hm1 _ hmw
  have hml : marks.length ≤ 9223372036854775806 := by simp only [maxLen] at hm1; omega
  refine Ev.rounds ?_
  simp only [laws_FnEtags.f]
  have s0 : Ev (fun k => laws_FnEtags.j0 k e weak l marks true) true := Ev.step (f := fun _ => some true) (fun k => rfl) (Ev.now _)
  have s2t : Ev (fun k => laws_FnEtags.j2 k e weak l marks true) true := Ev.step (f := fun _ => some true) (fun k => rfl) (Ev.now _)
  -- the loop
  have loop : isWord e = true → e.size ≤ 40 → (∀ s ∈ l, isWord s = true ∧ s.size ≤ 40) → l.length ≤ 20 → l ≠ [] → ∀ (tag : ByteArray), ns tag = tg weak (ns e) → tag.size ≤ 50 →
      ∀ (d i : Nat) (acc : List ByteArray) (ws : List Bool), i + d = l.length → ws.length = i → acc.map ns = (ws.zip (l.take i)).map (fun p => tg p.1 (ns p.2)) →
      Ev (fun k => laws_FnEtags.l0 k e marks tag acc ((l.take i).all fun s => decide (s ≠ e)) l (l.length : Int) (i : Int)) true := by
    intro we se hw hlen hne tag htag htsz d
    induction d with
    | zero =>
      intro i acc ws hi hws hacc
      have hil : l.take i = l := List.take_of_length_le (by omega)
      rw [hil] at hacc ⊢
      refine Ev.step (f := _) (fun k => by simp only [laws_FnEtags.l0]; rw [if_neg (by omega)]) ?_
      have hal : acc.length = l.length := by
        have := congrArg List.length hacc
        simp at this
        omega
      have hasz : ∀ s ∈ acc, s.size ≤ 50 := by
        intro s hs
        have h1 : ns s ∈ acc.map ns := List.mem_map_of_mem hs
        rw [hacc] at h1
        obtain ⟨p, hp, h2⟩ := List.mem_map.1 h1
        have h3 := (hw p.2 (List.of_mem_zip hp).2).2
        rw [← ns_length, ← h2]
        unfold tg
        cases p.1 <;> simp [wk, ns_length] <;> omega
      have fin : ∀ (sep : ByteArray) (S : List Int), ns sep = S → (S = [44, 32] ∨ S = [44]) → sep.size ≤ 50 → ∃ r, Ev (fun k => laws_joined.f k acc sep) r ∧ impl_EtagStale.f tag r = some (l.all fun s => decide (s ≠ e)) := by
        intro sep S hS hS1 hsep
        obtain ⟨r, hr, hn⟩ := joined_ends sep acc 50 (by decide) hsep (by omega) hasz (by omega)
        refine ⟨r, hr, ?_⟩
        have hS2 : S.length ≤ 2 := by rcases hS1 with rfl | rfl <;> decide
        have hrsz : r.size ≤ 4611686018427387904 := by
          have hlen : ∀ a : List ByteArray, (∀ s ∈ a, s.size ≤ 50) → ((a.map ns).flatMap fun y => S ++ y).length ≤ a.length * 52 := by
            intro a
            induction a with
            | nil => intro _; simp
            | cons x a ih =>
              intro hs
              have h1 := ih (fun s hs' => hs s (List.mem_cons_of_mem _ hs'))
              have h2 := hs x (by simp)
              simp only [List.map_cons, List.flatMap_cons, List.length_append, List.length_cons, ns_length]
              omega
          rw [← ns_length, hn, hS]
          cases acc with
          | nil => simp [joinN]
          | cons a acc =>
            have h1 := hlen acc (fun s hs' => hasz s (List.mem_cons_of_mem _ hs'))
            have h2 := hasz a (by simp)
            simp only [List.map_cons, joinN, List.length_append, ns_length]
            simp only [List.length_cons] at hal
            omega
        rw [es_is tag r (by omega) hrsz, hn, hS, htag, hacc]
        congr 1
        have hz : ∀ (l : List ByteArray) (ws : List Bool), ws.length = l.length → (∀ s ∈ l, isWord s = true ∧ s.size ≤ 40) → l ≠ [] → staleGo (tg weak (ns e)) [] [] (joinN S ((ws.zip l).map fun p => tg p.1 (ns p.2))) = l.all fun s => decide (s ≠ e) := by
          intro l ws h1 h2 h3
          cases l with
          | nil => exact absurd rfl h3
          | cons s l =>
            cases ws with
            | nil => simp at h1
            | cons b ws =>
              simp only [List.zip_cons_cons, List.map_cons, joinN]
              rw [go_list _ S hS1 _ ?_ _ (tg_plain b _ (word_plain s (h2 s (by simp)).1))]
              · simp only [List.all_cons, etagM_tg, List.all_map, Function.comp_def]
                have hinj : ∀ x : ByteArray, (!decide (ns x = ns e)) = decide (x ≠ e) := fun x => by
                  rw [← decide_not]
                  exact decide_eq_decide.2 ⟨fun h h2 => h (by rw [h2]), fun h h2 => h (ns_inj h2)⟩
                rw [hinj]
                congr 1
                simp only [List.length_cons, Nat.add_right_cancel_iff] at h1
                clear h2 h3 hS1
                induction ws generalizing l with
                | nil =>
                  cases l with
                  | nil => rfl
                  | cons _ _ => simp at h1
                | cons b ws ih =>
                  cases l with
                  | nil => simp at h1
                  | cons s2 l =>
                    simp only [List.zip_cons_cons, List.all_cons, hinj]
                    congr 1
                    have h5 := ih l (by simpa using h1)
                    simp only [hinj] at h5
                    exact h5
              · intro t ht
                obtain ⟨p, hp, rfl⟩ := List.mem_map.1 ht
                exact tg_plain _ _ (word_plain p.2 (h2 p.2 (List.mem_cons_of_mem _ (List.of_mem_zip hp).2)).1)
        exact hz l ws (by omega) hw hne
      obtain ⟨r1, e1, n1⟩ := fin (⟨#[44, 32]⟩ : ByteArray) [44, 32] (by decide) (.inl rfl) (by decide)
      obtain ⟨r2, e2, n2⟩ := fin (⟨#[44]⟩ : ByteArray) [44] (by decide) (.inr rfl) (by decide)
      exact Ev.bind e1 (Ev.call n1 (Ev.if_true (by simp) (Ev.bind e2 (Ev.call n2 (Ev.val (by simp))))))
    | succ d ih =>
      intro i acc ws hi hws hacc
      have hlt : i < l.length := by omega
      have hx := hw _ (List.getElem_mem hlt)
      have hal : acc.length = i := by
        have := congrArg List.length hacc
        simp at this
        omega
      have j6 : ∀ (b : Bool) (t : ByteArray), ns t = tg b (ns l[i]) → t.size ≤ 50 → Ev (fun k => laws_FnEtags.j6 k e marks tag acc ((l.take i).all fun s => decide (s ≠ e)) l[i] t l (l.length : Int) (i : Int)) true := by
        intro b t ht htz
        refine Ev.step (f := _) (fun k => by simp only [laws_FnEtags.j6]; rw [wrap_add (by omega) (by omega)]) ?_
        obtain ⟨b1, hb1, hn1⟩ := bare_ends t
        obtain ⟨b2, hb2, hn2⟩ := bare_ends tag
        refine Ev.if_true (by omega) (Ev.call rfl (Ev.call (em_is t tag (by omega) (by omega)) (Ev.call hb1 (Ev.call hb2 (Ev.if_false ?_ ?_)))))
        · rw [ht, htag, etagM_tg]
          have hbb : (b1.toList == b2.toList) = decide (ns l[i] = ns e) := by
            rw [Bool.eq_iff_iff, beq_iff_eq, decide_eq_true_eq, toList_ns, hn1, hn2, ht, htag, bare_tg, bare_tg, quote_inj]
          rw [hbb]; simp
        · have hnext := ih (i + 1) (acc ++ [t]) (ws ++ [b]) (by omega) (by simp [hws]) (by
            rw [List.map_append, hacc, List.take_succ_eq_append_getElem hlt, List.zip_append (by simp; omega), List.map_append]
            simp [ht])
          have hall : ((l.take (i + 1)).all fun s => decide (s ≠ e)) = (((l.take i).all fun s => decide (s ≠ e)) && decide (l[i] ≠ e)) := by
            rw [List.take_succ_eq_append_getElem hlt, List.all_append]; simp
          rw [hall] at hnext
          have hcmp : (l[i].toList != e.toList) = decide (l[i] ≠ e) := by
            rw [Bool.eq_iff_iff, bne_iff_ne, decide_eq_true_eq]
            exact ⟨fun h h2 => h (by rw [h2]), fun h h2 => h ((toList_eq_iff _ _).1 h2)⟩
          refine Ev.ite (fun h => ?_) (fun h => ?_)
          · rw [h, Bool.true_and] at hnext
            rw [hcmp]; exact hnext
          · simp only [Bool.not_eq_true] at h
            rw [h, Bool.false_and] at hnext
            exact hnext
      have z1 : ((⟨#[34]⟩ : ByteArray) ++ l[i]).size = 1 + (l[i]).size := by rw [ByteArray.size_append]; rfl
      have z2 : (((⟨#[34]⟩ : ByteArray) ++ l[i]) ++ (⟨#[34]⟩ : ByteArray)).size = 2 + (l[i]).size := by rw [ByteArray.size_append, z1]; show 1 + (l[i]).size + 1 = _; omega
      have nt : ns (((⟨#[34]⟩ : ByteArray) ++ l[i]) ++ (⟨#[34]⟩ : ByteArray)) = tg false (ns l[i]) := by
        show ns ((q ++ l[i]) ++ q) = _
        rw [ns_append, ns_append, ns_q]; rfl
      have nt2 : ns ((⟨#[87, 47]⟩ : ByteArray) ++ (((⟨#[34]⟩ : ByteArray) ++ l[i]) ++ (⟨#[34]⟩ : ByteArray))) = tg true (ns l[i]) := by
        rw [ns_append, nt]
        show ns wkB ++ _ = _
        rw [ns_wk]; rfl
      have j5 : ∀ c : Bool, Ev (fun k => laws_FnEtags.j5 k e marks tag acc ((l.take i).all fun s => decide (s ≠ e)) l[i] (((⟨#[34]⟩ : ByteArray) ++ l[i]) ++ (⟨#[34]⟩ : ByteArray)) l (l.length : Int) (i : Int) c) true := by
        intro c
        refine Ev.step (f := _) (fun k => by simp only [laws_FnEtags.j5]; exact rfl) ?_
        refine Ev.ite (fun _ => Ev.if_true (by omega) (j6 true _ nt2 ?_)) (fun _ => j6 false _ nt (by omega))
        rw [ByteArray.size_append, z2]
        show 2 + (2 + (l[i]).size) ≤ 50
        omega
      refine Ev.step (f := _) (fun k => by
        simp only [laws_FnEtags.l0]
        rw [if_pos (by omega), if_pos (by omega), if_pos (by omega), rdOf_nat _ _ _ hlt, if_pos (by omega), if_pos (by omega)]) ?_
      exact Ev.ite (fun _ => j5 _) (fun _ => j5 _)
  have s2 : isWord e = true → e.size ≤ 40 → (∀ s ∈ l, isWord s = true ∧ s.size ≤ 40) → l.length ≤ 20 → l ≠ [] → Ev (fun k => laws_FnEtags.j2 k e weak l marks false) true := by
    intro we se hw hlen hne
    have z1 : ((⟨#[34]⟩ : ByteArray) ++ e).size = 1 + e.size := by rw [ByteArray.size_append]; rfl
    have z2 : (((⟨#[34]⟩ : ByteArray) ++ e) ++ (⟨#[34]⟩ : ByteArray)).size = 2 + e.size := by rw [ByteArray.size_append, z1]; show 1 + e.size + 1 = _; omega
    have nt : ns (((⟨#[34]⟩ : ByteArray) ++ e) ++ (⟨#[34]⟩ : ByteArray)) = tg false (ns e) := by
      show ns ((q ++ e) ++ q) = _
      rw [ns_append, ns_append, ns_q]; rfl
    have nt2 : ns ((⟨#[87, 47]⟩ : ByteArray) ++ (((⟨#[34]⟩ : ByteArray) ++ e) ++ (⟨#[34]⟩ : ByteArray))) = tg true (ns e) := by
      rw [ns_append, nt]
      show ns wkB ++ _ = _
      rw [ns_wk]; rfl
    have j3 : ∀ tag : ByteArray, ns tag = tg weak (ns e) → tag.size ≤ 50 → Ev (fun k => laws_FnEtags.j3 k e l marks tag) true := by
      intro tag h1 h2
      refine Ev.step (f := fun k => laws_FnEtags.l0 k e marks tag ([] : List ByteArray) true l (l.length : Int) 0) (fun k => rfl) ?_
      exact loop we se hw hlen hne tag h1 h2 l.length 0 [] [] (by omega) rfl rfl
    refine Ev.step (f := _) (fun k => by simp only [laws_FnEtags.j2]; rw [if_neg (by simp)]) ?_
    refine Ev.if_true (by omega) (Ev.if_true (by omega) (Ev.ite (fun hwk => Ev.if_true (by omega) (j3 _ (by rw [hwk]; exact nt2) ?_)) (fun hwk => j3 _ ?_ (by omega))))
    · rw [ByteArray.size_append, z2]
      show 2 + (2 + e.size) ≤ 50
      omega
    · simp only [Bool.not_eq_true] at hwk
      rw [hwk]; exact nt
  have s1 : Ev (fun k => laws_FnEtags.j1 k e weak l marks false) true → True := fun _ => trivial
  have s1' : fits6 l = true → Ev (fun k => laws_FnEtags.j1 k e weak l marks false) true := by
    intro hf
    have hfm := fits6_mem hf
    refine Ev.step (f := _) (fun k => by simp only [laws_FnEtags.j1]; rw [if_neg (by simp)]) ?_
    refine Ev.bind (words_ends [e] (by simp) (by simp; omega)) (Ev.ite (fun hw => ?_) (fun _ => s2t))
    have we := (areWords_mem hw).2 e (by simp)
    refine Ev.ite (fun _ => s2t) (fun hne => Ev.bind (words_ends l (by omega) (fun s hs => by have := hfm.2 s hs; omega)) ?_)
    cases hwl : areWords l
    · exact s2t
    · have hm := areWords_mem hwl
      exact s2 we.1 we.2 hm.2 hm.1 (fun h => hne (by rw [h]; rfl))
  have s0' : fits6 l = true → Ev (fun k => laws_FnEtags.j0 k e weak l marks false) true := by
    intro hf
    refine Ev.step (f := _) (fun k => by simp only [laws_FnEtags.j0]; rw [if_neg (by simp)]) ?_
    refine Ev.call (em_is _ _ (by decide) (by decide)) (Ev.if_true (by decide +kernel) ?_)
    refine Ev.call (es_is _ _ (by decide) (by decide)) (Ev.if_true (by decide +kernel) ?_)
    refine Ev.call (es_is _ _ (by decide) (by decide)) ?_
    rw [show staleGo (ns (⟨#[34, 97, 34]⟩ : ByteArray)) [] [] (ns (⟨#[34, 98, 34, 44, 32, 87, 47, 34, 97, 34]⟩ : ByteArray)) = false from by decide +kernel]
    exact s1' hf
  refine Ev.ite (fun _ => s0) (fun _ => Ev.bind (fits6_ends l) (Ev.ite (fun hf => ?_) (fun _ => s0)))
  cases decide ((marks.length : Int) > 2147483647)
  · exact s0' hf
  · exact s0
end Go.Proofs.Ytdfeojkombmiaaa.Pure
