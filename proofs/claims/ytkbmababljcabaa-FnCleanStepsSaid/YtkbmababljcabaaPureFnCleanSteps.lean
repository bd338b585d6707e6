/- The law FnCleanSteps answers true at every list of words: a path of words stays as it is; a word and a step back, a step onto itself, or two slashes, anywhere ahead of one of them, change nothing. No condition beyond the row's own. -/
import Derived.Test.YtkbmababljcabaaQA4
import Derived.Test.YtkbmababljcabaaLWord
import Derived.Test.YtkbmababljcabaaLFits
import Derived.Test.YtkbmababljcabaaGCleanD
set_option linter.unusedVariables false
set_option linter.unusedSimpArgs false
namespace Go.Proofs.Ytkbmababljcabaa.Pure
open Go.RowKit Go.Proofs.Ytkbmababljcabaa.QA Go.Proofs.YtkbmababljcabaaW.PrintWords Go.Proofs.YtkbmababljcabaaW.PrintLast Go.Proofs.Ytkbmababljcabaa.Base Go.Proofs.Ytkbmababljcabaa.Given Go.Proofs.Ytkbmababljcabaa.Cln

theorem clean_is (s t : ByteArray) (h : s.size ≤ 35184372088832) (h1 : 1 < (ns s).length) (h0 : (ns s).headD 0 = 47) (e : cleanP (ns s) = ns t) : impl_CleanPath.f s = some (t, true) := by
  unfold impl_CleanPath.f
  rw [if_pos ⟨h, by rw [← ns_length]; exact h1, h0⟩, e]
  congr 2
  exact ns_inj (ns_strOfNums (fun x hx => ns_range t x hx))
/-- What is put ahead of the word at its place. -/
def insOf (more : ByteArray) (how : Int) : ByteArray := if how.tmod 3 = 0 then ((⟨#[47]⟩ : ByteArray) ++ more) ++ (⟨#[47, 46, 46]⟩ : ByteArray) else if how.tmod 3 = 1 then (⟨#[47, 46]⟩ : ByteArray) else (⟨#[47]⟩ : ByteArray)
theorem ins_ok (more : ByteArray) (how : Int) (hm : isWord more = true) : ns (insOf more how) = [47] ∨ ns (insOf more how) = [47, 46] ∨ ∃ m, (m ≠ [] ∧ ∀ c ∈ m, wB c = true) ∧ ns (insOf more how) = 47 :: (m ++ [47, 46, 46]) := by
  unfold insOf
  split
  · right; right
    unfold isWord at hm
    simp only [Bool.and_eq_true, Bool.not_eq_true', List.all_eq_true] at hm
    refine ⟨ns more, ⟨fun e => by rw [e] at hm; simp at hm, hm.1⟩, ?_⟩
    rw [ns_append, ns_append]
    rfl
  · split
    · right; left; rfl
    · left; rfl
theorem okW_of (l : List ByteArray) (h : ∀ s ∈ l, isWord s = true) : okW (l.map ns) := by
  intro x hx
  obtain ⟨s, hs, rfl⟩ := List.mem_map.1 hx
  have hm := h s hs
  unfold isWord at hm
  simp only [Bool.and_eq_true, Bool.not_eq_true', List.all_eq_true] at hm
  exact ⟨fun e => by rw [e] at hm; simp at hm, hm.1⟩
theorem law_end (l : List ByteArray) (a b : ByteArray) (at_ : Nat) (more : ByteArray) (how : Int) (hne : l ≠ []) (hw : ∀ s ∈ l, isWord s = true) (hm : isWord more = true) (hat : at_ < l.length) (ha : ns a = joinS (l.map ns)) (hb : ns b = joinS ((l.take at_).map ns) ++ (ns (insOf more how) ++ joinS ((l.drop at_).map ns))) (sa : a.size ≤ 100000) (sb : b.size ≤ 100000) :
    impl_CleanPath.f a = some (a, true) ∧ impl_CleanPath.f b = some (a, true) ∧ impl_CleanPath.f (a ++ (⟨#[47]⟩ : ByteArray)) = some (a ++ (⟨#[47]⟩ : ByteArray), true) := by
  have hok := okW_of l hw
  have hne2 : l.map ns ≠ [] := by simpa using hne
  have hl1 : 1 < (joinS (l.map ns)).length := joinS_long hne2 hok
  have head : ∀ t, (joinS (l.map ns) ++ t).headD 0 = 47 := fun t => by
    cases l with
    | nil => exact absurd rfl hne
    | cons x l => rfl
  refine ⟨clean_is a a (by omega) (by rw [ha]; exact hl1) (by rw [ha]; have := head []; rwa [List.append_nil] at this) (by rw [ha]; exact clean_words _ hne2 hok), clean_is b a (by omega) ?len ?_ ?_, clean_is _ _ (by rw [ByteArray.size_append]; show a.size + 1 ≤ _; omega) (by rw [ns_append, ha, List.length_append]; omega) (by rw [ns_append, ha]; exact head _) ?_⟩
  case len =>
    have hd : (l.drop at_).map ns ≠ [] := by
      intro e
      have := congrArg List.length e
      rw [List.length_map, List.length_drop] at this
      simp at this
      omega
    have := joinS_long hd (okW_of _ (fun s hs => hw s (List.mem_of_mem_drop hs)))
    rw [hb, List.length_append, List.length_append]
    omega
  · rw [hb]
    rcases ins_ok more how hm with e | e | ⟨m, _, e⟩ <;> rw [e] <;> cases h : l.take at_ <;> rfl
  · obtain ⟨x, zs, hd⟩ : ∃ x zs, l.drop at_ = x :: zs := by
      cases h : l.drop at_ with
      | nil => have := congrArg List.length h; rw [List.length_drop] at this; simp at this; omega
      | cons x zs => exact ⟨x, zs, rfl⟩
    have hy : okW ((l.take at_).map ns) := okW_of _ (fun s hs => hw s (List.mem_of_mem_take hs))
    have hz : okW ((l.drop at_).map ns) := okW_of _ (fun s hs => hw s (List.mem_of_mem_drop hs))
    rw [hb, ha]
    have e : l.map ns = (l.take at_).map ns ++ (l.drop at_).map ns := by rw [← List.map_append, List.take_append_drop]
    rw [hd, List.map_cons] at hz e
    rw [hd, List.map_cons, clean_ins _ _ _ _ hy hz (ins_ok more how hm), e]
  · rw [ns_append, ha]
    exact clean_slash _ hne2 hok
theorem rd_ins (more : ByteArray) (how : Int) (h0 : 0 ≤ how) : rdOf ByteArray.empty [((⟨#[47]⟩ : ByteArray) ++ more) ++ (⟨#[47, 46, 46]⟩ : ByteArray), (⟨#[47, 46]⟩ : ByteArray), (⟨#[47]⟩ : ByteArray)] (how.tmod 3) = insOf more how ∧ 0 ≤ how.tmod 3 ∧ how.tmod 3 < 3 := by
  have h1 : how.tmod 3 = how % 3 := Int.tmod_eq_emod_of_nonneg h0
  have h2 : how.tmod 3 = 0 ∨ how.tmod 3 = 1 ∨ how.tmod 3 = 2 := by omega
  unfold insOf
  rcases h2 with e | e | e <;> rw [e] <;> exact ⟨rfl, by decide, by decide⟩
theorem ins_size (more : ByteArray) (how : Int) (h : more.size ≤ 40) : (insOf more how).size ≤ 44 := by
  unfold insOf
  split
  · rw [ByteArray.size_append, ByteArray.size_append]; show 1 + more.size + 3 ≤ 44; omega
  · split <;> decide
theorem law_l0 (l : List ByteArray) (at_ : Nat) (more : ByteArray) (how : Int) (hl : l.length ≤ 20) (hne : l ≠ []) (hw : ∀ s ∈ l, isWord s = true ∧ s.size ≤ 40) (hm : isWord more = true) (hms : more.size ≤ 40) (hat : at_ < l.length) (h0 : 0 ≤ how) (d : Nat) : ∀ (i : Nat) (a b : ByteArray), i + d = l.length → ns a = joinS ((l.take i).map ns) →
    ns b = (if i ≤ at_ then joinS ((l.take i).map ns) else joinS ((l.take at_).map ns) ++ (ns (insOf more how) ++ joinS (((l.drop at_).take (i - at_)).map ns))) → a.size ≤ 41 * i → b.size ≤ 100 * i + 100 →
    Ev (fun k => laws_FnCleanSteps.l0 k (at_ : Int) more how a b l (l.length : Int) (i : Int)) true := by
  induction d with
  | zero =>
    intro i a b hi ha hb sa sb
    have hil : i = l.length := by omega
    subst hil
    rw [List.take_length] at ha
    rw [if_neg (by omega), show (l.drop at_).take (l.length - at_) = l.drop at_ from List.take_of_length_le (by rw [List.length_drop]; exact Nat.le_refl _)] at hb
    obtain ⟨r1, r2, r3⟩ := law_end l a b at_ more how hne (fun s hs => (hw s hs).1) hm hat ha hb (by omega) (by omega)
    refine Ev.step (f := fun _ => some true) (fun k => ?_) (Ev.now _)
    simp only [laws_FnCleanSteps.l0]
    rw [if_neg (by omega), r1, Option.bind_some, r2, Option.bind_some, if_pos (by omega), r3, Option.bind_some]
    simp
  | succ d ih =>
    intro i a b hi ha hb sa sb
    have hlt : i < l.length := by omega
    have hx := hw l[i] (List.getElem_mem hlt)
    have hrd : rdOf ByteArray.empty l (i : Int) = l[i] := rdOf_nat _ _ _ hlt
    have sx : ((⟨#[47]⟩ : ByteArray) ++ l[i]).size = 1 + (l[i]).size := ByteArray.size_append
    have nx : ns ((⟨#[47]⟩ : ByteArray) ++ l[i]) = joinS [ns l[i]] := by rw [ns_append]; simp [joinS]; rfl
    have e1 : (l.take (i + 1)).map ns = (l.take i).map ns ++ [ns l[i]] := by rw [List.take_succ_eq_append_getElem hlt, List.map_append]; rfl
    have ha' : ns (a ++ ((⟨#[47]⟩ : ByteArray) ++ l[i])) = joinS ((l.take (i + 1)).map ns) := by rw [ns_append, ha, nx, e1, joinS_append]
    have ra := rd_ins more how h0
    have si := ins_size more how hms
    by_cases hia : i = at_
    · have hb' : ns ((b ++ insOf more how) ++ ((⟨#[47]⟩ : ByteArray) ++ l[i])) = (if i + 1 ≤ at_ then joinS ((l.take (i + 1)).map ns) else joinS ((l.take at_).map ns) ++ (ns (insOf more how) ++ joinS (((l.drop at_).take (i + 1 - at_)).map ns))) := by
        rw [if_neg (by omega), ns_append, ns_append, hb, if_pos (by omega), nx]
        subst hia
        have e3 : (l.drop i).take 1 = [l[i]] := by rw [List.drop_eq_getElem_cons hlt]; rfl
        rw [show i + 1 - i = 1 by omega, e3]
        simp [joinS]
      refine Ev.step (f := fun k => laws_FnCleanSteps.l0 k (at_ : Int) more how (a ++ ((⟨#[47]⟩ : ByteArray) ++ l[i])) ((b ++ insOf more how) ++ ((⟨#[47]⟩ : ByteArray) ++ l[i])) l (l.length : Int) ((i + 1 : Nat) : Int)) (fun k => ?_) (ih (i + 1) _ _ (by omega) ha' hb' (by rw [ByteArray.size_append, sx]; omega) (by rw [ByteArray.size_append, ByteArray.size_append, sx]; omega))
      simp only [laws_FnCleanSteps.l0]
      rw [if_pos (by omega), if_pos (by omega), if_pos (by omega), if_pos (by omega), if_pos (by omega), if_pos (by rw [ByteArray.size_append]; show 1 + more.size + 3 ≤ _; omega), Option.bind_some, if_pos ra.2.1, if_pos (by show how.tmod 3 < 3; exact ra.2.2), ra.1, hrd, if_pos (by first | omega | (rw [sx]; omega) | (rw [ByteArray.size_append, sx]; omega)), if_pos (by first | omega | (rw [sx]; omega) | (rw [ByteArray.size_append, sx]; omega)), if_pos (by first | omega | (rw [sx]; omega) | (rw [ByteArray.size_append, sx]; omega)), if_pos (by first | omega | (rw [sx]; omega) | (rw [ByteArray.size_append, sx]; omega)), wrap_add (by omega) (by omega)]
      rfl
    · have hb' : ns (b ++ ((⟨#[47]⟩ : ByteArray) ++ l[i])) = (if i + 1 ≤ at_ then joinS ((l.take (i + 1)).map ns) else joinS ((l.take at_).map ns) ++ (ns (insOf more how) ++ joinS (((l.drop at_).take (i + 1 - at_)).map ns))) := by
        rw [ns_append, hb, nx]
        by_cases h1 : i + 1 ≤ at_
        · rw [if_pos (by omega), if_pos h1, e1, joinS_append]
        · have e2 : (l.drop at_).take (i + 1 - at_) = (l.drop at_).take (i - at_) ++ [l[i]] := by
            have hlt2 : i - at_ < (l.drop at_).length := by rw [List.length_drop]; omega
            rw [show i + 1 - at_ = (i - at_) + 1 by omega, List.take_succ_eq_append_getElem hlt2]
            congr 2
            rw [List.getElem_drop]
            congr 1
            omega
          rw [if_neg (by omega), if_neg h1, e2, List.map_append, joinS_append]
          simp [List.append_assoc]
      refine Ev.step (f := fun k => laws_FnCleanSteps.l0 k (at_ : Int) more how (a ++ ((⟨#[47]⟩ : ByteArray) ++ l[i])) (b ++ ((⟨#[47]⟩ : ByteArray) ++ l[i])) l (l.length : Int) ((i + 1 : Nat) : Int)) (fun k => ?_) (ih (i + 1) _ _ (by omega) ha' hb' (by rw [ByteArray.size_append, sx]; omega) (by rw [ByteArray.size_append, sx]; omega))
      simp only [laws_FnCleanSteps.l0]
      rw [if_pos (by omega), if_pos (by omega), if_pos (by omega), if_neg (by omega), hrd, if_pos (by omega), if_pos (by rw [sx]; omega), if_pos (by rw [sx]; omega), wrap_add (by omega) (by omega)]
      rfl
theorem FnCleanSteps : laws_FnCleanSteps.Pure := by
  intro l at1 more how hl wf1 hmo wf3
  obtain ⟨h30, h31⟩ := wf_u8 wf3
  refine Ev.rounds ?_
  unfold laws_FnCleanSteps.f
  have s0t : Ev (fun k => laws_FnCleanSteps.j0 k l at1 more how true) true := Ev.step (f := fun _ => some true) (fun k => rfl) (Ev.now _)
  have s2t : Ev (fun k => laws_FnCleanSteps.j2 k l at1 more how true) true := Ev.step (f := fun _ => some true) (fun k => rfl) (Ev.now _)
  refine Ev.bind (fits6_ends l) (Ev.ite (fun hf => ?_) (fun _ => s0t))
  have hfit := fits6_mem hf
  by_cases hms : (more.size : Int) > 2147483647
  · rw [decide_eq_true hms]; exact s0t
  rw [decide_eq_false hms]
  have c0 : impl_CleanPath.f (⟨#[47, 97, 47, 46, 46, 47, 98]⟩ : ByteArray) = some (⟨#[47, 98]⟩, true) := clean_is _ _ (by decide) (by decide) (by decide) (by decide +kernel)
  refine Ev.step (f := fun k => laws_FnCleanSteps.j1 k l at1 more how false) (fun k => ?_) ?_
  · simp only [laws_FnCleanSteps.j0, Bool.false_eq_true, if_false]
    rw [c0, Option.bind_some, if_pos rfl]
    rw [show (((⟨#[47, 98]⟩ : ByteArray), true).1.toList != ([47, 98] : List UInt8)) = false from by rw [Lib.toList_data]; rfl]
  refine Ev.step (f := _) (fun k => by simp only [laws_FnCleanSteps.j1]; rw [if_neg (by simp)]) ?_
  refine Ev.ite (fun _ => s2t) (fun hne => ?_)
  refine Ev.bind (words_ends l (by omega) (fun s hs => by have := hfit.2 s hs; omega)) (Ev.ite (fun hw => ?_) (fun _ => s2t))
  refine Ev.bind (words_ends [more] (by simp) (fun s hs => by rw [List.mem_singleton.1 hs]; omega)) (Ev.ite (fun hm => ?_) (fun _ => s2t))
  refine Ev.ite (fun _ => s2t) (fun hn => ?_)
  by_cases hge : at1 ≥ (l.length : Int)
  · rw [decide_eq_true hge]; exact s2t
  rw [decide_eq_false hge]
  obtain ⟨at_, rfl⟩ := Int.eq_ofNat_of_zero_le (by omega : 0 ≤ at1)
  have hw2 := areWords_mem hw
  have hm2 := (areWords_mem hm).2 more (by simp)
  refine Ev.step (f := fun k => laws_FnCleanSteps.l0 k (at_ : Int) more how (⟨#[]⟩ : ByteArray) (⟨#[]⟩ : ByteArray) l (l.length : Int) 0) (fun k => by simp only [laws_FnCleanSteps.j2]; rw [if_neg (by simp)]) ?_
  exact law_l0 l at_ more how hw2.1 (fun e => hne (by rw [e]; rfl)) hw2.2 hm2.1 hm2.2 (by omega) h30 l.length 0 _ _ (by omega) rfl (by rw [if_pos (by omega)]; rfl) (by decide) (by decide)
end Go.Proofs.Ytkbmababljcabaa.Pure
