/- The law FnBracketsPoints answers true at every text and list of texts: a key of words in brackets is these with points between; with one bracket more at its end, of either kind, it is none. No condition beyond the row's own. -/
import Derived.Test.YtkbmababljcabaaQA13
import Derived.Test.YtkbmababljcabaaLWord
import Derived.Test.YtkbmababljcabaaLFits
set_option linter.unusedVariables false
namespace Go.Proofs.Ytkbmababljcabaa.Pure
open Go.RowKit Go.Proofs.Ytkbmababljcabaa.QA Go.Proofs.YtkbmababljcabaaW.PrintWords Go.Proofs.YtkbmababljcabaaW.PrintLast Go.Proofs.Ytkbmababljcabaa.Base Go.Proofs.Ytkbmababljcabaa.Given

theorem str_ns (s : ByteArray) : strOfNums (ns s) = s := ns_inj (ns_strOfNums (fun x hx => ns_range s x hx))
def plainL (u : List Int) : Prop := ∀ x ∈ u, x ≠ 91 ∧ x ≠ 93
theorem brGo_plain (u : List Int) : ∀ (n : Int) (acc rest : List Int), plainL u → brGo n acc (u ++ rest) = brGo n (acc ++ u) rest := by
  induction u with
  | nil => intro n acc rest _; simp
  | cons c u ih =>
    intro n acc rest h
    have hc := h c (by simp)
    rw [List.cons_append]
    conv => lhs; unfold brGo
    rw [if_neg hc.1, if_neg hc.2, ih n (acc ++ [c]) rest (fun x hx => h x (List.mem_cons_of_mem _ hx))]
    simp
theorem brGo_group (u : List Int) (hne : u ≠ []) (h : plainL u) (acc rest : List Int) : brGo 0 acc (91 :: (u ++ 93 :: rest)) = brGo 0 (acc ++ (46 :: u)) rest := by
  have hp : pointOf (u ++ 93 :: rest) = [46] := by
    unfold pointOf
    cases u with
    | nil => exact absurd rfl hne
    | cons c u =>
      rw [if_pos]
      refine ⟨by simp, ?_⟩
      have := h c (by simp)
      simpa using this.2
  conv => lhs; unfold brGo
  rw [if_pos rfl, hp, brGo_plain u _ _ _ h]
  conv => lhs; unfold brGo
  rw [if_neg (by decide), if_pos rfl, if_neg (by decide)]
  simp
def flatB (l : List ByteArray) : List Int := l.flatMap fun x => 91 :: (ns x ++ [93])
def flatP (l : List ByteArray) : List Int := l.flatMap fun x => 46 :: ns x
theorem flatB_snoc (a : List ByteArray) (x : ByteArray) : flatB (a ++ [x]) = flatB a ++ (91 :: (ns x ++ [93])) := by simp [flatB]
theorem flatP_snoc (a : List ByteArray) (x : ByteArray) : flatP (a ++ [x]) = flatP a ++ (46 :: ns x) := by simp [flatP]
theorem brGo_groups (l : List ByteArray) : ∀ (acc rest : List Int), (∀ x ∈ l, ns x ≠ [] ∧ plainL (ns x)) → brGo 0 acc (flatB l ++ rest) = brGo 0 (acc ++ flatP l) rest := by
  induction l with
  | nil => intro acc rest _; simp [flatB, flatP]
  | cons x l ih =>
    intro acc rest h
    obtain ⟨h1, h2⟩ := h x (by simp)
    have e : flatB (x :: l) ++ rest = 91 :: (ns x ++ 93 :: (flatB l ++ rest)) := by simp [flatB]
    rw [e, brGo_group _ h1 h2, ih _ _ (fun y hy => h y (List.mem_cons_of_mem _ hy))]
    simp [flatP]
theorem word_plain (s : ByteArray) (h : isWord s = true) : ns s ≠ [] ∧ plainL (ns s) := by
  unfold isWord at h
  simp only [Bool.and_eq_true, List.all_eq_true] at h
  refine ⟨fun e => by rw [e] at h; simp at h, fun x hx => ?_⟩
  have hw := wB_ne (h.1 x hx)
  constructor
  · rintro rfl; have := h.1 _ hx; simp [wB] at this
  · rintro rfl; have := h.1 _ hx; simp [wB] at this
theorem br_told (first : ByteArray) (l : List ByteArray) (hf : isWord first = true) (hl : ∀ x ∈ l, isWord x = true) (rest : List Int) : brOf (ns first ++ flatB l ++ rest) = brGo 0 (ns first ++ flatP l) rest := by
  unfold brOf
  rw [List.append_assoc, brGo_plain _ _ _ _ (word_plain first hf).2, brGo_groups l _ _ (fun x hx => word_plain x (hl x hx))]
  simp
theorem FnBracketsPoints : laws_FnBracketsPoints.Pure := by
  intro first l h1 h2
  refine Ev.rounds ?_
  simp only [laws_FnBracketsPoints.f]
  have o0 : Ev (fun k => laws_FnBracketsPoints.j0 k first l true) true := Ev.step (f := fun _ => some true) (fun k => by simp only [laws_FnBracketsPoints.j0]; rw [if_pos trivial]) (Ev.now _)
  have o2 : Ev (fun k => laws_FnBracketsPoints.j2 k first l true) true := Ev.step (f := fun _ => some true) (fun k => by simp only [laws_FnBracketsPoints.j2]; rw [if_pos trivial]) (Ev.now _)
  refine Ev.ite (fun _ => o0) (fun z1 => ?_)
  refine Ev.bind (fits6_ends l) ?_
  cases hfit : fits6 l with
  | false => exact o0
  | true =>
  obtain ⟨hlen, hsz⟩ := fits6_mem hfit
  have hab : impl_Brackets.f (⟨#[97, 91, 98, 93]⟩ : ByteArray) = some (⟨#[97, 46, 98]⟩, true) := by
    have e : brOf (ns (⟨#[97, 91, 98, 93]⟩ : ByteArray)) = some [97, 46, 98] := by decide
    unfold impl_Brackets.f
    rw [if_pos (by decide), e]
    have : strOfNums [97, 46, 98] = (⟨#[97, 46, 98]⟩ : ByteArray) := ns_inj (by rw [ns_strOfNums (by decide)]; decide)
    simp only [this]
  refine Ev.step (f := fun k => (impl_Brackets.f (⟨#[97, 91, 98, 93]⟩ : ByteArray)).bind fun bt125 => (if bt125.2 = true then (laws_FnBracketsPoints.j1 k first l (bt125.1.toList != ([97, 46, 98] : List UInt8))) else (laws_FnBracketsPoints.j1 k first l true))) (fun k => by simp only [laws_FnBracketsPoints.j0]; rw [if_neg (by simp)]) ?_
  refine Ev.call hab (Ev.if_true rfl ?_)
  rw [show ((((⟨#[97, 46, 98]⟩ : ByteArray), true).1.toList != ([97, 46, 98] : List UInt8))) = false by decide +kernel]
  refine Ev.step (f := fun k => (laws_words.f k (([first] : List ByteArray))).bind fun t130 => (if t130 = true then ((laws_words.f k l).bind fun t131 => (laws_FnBracketsPoints.j2 k first l (!t131))) else (laws_FnBracketsPoints.j2 k first l true))) (fun k => by simp only [laws_FnBracketsPoints.j1]; rw [if_neg (by simp)]) ?_
  refine Ev.bind (words_ends [first] (by simp) (fun s hs => by rw [List.mem_singleton.1 hs]; omega)) ?_
  refine Ev.ite (fun hw1 => ?_) (fun _ => o2)
  refine Ev.bind (words_ends l (by omega) (fun s hs => by have := hsz s hs; omega)) ?_
  cases hw2 : areWords l with
  | false => exact o2
  | true =>
  obtain ⟨hwf, hsf⟩ := (areWords_mem hw1).2 first (by simp)
  obtain ⟨hl20, hwl⟩ := areWords_mem hw2
  have e91 : ns (⟨#[91]⟩ : ByteArray) = [91] := by decide
  have e93 : ns (⟨#[93]⟩ : ByteArray) = [93] := by decide
  have e46 : ns (⟨#[46]⟩ : ByteArray) = [46] := by decide
  have flen : ∀ m : List ByteArray, (∀ x ∈ m, x.size ≤ 40) → (flatB m).length ≤ m.length * 42 ∧ (flatP m).length ≤ m.length * 42 := by
    intro m
    induction m with
    | nil => intro _; simp [flatB, flatP]
    | cons x m ih =>
      intro h
      have h3 := ih (fun y hy => h y (List.mem_cons_of_mem _ hy))
      have h4 := h x (by simp)
      simp only [flatB, flatP, List.flatMap_cons, List.length_append, List.length_cons, List.length_nil, ns_length] at h3 ⊢
      omega
  have ends : ∀ x7 x8 : ByteArray, ns x7 = ns first ++ flatB l → ns x8 = ns first ++ flatP l → Ev (fun k => laws_FnBracketsPoints.l0 k x7 x8 l (l.length : Int) (l.length : Int)) true := by
    intro x7 x8 h7 h8
    have hfl := flen l (fun x hx => (hwl x hx).2)
    have hs7 : x7.size ≤ 1000 := by
      rw [← ns_length, h7, List.length_append, ns_length]
      omega
    have b7 : brOf (ns x7) = some (ns x8) := by
      have := br_told first l hwf (fun x hx => (hwl x hx).1) []
      rw [List.append_nil] at this
      rw [h7, this, h8]
      unfold brGo
      rw [if_neg (by decide)]
    have b91 : brOf (ns (x7 ++ (⟨#[91]⟩ : ByteArray))) = none := by
      rw [ns_append, h7, e91, br_told first l hwf (fun x hx => (hwl x hx).1) [91]]
      unfold brGo
      rw [if_pos rfl]
      unfold brGo
      rw [if_pos (by decide)]
    have b93 : brOf (ns (x7 ++ (⟨#[93]⟩ : ByteArray))) = none := by
      rw [ns_append, h7, e93, br_told first l hwf (fun x hx => (hwl x hx).1) [93]]
      unfold brGo
      rw [if_neg (by decide), if_pos rfl, if_pos (by decide)]
    have z91 : (x7 ++ (⟨#[91]⟩ : ByteArray)).size = x7.size + 1 := by rw [ByteArray.size_append]; rfl
    have z93 : (x7 ++ (⟨#[93]⟩ : ByteArray)).size = x7.size + 1 := by rw [ByteArray.size_append]; rfl
    have i7 : impl_Brackets.f x7 = some (x8, true) := by
      unfold impl_Brackets.f
      rw [if_pos (by omega), b7]
      simp only [str_ns]
    have i91 : impl_Brackets.f (x7 ++ (⟨#[91]⟩ : ByteArray)) = some (⟨#[]⟩, false) := by
      unfold impl_Brackets.f
      rw [if_pos (by omega), b91]
    have i93 : impl_Brackets.f (x7 ++ (⟨#[93]⟩ : ByteArray)) = some (⟨#[]⟩, false) := by
      unfold impl_Brackets.f
      rw [if_pos (by omega), b93]
    refine Ev.step (f := fun _ => some true) (fun k => ?_) (Ev.now _)
    simp only [laws_FnBracketsPoints.l0]
    rw [if_neg (by omega), i7, Option.bind_some, if_pos (by omega), i91, Option.bind_some, i93, Option.bind_some, if_pos rfl, if_pos rfl, if_neg (by simp)]
    rfl
  have loop : ∀ (d i : Nat) (x7 x8 : ByteArray), i + d = l.length → ns x7 = ns first ++ flatB (l.take i) → ns x8 = ns first ++ flatP (l.take i) → Ev (fun k => laws_FnBracketsPoints.l0 k x7 x8 l (l.length : Int) (i : Int)) true := by
    intro d
    induction d with
    | zero =>
      intro i x7 x8 hi h7 h8
      obtain rfl : i = l.length := by omega
      rw [List.take_length] at h7 h8
      exact ends x7 x8 h7 h8
    | succ d ih =>
      intro i x7 x8 hi h7 h8
      have hlt : i < l.length := by omega
      have hsi := (hwl _ (List.getElem_mem hlt)).2
      have hfl := flen (l.take i) (fun x hx => (hwl x (List.mem_of_mem_take hx)).2)
      have hti : (l.take i).length ≤ 20 := by rw [List.length_take]; omega
      have hs7 : x7.size ≤ 1000 := by
        rw [← ns_length, h7, List.length_append, ns_length]
        omega
      have hs8 : x8.size ≤ 1000 := by
        rw [← ns_length, h8, List.length_append, ns_length]
        omega
      have za : ((⟨#[91]⟩ : ByteArray) ++ l[i]).size = 1 + (l[i]).size := by rw [ByteArray.size_append]; rfl
      have zb : (((⟨#[91]⟩ : ByteArray) ++ l[i]) ++ (⟨#[93]⟩ : ByteArray)).size = 1 + (l[i]).size + 1 := by rw [ByteArray.size_append, za]; rfl
      have zc : ((⟨#[46]⟩ : ByteArray) ++ l[i]).size = 1 + (l[i]).size := by rw [ByteArray.size_append]; rfl
      refine Ev.step (f := fun k => laws_FnBracketsPoints.l0 k (x7 ++ (((⟨#[91]⟩ : ByteArray) ++ l[i]) ++ (⟨#[93]⟩ : ByteArray))) (x8 ++ ((⟨#[46]⟩ : ByteArray) ++ l[i])) l (l.length : Int) ((i + 1 : Nat) : Int)) (fun k => ?_) (ih (i + 1) _ _ (by omega) ?_ ?_)
      · simp only [laws_FnBracketsPoints.l0]
        rw [if_pos (by omega), if_pos (by omega), if_pos (by omega), rdOf_nat _ _ _ hlt, if_pos (by omega), if_pos (by omega), if_pos (by omega), if_pos (by omega), wrap_add (by omega) (by omega)]
        rfl
      · rw [ns_append, ns_append, ns_append, e91, e93, h7, List.take_succ_eq_append_getElem hlt, flatB_snoc]
        simp only [List.append_assoc, List.cons_append, List.nil_append]
      · rw [ns_append, ns_append, e46, h8, List.take_succ_eq_append_getElem hlt, flatP_snoc]
        simp only [List.append_assoc, List.cons_append, List.nil_append]
  exact Ev.step (f := fun k => laws_FnBracketsPoints.l0 k first first l (l.length : Int) ((0 : Nat) : Int)) (fun k => by simp only [laws_FnBracketsPoints.j2]; rw [if_neg (by simp)]; rfl) (loop l.length 0 first first (by omega) (by simp [flatB]) (by simp [flatP]))
end Go.Proofs.Ytkbmababljcabaa.Pure
