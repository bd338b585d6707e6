/- The law FnGroupPaths answers true at every three texts and two switches: a group's paths are put together with one slash between, in any grouping. No condition beyond the row's own. -/
import Derived.Test.YtdfeojkombmiaaaQA11
import Derived.Test.YtdfeojkombmiaaaLWord
namespace Go.Proofs.Ytdfeojkombmiaaa.Pure
open Go.RowKit Go.Proofs.Ytdfeojkombmiaaa.QA Go.Proofs.YtdfeojkombmiaaaW.PrintWords Go.Proofs.YtdfeojkombmiaaaW.PrintLast Go.Proofs.Ytdfeojkombmiaaa.Base

theorem trim_from (s : ByteArray) (c : Int) (hs : s.size ≤ 562949953421408) (n : Nat) (hstop : n = 0 ∨ bt s ((n : Int) - 1) ≠ c) (d : Nat) : ∀ i : Nat, i = n + d → i ≤ s.size → (∀ j : Nat, n ≤ j → j < i → bt s j = c) → Ev (fun k => fiberutils_TrimRight.l0 k s c (i : Int)) (s.extract 0 n) := by
  induction d with
  | zero =>
    intro i hi hle _
    obtain rfl : i = n := by omega
    refine Ev.step (f := fun _ => some (s.extract 0 i)) (fun k => ?_) (Ev.now _)
    simp only [fiberutils_TrimRight.l0]
    rcases hstop with h0 | h0
    · rw [if_neg (by omega), if_pos (by omega), if_pos (by omega), Int.toNat_natCast]
    · rcases Nat.eq_zero_or_pos i with hz | hz
      · rw [if_neg (by omega), if_pos (by omega), if_pos (by omega), Int.toNat_natCast]
      · rw [if_pos (by omega), wrap_sub (by omega) (by omega), if_pos (by omega), if_pos (by omega), if_neg h0, if_pos (by omega), if_pos (by omega), Int.toNat_natCast]
  | succ d ih =>
    intro i hi hle hall
    refine Ev.step (f := fun k => fiberutils_TrimRight.l0 k s c ((i - 1 : Nat) : Int)) (fun k => ?_) (ih (i - 1) (by omega) (by omega) (fun j h1 h2 => hall j h1 (by omega)))
    have hb := hall (i - 1) (by omega) (by omega)
    have e : ((i - 1 : Nat) : Int) = (i : Int) - 1 := by omega
    simp only [fiberutils_TrimRight.l0]
    rw [if_pos (by omega), wrap_sub (by omega) (by omega), if_pos (by omega), if_pos (by omega), ← e, if_pos hb]
theorem trim_ends (s : ByteArray) (c : Int) (hs : s.size ≤ 562949953421408) (n : Nat) (hn : n ≤ s.size) (hstop : n = 0 ∨ bt s ((n : Int) - 1) ≠ c) (hall : ∀ j : Nat, n ≤ j → j < s.size → bt s j = c) : Ev (fun k => fiberutils_TrimRight.f k s c) (s.extract 0 n) :=
  trim_from s c hs n hstop (s.size - n) s.size (by omega) (Nat.le_refl _) hall

def sl : ByteArray := ⟨#[47]⟩
theorem sl_size : sl.size = 1 := rfl
theorem group_ends (p q : ByteArray) (hp : p.size ≤ 562949953421408) (hq : q.size ≤ 562949953421408) (hq0 : 1 ≤ q.size) (n : Nat) (hn : n ≤ p.size) (hstop : n = 0 ∨ bt p ((n : Int) - 1) ≠ 47) (hall : ∀ j : Nat, n ≤ j → j < p.size → bt p j = 47) :
    Ev (fun k => impl_GroupPath.f k p q) (p.extract 0 n ++ if bt q 0 = 47 then q else sl ++ q) := by
  have hx : (p.extract 0 n).size ≤ 562949953421408 := by
    have h := ns_extract p 0 n
    have h2 := congrArg List.length h
    rw [ns_length, List.length_take] at h2
    omega
  simp only [impl_GroupPath.f, fiberhelpers_ZzGroup.f]
  refine Ev.bind (Ev.bind ?_ (Ev.now _)) (Ev.now _)
  simp only [fiberhelpers_getGroupPath.f]
  refine Ev.if_false (by omega) (Ev.if_true (by omega) ?_)
  by_cases h47 : bt q 0 = 47
  · rw [if_pos h47]
    refine Ev.if_true h47 (Ev.bind (trim_ends p 47 hp n hn hstop hall) (Ev.if_true (by omega) (Ev.now _)))
  · rw [if_neg h47]
    have h1 : ((⟨#[47]⟩ : ByteArray) ++ q).size = 1 + q.size := by rw [ByteArray.size_append]; rfl
    refine Ev.if_false h47 (Ev.if_true (by omega) (Ev.bind (trim_ends p 47 hp n hn hstop hall) (Ev.if_true (by omega) (Ev.now _))))
theorem bt_app_right (a b : ByteArray) (i : Nat) (h : a.size ≤ i) : bt (a ++ b) (i : Int) = bt b ((i - a.size : Nat) : Int) := by
  rw [bt_ns, bt_ns, ns_append, List.getD_eq_getElem?_getD, List.getD_eq_getElem?_getD, List.getElem?_append_right (by rw [ns_length]; exact h), ns_length]
theorem bt_app_left (a b : ByteArray) (i : Nat) (h : i < a.size) : bt (a ++ b) (i : Int) = bt a (i : Int) := by
  rw [bt_ns, bt_ns, ns_append, List.getD_eq_getElem?_getD, List.getD_eq_getElem?_getD, List.getElem?_append_left (by rw [ns_length]; exact h)]
theorem extract_left (a b : ByteArray) : (a ++ b).extract 0 a.size = a := by
  refine ns_inj ?_
  rw [ns_extract, ns_append, List.drop_zero, Nat.sub_zero, ← ns_length, List.take_left]
theorem extract_self (a : ByteArray) : a.extract 0 a.size = a := by
  refine ns_inj ?_
  rw [ns_extract, List.drop_zero, Nat.sub_zero, ← ns_length, List.take_length]
/-- What ends with a word ends with no slash. -/
theorem end_word (p w : ByteArray) (h : isWord w = true) : bt (p ++ w) (((p ++ w).size : Int) - 1) ≠ 47 := by
  obtain ⟨h1, hw⟩ := isWord_at h
  have e : (((p ++ w).size : Int) - 1) = ((p.size + (w.size - 1) : Nat) : Int) := by rw [ByteArray.size_append]; omega
  rw [e, bt_app_right _ _ _ (by omega)]
  have e2 : p.size + (w.size - 1) - p.size = w.size - 1 := by omega
  rw [e2]
  exact (wB_ne (hw _ (by omega))).2.2.2.2.2.1
theorem app_assoc (a b c : ByteArray) : a ++ b ++ c = a ++ (b ++ c) := ns_inj (by simp only [ns_append, List.append_assoc])
/-- A path that ends with a word, and another: put together. -/
theorem group_word (p w q : ByteArray) (h : isWord w = true) (hp : (p ++ w).size ≤ 562949953421408) (hq : q.size ≤ 562949953421408) (hq0 : 1 ≤ q.size) : Ev (fun k => impl_GroupPath.f k (p ++ w) q) (p ++ w ++ if bt q 0 = 47 then q else sl ++ q) := by
  have h := group_ends (p ++ w) q hp hq hq0 (p ++ w).size (Nat.le_refl _) (.inr (end_word p w h)) (fun j h1 h2 => by omega)
  rw [extract_self] at h
  exact h
theorem group_slash (p w q : ByteArray) (h : isWord w = true) (hp : (p ++ w).size ≤ 281474976710704) (hq : q.size ≤ 562949953421408) (hq0 : 1 ≤ q.size) : Ev (fun k => impl_GroupPath.f k (p ++ w ++ sl) q) (p ++ w ++ if bt q 0 = 47 then q else sl ++ q) := by
  have hsz : (p ++ w ++ sl).size = (p ++ w).size + 1 := by rw [ByteArray.size_append]; rfl
  have hstop : bt (p ++ w ++ sl) (((p ++ w).size : Int) - 1) ≠ 47 := by
    have h1 := (isWord_at h).1
    have e : (((p ++ w).size : Int) - 1) = (((p ++ w).size - 1 : Nat) : Int) := by rw [ByteArray.size_append]; omega
    have := end_word p w h
    rw [e] at this ⊢
    rwa [bt_app_left _ _ _ (by rw [ByteArray.size_append]; omega)]
  have h := group_ends (p ++ w ++ sl) q (by omega) hq hq0 (p ++ w).size (by omega) (.inr hstop) (fun j h1 h2 => by
    have hj : j = (p ++ w).size := by omega
    rw [bt_app_right _ _ _ h1, hj, Nat.sub_self]
    rfl)
  rw [extract_left] at h
  exact h
theorem bt_sl (w : ByteArray) : bt (sl ++ w) 0 = 47 := by
  have := bt_app_left sl w 0 (by decide)
  exact this
theorem size_sl (w : ByteArray) : (sl ++ w).size = 1 + w.size := by rw [ByteArray.size_append]; rfl
theorem FnGroupPaths : laws_FnGroupPaths.Pure := by
  intro a b c one two ha hb hc
  refine Ev.rounds ?_
  simp only [laws_FnGroupPaths.f]
  have s0 : Ev (fun k => laws_FnGroupPaths.j0 k a b c one two true) true := Ev.step (f := fun _ => some true) (fun k => rfl) (Ev.now _)
  have main : isWord a = true → isWord b = true → isWord c = true → ∀ x y : ByteArray, (x = sl ++ a ∨ x = sl ++ a ++ sl) → (y = sl ++ b ∨ y = b) → Ev (fun k => laws_FnGroupPaths.j2 k a b c x y (sl ++ c)) true := by
    intro wa wb wc x y hx hy
    have la := (isWord_at wa).1
    have lb := (isWord_at wb).1
    have lc := (isWord_at wc).1
    have sa := size_sl a
    have sb := size_sl b
    have sc := size_sl c
    have hyif : (if bt y 0 = 47 then y else sl ++ y) = sl ++ b := by
      rcases hy with rfl | rfl
      · rw [if_pos (bt_sl _)]
      · have h0 : wB (bt y 0) = true := (isWord_at wb).2 0 (by omega)
        rw [if_neg (wB_ne h0).2.2.2.2.2.1]
    have hysz : 1 ≤ y.size ∧ y.size ≤ 562949953421408 := by rcases hy with rfl | rfl <;> omega
    have gx : ∀ q : ByteArray, 1 ≤ q.size → q.size ≤ 562949953421408 → Ev (fun k => impl_GroupPath.f k x q) (sl ++ a ++ if bt q 0 = 47 then q else sl ++ q) := by
      intro q h1 h2
      rcases hx with rfl | rfl
      · exact group_word sl a q wa (by omega) h2 h1
      · exact group_slash sl a q wa (by omega) h2 h1
    refine Ev.step (f := _) (fun k => by simp only [laws_FnGroupPaths.j2]; exact rfl) ?_
    refine Ev.bind (gx y hysz.1 hysz.2) ?_
    rw [hyif]
    have sab : (sl ++ a ++ (sl ++ b)).size = 2 + a.size + b.size := by rw [ByteArray.size_append]; omega
    have g2 := group_word (sl ++ a ++ sl) b (sl ++ c) wb (by rw [app_assoc, sab]; omega) (by omega) (by omega)
    rw [if_pos (bt_sl c), app_assoc (sl ++ a) sl b] at g2
    refine Ev.bind g2 ?_
    have z1 : ((⟨#[47]⟩ : ByteArray) ++ a).size = 1 + a.size := sa
    have z2 : (((⟨#[47]⟩ : ByteArray) ++ a) ++ (⟨#[47]⟩ : ByteArray)).size = 2 + a.size := by rw [ByteArray.size_append, z1]; show 1 + a.size + 1 = _; omega
    have z3 : ((((⟨#[47]⟩ : ByteArray) ++ a) ++ (⟨#[47]⟩ : ByteArray)) ++ b).size = 2 + a.size + b.size := by rw [ByteArray.size_append, z2]
    have z4 : (((((⟨#[47]⟩ : ByteArray) ++ a) ++ (⟨#[47]⟩ : ByteArray)) ++ b) ++ (⟨#[47]⟩ : ByteArray)).size = 3 + a.size + b.size := by rw [ByteArray.size_append, z3]; show 2 + a.size + b.size + 1 = _; omega
    refine Ev.if_true (by omega) (Ev.if_true (by omega) (Ev.if_true (by omega) (Ev.if_true (by omega) (Ev.if_true (by omega) ?_))))
    have asc : sl ++ a ++ (sl ++ b) ++ (sl ++ c) = ((((((⟨#[47]⟩ : ByteArray) ++ a) ++ (⟨#[47]⟩ : ByteArray)) ++ b) ++ (⟨#[47]⟩ : ByteArray)) ++ c) := by
      show sl ++ a ++ (sl ++ b) ++ (sl ++ c) = sl ++ a ++ sl ++ b ++ sl ++ c
      simp only [app_assoc]
    refine Ev.if_true (by rw [asc]) (Ev.if_true (by omega) ?_)
    have g3 := group_word sl b (sl ++ c) wb (by omega) (by omega) (by omega)
    rw [if_pos (bt_sl c)] at g3
    refine Ev.bind g3 ?_
    have sbc : (sl ++ b ++ (sl ++ c)).size = 2 + b.size + c.size := by rw [ByteArray.size_append]; omega
    have g4 := gx (sl ++ b ++ (sl ++ c)) (by omega) (by omega)
    rw [if_pos (by rw [app_assoc]; exact bt_sl _)] at g4
    refine Ev.bind g4 ?_
    refine Ev.if_true (by rw [← asc]; simp only [app_assoc]) ?_
    have g5 : Ev (fun k => impl_GroupPath.f k (sl ++ a) (⟨#[]⟩ : ByteArray)) (sl ++ a) := by
      simp only [impl_GroupPath.f, fiberhelpers_ZzGroup.f]
      refine Ev.bind (Ev.bind ?_ (Ev.now _)) (Ev.now _)
      simp only [fiberhelpers_getGroupPath.f]
      exact Ev.if_true rfl (Ev.now _)
    refine Ev.bind g5 (Ev.val ?_)
    rw [beq_iff_eq]
    rfl
  have s0' : Ev (fun k => laws_FnGroupPaths.j0 k a b c one two false) true := by
    refine Ev.step (f := fun k => _) (fun k => by simp only [laws_FnGroupPaths.j0]; rw [if_neg (by simp)]) ?_
    have g := group_word ⟨#[47]⟩ ⟨#[97]⟩ (⟨#[47, 98]⟩ : ByteArray) (by decide +kernel) (by decide) (by decide) (by decide)
    refine Ev.bind (a := (⟨#[47, 97, 47, 98]⟩ : ByteArray)) ?_ ?_
    · exact g
    refine Ev.if_true (by decide +kernel) ?_
    refine Ev.bind (words_ends [a, b, c] (by simp) (by simp; omega)) ?_
    refine Ev.ite (fun hw => ?_) (fun _ => Ev.now _)
    obtain ⟨_, hm⟩ := areWords_mem hw
    have wa := hm a (by simp)
    have wb := hm b (by simp)
    have wc := hm c (by simp)
    have sa := size_sl a
    have m := main wa.1 wb.1 wc.1
    have j1 : ∀ x : ByteArray, (x = sl ++ a ∨ x = sl ++ a ++ sl) → Ev (fun k => laws_FnGroupPaths.j1 k a b c two x (sl ++ b) (sl ++ c)) true := by
      intro x hx
      refine Ev.step (f := fun k => if two = true then (laws_FnGroupPaths.j2 k a b c x b (sl ++ c)) else (laws_FnGroupPaths.j2 k a b c x (sl ++ b) (sl ++ c))) (fun k => rfl) ?_
      exact Ev.ite (fun _ => m x b hx (.inr rfl)) (fun _ => m x _ hx (.inl rfl))
    refine Ev.if_true (by omega) (Ev.if_true (by omega) (Ev.if_true (by omega) (Ev.ite (fun _ => Ev.if_true (by show (sl ++ a).size + 1 ≤ _; omega) (j1 _ (.inr rfl))) (fun _ => j1 _ (.inl rfl)))))
  refine Ev.ite (fun _ => s0) (fun _ => Ev.ite (fun _ => s0) (fun _ => ?_))
  cases decide ((c.size : Int) > 2147483647)
  · exact s0'
  · exact s0
end Go.Proofs.Ytdfeojkombmiaaa.Pure
