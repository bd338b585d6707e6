/- Texts of this claim, one behind the other (merged by wip/prune.py of this repo, without what the proof does not use): LIndexNc, LShort, LSame, LTrimL. -/
import Derived.Test.YtgmjaggkiifdjaaDoorZS3
import Derived.Test.YtgmjaggkiifdjaaDoorZS4
import Derived.Test.YtgmjaggkiifdjaaDoorZS5
set_option linter.unusedVariables false
set_option linter.unusedSimpArgs false
namespace Go.Proofs.YtgmjaggkiifdjaaDoor.Base
open Go.RowKit Go.Proofs.YtgmjaggkiifdjaaDoor.QA Go.Proofs.YtgmjaggkiifdjaaDoorW.PrintWords Go.Proofs.YtgmjaggkiifdjaaDoorW.PrintLast
theorem zz_from (s sub : ByteArray) (hs : s.size ≤ 4611686018427387904) (hm : sub.size ≤ 1000) (p : Nat) (d : Nat) : ∀ i : Nat, i + d = p → p ≤ s.size + 1 →
    (∀ j, i ≤ j → j < p → ((ns s).drop j).take sub.size ≠ ns sub ∧ j + sub.size ≤ s.size) →
    ((p + sub.size ≤ s.size ∧ ((ns s).drop p).take sub.size = ns sub) → Ev (fun k => fiberhelpers_zzIndex.l0 k s sub (i : Int)) (p : Int)) ∧
    (s.size < p + sub.size → Ev (fun k => fiberhelpers_zzIndex.l0 k s sub (i : Int)) (-1)) := by
  induction d with
  | zero =>
    intro i hi hp hall
    obtain rfl : i = p := by omega
    have hw : wrap64 ((i : Int) + (sub.size : Int)) = (i : Int) + sub.size := by unfold wrap64; omega
    refine ⟨fun ⟨h1, h2⟩ => ?_, fun h1 => ?_⟩
    · refine Ev.step (f := fun _ => some (i : Int)) (fun k => ?_) (Ev.now _)
      simp only [fiberhelpers_zzIndex.l0]
      rw [hw, if_pos (by omega), if_pos (by omega), if_pos (by omega), if_pos]
      rw [toList_eq_iff]
      refine ns_inj ?_
      rw [ns_extract]
      have e1 : (((i : Int) + sub.size).toNat - (i : Int).toNat) = sub.size := by omega
      rw [e1, Int.toNat_natCast]
      exact h2
    · refine Ev.step (f := fun _ => some (-1 : Int)) (fun k => ?_) (Ev.now _)
      simp only [fiberhelpers_zzIndex.l0]
      rw [hw, if_neg (by omega)]
  | succ d ih =>
    intro i hi hp hall
    have h0 := hall i (Nat.le_refl _) (by omega)
    have hw : wrap64 ((i : Int) + (sub.size : Int)) = (i : Int) + sub.size := by unfold wrap64; omega
    obtain ⟨a, b⟩ := ih (i + 1) (by omega) hp (fun j h1 h2 => hall j (by omega) h2)
    have step : ∀ k, fiberhelpers_zzIndex.l0 (k + 1) s sub (i : Int) = fiberhelpers_zzIndex.l0 k s sub ((i + 1 : Nat) : Int) := by
      intro k
      simp only [fiberhelpers_zzIndex.l0]
      rw [hw, if_pos (by omega), if_pos (by omega), if_pos (by omega), if_neg, wrap_add (by omega) (by omega)]
      · rfl
      · intro e
        rw [toList_eq_iff] at e
        refine h0.1 ?_
        have e2 := congrArg ns e
        rw [ns_extract] at e2
        have e1 : (((i : Int) + sub.size).toNat - (i : Int).toNat) = sub.size := by omega
        rw [e1, Int.toNat_natCast] at e2
        exact e2
    exact ⟨fun h => Ev.step step (a h), fun h => Ev.step step (b h)⟩
theorem zz_at (s sub : ByteArray) (hs : s.size ≤ 4611686018427387904) (hm : sub.size ≤ 1000) (p : Nat) (h1 : p + sub.size ≤ s.size) (h2 : ((ns s).drop p).take sub.size = ns sub) (hall : ∀ j, j < p → ((ns s).drop j).take sub.size ≠ ns sub) : Ev (fun k => fiberhelpers_zzIndex.f k s sub) (p : Int) :=
  (zz_from s sub hs hm p p 0 (by omega) (by omega) (fun j _ hj => ⟨hall j hj, by omega⟩)).1 ⟨h1, h2⟩
theorem zz_none (s sub : ByteArray) (hs : s.size ≤ 4611686018427387904) (hm : sub.size ≤ 1000) (hall : ∀ j, j + sub.size ≤ s.size → ((ns s).drop j).take sub.size ≠ ns sub) : Ev (fun k => fiberhelpers_zzIndex.f k s sub) (-1) := by
  by_cases h : sub.size ≤ s.size
  · exact (zz_from s sub hs hm (s.size - sub.size + 1) (s.size - sub.size + 1) 0 (by omega) (by omega) (fun j _ hj => ⟨hall j (by omega), by omega⟩)).2 (by omega)
  · exact (zz_from s sub hs hm 0 0 0 rfl (by omega) (fun j _ hj => by omega)).2 (by omega)
def nc : ByteArray := ⟨#[110, 111, 45, 99, 97, 99, 104, 101]⟩
def ncN : List Int := [110, 111, 45, 99, 97, 99, 104, 101]
theorem ns_nc : ns nc = ncN := by decide
def areShort (l : List ByteArray) : Bool := (l.all fun s => decide (s.size ≤ 200)) && decide (l.length ≤ 60)
theorem short_from (l : List ByteArray) (hl : l.length ≤ 140737488351232) (d : Nat) : ∀ i : Nat, i + d = l.length → Ev (fun k => laws_short.l0 k l l (l.length : Int) (i : Int)) (((l.drop i).all fun s => decide (s.size ≤ 200)) && decide (l.length ≤ 60)) := by
  induction d with
  | zero =>
    intro i hi
    refine Ev.step (f := fun _ => some (decide ((l.length : Int) ≤ 60))) (fun k => ?_) (Ev.val ?_)
    · simp only [laws_short.l0]; rw [if_neg (by omega)]
    · rw [List.drop_eq_nil_of_le (by omega)]
      simp only [List.all_nil, Bool.true_and]
      exact decide_eq_decide.2 (by omega)
  | succ d ih =>
    intro i hi
    have hlt : i < l.length := by omega
    refine Ev.step (f := fun k => if ((l[i]).size : Int) > 200 then some false else laws_short.l0 k l l (l.length : Int) ((i + 1 : Nat) : Int)) (fun k => ?_) ?_
    · simp only [laws_short.l0]
      rw [if_pos (by omega), if_pos (by omega), if_pos (by omega), rdOf_nat _ _ _ hlt, wrap_add (by omega) (by omega)]
      rfl
    · rw [List.drop_eq_getElem_cons hlt, List.all_cons]
      refine Ev.ite (fun g => Ev.val ?_) (fun g => ?_)
      · rw [decide_eq_false (by omega)]; simp
      · rw [decide_eq_true (by omega), Bool.true_and]
        exact ih (i + 1) (by omega)
theorem short_ends (l : List ByteArray) (hl : l.length ≤ 140737488351232) : Ev (fun k => laws_short.f k l) (areShort l) := short_from l hl l.length 0 (by omega)
theorem areShort_mem {l : List ByteArray} (h : areShort l = true) : l.length ≤ 60 ∧ ∀ s ∈ l, s.size ≤ 200 := by
  unfold areShort at h
  simp only [Bool.and_eq_true, decide_eq_true_eq, List.all_eq_true] at h
  exact ⟨h.2, h.1⟩
theorem sameTexts_ends (a b : List ByteArray) (ha : a.length ≤ 4611686018427387904) : Ev (fun k => laws_sameTexts.f k a b) (decide (a = b)) := by
  simp only [laws_sameTexts.f]
  by_cases hl : a.length = b.length
  · have key : ∀ d i : Nat, i + d = a.length → Ev (fun k => laws_sameTexts.l0 k a b (a.length : Int) (i : Int)) (decide (a.drop i = b.drop i)) := by
      intro d
      induction d with
      | zero =>
        intro i hi
        refine Ev.step (f := fun _ => some _) (fun k => ?_) (Ev.now _)
        simp only [laws_sameTexts.l0]
        rw [if_neg (by omega), List.drop_eq_nil_of_le (by omega), List.drop_eq_nil_of_le (by omega)]
        rfl
      | succ d ih =>
        intro i hi
        have h1 : i < a.length := by omega
        have h2 : i < b.length := by omega
        have e : (a.drop i = b.drop i) ↔ (a[i] = b[i] ∧ a.drop (i + 1) = b.drop (i + 1)) := by
          rw [List.drop_eq_getElem_cons h1, List.drop_eq_getElem_cons h2]
          exact ⟨fun h => List.cons.inj h, fun ⟨x, y⟩ => by rw [x, y]⟩
        by_cases c : a[i] = b[i]
        · refine Ev.step (f := fun k => laws_sameTexts.l0 k a b (a.length : Int) ((i + 1 : Nat) : Int)) (fun k => ?_) ?_
          · simp only [laws_sameTexts.l0]
            rw [if_pos (by omega), if_pos (by omega), if_pos (by omega), if_pos (by omega), rdOf_nat _ _ _ h1, rdOf_nat _ _ _ h2, if_pos (by rw [c]), wrap_add (by omega) (by omega)]
            rfl
          · have := ih (i + 1) (by omega)
            rw [decide_eq_decide.2 (show (a.drop i = b.drop i) ↔ (a.drop (i + 1) = b.drop (i + 1)) from e.trans ⟨fun h => h.2, fun h => ⟨c, h⟩⟩)]
            exact this
        · refine Ev.step (f := fun _ => some _) (fun k => ?_) (Ev.now _)
          simp only [laws_sameTexts.l0]
          rw [if_pos (by omega), if_pos (by omega), if_pos (by omega), if_pos (by omega), rdOf_nat _ _ _ h1, rdOf_nat _ _ _ h2, if_neg (fun e => c ((toList_eq_iff _ _).1 e)), decide_eq_false (fun h => c (e.1 h).1)]
    refine Ev.if_true (by omega) ?_
    have := key a.length 0 (by omega)
    simpa using this
  · refine Ev.if_false (by omega) ?_
    rw [decide_eq_false (fun e => hl (by rw [e]))]
    exact Ev.now _
end Go.Proofs.YtgmjaggkiifdjaaDoor.Base
namespace Go.Proofs.YtgmjaggkiifdjaaDoor.Given
open Go.RowKit Go.Proofs.YtgmjaggkiifdjaaDoorW.PrintWords Go.Proofs.YtgmjaggkiifdjaaDoorW.PrintLast Go.Proofs.YtgmjaggkiifdjaaDoorW.PrintMore Go.Proofs.YtgmjaggkiifdjaaDoor.Base Go.Proofs.YtgmjaggkiifdjaaDoor.QA
def ltrim (xs : List Int) : List Int := xs.dropWhile (fun x => decide (x = 32))
theorem ltrim_drop (xs : List Int) (i : Nat) (h : ∀ j, j < i → xs.getD j 0 = 32) (hi : i ≤ xs.length) (he : i < xs.length → xs.getD i 0 ≠ 32) : ltrim xs = xs.drop i := by
  induction i generalizing xs with
  | zero =>
    cases xs with
    | nil => rfl
    | cons x xs =>
      have := he (by simp)
      simp at this
      simp [ltrim, this]
  | succ i ih =>
    cases xs with
    | nil => simp at hi
    | cons x xs =>
      have h0 : x = 32 := by have := h 0 (by omega); simpa using this
      subst h0
      have := ih xs (fun j hj => by have := h (j + 1) (by omega); simpa using this) (by simpa using hi) (fun hl => by have := he (by simpa using hl); simpa using this)
      simp only [ltrim] at this ⊢
      simp [this]
theorem trimL_ends (s : ByteArray) (hs : s.size ≤ 4611686018427387904) : Ev (fun k => fiberutils_TrimLeft.f k s 32) (strOfNums (ltrim (ns s))) := by
  have key : ∀ d i : Nat, i + d = s.size → (∀ j, j < i → (ns s).getD j 0 = 32) → Ev (fun k => fiberutils_TrimLeft.l0 k s 32 (s.size : Int) (i : Int)) (strOfNums (ltrim (ns s))) := by
    intro d
    have out : ∀ i : Nat, i ≤ s.size → (∀ j, j < i → (ns s).getD j 0 = 32) → (i < s.size → (ns s).getD i 0 ≠ 32) → s.extract i s.size = strOfNums (ltrim (ns s)) := by
      intro i hi h he
      have e1 : ltrim (ns s) = (ns s).drop i := ltrim_drop _ i h (by rw [ns_length]; exact hi) (by rw [ns_length]; exact he)
      have e2 : ns (s.extract i s.size) = (ns s).drop i := by
        rw [ns_extract, List.take_of_length_le]
        rw [List.length_drop, ns_length]
        omega
      apply ns_inj
      rw [e2, e1, ns_strOfNums]
      intro x hx
      exact ns_range s x (List.mem_of_mem_drop hx)
    induction d with
    | zero =>
      intro i hi h
      refine Ev.step (f := fun _ => some _) (fun k => ?_) (Ev.now _)
      simp only [fiberutils_TrimLeft.l0]
      rw [if_neg (by omega), if_pos (by omega), if_pos (by omega), Int.toNat_natCast, out i (by omega) h (fun hl => by omega)]
    | succ d ih =>
      intro i hi h
      by_cases c : (ns s).getD i 0 = 32
      · refine Ev.step (f := fun k => fiberutils_TrimLeft.l0 k s 32 (s.size : Int) ((i + 1 : Nat) : Int)) (fun k => ?_) (ih (i + 1) (by omega) (fun j hj => ?_))
        · simp only [fiberutils_TrimLeft.l0]
          rw [if_pos (by omega), if_pos (by omega), if_pos (by omega), if_pos (by rw [bt_ns]; exact c), wrap_add (by omega) (by omega)]
          rfl
        · rcases Nat.lt_or_ge j i with hj' | hj'
          · exact h j hj'
          · obtain rfl : j = i := by omega
            exact c
      · refine Ev.step (f := fun _ => some _) (fun k => ?_) (Ev.now _)
        simp only [fiberutils_TrimLeft.l0]
        rw [if_pos (by omega), if_pos (by omega), if_pos (by omega), if_neg (by rw [bt_ns]; exact c), if_pos (by omega), Int.toNat_natCast, out i (by omega) h (fun _ => c)]
  exact key s.size 0 (by omega) (fun j hj => by omega)
theorem trimL (s : ByteArray) (hs : s.size ≤ 4611686018427387904) : ∃ k, fiberutils_TrimLeft.f k s 32 = some (strOfNums (ltrim (ns s))) := Ev.rounds (trimL_ends s hs)
end Go.Proofs.YtgmjaggkiifdjaaDoor.Given
