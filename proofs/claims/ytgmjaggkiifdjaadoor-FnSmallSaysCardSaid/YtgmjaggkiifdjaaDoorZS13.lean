/- Texts of this claim, one behind the other (merged by wip/prune.py of this repo, without what the proof does not use): LSmallB, SmallW. -/
import Derived.Test.YtgmjaggkiifdjaaDoorZS2
import Derived.Test.YtgmjaggkiifdjaaDoorZS4
import Derived.Test.YtgmjaggkiifdjaaDoorZS5
import Derived.Test.YtgmjaggkiifdjaaDoorZS6
import Derived.Test.YtgmjaggkiifdjaaDoorZS7
import Derived.Test.YtgmjaggkiifdjaaDoorZS8
import Derived.Test.YtgmjaggkiifdjaaDoorZS9
import Derived.Test.YtgmjaggkiifdjaaDoorZS11
import Derived.Test.YtgmjaggkiifdjaaDoorZS12
set_option linter.unusedVariables false
set_option linter.unusedSimpArgs false
namespace Go.Proofs.YtgmjaggkiifdjaaDoor.Given
open Go.RowKit Go.Proofs.YtgmjaggkiifdjaaDoorW.PrintWords Go.Proofs.YtgmjaggkiifdjaaDoorW.PrintLast Go.Proofs.YtgmjaggkiifdjaaDoorW.PrintMore Go.Proofs.YtgmjaggkiifdjaaDoor.Base Go.Proofs.YtgmjaggkiifdjaaDoor.Gv Go.Proofs.YtgmjaggkiifdjaaDoor.QA
theorem slash_end (s : ByteArray) : ∃ n, n ≤ s.size ∧ (n = 0 ∨ bt s ((n : Int) - 1) ≠ 47) ∧ ∀ j : Nat, n ≤ j → j < s.size → bt s j = 47 := by
  have key : ∀ m : Nat, m ≤ s.size → (∀ j : Nat, m ≤ j → j < s.size → bt s j = 47) → ∃ n, n ≤ s.size ∧ (n = 0 ∨ bt s ((n : Int) - 1) ≠ 47) ∧ ∀ j : Nat, n ≤ j → j < s.size → bt s j = 47 := by
    intro m
    induction m with
    | zero => intro hm h; exact ⟨0, hm, .inl rfl, h⟩
    | succ m ih =>
      intro hm h
      by_cases hb : bt s (m : Int) = 47
      · refine ih (by omega) (fun j h1 h2 => ?_)
        rcases Nat.eq_or_lt_of_le h1 with e | e
        · rw [← e]; exact hb
        · exact h j e h2
      · exact ⟨m + 1, hm, .inr (by rw [show (((m + 1 : Nat) : Int) - 1) = (m : Int) by omega]; exact hb), h⟩
  exact key s.size (Nat.le_refl _) (fun j h1 h2 => by omega)
theorem trimR_from (s : ByteArray) (c : Int) (hs : s.size ≤ 562949953421408) (n : Nat) (hstop : n = 0 ∨ bt s ((n : Int) - 1) ≠ c) (d : Nat) : ∀ i : Nat, i = n + d → i ≤ s.size → (∀ j : Nat, n ≤ j → j < i → bt s j = c) → Ev (fun k => fiberutils_TrimRight.l0 k s c (i : Int)) (s.extract 0 n) := by
  induction d with
  | zero =>
    intro i hi hle _
    obtain rfl : i = n := by omega
    refine Ev.step (f := fun _ => some (s.extract 0 i)) (fun k => ?_) (Ev.now _)
    simp only [fiberutils_TrimRight.l0]
    rcases hstop with h0 | h0
    · rw [if_neg (by omega), if_pos (by omega), if_pos (by omega), Int.toNat_natCast]
    · rcases Nat.eq_zero_or_pos i with hz | hz
      · rw [if_neg (by omega), if_pos (by omega), if_pos (by omega), Int.toNat_natCast]
      · rw [if_pos (by omega), wrap_sub (by omega) (by omega), if_pos (by omega), if_pos (by omega), if_neg h0, if_pos (by omega), if_pos (by omega), Int.toNat_natCast]
  | succ d ih =>
    intro i hi hle hall
    refine Ev.step (f := fun k => fiberutils_TrimRight.l0 k s c ((i - 1 : Nat) : Int)) (fun k => ?_) (ih (i - 1) (by omega) (by omega) (fun j h1 h2 => hall j h1 (by omega)))
    have hb := hall (i - 1) (by omega) (by omega)
    have e : ((i - 1 : Nat) : Int) = (i : Int) - 1 := by omega
    simp only [fiberutils_TrimRight.l0]
    rw [if_pos (by omega), wrap_sub (by omega) (by omega), if_pos (by omega), if_pos (by omega), ← e, if_pos hb]
def grp (p q : ByteArray) (n : Nat) : ByteArray := if q.size = 0 then p else p.extract 0 n ++ if bt q 0 = 47 then q else (⟨#[47]⟩ : ByteArray) ++ q
theorem implGroup_ends (p q : ByteArray) (hp : p.size ≤ 562949953421408) (hq : q.size ≤ 562949953421408) (n : Nat) (hn : n ≤ p.size) (hstop : n = 0 ∨ bt p ((n : Int) - 1) ≠ 47) (hall : ∀ j : Nat, n ≤ j → j < p.size → bt p j = 47) :
    Ev (fun k => impl_GroupPath.f k p q) (grp p q n) := by
  have hx : (p.extract 0 n).size ≤ 562949953421408 := by rw [ByteArray.size_extract]; omega
  unfold grp
  simp only [impl_GroupPath.f, fiberhelpers_ZzGroup.f]
  refine Ev.bind (Ev.bind ?_ (Ev.now _)) (Ev.now _)
  simp only [fiberhelpers_getGroupPath.f]
  by_cases hq0 : q.size = 0
  · rw [if_pos hq0]; exact Ev.if_true (by omega) (Ev.now _)
  rw [if_neg hq0]
  have trim : Ev (fun k => fiberutils_TrimRight.f k p 47) (p.extract 0 n) := trimR_from p 47 hp n hstop (p.size - n) p.size (by omega) (Nat.le_refl _) hall
  refine Ev.if_false (by omega) (Ev.if_true (by omega) ?_)
  by_cases h47 : bt q 0 = 47
  · rw [if_pos h47]
    exact Ev.if_true h47 (Ev.bind trim (Ev.if_true (by omega) (Ev.now _)))
  · rw [if_neg h47]
    have h1 : ((⟨#[47]⟩ : ByteArray) ++ q).size = 1 + q.size := by rw [ByteArray.size_append]; rfl
    exact Ev.if_false h47 (Ev.if_true (by omega) (Ev.bind trim (Ev.if_true (by omega) (Ev.now _))))
theorem specGroup_ends (p q : ByteArray) (hp : p.size ≤ 1099511627776) (hq : q.size ≤ 1099511627776) (n : Nat) (hn : n ≤ p.size) (hstop : n = 0 ∨ bt p ((n : Int) - 1) ≠ 47) (hall : ∀ j : Nat, n ≤ j → j < p.size → bt p j = 47) :
    Ev (fun k => spec_GroupPath.f k p q) (grp p q n) := by
  unfold grp
  simp only [spec_GroupPath.f]
  by_cases hq0 : q.size = 0
  · rw [if_pos hq0]; exact Ev.if_true ((tl_nil q).2 hq0) (Ev.now _)
  rw [if_neg hq0]
  refine Ev.if_false (fun h => hq0 ((tl_nil q).1 h)) ?_
  have h1 : ((⟨#[47]⟩ : ByteArray) ++ q).size = 1 + q.size := by rw [ByteArray.size_append]; rfl
  have key : ∀ d i : Nat, i = n + d → i ≤ p.size → Ev (fun k => spec_GroupPath.l0 k (p.extract 0 i) q) (p.extract 0 n ++ if bt q 0 = 47 then q else (⟨#[47]⟩ : ByteArray) ++ q) := by
    intro d
    induction d with
    | zero =>
      intro i hi hle
      obtain rfl : i = n := by omega
      have hxs : (p.extract 0 i).size = i := by rw [ByteArray.size_extract]; omega
      refine Ev.step (f := fun _ => some (p.extract 0 i ++ if bt q 0 = 47 then q else (⟨#[47]⟩ : ByteArray) ++ q)) (fun k => ?_) (Ev.now _)
      rw [spec_GroupPath.l0]
      by_cases hi0 : i = 0
      · rw [if_pos ((tl_nil _).2 (by omega)), if_pos (by omega)]
        by_cases h47 : bt q 0 = 47
        · rw [if_pos h47, if_pos h47, if_pos (by omega)]
        · rw [if_neg h47, if_neg h47, if_pos (by omega), if_pos (by omega)]
      · have hw : wrap64 (((p.extract 0 i).size : Int) - 1) = (i : Int) - 1 := by rw [hxs]; exact wrap_sub (by omega) (by omega)
        have hb : bt (p.extract 0 i) ((i : Int) - 1) = bt p ((i : Int) - 1) := by
          rw [show (i : Int) - 1 = ((i - 1 : Nat) : Int) by omega, bt_ns, bt_ns, ns_extract, List.drop_zero, Nat.sub_zero, List.getD_eq_getElem?_getD, List.getD_eq_getElem?_getD, List.getElem?_take, if_pos (by omega)]
        rw [if_neg (fun g => hi0 (by rw [← hxs]; exact (tl_nil _).1 g)), hw, if_pos (by omega), if_pos (by omega), hb, if_neg (hstop.resolve_left hi0), if_pos (by omega)]
        by_cases h47 : bt q 0 = 47
        · rw [if_pos h47, if_pos h47, if_pos (by omega)]
        · rw [if_neg h47, if_neg h47, if_pos (by omega), if_pos (by omega)]
    | succ d ih =>
      intro i hi hle
      have hxs : (p.extract 0 i).size = i := by rw [ByteArray.size_extract]; omega
      have hw : wrap64 (((p.extract 0 i).size : Int) - 1) = ((i - 1 : Nat) : Int) := by rw [hxs, wrap_sub (by omega) (by omega)]; omega
      have hb : bt (p.extract 0 i) ((i - 1 : Nat) : Int) = 47 := by
        rw [bt_ns, ns_extract, List.drop_zero, Nat.sub_zero, List.getD_eq_getElem?_getD, List.getElem?_take, if_pos (by omega), ← List.getD_eq_getElem?_getD, ← bt_ns]
        exact hall (i - 1) (by omega) (by omega)
      have he : (p.extract 0 i).extract 0 (i - 1) = p.extract 0 (i - 1) := ns_inj (by
        rw [ns_extract, ns_extract, ns_extract, List.drop_zero, List.drop_zero, Nat.sub_zero, Nat.sub_zero, List.take_take, Nat.min_eq_left (by omega)])
      refine Ev.step (fun k => ?_) (ih (i - 1) (by omega) (by omega))
      rw [spec_GroupPath.l0, if_neg (fun g => by have := (tl_nil _).1 g; omega), hw, if_pos (by omega), if_pos (by omega), hb, if_pos rfl, if_pos (by omega), Int.toNat_natCast, he]
  have hself : p.extract 0 p.size = p := ns_inj (by rw [ns_extract, List.drop_zero, Nat.sub_zero, ← ns_length, List.take_length])
  have h := key (p.size - n) p.size (by omega) (Nat.le_refl _)
  rw [hself] at h
  exact h
def Win (xs : List Int) (j : Nat) : Prop := (xs.drop j).take 8 = ncN
def goodAt (xs : List Int) (j : Nat) : Bool := (decide (j = 0) || decide (xs.getD (j - 1) 0 = 32) || decide (xs.getD (j - 1) 0 = 44)) && (decide (j + 8 = xs.length) || decide (xs.getD (j + 8) 0 = 44))
def NcR (xs : List Int) (r : Int) : Prop := r = 2 ∨ (r = 0 ∧ ∀ j, j + 8 ≤ xs.length → ¬ Win xs j) ∨ (r = 1 ∧ ∃ p, p + 8 ≤ xs.length ∧ Win xs p ∧ (∀ j, j < p → ¬ Win xs j) ∧ goodAt xs p = true)
theorem specNc_from (s : ByteArray) (hs : s.size ≤ 1099511627776) (d : Nat) : ∀ (i n : Nat) (g : Bool), i + d = s.size + 1 → n ≤ i →
    (n = 0 ∧ (∀ j, j < i → ¬ Win (ns s) j) ∨ n = 1 ∧ (∃ p, p < i ∧ p + 8 ≤ s.size ∧ Win (ns s) p ∧ (∀ j, j < p → ¬ Win (ns s) j) ∧ g = goodAt (ns s) p) ∨ 2 ≤ n) →
    ∃ r, Ev (fun k => spec_NoCache.l0 k s (n : Int) g (i : Int)) r ∧ NcR (ns s) r := by
  have hl := ns_length s
  have out : ∀ (i n : Nat) (g : Bool), s.size < i + 8 → n ≤ i → i ≤ s.size + 1 →
    (n = 0 ∧ (∀ j, j < i → ¬ Win (ns s) j) ∨ n = 1 ∧ (∃ p, p < i ∧ p + 8 ≤ s.size ∧ Win (ns s) p ∧ (∀ j, j < p → ¬ Win (ns s) j) ∧ g = goodAt (ns s) p) ∨ 2 ≤ n) →
    ∃ r, Ev (fun k => spec_NoCache.l0 k s (n : Int) g (i : Int)) r ∧ NcR (ns s) r := by
    intro i n g hi hni hile h
    have hw : wrap64 ((i : Int) + 8) = (i : Int) + 8 := by unfold wrap64; omega
    refine ⟨if n = 0 then 0 else if n = 1 then (if g = true then 1 else 2) else 2, Ev.step (f := fun _ => some (if n = 0 then 0 else if n = 1 then (if g = true then 1 else 2) else 2)) (fun k => ?_) (Ev.now _), ?_⟩
    · rw [spec_NoCache.l0, hw, if_neg (by omega)]
      by_cases h0 : n = 0
      · rw [if_pos (by omega), if_pos h0]
      · rw [if_neg (by omega), if_neg h0]
        by_cases h1 : n = 1
        · rw [if_pos (by omega), if_pos h1]
          cases g <;> simp
        · rw [if_neg (by omega), if_neg h1]
    · rcases h with ⟨h0, h⟩ | ⟨h1, p, hp, hp8, hwp, hf, hg⟩ | h2
      · rw [if_pos h0]
        exact .inr (.inl ⟨rfl, fun j hj => h j (by omega)⟩)
      · rw [if_neg (by omega), if_pos h1]
        cases hgg : g with
        | true => exact .inr (.inr ⟨by simp, p, by omega, hwp, hf, by rw [← hg, hgg]⟩)
        | false => exact .inl (by simp)
      · rw [if_neg (by omega), if_neg (by omega)]; exact .inl rfl
  induction d with
  | zero => intro i n g hi hni h; exact out i n g (by omega) hni (by omega) h
  | succ d ih =>
    intro i n g hi hni h
    by_cases hin : i + 8 ≤ s.size
    · have hw := Lib.hid (show wrap64 ((i : Int) + 8) = ((i + 8 : Nat) : Int) by unfold wrap64; omega)
      have hw1 := Lib.hid (show wrap64 ((i : Int) + 1) = ((i + 1 : Nat) : Int) by unfold wrap64; omega)
      have hwn := Lib.hid (show wrap64 ((n : Int) + 1) = ((n + 1 : Nat) : Int) by unfold wrap64; omega)
      have hex : (s.extract i (i + 8)).toList = ([110, 111, 45, 99, 97, 99, 104, 101] : List UInt8) ↔ Win (ns s) i := by
        have e : ([110, 111, 45, 99, 97, 99, 104, 101] : List UInt8) = nc.toList := by rw [Lib.toList_data]; rfl
        rw [e, toList_ns, ns_nc, ns_extract, show i + 8 - i = 8 by omega]; rfl
      have z1 : ((i + 8 : Nat) : Int) ≤ (s.size : Int) := by omega
      have z2 : (0 : Int) ≤ (i : Int) := by omega
      have z3 : (i : Int) ≤ ((i + 8 : Nat) : Int) := by omega
      have z4 : (0 : Int) ≤ ((i + 8 : Nat) : Int) := by omega
      by_cases hwin : Win (ns s) i
      · have cond : (n + 1 = 0 ∧ (∀ j, j < i + 1 → ¬ Win (ns s) j) ∨ n + 1 = 1 ∧ (∃ p, p < i + 1 ∧ p + 8 ≤ s.size ∧ Win (ns s) p ∧ (∀ j, j < p → ¬ Win (ns s) j) ∧ goodAt (ns s) i = goodAt (ns s) p) ∨ 2 ≤ n + 1) := by
          rcases h with ⟨h0, h⟩ | ⟨h1, _⟩ | h2
          · exact .inr (.inl ⟨by omega, i, by omega, hin, hwin, h, rfl⟩)
          · exact .inr (.inr (by omega))
          · exact .inr (.inr (by omega))
        obtain ⟨r, hr, hR⟩ := ih (i + 1) (n + 1) (goodAt (ns s) i) (by omega) (by omega) cond
        refine ⟨r, Ev.step (fun k => ?_) hr, hR⟩
        rw [spec_NoCache.l0, hw.out, if_pos z1, if_pos z2, if_pos z3, Int.toNat_natCast, Int.toNat_natCast, if_pos (hex.2 hwin), hw1.out, hwn.out]
        have tail : ∀ x : Bool, (if ((i + 8 : Nat) : Int) = (s.size : Int) then (spec_NoCache.l0 k s ((n + 1 : Nat) : Int) true ((i + 1 : Nat) : Int)) else (if 0 ≤ ((i + 8 : Nat) : Int) then (if ((i + 8 : Nat) : Int) < (s.size : Int) then (spec_NoCache.l0 k s ((n + 1 : Nat) : Int) ((bt s ((i + 8 : Nat) : Int)) == 44) ((i + 1 : Nat) : Int)) else (none)) else (none))) = spec_NoCache.l0 k s ((n + 1 : Nat) : Int) (decide (i + 8 = (ns s).length) || decide ((ns s).getD (i + 8) 0 = 44)) ((i + 1 : Nat) : Int) := by
          intro x
          by_cases he : i + 8 = s.size
          · rw [if_pos (by omega), decide_eq_true (by omega), Bool.true_or]
          · rw [if_neg (by omega), if_pos z4, if_pos (by omega), decide_eq_false (by omega), Bool.false_or, bt_ns]; rfl
        unfold goodAt
        by_cases hi0 : i = 0
        · rw [if_pos (by omega), tail true, decide_eq_true hi0]; simp only [Bool.true_or, Bool.true_and]
        · have hwm : wrap64 ((i : Int) - 1) = ((i - 1 : Nat) : Int) := by unfold wrap64; omega
          rw [if_neg (by omega), hwm, if_pos (by omega), if_pos (by omega), bt_ns]
          by_cases h32 : (ns s).getD (i - 1) 0 = 32
          · rw [if_pos h32, tail true, decide_eq_true h32]; simp only [Bool.true_or, Bool.or_true, Bool.true_and]
          · rw [if_neg h32]
            by_cases h44 : (ns s).getD (i - 1) 0 = 44
            · rw [if_pos h44, tail true, decide_eq_true h44]; simp only [Bool.true_or, Bool.or_true, Bool.true_and]
            · rw [if_neg h44, decide_eq_false hi0, decide_eq_false h32, decide_eq_false h44]; rfl
      · have cond : (n = 0 ∧ (∀ j, j < i + 1 → ¬ Win (ns s) j) ∨ n = 1 ∧ (∃ p, p < i + 1 ∧ p + 8 ≤ s.size ∧ Win (ns s) p ∧ (∀ j, j < p → ¬ Win (ns s) j) ∧ g = goodAt (ns s) p) ∨ 2 ≤ n) := by
          rcases h with ⟨h0, h⟩ | ⟨h1, p, hp, hr⟩ | h2
          · refine .inl ⟨h0, fun j hj => ?_⟩
            rcases Nat.eq_or_lt_of_le (Nat.le_of_lt_succ hj) with e | e
            · rw [e]; exact hwin
            · exact h j e
          · exact .inr (.inl ⟨h1, p, by omega, hr⟩)
          · exact .inr (.inr h2)
        obtain ⟨r, hr, hR⟩ := ih (i + 1) n g (by omega) (by omega) cond
        refine ⟨r, Ev.step (fun k => ?_) hr, hR⟩
        rw [spec_NoCache.l0, hw.out, if_pos z1, if_pos z2, if_pos z3, Int.toNat_natCast, Int.toNat_natCast, if_neg (fun g => hwin (hex.1 g)), hw1.out]
    · exact out i n g (by omega) hni (by omega) h
theorem told_noCache (s : ByteArray) (hs : s.size ≤ 1099511627776) : ∃ b r, Ev (fun k => impl_NoCache.f k s) b ∧ Ev (fun k => spec_NoCache.f k s) r ∧ laws_told.f b r = some true := by
  have hl := ns_length s
  obtain ⟨r, hr, hR⟩ := specNc_from s hs (s.size + 1) 0 0 false (by omega) (by omega) (.inl ⟨rfl, fun j hj => by omega⟩)
  have implEv : ∃ b, Ev (fun k => impl_NoCache.f k s) b ∧ ((∀ j, j + 8 ≤ s.size → ¬ Win (ns s) j) → b = false) ∧ (∀ p, p + 8 ≤ s.size → Win (ns s) p → (∀ j, j < p → ¬ Win (ns s) j) → goodAt (ns s) p = true → b = true) := by
    by_cases hany : ∃ p, p + 8 ≤ s.size ∧ Win (ns s) p
    · have first : ∀ n p, p ≤ n → p + 8 ≤ s.size → Win (ns s) p → ∃ q, q + 8 ≤ s.size ∧ Win (ns s) q ∧ ∀ j, j < q → ¬ Win (ns s) j := by
        intro n
        induction n with
        | zero => intro p hp h8 hw; exact ⟨p, h8, hw, fun j hj => by omega⟩
        | succ n ih =>
          intro p hp h8 hw
          by_cases hx : ∃ j, j < p ∧ Win (ns s) j
          · obtain ⟨j, hj, hwj⟩ := hx
            exact ih j (by omega) (by omega) hwj
          · exact ⟨p, h8, hw, fun j hj g => hx ⟨j, hj, g⟩⟩
      obtain ⟨p0, hp0, hw0⟩ := hany
      obtain ⟨p, h8, hw, hf⟩ := first p0 p0 (Nat.le_refl _) hp0 hw0
      have hz : Ev (fun k => fiberhelpers_zzIndex.f k s nc) (p : Int) := zz_at s nc (by omega) (by decide) p h8 (by rw [ns_nc]; exact hw) (fun j hj => by rw [ns_nc]; exact hf j hj)
      have huniq : ∀ q, q + 8 ≤ s.size → Win (ns s) q → (∀ j, j < q → ¬ Win (ns s) j) → q = p := by
        intro q _ hq hqf
        rcases Nat.lt_trichotomy q p with h | h | h
        · exact absurd hq (hf q h)
        · exact h
        · exact absurd hw (hqf p h)
      have hw8 : wrap64 ((p : Int) + 8) = ((p + 8 : Nat) : Int) := by unfold wrap64; omega
      have j0f : Ev (fun k => fiberhelpers_isNoCache.j0 k s (p : Int) false) (decide (p + 8 = (ns s).length) || decide ((ns s).getD (p + 8) 0 = 44)) := by
        refine Ev.step (f := fun _ => some (decide (p + 8 = (ns s).length) || decide ((ns s).getD (p + 8) 0 = 44))) (fun k => ?_) (Ev.now _)
        simp only [fiberhelpers_isNoCache.j0]
        rw [if_neg (by simp), hw8]
        by_cases he : p + 8 = s.size
        · rw [if_pos (by omega), decide_eq_true (by omega)]; rfl
        · rw [if_neg (by omega), if_pos (by omega), if_pos (by omega), decide_eq_false (by omega), Bool.false_or, bt_ns]
          by_cases h44 : (ns s).getD (p + 8) 0 = 44
          · rw [if_pos h44, decide_eq_true h44]
          · rw [if_neg h44, decide_eq_false h44]
      have j0t : Ev (fun k => fiberhelpers_isNoCache.j0 k s (p : Int) true) false := by
        refine Ev.step (f := fun _ => some false) (fun k => ?_) (Ev.now _)
        simp only [fiberhelpers_isNoCache.j0]
        rw [if_pos trivial]
      refine ⟨goodAt (ns s) p, ?_, fun h => absurd hw (h p h8), fun q h1 h2 h3 h4 => by rw [← huniq q h1 h2 h3]; exact h4⟩
      simp only [impl_NoCache.f, fiberhelpers_ZzNoCache.f]
      refine Ev.bind (Ev.bind ?_ (Ev.now _)) (Ev.now _)
      simp only [fiberhelpers_isNoCache.f]
      refine Ev.bind hz (Ev.if_false (by omega) ?_)
      unfold goodAt
      by_cases hp0 : p = 0
      · rw [decide_eq_true hp0]
        simp only [Bool.true_or, Bool.true_and]
        exact Ev.if_false (by omega) j0f
      · have hwm : wrap64 ((p : Int) - 1) = ((p - 1 : Nat) : Int) := by unfold wrap64; omega
        rw [hwm, bt_ns]
        refine Ev.if_true (by omega) (Ev.if_true (by omega) (Ev.if_true (by omega) ?_))
        by_cases h32 : (ns s).getD (p - 1) 0 = 32
        · rw [decide_eq_true h32]
          simp only [Bool.true_or, Bool.or_true, Bool.true_and]
          exact Ev.if_true h32 j0f
        · rw [decide_eq_false h32, decide_eq_false hp0]
          refine Ev.if_false h32 ?_
          by_cases h44 : (ns s).getD (p - 1) 0 = 44
          · rw [decide_eq_true h44, show (!((ns s).getD (p - 1) 0 == 44)) = false by rw [beq_iff_eq.2 h44]; rfl]
            simp only [Bool.or_true, Bool.true_and]
            exact j0f
          · rw [decide_eq_false h44, show (!((ns s).getD (p - 1) 0 == 44)) = true by rw [beq_eq_false_iff_ne.2 h44]; rfl]
            exact j0t
    · refine ⟨false, ?_, fun _ => rfl, fun p h1 h2 _ _ => absurd ⟨p, h1, h2⟩ hany⟩
      simp only [impl_NoCache.f, fiberhelpers_ZzNoCache.f]
      refine Ev.bind (Ev.bind ?_ (Ev.now _)) (Ev.now _)
      simp only [fiberhelpers_isNoCache.f]
      exact Ev.bind (zz_none s nc (by omega) (by decide) (fun j hj e => hany ⟨j, hj, by rw [ns_nc] at e; exact e⟩)) (Ev.if_true rfl (Ev.now _))
  obtain ⟨b, hb, h0, h1⟩ := implEv
  refine ⟨b, r, hb, hr, ?_⟩
  unfold laws_told.f
  rcases hR with h | ⟨h, hn⟩ | ⟨h, p, hp, hw, hf, hg⟩
  · rw [if_pos h]
  · rw [h, if_neg (by decide), h0 (fun j hj => hn j (by omega))]; rfl
  · rw [h, if_neg (by decide), h1 p (by omega) hw hf hg]; rfl
theorem ahead_cut (x : ByteArray) (b i : Nat) : Ev (fun k => spec_ahead.f k (x.extract b i)) (commaPart (ns x) b i) := by
  obtain ⟨t, h, hn⟩ := ahead_ends (x.extract b i).size (x.extract b i) (Nat.le_refl _)
  have e : t = commaPart (ns x) b i := by
    rw [commaPart, List.drop_take, ← ns_extract, ← sof_ns t, hn]; rfl
  rw [← e]; exact h
theorem specSpl_from (x : ByteArray) (hs : x.size ≤ 200) (d : Nat) : ∀ (i b : Nat) (out : List ByteArray), i + d = x.size → b ≤ i → out.length ≤ i →
    Ev (fun k => spec_Spliced.l0 k x out (b : Int) (i : Int)) (out ++ splTl (ns x) b i, 1) := by
  have hl := ns_length x
  induction d with
  | zero =>
    intro i b out hi hb ho
    have hw := Lib.hid (show wrap64 ((i : Int) + 1) = ((i + 1 : Nat) : Int) by unfold wrap64; omega)
    rw [splTl_hit (ns x) b i (by omega) (.inl (by omega)), show splTl (ns x) ((i + 1) % 256) (i + 1) = [] by unfold splTl; rw [if_neg (by omega)]]
    refine Ev.step (f := fun k => (spec_ahead.f k (x.extract b i)).bind fun t128 => spec_Spliced.l0 k x (out ++ [t128]) ((i + 1 : Nat) : Int) ((i + 1 : Nat) : Int)) (fun k => ?_) (Ev.bind (ahead_cut x b i) ?_)
    · rw [spec_Spliced.l0, if_pos (by omega), if_pos (by omega), if_pos (by omega), if_pos (by omega), Int.toNat_natCast, Int.toNat_natCast]
      simp only [if_pos (show out.length < 8796093022208 by omega), hw.out]
    · exact Ev.step (f := fun _ => some (out ++ [commaPart (ns x) b i], 1)) (fun k => by rw [spec_Spliced.l0, if_neg (by omega)]) (Ev.now _)
  | succ d ih =>
    intro i b out hi hb ho
    have hlt : i < (ns x).length := by omega
    have hbt := bt_get x i hlt
    have hd : (ns x).getD i 0 = (ns x)[i] := by rw [List.getD_eq_getElem?_getD, List.getElem?_eq_getElem hlt]; rfl
    have hw := Lib.hid (show wrap64 ((i : Int) + 1) = ((i + 1 : Nat) : Int) by unfold wrap64; omega)
    by_cases h44 : (ns x)[i] = 44
    · rw [splTl_hit (ns x) b i (by omega) (.inr (by rw [hd]; exact h44)), show (i + 1) % 256 = i + 1 by omega]
      have h2 := ih (i + 1) (i + 1) (out ++ [commaPart (ns x) b i]) (by omega) (by omega) (by rw [List.length_append, List.length_singleton]; omega)
      rw [List.append_assoc, List.singleton_append] at h2
      refine Ev.step (f := fun k => (spec_ahead.f k (x.extract b i)).bind fun t132 => spec_Spliced.l0 k x (out ++ [t132]) ((i + 1 : Nat) : Int) ((i + 1 : Nat) : Int)) (fun k => ?_) (Ev.bind (ahead_cut x b i) h2)
      rw [spec_Spliced.l0, if_pos (by omega), if_neg (by omega), if_pos (by omega), if_pos (by omega), hbt, if_pos h44, if_pos (by omega), if_pos (by omega), Int.toNat_natCast, Int.toNat_natCast]
      simp only [if_pos (show out.length < 8796093022208 by omega), hw.out]
    · have h2 := ih (i + 1) b out (by omega) (by omega) (by omega)
      rw [← splTl_skip (ns x) b 1 i (by omega) (fun j h1 h2 => by obtain rfl : j = i := by omega
                                                                  rw [hd]; exact h44)] at h2
      refine Ev.step (fun k => ?_) h2
      rw [spec_Spliced.l0, if_pos (by omega), if_neg (by omega), if_pos (by omega), if_pos (by omega), hbt, if_neg h44, hw.out]
def splAns (x : ByteArray) : List ByteArray := if x.size = 0 then [] else splTl (ns x) 0 0
theorem specSpl_ends (x : ByteArray) (hs : x.size ≤ 200) : Ev (fun k => spec_Spliced.f k x) (splAns x, 1) := by
  unfold splAns
  simp only [spec_Spliced.f]
  by_cases h0 : x.size = 0
  · rw [if_pos h0]; exact Ev.if_true ((tl_nil x).2 h0) (Ev.now _)
  · rw [if_neg h0]
    refine Ev.if_false (fun g => h0 ((tl_nil x).1 g)) (Ev.if_false (by omega) ?_)
    have h := specSpl_from x hs x.size 0 0 [] (by omega) (by omega) (by simp)
    rw [List.nil_append] at h
    exact h
theorem implSpl_is (x : ByteArray) (hs : x.size ≤ 200) : impl_Spliced.f x = some (splAns x, true) := by
  unfold impl_Spliced.f splAns
  rw [if_pos (by omega)]
theorem safe_is (s : ByteArray) : ∃ b, impl_Safe.f s = some b ∧ spec_Safe.f s = some b := by
  unfold impl_Safe.f fiberhelpers_IsMethodSafe.f spec_Safe.f
  split
  · exact ⟨_, rfl, rfl⟩
  · split
    · exact ⟨_, rfl, rfl⟩
    · split
      · exact ⟨_, rfl, rfl⟩
      · split
        · rename_i h; exact ⟨_, rfl, by rw [h]; rfl⟩
        · rename_i h; exact ⟨_, rfl, by rw [beq_eq_false_iff_ne.2 h]⟩
theorem idem_is (s : ByteArray) : ∃ b, impl_Idempotent.f s = some b ∧ spec_Idempotent.f s = some b := by
  obtain ⟨b, h1, h2⟩ := safe_is s
  unfold impl_Safe.f at h1
  unfold impl_Idempotent.f fiberhelpers_IsMethodIdempotent.f spec_Idempotent.f
  have h1' : fiberhelpers_IsMethodSafe.f s = some b := by
    cases hf : fiberhelpers_IsMethodSafe.f s with
    | none => rw [hf] at h1; cases h1
    | some x => rw [hf] at h1; exact h1
  rw [h1', h2]
  simp only [Option.bind_some]
  split
  · exact ⟨_, rfl, rfl⟩
  · split
    · exact ⟨_, rfl, rfl⟩
    · split
      · rename_i h; exact ⟨_, rfl, by rw [h]; rfl⟩
      · rename_i h; exact ⟨_, rfl, by rw [beq_eq_false_iff_ne.2 h]⟩
theorem field_all : ∀ n : Fin 256, spec_FieldByte.f 30 ((n.val : Nat) : Int) = impl_FieldByte.f ((n.val : Nat) : Int) ∧ (impl_FieldByte.f ((n.val : Nat) : Int)).isSome = true := by decide +kernel
theorem field_is (c : Int) (h0 : 0 ≤ c) (h1 : c ≤ 255) : ∃ b, impl_FieldByte.f c = some b ∧ Ev (fun k => spec_FieldByte.f k c) b := by
  obtain ⟨n, rfl⟩ := Int.eq_ofNat_of_zero_le h0
  obtain ⟨e, hs⟩ := field_all ⟨n, by omega⟩
  obtain ⟨b, hb⟩ := Option.isSome_iff_exists.1 hs
  exact ⟨b, hb, Ev.of (spec_FieldByte.mono _) (e.trans hb)⟩
theorem idx_rng (l : List Int) (c : Int) : -1 ≤ idx l c ∧ idx l c < l.length := by
  induction l with
  | nil => simp [idx]
  | cons x l ih =>
    unfold idx
    rw [List.length_cons]
    split
    · omega
    · split <;> omega
theorem place_from (s : ByteArray) (c : Int) (hs : s.size ≤ 140737488351232) (d : Nat) : ∀ i : Nat, i + d = s.size → Ev (fun k => spec_place.l0 k s c (s.size : Int) (i : Int)) (if idx ((ns s).drop i) c = -1 then -1 else (i : Int) + idx ((ns s).drop i) c) := by
  induction d with
  | zero =>
    intro i hi
    refine Ev.step (f := fun _ => some (-1)) (fun k => ?_) (Ev.val ?_)
    · simp only [spec_place.l0]; rw [if_neg (by omega)]
    · rw [List.drop_eq_nil_of_le (by rw [ns_length]; omega)]; rfl
  | succ d ih =>
    intro i hi
    have hlt : i < (ns s).length := by rw [ns_length]; omega
    have hb := bt_get s i hlt
    refine Ev.step (f := fun k => if (ns s)[i] = c then some (i : Int) else spec_place.l0 k s c (s.size : Int) ((i + 1 : Nat) : Int)) (fun k => ?_) ?_
    · simp only [spec_place.l0]
      rw [if_pos (by omega), if_pos (by omega), if_pos (by omega), hb, wrap_add (by omega) (by omega)]
      rfl
    · rw [List.drop_eq_getElem_cons hlt, idx]
      have hr := idx_rng ((ns s).drop (i + 1)) c
      refine Ev.ite (fun h => Ev.val ?_) (fun h => ?_)
      · rw [if_pos h, if_neg (by decide)]; omega
      · rw [if_neg h]
        have := ih (i + 1) (by omega)
        by_cases g : idx ((ns s).drop (i + 1)) c = -1
        · rw [if_pos g] at this
          rw [if_pos g, if_pos rfl]
          exact this
        · rw [if_neg g] at this
          rw [if_neg g, if_neg (by omega), show (i : Int) + (idx ((ns s).drop (i + 1)) c + 1) = ((i + 1 : Nat) : Int) + idx ((ns s).drop (i + 1)) c by omega]
          exact this
theorem place_ends (s : ByteArray) (c : Int) (hs : s.size ≤ 140737488351232) : Ev (fun k => spec_place.f k s c) (idx (ns s) c) := by
  have h := place_from s c hs s.size 0 (by omega)
  rw [List.drop_zero] at h
  split at h
  · rename_i g; rw [g]; exact h
  · rw [show ((0 : Nat) : Int) + idx (ns s) c = idx (ns s) c by omega] at h; exact h
def lineAns (a : ByteArray) : ByteArray × ByteArray × Bool := if idx (ns a) 10 = -1 then (⟨#[]⟩, ⟨#[]⟩, false) else (strOfNums ((ns a).take (lineLen (ns a) (idx (ns a) 10).toNat)), strOfNums ((ns a).drop ((idx (ns a) 10).toNat + 1)), true)
theorem implLine_is (a : ByteArray) (hs : a.size ≤ 1099511627776) : impl_NextLine.f a = some (lineAns a) := by
  unfold impl_NextLine.f lineAns
  rw [if_pos (by omega)]
theorem cut_to (a : ByteArray) (n : Nat) : a.extract 0 n = strOfNums ((ns a).take n) := by rw [← sof_ns (a.extract 0 n), ns_extract, List.drop_zero, Nat.sub_zero]
theorem cut_from (a : ByteArray) (n : Nat) : a.extract n a.size = strOfNums ((ns a).drop n) := by
  rw [← sof_ns (a.extract n a.size), ns_extract, List.take_of_length_le]
  rw [List.length_drop, ns_length]; omega
theorem specLine_ends (a : ByteArray) (hs : a.size ≤ 1099511627776) : Ev (fun k => spec_NextLine.f k a) (lineAns a) := by
  simp only [spec_NextLine.f]
  refine Ev.bind (place_ends a 10 (by omega)) ?_
  have hr := idx_rng (ns a) 10
  rw [ns_length] at hr
  unfold lineAns
  by_cases h : idx (ns a) 10 = -1
  · rw [if_pos h]
    exact Ev.if_true (by omega) (Ev.now _)
  · rw [if_neg h]
    obtain ⟨i, hi⟩ := Int.eq_ofNat_of_zero_le (show 0 ≤ idx (ns a) 10 by omega)
    rw [hi] at hr h ⊢
    rw [Int.toNat_natCast]
    have hw : wrap64 ((i : Int) + 1) = ((i + 1 : Nat) : Int) := by unfold wrap64; omega
    rw [hw]
    refine Ev.if_false (by omega) ?_
    have out : Ev (fun _ : Nat => (if 0 ≤ (i : Int) then (if (i : Int) ≤ (a.size : Int) then (if 0 ≤ ((i + 1 : Nat) : Int) then (if ((i + 1 : Nat) : Int) ≤ (a.size : Int) then (some (a.extract 0 (i : Int).toNat, a.extract ((i + 1 : Nat) : Int).toNat a.size, true)) else (none)) else (none)) else (none)) else (none))) (strOfNums ((ns a).take i), strOfNums ((ns a).drop (i + 1)), true) := by
      refine Ev.if_true (by omega) (Ev.if_true (by omega) (Ev.if_true (by omega) (Ev.if_true (by omega) (Ev.val ?_))))
      rw [Int.toNat_natCast, Int.toNat_natCast, cut_to, cut_from]
    by_cases h0 : 0 < i
    · have hwm : wrap64 ((i : Int) - 1) = ((i - 1 : Nat) : Int) := by unfold wrap64; omega
      rw [hwm, bt_ns]
      refine Ev.if_true (by omega) (Ev.if_true (by omega) (Ev.if_true (by omega) ?_))
      by_cases h13 : (ns a).getD (i - 1) 0 = 13
      · refine Ev.if_true h13 (Ev.if_true (by omega) (Ev.if_true (by omega) (Ev.if_true (by omega) (Ev.val ?_))))
        unfold lineLen
        rw [if_pos ⟨h0, h13⟩, Int.toNat_natCast, Int.toNat_natCast, cut_to, cut_from]
      · refine Ev.if_false h13 ?_
        rw [show lineLen (ns a) i = i by unfold lineLen; rw [if_neg (fun g => h13 g.2)]]
        exact out
    · refine Ev.if_false (by omega) ?_
      rw [show lineLen (ns a) i = i by unfold lineLen; rw [if_neg (fun g => h0 g.1)]]
      exact out
end Go.Proofs.YtgmjaggkiifdjaaDoor.Given
namespace Go.Proofs.YtgmjaggkiifdjaaDoor.Pure
open Go.RowKit Go.Proofs.YtgmjaggkiifdjaaDoorW.PrintWords Go.Proofs.YtgmjaggkiifdjaaDoorW.PrintLast Go.Proofs.YtgmjaggkiifdjaaDoorW.PrintMore Go.Proofs.YtgmjaggkiifdjaaDoor.Base Go.Proofs.YtgmjaggkiifdjaaDoor.Gv Go.Proofs.YtgmjaggkiifdjaaDoor.Given Go.Proofs.YtgmjaggkiifdjaaDoor.QA
theorem bwk {B C : Nat} {a b : World} (h : B ≤ C) (k : Below C a b) : Below B a b := ⟨k.os, k.tape, k.output, k.size, fun i hi => k.block i (by omega)⟩
theorem dB {P : Program} {n : Nat} {a : Array Value} {W : World} {r : Value} (h : Calls P n a W fun e w' => e = .returned r ∧ Drawn0 W w') : Calls P n a W fun e w' => e = .returned r ∧ Below W.heap.size W w' :=
  h.mono (fun e w' ⟨he, n, hn⟩ => ⟨he, by subst hn; exact pw_below_drewN (Below.refl _ _) n⟩)
theorem strs_reps (W : World) (base : Nat) (ok : Nat → Prop) : ∀ l : List ByteArray, Reps (Kd.string.M W base ok) 1 l (l.map Value.string)
  | [] => Reps.none _ _
  | s :: r => Reps.one (show Kd.M Kd.string _ _ _ s [.string s] from rfl) (strs_reps W base ok r)
theorem strs_lit (w : World) (l : List ByteArray) (hl : l.length ≤ 1000000) (cs : Array Value) (hcs : cs = (l.map Value.string).toArray) : Kd.C Kd.string (w.alloc (.cells cs 9)) (some ⟨w.heap.size, 0, none⟩) l.length l := by
  subst hcs
  have hrep := strs_reps w w.heap.size (fun _ => True) l
  have h2 := World.ownsRow_lit (base := w.heap.size) (e := 9) (size := 1) w (l.map Value.string).toArray l.length (Nat.le_refl _) (by unfold maxLen; omega) (by simp)
  have hR : Kd.R Kd.string 9 (w.alloc (.cells (l.map Value.string).toArray 9)) w.heap.size (fun _ => True) (.slice (some ⟨w.heap.size, 0, none⟩) l.length l.length) l := by
    refine ⟨fun k hk => trivial, l.map Value.string, by simpa [show Kd.string.sz = 1 from rfl] using h2, ?_⟩
    exact (strs_reps _ _ _ l)
  exact (Kd.R_reads' hR).2.2
set_option maxHeartbeats 1000000 in
set_option maxRecDepth 100000 in
theorem small_big (a0 a1 : ByteArray) (w : World) (h : 2147483647 < a0.size ∨ 2147483647 < a1.size) : Calls Tryd.prog 5 #[.string a0, .string a1] w fun e w' => e = .returned (.bool true) ∧ Below w.heap.size w w' := by
  by_cases h0 : 2147483647 < a0.size
  · have b0 : decide (2147483647 < (a0.size : Int)) = true := decide_eq_true (by omega)
    have b1 : decide (2147483647 < a0.size) = true := decide_eq_true (by omega)
    clear h
    go_enter Tryd.func5, Tryd.ntmps5
    go_wp2
    go_ret
    exact ⟨rfl, Below.refl _ _⟩
  · have h1 := h.resolve_left h0
    have b0 : decide (2147483647 < (a0.size : Int)) = false := decide_eq_false (by omega)
    have b1 : decide (2147483647 < a0.size) = false := decide_eq_false (by omega)
    have b2 : decide (2147483647 < (a1.size : Int)) = true := decide_eq_true (by omega)
    have b3 : decide (2147483647 < a1.size) = true := decide_eq_true (by omega)
    clear h
    go_enter Tryd.func5, Tryd.ntmps5
    go_wp2
    go_ret
    exact ⟨rfl, Below.refl _ _⟩
theorem etag_const : impl_EtagMatch.f (⟨#[34, 97, 34]⟩ : ByteArray) (⟨#[34, 97, 34]⟩ : ByteArray) = some true := by rw [em_is _ _ (by decide) (by decide)]; decide +kernel
theorem group_const : impl_GroupPath.f 20 (⟨#[47, 97]⟩ : ByteArray) (⟨#[47, 98]⟩ : ByteArray) = some (⟨#[47, 97, 47, 98]⟩ : ByteArray) := by decide +kernel
set_option maxHeartbeats 1000000 in
set_option maxRecDepth 100000 in
theorem small_long (a0 a1 : ByteArray) (w : World) (h0 : ¬ 2147483647 < a0.size) (h1 : ¬ 2147483647 < a1.size) (hsh : areShort [a0, a1] = false) : Calls Tryd.prog 5 #[.string a0, .string a1] w fun e w' => e = .returned (.bool true) ∧ Below w.heap.size w w' := by
  have b0 : decide (2147483647 < (a0.size : Int)) = false := decide_eq_false (by omega)
  have b1 : decide (2147483647 < a0.size) = false := decide_eq_false (by omega)
  have b2 : decide (2147483647 < (a1.size : Int)) = false := decide_eq_false (by omega)
  have b3 : decide (2147483647 < a1.size) = false := decide_eq_false (by omega)
  have E1 := Lib.hid (fun W => dB (impl_EtagMatch.calls _ _ _ W etag_const))
  obtain ⟨gp, hgp⟩ : ∃ g, (⟨#[47, 97, 47, 98]⟩ : ByteArray) = g := ⟨_, rfl⟩
  have G1 := Lib.hid (fun W => dB (impl_GroupPath.calls 20 _ _ _ W group_const))
  rw [hgp] at G1
  have eg : (gp.toList == ([47, 97, 47, 98] : List UInt8)) = true := by rw [← hgp]; decide +kernel
  obtain ⟨ks, hks⟩ := (short_ends [a0, a1] (by simp)).rounds
  rw [hsh] at hks
  have SH := Lib.hid (fun W A (h : Kd.C Kd.string W A 2 [a0, a1]) => dB (laws_short.calls ks A 2 [a0, a1] _ W h (by simp) hks))
  clear hks hgp hsh h0 h1
  go_enter Tryd.func5, Tryd.ntmps5
  go_wp2_with (first
    | (go_at_call 13; refine (E1.out _).mono ?_; rintro e w1 ⟨rfl, hb⟩; have HB1 := Lib.hid hb; clear hb)
    | (go_at_call 14; refine (G1.out _).mono ?_; rintro e w2 ⟨rfl, hb⟩; have HB2 := Lib.hid (HB1.out.trans (bwk HB1.out.size hb)); clear hb)
    | (go_at_call 11; go_loud (refine (SH.out _ _ (strs_lit w2 [a0, a1] (by simp) _ rfl)).mono ?_; rintro e w3 ⟨rfl, hb⟩; have HB3 := Lib.hid (HB2.out.trans (bwk HB2.out.size (((Below.refl w2.heap.size w2).alloc (Nat.le_refl _) _).trans (bwk (by simp) hb)))); clear hb)))
  go_ret
  exact ⟨rfl, HB3.out⟩
theorem spl_len (a : ByteArray) (h : a.size ≤ 200) : (splAns a).length ≤ 4611686018427387904 := by
  have key : ∀ (r : List Int) (p k : Nat), (splGo (ns a) p k r).length ≤ r.length + 1 := by
    intro r
    induction r with
    | nil => intro p k; simp [splGo]
    | cons c r ih =>
      intro p k
      rw [splGo]
      split
      · rw [List.length_cons, List.length_cons]; have := ih ((k + 1) % 256) (k + 1); omega
      · have := ih p (k + 1); rw [List.length_cons]; omega
  unfold splAns splTl
  split
  · simp
  · rw [if_pos (Nat.zero_le _)]
    have := key ((ns a).drop 0) 0 0
    rw [List.length_drop, ns_length] at this
    omega
set_option maxHeartbeats 4000000 in
set_option maxRecDepth 100000 in
theorem small_empty (a0 a1 : ByteArray) (w : World) (hg : GlS [0] w) (h0 : ¬ 2147483647 < a0.size) (h1 : ¬ 2147483647 < a1.size) (hs0 : a0.size ≤ 200) (hs1 : a1.size ≤ 200) (he : a0.size = 0) (hsh : areShort [a0, a1] = true) : Calls Tryd.prog 5 #[.string a0, .string a1] w fun e w' => e = .returned (.bool true) ∧ Below w.heap.size w w' := by
 have b0 : decide (2147483647 < (a0.size : Int)) = false := decide_eq_false (by omega)
 have b1 : decide (2147483647 < a0.size) = false := decide_eq_false (by omega)
 have b2 : decide (2147483647 < (a1.size : Int)) = false := decide_eq_false (by omega)
 have b3 : decide (2147483647 < a1.size) = false := decide_eq_false (by omega)
 have E1 := Lib.hid (fun W => dB (impl_EtagMatch.calls _ _ _ W etag_const))
 obtain ⟨gp, hgp⟩ : ∃ g, (⟨#[47, 97, 47, 98]⟩ : ByteArray) = g := ⟨_, rfl⟩
 have G1 := Lib.hid (fun W => dB (impl_GroupPath.calls 20 _ _ _ W group_const))
 rw [hgp] at G1
 have eg : (gp.toList == ([47, 97, 47, 98] : List UInt8)) = true := by rw [← hgp]; decide +kernel
 obtain ⟨ks, hks⟩ := (short_ends [a0, a1] (by simp)).rounds
 rw [hsh] at hks
 have SH := Lib.hid (fun W A (h : Kd.C Kd.string W A 2 [a0, a1]) => dB (laws_short.calls ks A 2 [a0, a1] _ W h (by simp) hks))
 clear hks hgp hsh h0 h1
 obtain ⟨⟨p1, p2⟩, hp⟩ : ∃ p, addrOf a0 = p := ⟨_, rfl⟩
 obtain ⟨k15, h15⟩ := (addr_ends a0 (by omega)).rounds
 obtain ⟨k16, h16⟩ := (specAddr_ends a0 (by omega)).rounds
 rw [hp] at h15 h16
 have C15 := Lib.hid (fun W => dB (impl_Addr.calls k15 a0 p1 p2 W h15))
 have C16 := Lib.hid (fun W => dB (spec_Addr.calls k16 a0 p1 p2 W h16))
 obtain ⟨⟨q1, q2⟩, hq⟩ : ∃ p, brAns (brOf (ns a0)) = p := ⟨_, rfl⟩
 have h17 : impl_Brackets.f a0 = some (brAns (brOf (ns a0))) := by unfold impl_Brackets.f; rw [if_pos (by omega)]; rfl
 obtain ⟨k18, h18⟩ := (specBr_ends a0 (by omega)).rounds
 rw [hq] at h17 h18
 have C17 := Lib.hid (fun W => impl_Brackets.calls a0 q1 q2 W h17)
 have C18 := Lib.hid (fun W => dB (spec_Brackets.calls k18 a0 q1 q2 W h18))
 obtain ⟨em, hem⟩ : ∃ b, etagM (ns a0) (ns a1) = b := ⟨_, rfl⟩
 have h13 := em_is a0 a1 (by omega) (by omega)
 have h19 := specEm_is a0 a1 (by omega) (by omega)
 rw [hem] at h13 h19
 have C13 := Lib.hid (fun W => dB (impl_EtagMatch.calls a0 a1 em W h13))
 have C19 := Lib.hid (fun W => dB (spec_EtagMatch.calls a0 a1 em W h19))
 obtain ⟨es, hes⟩ : ∃ b, staleGo (ns a0) [] [] (ns a1) = b := ⟨_, rfl⟩
 have h20 := es_is a0 a1 (by omega) (by omega)
 obtain ⟨k21, h21⟩ := (specStale_ends a0 a1 (by omega) (by omega)).rounds
 rw [hes] at h20 h21
 have C20 := Lib.hid (fun W => impl_EtagStale.calls a0 a1 es W h20)
 have C21 := Lib.hid (fun W => dB (spec_EtagStale.calls k21 a0 a1 es W h21))
 obtain ⟨n, hn1, hn2, hn3⟩ := slash_end a0
 obtain ⟨gr, hgr⟩ : ∃ g, grp a0 a1 n = g := ⟨_, rfl⟩
 obtain ⟨k14, h14⟩ := (implGroup_ends a0 a1 (by omega) (by omega) n hn1 hn2 hn3).rounds
 obtain ⟨k22, h22⟩ := (specGroup_ends a0 a1 (by omega) (by omega) n hn1 hn2 hn3).rounds
 rw [hgr] at h14 h22
 have C14 := Lib.hid (fun W => dB (impl_GroupPath.calls k14 a0 a1 gr W h14))
 have C22 := Lib.hid (fun W => dB (spec_GroupPath.calls k22 a0 a1 gr W h22))
 obtain ⟨nb, nr, hnb, hnr, htd⟩ := told_noCache a0 (by omega)
 obtain ⟨k24, h24⟩ := hnb.rounds
 obtain ⟨k25, h25⟩ := hnr.rounds
 have C24 := Lib.hid (fun W => dB (impl_NoCache.calls k24 a0 nb W h24))
 have C25 := Lib.hid (fun W => dB (spec_NoCache.calls k25 a0 nr W h25))
 have C23 := Lib.hid (fun W => dB (laws_told.calls nb nr true W htd))
 obtain ⟨k26, h26⟩ := (specSpl_ends a0 (by omega)).rounds
 have h27 := implSpl_is a0 (by omega)
 have hsl : (splAns a0).length ≤ 4611686018427387904 := spl_len a0 (by omega)
 obtain ⟨k28, h28⟩ := (sameTexts_ends (splAns a0) (splAns a0) hsl).rounds
 rw [decide_eq_true rfl] at h28
 obtain ⟨sp, hsp⟩ : ∃ l, splAns a0 = l := ⟨_, rfl⟩
 rw [hsp] at h26 h27 h28
 have C26 := Lib.hid (fun W => spec_Spliced.calls k26 a0 sp 1 W h26)
 have C27 := Lib.hid (fun W => impl_Spliced.calls a0 sp true W h27)
 have C28 := Lib.hid (fun W A c B d (hA : Kd.C Kd.string W A sp.length sp) hc (hB : Kd.C Kd.string W B sp.length sp) hd => dB (laws_sameTexts.calls k28 A c sp B d sp true W hA hc hB hd h28))
 obtain ⟨sb, h29, h30⟩ := safe_is a0
 have C29 := Lib.hid (fun W => dB (impl_Safe.calls a0 sb W h29))
 have C30 := Lib.hid (fun W => dB (spec_Safe.calls a0 sb W h30))
 obtain ⟨ib, h31, h32⟩ := idem_is a0
 have C31 := Lib.hid (fun W => dB (impl_Idempotent.calls a0 ib W h31))
 have C32 := Lib.hid (fun W => dB (spec_Idempotent.calls a0 ib W h32))
 obtain ⟨⟨l1, l2, l3⟩, hl⟩ : ∃ p, lineAns a0 = p := ⟨_, rfl⟩
 have h35 := implLine_is a0 (by omega)
 obtain ⟨k36, h36⟩ := (specLine_ends a0 (by omega)).rounds
 rw [hl] at h35 h36
 have C35 := Lib.hid (fun W (hg : GlS [0] W) => impl_NextLine.calls a0 l1 l2 l3 W hg h35)
 have C36 := Lib.hid (fun W => dB (spec_NextLine.calls k36 a0 l1 l2 l3 W h36))
 have z0 : (a0.toList == ([] : List UInt8)) = true := beq_iff_eq.2 ((tl_nil a0).2 he)
 have z1 : (a0.toList != ([] : List UInt8)) = false := by rw [bne, z0]; rfl
 have HG := Lib.hid hg
 clear hg he hs0 hs1 hp h15 h16 hq h17 h18 hem h13 h19 hes h20 h21 hn1 hn2 hn3 hgr h14 h22 hnb hnr htd h24 h25 h26 h27 hsl h28 hsp h29 h30 h31 h32 hl h35 h36
 go_enter Tryd.func5, Tryd.ntmps5
 go_upto_region 5 with (first
  | (go_at_call 13; refine (E1.out _).mono ?_; rintro e w1 ⟨rfl, hb⟩; have HB1 := Lib.hid hb; clear hb)
  | (go_at_call 14; refine (G1.out _).mono ?_; rintro e w2 ⟨rfl, hb⟩; have HB2 := Lib.hid (HB1.out.trans (bwk HB1.out.size hb)); clear hb))
 go_upto_region 11 with (first
  | (go_at_call 11; go_loud (refine (SH.out _ _ (strs_lit w2 [a0, a1] (by simp) _ rfl)).mono ?_; rintro e w3 ⟨rfl, hb⟩; have HB3 := Lib.hid (HB2.out.trans (bwk HB2.out.size (((Below.refl w2.heap.size w2).alloc (Nat.le_refl _) _).trans (bwk (by simp) hb)))); clear hb))
  | (go_at_call 15; refine (C15.out _).mono ?_; rintro e w4 ⟨rfl, hb⟩; have HB4 := Lib.hid (HB3.out.trans (bwk HB3.out.size hb)); clear hb)
  | (go_at_call 16; refine (C16.out _).mono ?_; rintro e w5 ⟨rfl, hb⟩; have HB5 := Lib.hid (HB4.out.trans (bwk HB4.out.size hb)); clear hb)
  | (go_at_call 17; refine (C17.out _).mono ?_; rintro e w6 ⟨rfl, hb⟩; have HB6 := Lib.hid (HB5.out.trans (bwk HB5.out.size hb)); clear hb)
  | (go_at_call 18; refine (C18.out _).mono ?_; rintro e w7 ⟨rfl, hb⟩; have HB7 := Lib.hid (HB6.out.trans (bwk HB6.out.size hb)); clear hb))
 go_upto_region 13 with (first
  | (go_at_call 13; refine (C13.out _).mono ?_; rintro e w8 ⟨rfl, hb⟩; have HB8 := Lib.hid (HB7.out.trans (bwk HB7.out.size hb)); clear hb)
  | (go_at_call 19; refine (C19.out _).mono ?_; rintro e w9 ⟨rfl, hb⟩; have HB9 := Lib.hid (HB8.out.trans (bwk HB8.out.size hb)); clear hb)
  | (go_at_call 20; refine (C20.out _).mono ?_; rintro e w10 ⟨rfl, hb⟩; have HB10 := Lib.hid (HB9.out.trans (bwk HB9.out.size hb)); clear hb)
  | (go_at_call 21; refine (C21.out _).mono ?_; rintro e w11 ⟨rfl, hb⟩; have HB11 := Lib.hid (HB10.out.trans (bwk HB10.out.size hb)); clear hb)
  | (go_at_call 14; refine (C14.out _).mono ?_; rintro e w12 ⟨rfl, hb⟩; have HB12 := Lib.hid (HB11.out.trans (bwk HB11.out.size hb)); clear hb)
  | (go_at_call 22; refine (C22.out _).mono ?_; rintro e w13 ⟨rfl, hb⟩; have HB13 := Lib.hid (HB12.out.trans (bwk HB12.out.size hb)); clear hb)
  | (go_at_call 24; refine (C24.out _).mono ?_; rintro e w14 ⟨rfl, hb⟩; have HB14 := Lib.hid (HB13.out.trans (bwk HB13.out.size hb)); clear hb)
  | (go_at_call 25; refine (C25.out _).mono ?_; rintro e w15 ⟨rfl, hb⟩; have HB15 := Lib.hid (HB14.out.trans (bwk HB14.out.size hb)); clear hb)
  | (go_at_call 23; refine (C23.out _).mono ?_; rintro e w16 ⟨rfl, hb⟩; have HB16 := Lib.hid (HB15.out.trans (bwk HB15.out.size hb)); clear hb))
 go_upto_region 18 with (first
  | (go_at_call 26; refine (C26.out _).mono ?_; rintro e w17 ⟨v, rfl, hR, hb⟩; obtain ⟨A1, c1, rfl, hc1, hC1⟩ := Kd.R_reads hR; have HB17 := Lib.hid (HB16.out.trans (bwk HB16.out.size hb)); have HC1 := Lib.hid hC1; clear hb hR hC1)
  | (go_at_call 27; refine (C27.out _).mono ?_; rintro e w18 ⟨v, rfl, hR, hb⟩; obtain ⟨A2, c2, rfl, hc2, hC2⟩ := Kd.R_reads hR; have HB18 := Lib.hid (HB17.out.trans (bwk HB17.out.size hb)); have HC2 := Lib.hid hC2; have HC3 := Lib.hid (Kd.C_below HC1.out hb); clear hb hR hC2)
  | (go_at_call 28; refine (C28.out _ _ _ _ _ HC2.out hc2 HC3.out hc1).mono ?_; rintro e w19 ⟨rfl, hb⟩; have HB19 := Lib.hid (HB18.out.trans (bwk HB18.out.size hb)); clear hb))
 refine start_ (n := 25) (S := fun w' => True) (ds := []) #[false,false,false,false,false,false,false,false,false,false,false,false,false,false,false,false,false,false,false,false,false,false,false,false,false] (by kernel_rfl) rfl rfl trivial (fun hHeld => ?_)
 generalize hWd : World.drew w19 = W2_ at hHeld ⊢
 have HB20 := Lib.hid (show Below w.heap.size w W2_ from by rw [← hWd]; exact below_drew1 HB19.out)
 refine pure_ (i := 0) (N := some 133) (v := ?_) (a' := ?_) #[true,false,false,false,false,false,false,false,false,false,false,false,false,false,false,false,false,false,false,false,false,false,false,false,false] rfl rfl (by kernel_rfl) (fun _ _ _ h => h) (Or.inl ⟨by rfl, ?_⟩) ?_ ?_
 rotate_left
 ·intro w'
  go_simp
  with_reducible rfl
 rotate_left
 ·simp only [Act.put, List.setIfInBounds_toArray, List.set_cons_zero, List.set_cons_succ, i64_w, i32_w]
  rfl
 refine pure_ (i := 2) (N := some 135) (v := ?_) (a' := ?_) #[true,false,true,false,false,false,false,false,false,false,false,false,false,false,false,false,false,false,false,false,false,false,false,false,false] rfl rfl (by kernel_rfl) (fun _ _ _ h => h) (Or.inl ⟨by rfl, ?_⟩) ?_ ?_
 rotate_left
 ·intro w'
  go_simp
  with_reducible rfl
 rotate_left
 ·simp only [Act.put, List.setIfInBounds_toArray, List.set_cons_zero, List.set_cons_succ, i64_w, i32_w]
  rfl
 refine one_ (i := 1) (N := some 134) #[true,true,true,false,false,false,false,false,false,false,false,false,false,false,false,false,false,false,false,false,false,false,false,false,false] rfl rfl (by kernel_rfl) (by decide) (fun K hK => ?_)
 refine goes_ Tryd.func29 (by kernel_rfl) rfl #[.string a0] (by rfl) rfl rfl (by (try simp only [List.map_toArray, List.map_cons, List.map_nil]); first | done | rfl) ?_
 with_reducible refine (C29.out _).mono ?_
 rintro e w21 ⟨rfl, hb⟩
 have HB21 := Lib.hid (HB20.out.trans (bwk HB20.out.size hb))
 clear hb
 refine ⟨_, rfl, ?_⟩
 refine hK.out _ _ trivial (fun hHeld => ?_)
 clear hK K
 refine norm_ (a' := ?_) ?_ ?_
 rotate_left
 ·show Act.put _ (some 134) _ = _
  simp only [Act.put, List.setIfInBounds_toArray, List.set_cons_zero, List.set_cons_succ, i64_w, i32_w]
  rfl
 refine one_ (i := 3) (N := some 136) #[true,true,true,true,false,false,false,false,false,false,false,false,false,false,false,false,false,false,false,false,false,false,false,false,false] rfl rfl (by kernel_rfl) (by decide) (fun K hK => ?_)
 refine goes_ Tryd.func30 (by kernel_rfl) rfl #[.string a0] (by rfl) rfl rfl (by (try simp only [List.map_toArray, List.map_cons, List.map_nil]); first | done | rfl) ?_
 with_reducible refine (C30.out _).mono ?_
 rintro e w22 ⟨rfl, hb⟩
 have HB22 := Lib.hid (HB21.out.trans (bwk HB21.out.size hb))
 clear hb
 refine ⟨_, rfl, ?_⟩
 refine hK.out _ _ trivial (fun hHeld => ?_)
 clear hK K
 refine norm_ (a' := ?_) ?_ ?_
 rotate_left
 ·show Act.put _ (some 136) _ = _
  simp only [Act.put, List.setIfInBounds_toArray, List.set_cons_zero, List.set_cons_succ, i64_w, i32_w]
  rfl
 refine pure_ (i := 4) (N := some 137) (v := ?_) (a' := ?_) #[true,true,true,true,true,false,false,false,false,false,false,false,false,false,false,false,false,false,false,false,false,false,false,false,false] rfl rfl (by kernel_rfl) (fun _ _ _ h => h) (Or.inl ⟨by rfl, ?_⟩) ?_ ?_
 rotate_left
 ·intro w'
  go_simp
  with_reducible rfl
 rotate_left
 ·simp only [Act.put, List.setIfInBounds_toArray, List.set_cons_zero, List.set_cons_succ, i64_w, i32_w]
  rfl
 refine pure_ (i := 5) (N := some 138) (v := ?_) (a' := ?_) #[true,true,true,true,true,true,false,false,false,false,false,false,false,false,false,false,false,false,false,false,false,false,false,false,false] rfl rfl (by kernel_rfl) (fun _ _ _ h => h) (Or.inl ⟨by rfl, ?_⟩) ?_ ?_
 rotate_left
 ·intro w'
  go_simp
  with_reducible rfl
 rotate_left
 ·simp only [Act.put, List.setIfInBounds_toArray, List.set_cons_zero, List.set_cons_succ, i64_w, i32_w]
  rfl
 refine pure_ (i := 6) (N := some 139) (v := ?_) (a' := ?_) #[true,true,true,true,true,true,true,false,false,false,false,false,false,false,false,false,false,false,false,false,false,false,false,false,false] rfl rfl (by kernel_rfl) (fun _ _ _ h => h) (Or.inl ⟨by rfl, ?_⟩) ?_ ?_
 rotate_left
 ·intro w'
  go_simp
  with_reducible rfl
 rotate_left
 ·simp only [Act.put, List.setIfInBounds_toArray, List.set_cons_zero, List.set_cons_succ, i64_w, i32_w]
  rfl
 refine pure_ (i := 8) (N := some 141) (v := ?_) (a' := ?_) #[true,true,true,true,true,true,true,false,true,false,false,false,false,false,false,false,false,false,false,false,false,false,false,false,false] rfl rfl (by kernel_rfl) (fun _ _ _ h => h) (Or.inl ⟨by rfl, ?_⟩) ?_ ?_
 rotate_left
 ·intro w'
  go_simp
  with_reducible rfl
 rotate_left
 ·simp only [Act.put, List.setIfInBounds_toArray, List.set_cons_zero, List.set_cons_succ, i64_w, i32_w]
  rfl
 refine one_ (i := 7) (N := some 140) #[true,true,true,true,true,true,true,true,true,false,false,false,false,false,false,false,false,false,false,false,false,false,false,false,false] rfl rfl (by kernel_rfl) (by decide) (fun K hK => ?_)
 refine goes_ Tryd.func31 (by kernel_rfl) rfl #[.string a0] (by rfl) rfl rfl (by (try simp only [List.map_toArray, List.map_cons, List.map_nil]); first | done | rfl) ?_
 with_reducible refine (C31.out _).mono ?_
 rintro e w23 ⟨rfl, hb⟩
 have HB23 := Lib.hid (HB22.out.trans (bwk HB22.out.size hb))
 clear hb
 refine ⟨_, rfl, ?_⟩
 refine hK.out _ _ trivial (fun hHeld => ?_)
 clear hK K
 refine norm_ (a' := ?_) ?_ ?_
 rotate_left
 ·show Act.put _ (some 140) _ = _
  simp only [Act.put, List.setIfInBounds_toArray, List.set_cons_zero, List.set_cons_succ, i64_w, i32_w]
  rfl
 refine one_ (i := 9) (N := some 142) #[true,true,true,true,true,true,true,true,true,true,false,false,false,false,false,false,false,false,false,false,false,false,false,false,false] rfl rfl (by kernel_rfl) (by decide) (fun K hK => ?_)
 refine goes_ Tryd.func32 (by kernel_rfl) rfl #[.string a0] (by rfl) rfl rfl (by (try simp only [List.map_toArray, List.map_cons, List.map_nil]); first | done | rfl) ?_
 with_reducible refine (C32.out _).mono ?_
 rintro e w24 ⟨rfl, hb⟩
 have HB24 := Lib.hid (HB23.out.trans (bwk HB23.out.size hb))
 clear hb
 refine ⟨_, rfl, ?_⟩
 refine hK.out _ _ trivial (fun hHeld => ?_)
 clear hK K
 refine norm_ (a' := ?_) ?_ ?_
 rotate_left
 ·show Act.put _ (some 142) _ = _
  simp only [Act.put, List.setIfInBounds_toArray, List.set_cons_zero, List.set_cons_succ, i64_w, i32_w]
  rfl
 refine pure_ (i := 10) (N := some 143) (v := ?_) (a' := ?_) #[true,true,true,true,true,true,true,true,true,true,true,false,false,false,false,false,false,false,false,false,false,false,false,false,false] rfl rfl (by kernel_rfl) (fun _ _ _ h => h) (Or.inl ⟨by rfl, ?_⟩) ?_ ?_
 rotate_left
 ·intro w'
  go_simp
  with_reducible rfl
 rotate_left
 ·simp only [Act.put, List.setIfInBounds_toArray, List.set_cons_zero, List.set_cons_succ, i64_w, i32_w]
  rfl
 refine pure_ (i := 11) (N := some 144) (v := ?_) (a' := ?_) #[true,true,true,true,true,true,true,true,true,true,true,true,false,false,false,false,false,false,false,false,false,false,false,false,false] rfl rfl (by kernel_rfl) (fun _ _ _ h => h) (Or.inl ⟨by rfl, ?_⟩) ?_ ?_
 rotate_left
 ·intro w'
  go_simp
  with_reducible rfl
 rotate_left
 ·simp only [Act.put, List.setIfInBounds_toArray, List.set_cons_zero, List.set_cons_succ, i64_w, i32_w]
  rfl
 refine pure_ (i := 12) (N := some 145) (v := ?_) (a' := ?_) #[true,true,true,true,true,true,true,true,true,true,true,true,true,false,false,false,false,false,false,false,false,false,false,false,false] rfl rfl (by kernel_rfl) (fun _ _ _ h => h) (Or.inl ⟨by rfl, ?_⟩) ?_ ?_
 rotate_left
 ·intro w'
  go_simp
  with_reducible rfl
 rotate_left
 ·simp only [Act.put, List.setIfInBounds_toArray, List.set_cons_zero, List.set_cons_succ, i64_w, i32_w]
  rfl
 refine pure_ (i := 13) (N := some 146) (v := ?_) (a' := ?_) #[true,true,true,true,true,true,true,true,true,true,true,true,true,true,false,false,false,false,false,false,false,false,false,false,false] rfl rfl (by kernel_rfl) (fun _ _ _ h => h) (Or.inl ⟨by rfl, ?_⟩) ?_ ?_
 rotate_left
 ·intro w'
  go_simp
  with_reducible rfl
 rotate_left
 ·simp only [Act.put, List.setIfInBounds_toArray, List.set_cons_zero, List.set_cons_succ, i64_w, i32_w]
  rfl
 refine pure_ (i := 14) (N := some 147) (v := ?_) (a' := ?_) #[true,true,true,true,true,true,true,true,true,true,true,true,true,true,true,false,false,false,false,false,false,false,false,false,false] rfl rfl (by kernel_rfl) (fun _ _ _ h => h) (Or.inl ⟨by rfl, ?_⟩) ?_ ?_
 rotate_left
 ·intro w'
  go_simp
  with_reducible rfl
 rotate_left
 ·simp only [Act.put, List.setIfInBounds_toArray, List.set_cons_zero, List.set_cons_succ, i64_w, i32_w]
  rfl
 refine pure_ (i := 15) (N := some 148) (v := ?_) (a' := ?_) #[true,true,true,true,true,true,true,true,true,true,true,true,true,true,true,true,false,false,false,false,false,false,false,false,false] rfl rfl (by kernel_rfl) (fun _ _ _ h => h) (Or.inl ⟨by rfl, ?_⟩) ?_ ?_
 rotate_left
 ·intro w'
  go_simp
  with_reducible rfl
 rotate_left
 ·simp only [Act.put, List.setIfInBounds_toArray, List.set_cons_zero, List.set_cons_succ, i64_w, i32_w]
  rfl
 refine pure_ (i := 16) (N := some 149) (v := undef) (a' := ?_) #[true,true,true,true,true,true,true,true,true,true,true,true,true,true,true,true,true,false,false,false,false,false,false,false,false] rfl rfl (by kernel_rfl) (fun _ _ _ h => h) (Or.inr ⟨by rfl, rfl⟩) ?_ ?_
 rotate_left
 ·simp only [Act.put, List.setIfInBounds_toArray, List.set_cons_zero, List.set_cons_succ, i64_w, i32_w]
  rfl
 refine pure_ (i := 19) (N := some 152) (v := undef) (a' := ?_) #[true,true,true,true,true,true,true,true,true,true,true,true,true,true,true,true,true,false,false,true,false,false,false,false,false] rfl rfl (by kernel_rfl) (fun _ _ _ h => h) (Or.inr ⟨by rfl, rfl⟩) ?_ ?_
 rotate_left
 ·simp only [Act.put, List.setIfInBounds_toArray, List.set_cons_zero, List.set_cons_succ, i64_w, i32_w]
  rfl
 refine pure_ (i := 17) (N := some 150) (v := undef) (a' := ?_) #[true,true,true,true,true,true,true,true,true,true,true,true,true,true,true,true,true,true,false,true,false,false,false,false,false] rfl rfl (by kernel_rfl) (fun _ _ _ h => h) (Or.inr ⟨by rfl, rfl⟩) ?_ ?_
 rotate_left
 ·simp only [Act.put, List.setIfInBounds_toArray, List.set_cons_zero, List.set_cons_succ, i64_w, i32_w]
  rfl
 refine pure_ (i := 20) (N := some 153) (v := undef) (a' := ?_) #[true,true,true,true,true,true,true,true,true,true,true,true,true,true,true,true,true,true,false,true,true,false,false,false,false] rfl rfl (by kernel_rfl) (fun _ _ _ h => h) (Or.inr ⟨by rfl, rfl⟩) ?_ ?_
 rotate_left
 ·simp only [Act.put, List.setIfInBounds_toArray, List.set_cons_zero, List.set_cons_succ, i64_w, i32_w]
  rfl
 refine pure_ (i := 18) (N := some 151) (v := undef) (a' := ?_) #[true,true,true,true,true,true,true,true,true,true,true,true,true,true,true,true,true,true,true,true,true,false,false,false,false] rfl rfl (by kernel_rfl) (fun _ _ _ h => h) (Or.inr ⟨by rfl, rfl⟩) ?_ ?_
 rotate_left
 ·simp only [Act.put, List.setIfInBounds_toArray, List.set_cons_zero, List.set_cons_succ, i64_w, i32_w]
  rfl
 refine pure_ (i := 21) (N := some 154) (v := undef) (a' := ?_) #[true,true,true,true,true,true,true,true,true,true,true,true,true,true,true,true,true,true,true,true,true,true,false,false,false] rfl rfl (by kernel_rfl) (fun _ _ _ h => h) (Or.inr ⟨by rfl, rfl⟩) ?_ ?_
 rotate_left
 ·simp only [Act.put, List.setIfInBounds_toArray, List.set_cons_zero, List.set_cons_succ, i64_w, i32_w]
  rfl
 refine pure_ (i := 22) (N := some 155) (v := undef) (a' := ?_) #[true,true,true,true,true,true,true,true,true,true,true,true,true,true,true,true,true,true,true,true,true,true,true,false,false] rfl rfl (by kernel_rfl) (fun _ _ _ h => h) (Or.inr ⟨by rfl, rfl⟩) ?_ ?_
 rotate_left
 ·simp only [Act.put, List.setIfInBounds_toArray, List.set_cons_zero, List.set_cons_succ, i64_w, i32_w]
  rfl
 refine pure_ (i := 23) (N := some 156) (v := ?_) (a' := ?_) #[true,true,true,true,true,true,true,true,true,true,true,true,true,true,true,true,true,true,true,true,true,true,true,true,false] rfl rfl (by kernel_rfl) (fun _ _ _ h => h) (Or.inl ⟨by rfl, ?_⟩) ?_ ?_
 rotate_left
 ·intro w'
  go_simp
  with_reducible rfl
 rotate_left
 ·simp only [Act.put, List.setIfInBounds_toArray, List.set_cons_zero, List.set_cons_succ, i64_w, i32_w]
  rfl
 refine pure_ (i := 24) (N := some 157) (v := ?_) (a' := ?_) #[true,true,true,true,true,true,true,true,true,true,true,true,true,true,true,true,true,true,true,true,true,true,true,true,true] rfl rfl (by kernel_rfl) (fun _ _ _ h => h) (Or.inl ⟨by rfl, ?_⟩) ?_ ?_
 rotate_left
 ·intro w'
  go_simp
  with_reducible rfl
 rotate_left
 ·simp only [Act.put, List.setIfInBounds_toArray, List.set_cons_zero, List.set_cons_succ, i64_w, i32_w]
  rfl
 refine done_ (by kernel_rfl) ?_
 go_wp2_with (first
  | (go_at_call 35; refine (C35.out _ (HG.out.at HB24.out (fun j h => h))).mono ?_; rintro e w27 ⟨rfl, hb⟩; have HB27 := Lib.hid (HB24.out.trans (bwk HB24.out.size hb)); clear hb)
  | (go_at_call 36; refine (C36.out _).mono ?_; rintro e w28 ⟨rfl, hb⟩; have HB28 := Lib.hid (HB27.out.trans (bwk HB27.out.size hb)); clear hb))
 go_ret
 exact ⟨rfl, HB28.out⟩
set_option maxHeartbeats 4000000 in
set_option maxRecDepth 100000 in
theorem small_full (a0 a1 : ByteArray) (w : World) (hg : GlS [0] w) (h0 : ¬ 2147483647 < a0.size) (h1 : ¬ 2147483647 < a1.size) (hs0 : a0.size ≤ 200) (hs1 : a1.size ≤ 200) (he : ¬ a0.size = 0) (hsh : areShort [a0, a1] = true) : Calls Tryd.prog 5 #[.string a0, .string a1] w fun e w' => e = .returned (.bool true) ∧ Below w.heap.size w w' := by
 have b0 : decide (2147483647 < (a0.size : Int)) = false := decide_eq_false (by omega)
 have b1 : decide (2147483647 < a0.size) = false := decide_eq_false (by omega)
 have b2 : decide (2147483647 < (a1.size : Int)) = false := decide_eq_false (by omega)
 have b3 : decide (2147483647 < a1.size) = false := decide_eq_false (by omega)
 have E1 := Lib.hid (fun W => dB (impl_EtagMatch.calls _ _ _ W etag_const))
 obtain ⟨gp, hgp⟩ : ∃ g, (⟨#[47, 97, 47, 98]⟩ : ByteArray) = g := ⟨_, rfl⟩
 have G1 := Lib.hid (fun W => dB (impl_GroupPath.calls 20 _ _ _ W group_const))
 rw [hgp] at G1
 have eg : (gp.toList == ([47, 97, 47, 98] : List UInt8)) = true := by rw [← hgp]; decide +kernel
 obtain ⟨ks, hks⟩ := (short_ends [a0, a1] (by simp)).rounds
 rw [hsh] at hks
 have SH := Lib.hid (fun W A (h : Kd.C Kd.string W A 2 [a0, a1]) => dB (laws_short.calls ks A 2 [a0, a1] _ W h (by simp) hks))
 clear hks hgp hsh h0 h1
 obtain ⟨⟨p1, p2⟩, hp⟩ : ∃ p, addrOf a0 = p := ⟨_, rfl⟩
 obtain ⟨k15, h15⟩ := (addr_ends a0 (by omega)).rounds
 obtain ⟨k16, h16⟩ := (specAddr_ends a0 (by omega)).rounds
 rw [hp] at h15 h16
 have C15 := Lib.hid (fun W => dB (impl_Addr.calls k15 a0 p1 p2 W h15))
 have C16 := Lib.hid (fun W => dB (spec_Addr.calls k16 a0 p1 p2 W h16))
 obtain ⟨⟨q1, q2⟩, hq⟩ : ∃ p, brAns (brOf (ns a0)) = p := ⟨_, rfl⟩
 have h17 : impl_Brackets.f a0 = some (brAns (brOf (ns a0))) := by unfold impl_Brackets.f; rw [if_pos (by omega)]; rfl
 obtain ⟨k18, h18⟩ := (specBr_ends a0 (by omega)).rounds
 rw [hq] at h17 h18
 have C17 := Lib.hid (fun W => impl_Brackets.calls a0 q1 q2 W h17)
 have C18 := Lib.hid (fun W => dB (spec_Brackets.calls k18 a0 q1 q2 W h18))
 obtain ⟨em, hem⟩ : ∃ b, etagM (ns a0) (ns a1) = b := ⟨_, rfl⟩
 have h13 := em_is a0 a1 (by omega) (by omega)
 have h19 := specEm_is a0 a1 (by omega) (by omega)
 rw [hem] at h13 h19
 have C13 := Lib.hid (fun W => dB (impl_EtagMatch.calls a0 a1 em W h13))
 have C19 := Lib.hid (fun W => dB (spec_EtagMatch.calls a0 a1 em W h19))
 obtain ⟨es, hes⟩ : ∃ b, staleGo (ns a0) [] [] (ns a1) = b := ⟨_, rfl⟩
 have h20 := es_is a0 a1 (by omega) (by omega)
 obtain ⟨k21, h21⟩ := (specStale_ends a0 a1 (by omega) (by omega)).rounds
 rw [hes] at h20 h21
 have C20 := Lib.hid (fun W => impl_EtagStale.calls a0 a1 es W h20)
 have C21 := Lib.hid (fun W => dB (spec_EtagStale.calls k21 a0 a1 es W h21))
 obtain ⟨n, hn1, hn2, hn3⟩ := slash_end a0
 obtain ⟨gr, hgr⟩ : ∃ g, grp a0 a1 n = g := ⟨_, rfl⟩
 obtain ⟨k14, h14⟩ := (implGroup_ends a0 a1 (by omega) (by omega) n hn1 hn2 hn3).rounds
 obtain ⟨k22, h22⟩ := (specGroup_ends a0 a1 (by omega) (by omega) n hn1 hn2 hn3).rounds
 rw [hgr] at h14 h22
 have C14 := Lib.hid (fun W => dB (impl_GroupPath.calls k14 a0 a1 gr W h14))
 have C22 := Lib.hid (fun W => dB (spec_GroupPath.calls k22 a0 a1 gr W h22))
 obtain ⟨nb, nr, hnb, hnr, htd⟩ := told_noCache a0 (by omega)
 obtain ⟨k24, h24⟩ := hnb.rounds
 obtain ⟨k25, h25⟩ := hnr.rounds
 have C24 := Lib.hid (fun W => dB (impl_NoCache.calls k24 a0 nb W h24))
 have C25 := Lib.hid (fun W => dB (spec_NoCache.calls k25 a0 nr W h25))
 have C23 := Lib.hid (fun W => dB (laws_told.calls nb nr true W htd))
 obtain ⟨k26, h26⟩ := (specSpl_ends a0 (by omega)).rounds
 have h27 := implSpl_is a0 (by omega)
 have hsl : (splAns a0).length ≤ 4611686018427387904 := spl_len a0 (by omega)
 obtain ⟨k28, h28⟩ := (sameTexts_ends (splAns a0) (splAns a0) hsl).rounds
 rw [decide_eq_true rfl] at h28
 obtain ⟨sp, hsp⟩ : ∃ l, splAns a0 = l := ⟨_, rfl⟩
 rw [hsp] at h26 h27 h28
 have C26 := Lib.hid (fun W => spec_Spliced.calls k26 a0 sp 1 W h26)
 have C27 := Lib.hid (fun W => impl_Spliced.calls a0 sp true W h27)
 have C28 := Lib.hid (fun W A c B d (hA : Kd.C Kd.string W A sp.length sp) hc (hB : Kd.C Kd.string W B sp.length sp) hd => dB (laws_sameTexts.calls k28 A c sp B d sp true W hA hc hB hd h28))
 obtain ⟨sb, h29, h30⟩ := safe_is a0
 have C29 := Lib.hid (fun W => dB (impl_Safe.calls a0 sb W h29))
 have C30 := Lib.hid (fun W => dB (spec_Safe.calls a0 sb W h30))
 obtain ⟨ib, h31, h32⟩ := idem_is a0
 have C31 := Lib.hid (fun W => dB (impl_Idempotent.calls a0 ib W h31))
 have C32 := Lib.hid (fun W => dB (spec_Idempotent.calls a0 ib W h32))
 obtain ⟨⟨l1, l2, l3⟩, hl⟩ : ∃ p, lineAns a0 = p := ⟨_, rfl⟩
 have h35 := implLine_is a0 (by omega)
 obtain ⟨k36, h36⟩ := (specLine_ends a0 (by omega)).rounds
 rw [hl] at h35 h36
 have C35 := Lib.hid (fun W (hg : GlS [0] W) => impl_NextLine.calls a0 l1 l2 l3 W hg h35)
 have C36 := Lib.hid (fun W => dB (spec_NextLine.calls k36 a0 l1 l2 l3 W h36))
 have z0 : (a0.toList == ([] : List UInt8)) = false := beq_eq_false_iff_ne.2 (fun h => he ((tl_nil a0).1 h))
 have z1 : (a0.toList != ([] : List UInt8)) = true := by rw [bne, z0]; rfl
 have hbr := ns_range a0 (bt a0 0) (by rw [show (0 : Int) = ((0 : Nat) : Int) from rfl, bt_get a0 0 (by rw [ns_length]; omega)]; exact List.getElem_mem _)
 obtain ⟨fb, h33, hf34⟩ := field_is (bt a0 0) hbr.1 hbr.2
 obtain ⟨k34, h34⟩ := hf34.rounds
 have C33 := Lib.hid (fun W => dB (impl_FieldByte.calls (bt a0 0) fb W h33))
 have C34 := Lib.hid (fun W => spec_FieldByte.calls k34 (bt a0 0) fb W h34)
 have z2 : decide (0 < (a0.size : Int)) = true := decide_eq_true (by omega)
 have z3 : decide (0 < a0.size) = true := decide_eq_true (by omega)
 have z4 : 0 < a0.size := by omega
 have z5 : ((a0[0]'z4).toNat : Int) = bt a0 0 := bt_at a0 0 z4
 have HG := Lib.hid hg
 clear hg he hs0 hs1 hp h15 h16 hq h17 h18 hem h13 h19 hes h20 h21 hn1 hn2 hn3 hgr h14 h22 hnb hnr htd h24 h25 h26 h27 hsl h28 hsp h29 h30 h31 h32 hl h35 h36 hbr h33 hf34 h34
 go_enter Tryd.func5, Tryd.ntmps5
 go_upto_region 5 with (first
  | (go_at_call 13; refine (E1.out _).mono ?_; rintro e w1 ⟨rfl, hb⟩; have HB1 := Lib.hid hb; clear hb)
  | (go_at_call 14; refine (G1.out _).mono ?_; rintro e w2 ⟨rfl, hb⟩; have HB2 := Lib.hid (HB1.out.trans (bwk HB1.out.size hb)); clear hb))
 go_upto_region 11 with (first
  | (go_at_call 11; go_loud (refine (SH.out _ _ (strs_lit w2 [a0, a1] (by simp) _ rfl)).mono ?_; rintro e w3 ⟨rfl, hb⟩; have HB3 := Lib.hid (HB2.out.trans (bwk HB2.out.size (((Below.refl w2.heap.size w2).alloc (Nat.le_refl _) _).trans (bwk (by simp) hb)))); clear hb))
  | (go_at_call 15; refine (C15.out _).mono ?_; rintro e w4 ⟨rfl, hb⟩; have HB4 := Lib.hid (HB3.out.trans (bwk HB3.out.size hb)); clear hb)
  | (go_at_call 16; refine (C16.out _).mono ?_; rintro e w5 ⟨rfl, hb⟩; have HB5 := Lib.hid (HB4.out.trans (bwk HB4.out.size hb)); clear hb)
  | (go_at_call 17; refine (C17.out _).mono ?_; rintro e w6 ⟨rfl, hb⟩; have HB6 := Lib.hid (HB5.out.trans (bwk HB5.out.size hb)); clear hb)
  | (go_at_call 18; refine (C18.out _).mono ?_; rintro e w7 ⟨rfl, hb⟩; have HB7 := Lib.hid (HB6.out.trans (bwk HB6.out.size hb)); clear hb))
 go_upto_region 13 with (first
  | (go_at_call 13; refine (C13.out _).mono ?_; rintro e w8 ⟨rfl, hb⟩; have HB8 := Lib.hid (HB7.out.trans (bwk HB7.out.size hb)); clear hb)
  | (go_at_call 19; refine (C19.out _).mono ?_; rintro e w9 ⟨rfl, hb⟩; have HB9 := Lib.hid (HB8.out.trans (bwk HB8.out.size hb)); clear hb)
  | (go_at_call 20; refine (C20.out _).mono ?_; rintro e w10 ⟨rfl, hb⟩; have HB10 := Lib.hid (HB9.out.trans (bwk HB9.out.size hb)); clear hb)
  | (go_at_call 21; refine (C21.out _).mono ?_; rintro e w11 ⟨rfl, hb⟩; have HB11 := Lib.hid (HB10.out.trans (bwk HB10.out.size hb)); clear hb)
  | (go_at_call 14; refine (C14.out _).mono ?_; rintro e w12 ⟨rfl, hb⟩; have HB12 := Lib.hid (HB11.out.trans (bwk HB11.out.size hb)); clear hb)
  | (go_at_call 22; refine (C22.out _).mono ?_; rintro e w13 ⟨rfl, hb⟩; have HB13 := Lib.hid (HB12.out.trans (bwk HB12.out.size hb)); clear hb)
  | (go_at_call 24; refine (C24.out _).mono ?_; rintro e w14 ⟨rfl, hb⟩; have HB14 := Lib.hid (HB13.out.trans (bwk HB13.out.size hb)); clear hb)
  | (go_at_call 25; refine (C25.out _).mono ?_; rintro e w15 ⟨rfl, hb⟩; have HB15 := Lib.hid (HB14.out.trans (bwk HB14.out.size hb)); clear hb)
  | (go_at_call 23; refine (C23.out _).mono ?_; rintro e w16 ⟨rfl, hb⟩; have HB16 := Lib.hid (HB15.out.trans (bwk HB15.out.size hb)); clear hb))
 go_upto_region 18 with (first
  | (go_at_call 26; refine (C26.out _).mono ?_; rintro e w17 ⟨v, rfl, hR, hb⟩; obtain ⟨A1, c1, rfl, hc1, hC1⟩ := Kd.R_reads hR; have HB17 := Lib.hid (HB16.out.trans (bwk HB16.out.size hb)); have HC1 := Lib.hid hC1; clear hb hR hC1)
  | (go_at_call 27; refine (C27.out _).mono ?_; rintro e w18 ⟨v, rfl, hR, hb⟩; obtain ⟨A2, c2, rfl, hc2, hC2⟩ := Kd.R_reads hR; have HB18 := Lib.hid (HB17.out.trans (bwk HB17.out.size hb)); have HC2 := Lib.hid hC2; have HC3 := Lib.hid (Kd.C_below HC1.out hb); clear hb hR hC2)
  | (go_at_call 28; refine (C28.out _ _ _ _ _ HC2.out hc2 HC3.out hc1).mono ?_; rintro e w19 ⟨rfl, hb⟩; have HB19 := Lib.hid (HB18.out.trans (bwk HB18.out.size hb)); clear hb))
 refine start_ (n := 25) (S := fun w' => True) (ds := []) #[false,false,false,false,false,false,false,false,false,false,false,false,false,false,false,false,false,false,false,false,false,false,false,false,false] (by kernel_rfl) rfl rfl trivial (fun hHeld => ?_)
 generalize hWd : World.drew w19 = W2_ at hHeld ⊢
 have HB20 := Lib.hid (show Below w.heap.size w W2_ from by rw [← hWd]; exact below_drew1 HB19.out)
 refine pure_ (i := 0) (N := some 133) (v := ?_) (a' := ?_) #[true,false,false,false,false,false,false,false,false,false,false,false,false,false,false,false,false,false,false,false,false,false,false,false,false] rfl rfl (by kernel_rfl) (fun _ _ _ h => h) (Or.inl ⟨by rfl, ?_⟩) ?_ ?_
 rotate_left
 ·intro w'
  go_simp
  with_reducible rfl
 rotate_left
 ·simp only [Act.put, List.setIfInBounds_toArray, List.set_cons_zero, List.set_cons_succ, i64_w, i32_w]
  rfl
 refine pure_ (i := 2) (N := some 135) (v := ?_) (a' := ?_) #[true,false,true,false,false,false,false,false,false,false,false,false,false,false,false,false,false,false,false,false,false,false,false,false,false] rfl rfl (by kernel_rfl) (fun _ _ _ h => h) (Or.inl ⟨by rfl, ?_⟩) ?_ ?_
 rotate_left
 ·intro w'
  go_simp
  with_reducible rfl
 rotate_left
 ·simp only [Act.put, List.setIfInBounds_toArray, List.set_cons_zero, List.set_cons_succ, i64_w, i32_w]
  rfl
 refine one_ (i := 1) (N := some 134) #[true,true,true,false,false,false,false,false,false,false,false,false,false,false,false,false,false,false,false,false,false,false,false,false,false] rfl rfl (by kernel_rfl) (by decide) (fun K hK => ?_)
 refine goes_ Tryd.func29 (by kernel_rfl) rfl #[.string a0] (by rfl) rfl rfl (by (try simp only [List.map_toArray, List.map_cons, List.map_nil]); first | done | rfl) ?_
 with_reducible refine (C29.out _).mono ?_
 rintro e w21 ⟨rfl, hb⟩
 have HB21 := Lib.hid (HB20.out.trans (bwk HB20.out.size hb))
 clear hb
 refine ⟨_, rfl, ?_⟩
 refine hK.out _ _ trivial (fun hHeld => ?_)
 clear hK K
 refine norm_ (a' := ?_) ?_ ?_
 rotate_left
 ·show Act.put _ (some 134) _ = _
  simp only [Act.put, List.setIfInBounds_toArray, List.set_cons_zero, List.set_cons_succ, i64_w, i32_w]
  rfl
 refine one_ (i := 3) (N := some 136) #[true,true,true,true,false,false,false,false,false,false,false,false,false,false,false,false,false,false,false,false,false,false,false,false,false] rfl rfl (by kernel_rfl) (by decide) (fun K hK => ?_)
 refine goes_ Tryd.func30 (by kernel_rfl) rfl #[.string a0] (by rfl) rfl rfl (by (try simp only [List.map_toArray, List.map_cons, List.map_nil]); first | done | rfl) ?_
 with_reducible refine (C30.out _).mono ?_
 rintro e w22 ⟨rfl, hb⟩
 have HB22 := Lib.hid (HB21.out.trans (bwk HB21.out.size hb))
 clear hb
 refine ⟨_, rfl, ?_⟩
 refine hK.out _ _ trivial (fun hHeld => ?_)
 clear hK K
 refine norm_ (a' := ?_) ?_ ?_
 rotate_left
 ·show Act.put _ (some 136) _ = _
  simp only [Act.put, List.setIfInBounds_toArray, List.set_cons_zero, List.set_cons_succ, i64_w, i32_w]
  rfl
 refine pure_ (i := 4) (N := some 137) (v := ?_) (a' := ?_) #[true,true,true,true,true,false,false,false,false,false,false,false,false,false,false,false,false,false,false,false,false,false,false,false,false] rfl rfl (by kernel_rfl) (fun _ _ _ h => h) (Or.inl ⟨by rfl, ?_⟩) ?_ ?_
 rotate_left
 ·intro w'
  go_simp
  with_reducible rfl
 rotate_left
 ·simp only [Act.put, List.setIfInBounds_toArray, List.set_cons_zero, List.set_cons_succ, i64_w, i32_w]
  rfl
 refine pure_ (i := 5) (N := some 138) (v := ?_) (a' := ?_) #[true,true,true,true,true,true,false,false,false,false,false,false,false,false,false,false,false,false,false,false,false,false,false,false,false] rfl rfl (by kernel_rfl) (fun _ _ _ h => h) (Or.inl ⟨by rfl, ?_⟩) ?_ ?_
 rotate_left
 ·intro w'
  go_simp
  with_reducible rfl
 rotate_left
 ·simp only [Act.put, List.setIfInBounds_toArray, List.set_cons_zero, List.set_cons_succ, i64_w, i32_w]
  rfl
 refine pure_ (i := 6) (N := some 139) (v := ?_) (a' := ?_) #[true,true,true,true,true,true,true,false,false,false,false,false,false,false,false,false,false,false,false,false,false,false,false,false,false] rfl rfl (by kernel_rfl) (fun _ _ _ h => h) (Or.inl ⟨by rfl, ?_⟩) ?_ ?_
 rotate_left
 ·intro w'
  go_simp
  with_reducible rfl
 rotate_left
 ·simp only [Act.put, List.setIfInBounds_toArray, List.set_cons_zero, List.set_cons_succ, i64_w, i32_w]
  rfl
 refine pure_ (i := 8) (N := some 141) (v := ?_) (a' := ?_) #[true,true,true,true,true,true,true,false,true,false,false,false,false,false,false,false,false,false,false,false,false,false,false,false,false] rfl rfl (by kernel_rfl) (fun _ _ _ h => h) (Or.inl ⟨by rfl, ?_⟩) ?_ ?_
 rotate_left
 ·intro w'
  go_simp
  with_reducible rfl
 rotate_left
 ·simp only [Act.put, List.setIfInBounds_toArray, List.set_cons_zero, List.set_cons_succ, i64_w, i32_w]
  rfl
 refine one_ (i := 7) (N := some 140) #[true,true,true,true,true,true,true,true,true,false,false,false,false,false,false,false,false,false,false,false,false,false,false,false,false] rfl rfl (by kernel_rfl) (by decide) (fun K hK => ?_)
 refine goes_ Tryd.func31 (by kernel_rfl) rfl #[.string a0] (by rfl) rfl rfl (by (try simp only [List.map_toArray, List.map_cons, List.map_nil]); first | done | rfl) ?_
 with_reducible refine (C31.out _).mono ?_
 rintro e w23 ⟨rfl, hb⟩
 have HB23 := Lib.hid (HB22.out.trans (bwk HB22.out.size hb))
 clear hb
 refine ⟨_, rfl, ?_⟩
 refine hK.out _ _ trivial (fun hHeld => ?_)
 clear hK K
 refine norm_ (a' := ?_) ?_ ?_
 rotate_left
 ·show Act.put _ (some 140) _ = _
  simp only [Act.put, List.setIfInBounds_toArray, List.set_cons_zero, List.set_cons_succ, i64_w, i32_w]
  rfl
 refine one_ (i := 9) (N := some 142) #[true,true,true,true,true,true,true,true,true,true,false,false,false,false,false,false,false,false,false,false,false,false,false,false,false] rfl rfl (by kernel_rfl) (by decide) (fun K hK => ?_)
 refine goes_ Tryd.func32 (by kernel_rfl) rfl #[.string a0] (by rfl) rfl rfl (by (try simp only [List.map_toArray, List.map_cons, List.map_nil]); first | done | rfl) ?_
 with_reducible refine (C32.out _).mono ?_
 rintro e w24 ⟨rfl, hb⟩
 have HB24 := Lib.hid (HB23.out.trans (bwk HB23.out.size hb))
 clear hb
 refine ⟨_, rfl, ?_⟩
 refine hK.out _ _ trivial (fun hHeld => ?_)
 clear hK K
 refine norm_ (a' := ?_) ?_ ?_
 rotate_left
 ·show Act.put _ (some 142) _ = _
  simp only [Act.put, List.setIfInBounds_toArray, List.set_cons_zero, List.set_cons_succ, i64_w, i32_w]
  rfl
 refine pure_ (i := 10) (N := some 143) (v := ?_) (a' := ?_) #[true,true,true,true,true,true,true,true,true,true,true,false,false,false,false,false,false,false,false,false,false,false,false,false,false] rfl rfl (by kernel_rfl) (fun _ _ _ h => h) (Or.inl ⟨by rfl, ?_⟩) ?_ ?_
 rotate_left
 ·intro w'
  go_simp
  with_reducible rfl
 rotate_left
 ·simp only [Act.put, List.setIfInBounds_toArray, List.set_cons_zero, List.set_cons_succ, i64_w, i32_w]
  rfl
 refine pure_ (i := 11) (N := some 144) (v := ?_) (a' := ?_) #[true,true,true,true,true,true,true,true,true,true,true,true,false,false,false,false,false,false,false,false,false,false,false,false,false] rfl rfl (by kernel_rfl) (fun _ _ _ h => h) (Or.inl ⟨by rfl, ?_⟩) ?_ ?_
 rotate_left
 ·intro w'
  go_simp
  with_reducible rfl
 rotate_left
 ·simp only [Act.put, List.setIfInBounds_toArray, List.set_cons_zero, List.set_cons_succ, i64_w, i32_w]
  rfl
 refine pure_ (i := 12) (N := some 145) (v := ?_) (a' := ?_) #[true,true,true,true,true,true,true,true,true,true,true,true,true,false,false,false,false,false,false,false,false,false,false,false,false] rfl rfl (by kernel_rfl) (fun _ _ _ h => h) (Or.inl ⟨by rfl, ?_⟩) ?_ ?_
 rotate_left
 ·intro w'
  go_simp
  with_reducible rfl
 rotate_left
 ·simp only [Act.put, List.setIfInBounds_toArray, List.set_cons_zero, List.set_cons_succ, i64_w, i32_w]
  rfl
 refine pure_ (i := 13) (N := some 146) (v := ?_) (a' := ?_) #[true,true,true,true,true,true,true,true,true,true,true,true,true,true,false,false,false,false,false,false,false,false,false,false,false] rfl rfl (by kernel_rfl) (fun _ _ _ h => h) (Or.inl ⟨by rfl, ?_⟩) ?_ ?_
 rotate_left
 ·intro w'
  go_simp
  with_reducible rfl
 rotate_left
 ·simp only [Act.put, List.setIfInBounds_toArray, List.set_cons_zero, List.set_cons_succ, i64_w, i32_w]
  rfl
 refine pure_ (i := 14) (N := some 147) (v := ?_) (a' := ?_) #[true,true,true,true,true,true,true,true,true,true,true,true,true,true,true,false,false,false,false,false,false,false,false,false,false] rfl rfl (by kernel_rfl) (fun _ _ _ h => h) (Or.inl ⟨by rfl, ?_⟩) ?_ ?_
 rotate_left
 ·intro w'
  go_simp
  with_reducible rfl
 rotate_left
 ·simp only [Act.put, List.setIfInBounds_toArray, List.set_cons_zero, List.set_cons_succ, i64_w, i32_w]
  rfl
 refine pure_ (i := 15) (N := some 148) (v := ?_) (a' := ?_) #[true,true,true,true,true,true,true,true,true,true,true,true,true,true,true,true,false,false,false,false,false,false,false,false,false] rfl rfl (by kernel_rfl) (fun _ _ _ h => h) (Or.inl ⟨by rfl, ?_⟩) ?_ ?_
 rotate_left
 ·intro w'
  go_simp
  with_reducible rfl
 rotate_left
 ·simp only [Act.put, List.setIfInBounds_toArray, List.set_cons_zero, List.set_cons_succ, i64_w, i32_w]
  rfl
 refine pure_ (i := 16) (N := some 149) (v := ?_) (a' := ?_) #[true,true,true,true,true,true,true,true,true,true,true,true,true,true,true,true,true,false,false,false,false,false,false,false,false] rfl rfl (by kernel_rfl) (fun _ _ _ h => h) (Or.inl ⟨by rfl, ?_⟩) ?_ ?_
 rotate_left
 ·intro w'
  go_simp
  with_reducible rfl
 rotate_left
 ·simp only [Act.put, List.setIfInBounds_toArray, List.set_cons_zero, List.set_cons_succ, i64_w, i32_w]
  rfl
 refine pure_ (i := 19) (N := some 152) (v := ?_) (a' := ?_) #[true,true,true,true,true,true,true,true,true,true,true,true,true,true,true,true,true,false,false,true,false,false,false,false,false] rfl rfl (by kernel_rfl) (fun _ _ _ h => h) (Or.inl ⟨by rfl, ?_⟩) ?_ ?_
 rotate_left
 ·intro w'
  go_simp
  with_reducible rfl
 rotate_left
 ·simp only [Act.put, List.setIfInBounds_toArray, List.set_cons_zero, List.set_cons_succ, i64_w, i32_w]
  rfl
 refine take_ (i := 17) (N := some 150) (v := ?_) (a' := ?_) #[true,true,true,true,true,true,true,true,true,true,true,true,true,true,true,true,true,true,false,true,false,false,false,false,false] rfl rfl (by kernel_rfl) (fun _ _ _ h => h) (Or.inl ⟨by rfl, ?_⟩) hHeld ?_ ?_
 rotate_left
 ·rintro w' s0
  go_simp
  with_reducible rfl
 rotate_left
 ·simp only [Act.put, List.setIfInBounds_toArray, List.set_cons_zero, List.set_cons_succ, i64_w, i32_w]
  rfl
 refine take_ (i := 20) (N := some 153) (v := ?_) (a' := ?_) #[true,true,true,true,true,true,true,true,true,true,true,true,true,true,true,true,true,true,false,true,true,false,false,false,false] rfl rfl (by kernel_rfl) (fun _ _ _ h => h) (Or.inl ⟨by rfl, ?_⟩) hHeld ?_ ?_
 rotate_left
 ·rintro w' s0
  go_simp
  with_reducible rfl
 rotate_left
 ·simp only [Act.put, List.setIfInBounds_toArray, List.set_cons_zero, List.set_cons_succ, i64_w, i32_w]
  rfl
 refine one_ (i := 18) (N := some 151) #[true,true,true,true,true,true,true,true,true,true,true,true,true,true,true,true,true,true,true,true,true,false,false,false,false] rfl rfl (by kernel_rfl) (by decide) (fun K hK => ?_)
 refine goes_ Tryd.func33 (by kernel_rfl) rfl #[.int .u8 (bt a0 0)] (by rfl) rfl rfl (by (try simp only [List.map_toArray, List.map_cons, List.map_nil]); first | done | rfl) ?_
 with_reducible refine (C33.out _).mono ?_
 rintro e w25 ⟨rfl, hb⟩
 have HB25 := Lib.hid (HB24.out.trans (bwk HB24.out.size hb))
 clear hb
 refine ⟨_, rfl, ?_⟩
 refine hK.out _ _ trivial (fun hHeld => ?_)
 clear hK K
 refine norm_ (a' := ?_) ?_ ?_
 rotate_left
 ·show Act.put _ (some 151) _ = _
  simp only [Act.put, List.setIfInBounds_toArray, List.set_cons_zero, List.set_cons_succ, i64_w, i32_w]
  rfl
 refine one_ (i := 21) (N := some 154) #[true,true,true,true,true,true,true,true,true,true,true,true,true,true,true,true,true,true,true,true,true,true,false,false,false] rfl rfl (by kernel_rfl) (by decide) (fun K hK => ?_)
 refine goes_ Tryd.func34 (by kernel_rfl) rfl #[.int .u8 (bt a0 0)] (by rfl) rfl rfl (by (try simp only [List.map_toArray, List.map_cons, List.map_nil]); first | done | rfl) ?_
 with_reducible refine (C34.out _).mono ?_
 rintro e w26 ⟨rfl, hb⟩
 have HB26 := Lib.hid (HB25.out.trans (bwk HB25.out.size hb))
 clear hb
 refine ⟨_, rfl, ?_⟩
 refine hK.out _ _ trivial (fun hHeld => ?_)
 clear hK K
 refine norm_ (a' := ?_) ?_ ?_
 rotate_left
 ·show Act.put _ (some 154) _ = _
  simp only [Act.put, List.setIfInBounds_toArray, List.set_cons_zero, List.set_cons_succ, i64_w, i32_w]
  rfl
 refine pure_ (i := 22) (N := some 155) (v := ?_) (a' := ?_) #[true,true,true,true,true,true,true,true,true,true,true,true,true,true,true,true,true,true,true,true,true,true,true,false,false] rfl rfl (by kernel_rfl) (fun _ _ _ h => h) (Or.inl ⟨by rfl, ?_⟩) ?_ ?_
 rotate_left
 ·intro w'
  go_simp
  with_reducible rfl
 rotate_left
 ·simp only [Act.put, List.setIfInBounds_toArray, List.set_cons_zero, List.set_cons_succ, i64_w, i32_w]
  rfl
 refine pure_ (i := 23) (N := some 156) (v := ?_) (a' := ?_) #[true,true,true,true,true,true,true,true,true,true,true,true,true,true,true,true,true,true,true,true,true,true,true,true,false] rfl rfl (by kernel_rfl) (fun _ _ _ h => h) (Or.inl ⟨by rfl, ?_⟩) ?_ ?_
 rotate_left
 ·intro w'
  go_simp
  with_reducible rfl
 rotate_left
 ·simp only [Act.put, List.setIfInBounds_toArray, List.set_cons_zero, List.set_cons_succ, i64_w, i32_w]
  rfl
 refine pure_ (i := 24) (N := some 157) (v := ?_) (a' := ?_) #[true,true,true,true,true,true,true,true,true,true,true,true,true,true,true,true,true,true,true,true,true,true,true,true,true] rfl rfl (by kernel_rfl) (fun _ _ _ h => h) (Or.inl ⟨by rfl, ?_⟩) ?_ ?_
 rotate_left
 ·intro w'
  go_simp
  with_reducible rfl
 rotate_left
 ·simp only [Act.put, List.setIfInBounds_toArray, List.set_cons_zero, List.set_cons_succ, i64_w, i32_w]
  rfl
 refine done_ (by kernel_rfl) ?_
 go_wp2_with (first
  | (go_at_call 35; refine (C35.out _ (HG.out.at HB26.out (fun j h => h))).mono ?_; rintro e w27 ⟨rfl, hb⟩; have HB27 := Lib.hid (HB26.out.trans (bwk HB26.out.size hb)); clear hb)
  | (go_at_call 36; refine (C36.out _).mono ?_; rintro e w28 ⟨rfl, hb⟩; have HB28 := Lib.hid (HB27.out.trans (bwk HB27.out.size hb)); clear hb))
 go_ret
 exact ⟨rfl, HB28.out⟩
theorem small_all (a0 a1 : ByteArray) (w : World) (hg : GlS [0] w) : Calls Tryd.prog 5 #[.string a0, .string a1] w fun e w' => e = .returned (.bool true) ∧ Below w.heap.size w w' := by
  by_cases h0 : 2147483647 < a0.size
  · exact small_big a0 a1 w (.inl h0)
  by_cases h1 : 2147483647 < a1.size
  · exact small_big a0 a1 w (.inr h1)
  cases hsh : areShort [a0, a1] with
  | false => exact small_long a0 a1 w h0 h1 hsh
  | true =>
    obtain ⟨_, hm⟩ := areShort_mem hsh
    have g0 := hm a0 (by simp)
    have g1 := hm a1 (by simp)
    by_cases he : a0.size = 0
    · exact small_empty a0 a1 w hg h0 h1 g0 g1 he hsh
    · exact small_full a0 a1 w hg h0 h1 g0 g1 he hsh
end Go.Proofs.YtgmjaggkiifdjaaDoor.Pure
