/- Lists of pairs: what 'zzFits1', 'plainParams' and 'given' tell of them. -/
import Derived.Test.YtkbmababljcabaaQA36
import Derived.Test.YtkbmababljcabaaQA37
import Derived.Test.YtkbmababljcabaaQA38
import Derived.Test.YtkbmababljcabaaLWord
import Derived.Test.YtkbmababljcabaaGLow
set_option linter.unusedVariables false
namespace Go.Proofs.Ytkbmababljcabaa.Base
open Go.RowKit Go.Proofs.Ytkbmababljcabaa.QA Go.Proofs.YtkbmababljcabaaW.PrintWords Go.Proofs.YtkbmababljcabaaW.PrintLast Go.Proofs.Ytkbmababljcabaa.Given Go.Proofs.Ytkbmababljcabaa.Gv

theorem rdP (l : List S47) (i : Nat) (h : i < l.length) : rd_T47 l (i : Int) = l[i] := by
  unfold rd_T47
  rw [Int.toNat_natCast, List.getD_eq_getElem?_getD, List.getElem?_eq_getElem h]
  rfl
theorem fits1_from (l : List S47) (hl : l.length ≤ 2147483647) (d : Nat) : ∀ i : Nat, i + d = l.length → ∃ b, Ev (fun k => laws_zzFits1.l0 k l (l.length : Int) (i : Int)) b ∧ (b = true → ∀ j (hj : j < l.length), i ≤ j → (l[j]).f0.size ≤ 2147483647 ∧ (l[j]).f1.size ≤ 2147483647) := by
  induction d with
  | zero =>
    intro i hi
    refine ⟨true, Ev.step (f := fun _ => some true) (fun k => ?_) (Ev.now _), fun _ j hj hij => absurd hj (by omega)⟩
    simp only [laws_zzFits1.l0]; rw [if_neg (by omega)]
  | succ d ih =>
    intro i hi
    have hlt : i < l.length := by omega
    have step : ∀ {f : Nat → Option Bool} {b : Bool}, Ev (fun k => (laws_zzFits2.f (l[i]).f0 (l[i]).f1).bind fun t => (if t = true then laws_zzFits1.l0 k l (l.length : Int) ((i + 1 : Nat) : Int) else some false)) b → Ev (fun k => laws_zzFits1.l0 k l (l.length : Int) (i : Int)) b := by
      intro f b h
      refine Ev.step (f := _) (fun k => ?_) h
      simp only [laws_zzFits1.l0]
      rw [if_pos (by omega), if_pos (by omega), if_pos (by omega), rdP l i hlt, wrap_add (by omega) (by omega)]
      rfl
    by_cases g0 : ((l[i]).f0.size : Int) > 2147483647
    · refine ⟨false, step (f := fun _ => none) (Ev.call (a := false) (by unfold laws_zzFits2.f; rw [if_pos g0]) (Ev.if_false (by decide) (Ev.now _))), fun h => by cases h⟩
    · by_cases g1 : ((l[i]).f1.size : Int) > 2147483647
      · refine ⟨false, step (f := fun _ => none) (Ev.call (a := false) (by unfold laws_zzFits2.f; rw [if_neg g0, if_pos g1]) (Ev.if_false (by decide) (Ev.now _))), fun h => by cases h⟩
      · obtain ⟨b, h1, h2⟩ := ih (i + 1) (by omega)
        refine ⟨b, step (f := fun _ => none) (Ev.call (a := true) (by unfold laws_zzFits2.f; rw [if_neg g0, if_neg g1]) (Ev.if_true rfl h1)), fun hb j hj hij => ?_⟩
        rcases Nat.lt_or_ge i j with h | h
        · exact h2 hb j hj h
        · obtain rfl : i = j := by omega
          exact ⟨by omega, by omega⟩
/-- zzFits1 tells true of lists that are not too large, and of no others; it always tells. -/
theorem fits1_ends (l : List S47) : ∃ b, Ev (fun k => laws_zzFits1.f k l) b ∧ (b = true → l.length ≤ 2147483647 ∧ ∀ j (hj : j < l.length), (l[j]).f0.size ≤ 2147483647 ∧ (l[j]).f1.size ≤ 2147483647) := by
  simp only [laws_zzFits1.f]
  by_cases h : (l.length : Int) > 2147483647
  · exact ⟨false, Ev.if_true h (Ev.now _), fun hb => by cases hb⟩
  · obtain ⟨b, h1, h2⟩ := fits1_from l (by omega) l.length 0 (by omega)
    exact ⟨b, Ev.if_false h h1, fun hb => ⟨by omega, fun j hj => h2 hb j hj (Nat.zero_le _)⟩⟩
def lowS (s : ByteArray) : ByteArray := strOfNums ((ns s).map lo)
theorem low_is (s : ByteArray) (h : s.size ≤ 4611686018427387904) : laws_low.f s = some (lowS s) := by unfold laws_low.f; rw [if_pos h]; rfl
/-- What a plain parameter at place j is. -/
structure PlainAt (l : List S47) (j : Nat) (hj : j < l.length) : Prop where
  key : isWord (l[j]).f0 = true ∧ (l[j]).f0.size ≤ 40
  val : isWord (l[j]).f1 = true ∧ (l[j]).f1.size ≤ 40
  noq : lowS (l[j]).f0 ≠ (⟨#[113]⟩ : ByteArray)
  other : ∀ m (hm : m < j), lowS (l[m]'(by omega)).f0 ≠ lowS (l[j]).f0
def Plain (l : List S47) : Prop := l.length ≤ 8 ∧ ∀ j hj, PlainAt l j hj
section
variable {l : List S47} (hl : l.length ≤ 2147483647) (hsz : ∀ j (hj : j < l.length), (l[j]).f0.size ≤ 2147483647 ∧ (l[j]).f1.size ≤ 2147483647)
include hl hsz
theorem plain_inner {i : Nat} (hi : i < l.length) (next : (∀ m (hm : m < i), lowS (l[m]'(by omega)).f0 ≠ lowS (l[i]).f0) → ∃ b, Ev (fun k => laws_plainParams.l0 k l l (l.length : Int) ((i + 1 : Nat) : Int)) b ∧ (b = true → Plain l)) :
    ∀ (d m : Nat) (hmd : m + d = i), (∀ m' (hm : m' < m), lowS (l[m']'(by omega)).f0 ≠ lowS (l[i]).f0) → ∃ b, Ev (fun k => laws_plainParams.l1 k l l (l.length : Int) (i : Int) (i : Int) (m : Int) (l[i]).f0 (l[i]).f1) b ∧ (b = true → Plain l) := by
  intro d
  induction d with
  | zero =>
    intro m hm h
    obtain rfl : m = i := by omega
    obtain ⟨b, h1, h2⟩ := next h
    refine ⟨b, Ev.step (f := fun k => laws_plainParams.l0 k l l (l.length : Int) ((m + 1 : Nat) : Int)) (fun k => ?_) h1, h2⟩
    simp only [laws_plainParams.l1]
    rw [if_neg (by omega), wrap_add (by omega) (by omega)]
    rfl
  | succ d ih =>
    intro m hm h
    have hml : m < l.length := by omega
    have w1 := low_is (l[m]).f0 (by have := (hsz m hml).1; omega)
    have w2 := low_is (l[i]).f0 (by have := (hsz i hi).1; omega)
    by_cases c : lowS (l[m]).f0 = lowS (l[i]).f0
    · refine ⟨false, Ev.step (f := fun _ => some false) (fun k => ?_) (Ev.now _), fun hb => by cases hb⟩
      simp only [laws_plainParams.l1]
      rw [if_pos (by omega), if_pos (by omega), if_pos (by omega), rdP l m hml, w1, w2]
      simp only [Option.bind_some]
      rw [if_pos (by rw [c])]
    · obtain ⟨b, h1, h2⟩ := ih (m + 1) (by omega) (fun m' hm' => by
        rcases Nat.lt_or_ge m' m with h3 | h3
        · exact h m' h3
        · obtain rfl : m' = m := by omega
          exact c)
      refine ⟨b, Ev.step (f := fun k => laws_plainParams.l1 k l l (l.length : Int) (i : Int) (i : Int) ((m + 1 : Nat) : Int) (l[i]).f0 (l[i]).f1) (fun k => ?_) h1, h2⟩
      simp only [laws_plainParams.l1]
      rw [if_pos (by omega), if_pos (by omega), if_pos (by omega), rdP l m hml, w1, w2]
      simp only [Option.bind_some]
      rw [if_neg (fun e => c ((toList_eq_iff _ _).1 e)), wrap_add (by omega) (by omega)]
      rfl
theorem plain_from : ∀ d i : Nat, i + d = l.length → (∀ j (hj : j < l.length), j < i → PlainAt l j hj) → ∃ b, Ev (fun k => laws_plainParams.l0 k l l (l.length : Int) (i : Int)) b ∧ (b = true → Plain l) := by
  intro d
  induction d with
  | zero =>
    intro i hi h
    refine ⟨decide ((l.length : Int) ≤ 8), Ev.step (f := fun _ => some (decide ((l.length : Int) ≤ 8))) (fun k => ?_) (Ev.now _), fun hb => ?_⟩
    · simp only [laws_plainParams.l0]; rw [if_neg (by omega)]
    · have := of_decide_eq_true hb
      exact ⟨by omega, fun j hj => h j hj (by omega)⟩
  | succ d ih =>
    intro i hi h
    have hlt : i < l.length := by omega
    obtain ⟨s0, s1⟩ := hsz i hlt
    have stop : Ev (fun k => laws_plainParams.j1 k l (i : Int) l (l.length : Int) (i : Int) true (l[i]).f0 (l[i]).f1) false := Ev.step (f := fun _ => some false) (fun k => by simp only [laws_plainParams.j1]; rw [if_pos trivial]) (Ev.now _)
    have start : ∀ {b : Bool}, Ev (fun k => (laws_words.f k [(l[i]).f0, (l[i]).f1]).bind fun t => (if t = true then ((laws_low.f (l[i]).f0).bind fun t2 => laws_plainParams.j1 k l (i : Int) l (l.length : Int) (i : Int) (t2.toList == ([113] : List UInt8)) (l[i]).f0 (l[i]).f1) else laws_plainParams.j1 k l (i : Int) l (l.length : Int) (i : Int) true (l[i]).f0 (l[i]).f1)) b → Ev (fun k => laws_plainParams.l0 k l l (l.length : Int) (i : Int)) b := by
      intro b hb
      refine Ev.step (f := _) (fun k => ?_) hb
      simp only [laws_plainParams.l0]
      rw [if_pos (by omega), if_pos (by omega), if_pos (by omega), rdP l i hlt]
    have hw := words_ends [(l[i]).f0, (l[i]).f1] (by simp) (fun s hs => by
      simp only [List.mem_cons, List.not_mem_nil, or_false] at hs
      rcases hs with rfl | rfl <;> omega)
    cases hA : areWords [(l[i]).f0, (l[i]).f1] with
    | false =>
      rw [hA] at hw
      exact ⟨false, start (Ev.bind hw (Ev.if_false (by decide) stop)), fun hb => by cases hb⟩
    | true =>
      rw [hA] at hw
      obtain ⟨_, hm⟩ := areWords_mem hA
      have m0 := hm (l[i]).f0 (by simp)
      have m1 := hm (l[i]).f1 (by simp)
      have w0 := low_is (l[i]).f0 (by omega)
      have q113 : ((⟨#[113]⟩ : ByteArray)).toList = [113] := by decide +kernel
      by_cases hq : lowS (l[i]).f0 = (⟨#[113]⟩ : ByteArray)
      · have hqb : ((lowS (l[i]).f0).toList == ([113] : List UInt8)) = true := beq_iff_eq.2 (by rw [hq, q113])
        refine ⟨false, start (Ev.bind hw (Ev.if_true rfl (Ev.call w0 ?_))), fun hb => by cases hb⟩
        rw [hqb]
        exact stop
      · have hqb : ((lowS (l[i]).f0).toList == ([113] : List UInt8)) = false := beq_eq_false_iff_ne.2 (fun e => hq ((toList_eq_iff _ _).1 (by rw [e, q113])))
        obtain ⟨b, h1, h2⟩ := plain_inner hl hsz hlt (fun ho => ih (i + 1) (by omega) (fun j hj hji => by
          rcases Nat.lt_or_ge j i with h3 | h3
          · exact h j hj h3
          · obtain rfl : j = i := by omega
            exact ⟨m0, m1, hq, ho⟩)) i 0 (by omega) (fun m' hm' => absurd hm' (by omega))
        refine ⟨b, start (Ev.bind hw (Ev.if_true rfl (Ev.call w0 ?_))), h2⟩
        rw [hqb]
        exact Ev.step (f := fun k => laws_plainParams.l1 k l l (l.length : Int) (i : Int) (i : Int) 0 (l[i]).f0 (l[i]).f1) (fun k => by simp only [laws_plainParams.j1]; rw [if_neg (by simp)]) h1
theorem plain_ends : ∃ b, Ev (fun k => laws_plainParams.f k l) b ∧ (b = true → Plain l) := by
  obtain ⟨b, h1, h2⟩ := plain_from hl hsz l.length 0 (by omega) (fun j hj h => absurd h (by omega))
  exact ⟨b, by simp only [laws_plainParams.f]; exact h1, h2⟩
end
/-- A pair as it is written, unquoted. -/
def pairN (p : S47) : List Int := 59 :: (ns p.f0 ++ 61 :: ns p.f1)
theorem given_from (l : List S47) (hl : l.length ≤ 8) (hsz : ∀ j (hj : j < l.length), (l[j]).f0.size ≤ 40 ∧ (l[j]).f1.size ≤ 40) : ∀ d i : Nat, i + d = l.length → ∀ acc : ByteArray, acc.size ≤ 82 * i →
    ∃ s : ByteArray, Ev (fun k => laws_given.l0 k [] acc l (l.length : Int) (i : Int)) s ∧ ns s = ns acc ++ (l.drop i).flatMap pairN ∧ s.size ≤ 82 * 8 := by
  intro d
  induction d with
  | zero =>
    intro i hi acc ha
    refine ⟨acc, Ev.step (f := fun _ => some acc) (fun k => ?_) (Ev.now _), ?_, by omega⟩
    · simp only [laws_given.l0]; rw [if_neg (by omega)]
    · rw [List.drop_eq_nil_of_le (by omega)]; simp
  | succ d ih =>
    intro i hi acc ha
    have hlt : i < l.length := by omega
    obtain ⟨s0, s1⟩ := hsz i hlt
    obtain ⟨p, hp⟩ : ∃ p, l[i] = p := ⟨_, rfl⟩
    rw [hp] at s0 s1
    have g1 : (i : Int) < (l.length : Int) := by omega
    have g2 : (0 : Int) ≤ (i : Int) := by omega
    have hw : wrap64 ((i : Int) + 1) = ((i + 1 : Nat) : Int) := by
      rw [wrap_add (by omega) (by omega)]
      rfl
    have e59 : ns (⟨#[59]⟩ : ByteArray) = [59] := by decide
    have e61 : ns (⟨#[61]⟩ : ByteArray) = [61] := by decide
    obtain ⟨B, hB⟩ : ∃ B, (⟨#[59]⟩ : ByteArray) ++ p.f0 = B := ⟨_, rfl⟩
    obtain ⟨C, hC⟩ : ∃ C, B ++ (⟨#[61]⟩ : ByteArray) = C := ⟨_, rfl⟩
    obtain ⟨D, hD⟩ : ∃ D, acc ++ C = D := ⟨_, rfl⟩
    obtain ⟨E, hE⟩ : ∃ E, D ++ p.f1 = E := ⟨_, rfl⟩
    have zB : B.size = 1 + p.f0.size := by rw [← hB, ByteArray.size_append]; rfl
    have zC : C.size = B.size + 1 := by rw [← hC, ByteArray.size_append]; rfl
    have zD : D.size = acc.size + C.size := by rw [← hD, ByteArray.size_append]
    have zE : E.size = D.size + p.f1.size := by rw [← hE, ByteArray.size_append]
    obtain ⟨s, h1, h2, h3⟩ := ih (i + 1) (by omega) E (by omega)
    refine ⟨s, Ev.step (f := fun k => laws_given.l0 k [] E l (l.length : Int) ((i + 1 : Nat) : Int)) (fun k => ?_) h1, ?_, h3⟩
    · have d1 : 1 + p.f0.size ≤ 9223372036854775807 := by omega
      have d2 : B.size + 1 ≤ 9223372036854775807 := by omega
      have d3 : acc.size + C.size ≤ 9223372036854775807 := by omega
      have d4 : D.size + p.f1.size ≤ 9223372036854775807 := by omega
      have d5 : ¬ ((i : Int) < (([] : List Int).length : Int)) := by simp
      simp only [laws_given.l0, rdP l i hlt, hp, hB, hC, hD, hE, hw]
      rw [if_pos g1, if_pos g2, if_pos g1, if_pos d1, if_pos d2, if_pos d3, if_neg d5, if_pos d4]
    · rw [h2, List.drop_eq_getElem_cons hlt, hp, List.flatMap_cons, ← hE, ns_append, ← hD, ns_append, ← hC, ns_append, ← hB, ns_append, e59, e61]
      simp [pairN]
theorem given_ends (l : List S47) (hl : l.length ≤ 8) (hsz : ∀ j (hj : j < l.length), (l[j]).f0.size ≤ 40 ∧ (l[j]).f1.size ≤ 40) : ∃ s : ByteArray, Ev (fun k => laws_given.f k l []) s ∧ ns s = l.flatMap pairN ∧ s.size ≤ 656 := by
  obtain ⟨s, h1, h2, h3⟩ := given_from l hl hsz l.length 0 (by omega) (⟨#[]⟩ : ByteArray) (by decide)
  refine ⟨s, by simp only [laws_given.f]; exact h1, ?_, h3⟩
  rw [h2]
  simp [ns]
end Go.Proofs.Ytkbmababljcabaa.Base
