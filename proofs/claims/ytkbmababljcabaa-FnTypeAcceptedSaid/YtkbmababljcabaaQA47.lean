/- Printed by wip/pr.py (a program of this repo over the print program of the kit). Not trusted: Lean checks it. -/
import Derived.Test.YtkbmababljcabaaQA0
import Derived.Test.YtkbmababljcabaaQA14
import Derived.Test.YtkbmababljcabaaQA21
import Derived.Test.YtkbmababljcabaaQA36
import Derived.Test.YtkbmababljcabaaQA37
import Derived.Test.YtkbmababljcabaaQA38
import Derived.Test.YtkbmababljcabaaGAccepts
import Derived.Test.YtkbmababljcabaaGLow
namespace Go.Proofs.Ytkbmababljcabaa.QA
open Go.Proofs.Ytkbmababljcabaa.Given
open Go.Proofs.Ytkbmababljcabaa.PrX
open Go.RowKit Go.Proofs.YtkbmababljcabaaW.PrintWords Go.Proofs.YtkbmababljcabaaW.PrintLast Go.Proofs.YtkbmababljcabaaW.PrintMore
attribute [local go_sem] max2_int min2_int max_two min_two max_three min_three max_four min_four   -- for this text's walks alone
set_option linter.unusedVariables false
set_option linter.unusedSimpArgs false

/-! ### laws_FnTypeAccepted: function 10 -/
mutual
def laws_FnTypeAccepted.j0 : Nat → ByteArray → ByteArray → ByteArray → Int → List (S47) → List (S47) → Bool → Option (Bool)
  | 0, _, _, _, _, _, _, _ => none
  | k + 1, x0, x1, x2, x3, x4, x5, x41 => if x41 = true then (some true) else ((impl_AcceptsType.f k (⟨#[97, 47, 42]⟩ : ByteArray) (⟨#[97, 47, 98]⟩ : ByteArray) (⟨#[]⟩ : ByteArray)).bind fun bt376 => (if bt376.1 = true then (laws_FnTypeAccepted.j1 k x0 x1 x2 x3 x4 x5 (!bt376.2)) else (laws_FnTypeAccepted.j1 k x0 x1 x2 x3 x4 x5 true)))
def laws_FnTypeAccepted.j1 : Nat → ByteArray → ByteArray → ByteArray → Int → List (S47) → List (S47) → Bool → Option (Bool)
  | 0, _, _, _, _, _, _, _ => none
  | k + 1, x0, x1, x2, x3, x4, x5, x51 => if x51 = true then (some false) else ((laws_words.f k (([x0, x1, x2] : List ByteArray))).bind fun t381 => (if t381 = true then ((laws_plainParams.f k x4).bind fun t382 => (if t382 = true then ((laws_plainParams.f k x5).bind fun t383 => (laws_FnTypeAccepted.j2 k x0 x1 x2 x3 x4 x5 (!t383))) else (laws_FnTypeAccepted.j2 k x0 x1 x2 x3 x4 x5 true))) else (laws_FnTypeAccepted.j2 k x0 x1 x2 x3 x4 x5 true)))
def laws_FnTypeAccepted.j2 : Nat → ByteArray → ByteArray → ByteArray → Int → List (S47) → List (S47) → Bool → Option (Bool)
  | 0, _, _, _, _, _, _, _ => none
  | k + 1, x0, x1, x2, x3, x4, x5, x67 => if x67 = true then (some true) else (if (Int.tmod x3 4) = 1 then (if x0.size + 2 ≤ 9223372036854775807 then (laws_FnTypeAccepted.j3 k x0 x1 x4 x5 (x0 ++ (⟨#[47, 42]⟩ : ByteArray)) true) else (none)) else (if (Int.tmod x3 4) = 2 then (if x0.size + 1 ≤ 9223372036854775807 then (if (x0 ++ (⟨#[47]⟩ : ByteArray)).size + x1.size ≤ 9223372036854775807 then (laws_FnTypeAccepted.j3 k x0 x1 x4 x5 ((x0 ++ (⟨#[47]⟩ : ByteArray)) ++ x1) true) else (none)) else (none)) else (if (Int.tmod x3 4) = 3 then (if x0.size + 1 ≤ 9223372036854775807 then (if (x0 ++ (⟨#[47]⟩ : ByteArray)).size + x2.size ≤ 9223372036854775807 then ((laws_low.f x2).bind fun t384 => ((laws_low.f x1).bind fun t385 => (if t384.toList = t385.toList then (if x2.toList = x1.toList then (laws_FnTypeAccepted.j3 k x0 x1 x4 x5 ((x0 ++ (⟨#[47]⟩ : ByteArray)) ++ x2) (t384.toList == t385.toList)) else (some true)) else (laws_FnTypeAccepted.j3 k x0 x1 x4 x5 ((x0 ++ (⟨#[47]⟩ : ByteArray)) ++ x2) (t384.toList == t385.toList))))) else (none)) else (none)) else (laws_FnTypeAccepted.j3 k x0 x1 x4 x5 (⟨#[42, 47, 42]⟩ : ByteArray) true))))
def laws_FnTypeAccepted.j3 : Nat → ByteArray → ByteArray → List (S47) → List (S47) → ByteArray → Bool → Option (Bool)
  | 0, _, _, _, _, _, _ => none
  | k + 1, x0, x1, x4, x5, x15, x16 => if x0.size + 1 ≤ 9223372036854775807 then (if (x0 ++ (⟨#[47]⟩ : ByteArray)).size + x1.size ≤ 9223372036854775807 then ((laws_given.f k x5 ([] : List Int)).bind fun t386 => (if ((x0 ++ (⟨#[47]⟩ : ByteArray)) ++ x1).size + t386.size ≤ 9223372036854775807 then ((laws_given.f k x4 ([] : List Int)).bind fun t387 => ((impl_AcceptsType.f k x15 (((x0 ++ (⟨#[47]⟩ : ByteArray)) ++ x1) ++ t386) t387).bind fun bt388 => (if bt388.2 = true then (if x16 = true then ((laws_given.f k x4 ([] : List Int)).bind fun t390 => ((laws_given.f k x5 ([] : List Int)).bind fun t391 => ((impl_ParamsMatch.f t390 t391).bind fun t392 => (some (bt388.1 == t392))))) else (some (bt388.1 == false))) else (some false)))) else (none))) else (none)) else (none)
end
def laws_FnTypeAccepted.f (k : Nat) (a0 : ByteArray) (a1 : ByteArray) (a2 : ByteArray) (a3 : Int) (l4 : List (S47)) (l5 : List (S47)) : Option (Bool) := if (a0.size : Int) > 2147483647 then (laws_FnTypeAccepted.j0 k a0 a1 a2 a3 l4 l5 true) else (if (a1.size : Int) > 2147483647 then (laws_FnTypeAccepted.j0 k a0 a1 a2 a3 l4 l5 true) else (if (a2.size : Int) > 2147483647 then (laws_FnTypeAccepted.j0 k a0 a1 a2 a3 l4 l5 true) else ((laws_zzFits1.f k l4).bind fun t374 => (if t374 = true then ((laws_zzFits1.f k l5).bind fun t375 => (laws_FnTypeAccepted.j0 k a0 a1 a2 a3 l4 l5 (!t375))) else (laws_FnTypeAccepted.j0 k a0 a1 a2 a3 l4 l5 true)))))
theorem laws_FnTypeAccepted.mono_l : ∀ k, (∀ y0 y1 y2 y3 y4 y5 y6, LeO (laws_FnTypeAccepted.j0 k y0 y1 y2 y3 y4 y5 y6) (laws_FnTypeAccepted.j0 (k + 1) y0 y1 y2 y3 y4 y5 y6)) ∧ (∀ y0 y1 y2 y3 y4 y5 y6, LeO (laws_FnTypeAccepted.j1 k y0 y1 y2 y3 y4 y5 y6) (laws_FnTypeAccepted.j1 (k + 1) y0 y1 y2 y3 y4 y5 y6)) ∧ (∀ y0 y1 y2 y3 y4 y5 y6, LeO (laws_FnTypeAccepted.j2 k y0 y1 y2 y3 y4 y5 y6) (laws_FnTypeAccepted.j2 (k + 1) y0 y1 y2 y3 y4 y5 y6)) ∧ (∀ y0 y1 y2 y3 y4 y5, LeO (laws_FnTypeAccepted.j3 k y0 y1 y2 y3 y4 y5) (laws_FnTypeAccepted.j3 (k + 1) y0 y1 y2 y3 y4 y5))
  | 0 => ⟨fun _ _ _ _ _ _ _ r h => by simp [laws_FnTypeAccepted.j0] at h, fun _ _ _ _ _ _ _ r h => by simp [laws_FnTypeAccepted.j1] at h, fun _ _ _ _ _ _ _ r h => by simp [laws_FnTypeAccepted.j2] at h, fun _ _ _ _ _ _ r h => by simp [laws_FnTypeAccepted.j3] at h⟩
  | k + 1 => by
    obtain ⟨ih0, ih1, ih2, ih3⟩ := laws_FnTypeAccepted.mono_l k
    refine ⟨?_, ?_, ?_, ?_⟩
    · intro y0 y1 y2 y3 y4 y5 y6
      unfold laws_FnTypeAccepted.j0
      repeat' first
      | (with_reducible exact ih0 _ _ _ _ _ _ _)
      | (with_reducible exact ih1 _ _ _ _ _ _ _)
      | (with_reducible exact ih2 _ _ _ _ _ _ _)
      | (with_reducible exact ih3 _ _ _ _ _ _)
      | (with_reducible exact impl_AcceptsType.mono _ _ _ _)
      | (with_reducible exact laws_given.mono _ _ _)
      | (with_reducible exact laws_plainParams.mono _ _)
      | (with_reducible exact laws_words.mono _ _)
      | (with_reducible exact laws_zzFits1.mono _ _)
      | (with_reducible exact LeO.refl _)
      | (with_reducible exact LeO.none _)
      | (with_reducible refine LeO.ite ?_ ?_)
      | (with_reducible refine LeO.bind ?_ (fun _ => ?_))
      | exact ih0 _ _ _ _ _ _ _
      | exact ih1 _ _ _ _ _ _ _
      | exact ih2 _ _ _ _ _ _ _
      | exact ih3 _ _ _ _ _ _
      | exact impl_AcceptsType.mono _ _ _ _
      | exact laws_given.mono _ _ _
      | exact laws_plainParams.mono _ _
      | exact laws_words.mono _ _
      | exact laws_zzFits1.mono _ _
      | exact LeO.none _
      | refine LeO.ite ?_ ?_
      | refine LeO.bind ?_ (fun _ => ?_)
    · intro y0 y1 y2 y3 y4 y5 y6
      unfold laws_FnTypeAccepted.j1
      repeat' first
      | (with_reducible exact ih0 _ _ _ _ _ _ _)
      | (with_reducible exact ih1 _ _ _ _ _ _ _)
      | (with_reducible exact ih2 _ _ _ _ _ _ _)
      | (with_reducible exact ih3 _ _ _ _ _ _)
      | (with_reducible exact impl_AcceptsType.mono _ _ _ _)
      | (with_reducible exact laws_given.mono _ _ _)
      | (with_reducible exact laws_plainParams.mono _ _)
      | (with_reducible exact laws_words.mono _ _)
      | (with_reducible exact laws_zzFits1.mono _ _)
      | (with_reducible exact LeO.refl _)
      | (with_reducible exact LeO.none _)
      | (with_reducible refine LeO.ite ?_ ?_)
      | (with_reducible refine LeO.bind ?_ (fun _ => ?_))
      | exact ih0 _ _ _ _ _ _ _
      | exact ih1 _ _ _ _ _ _ _
      | exact ih2 _ _ _ _ _ _ _
      | exact ih3 _ _ _ _ _ _
      | exact impl_AcceptsType.mono _ _ _ _
      | exact laws_given.mono _ _ _
      | exact laws_plainParams.mono _ _
      | exact laws_words.mono _ _
      | exact laws_zzFits1.mono _ _
      | exact LeO.none _
      | refine LeO.ite ?_ ?_
      | refine LeO.bind ?_ (fun _ => ?_)
    · intro y0 y1 y2 y3 y4 y5 y6
      unfold laws_FnTypeAccepted.j2
      repeat' first
      | (with_reducible exact ih0 _ _ _ _ _ _ _)
      | (with_reducible exact ih1 _ _ _ _ _ _ _)
      | (with_reducible exact ih2 _ _ _ _ _ _ _)
      | (with_reducible exact ih3 _ _ _ _ _ _)
      | (with_reducible exact impl_AcceptsType.mono _ _ _ _)
      | (with_reducible exact laws_given.mono _ _ _)
      | (with_reducible exact laws_plainParams.mono _ _)
      | (with_reducible exact laws_words.mono _ _)
      | (with_reducible exact laws_zzFits1.mono _ _)
      | (with_reducible exact LeO.refl _)
      | (with_reducible exact LeO.none _)
      | (with_reducible refine LeO.ite ?_ ?_)
      | (with_reducible refine LeO.bind ?_ (fun _ => ?_))
      | exact ih0 _ _ _ _ _ _ _
      | exact ih1 _ _ _ _ _ _ _
      | exact ih2 _ _ _ _ _ _ _
      | exact ih3 _ _ _ _ _ _
      | exact impl_AcceptsType.mono _ _ _ _
      | exact laws_given.mono _ _ _
      | exact laws_plainParams.mono _ _
      | exact laws_words.mono _ _
      | exact laws_zzFits1.mono _ _
      | exact LeO.none _
      | refine LeO.ite ?_ ?_
      | refine LeO.bind ?_ (fun _ => ?_)
    · intro y0 y1 y2 y3 y4 y5
      unfold laws_FnTypeAccepted.j3
      repeat' first
      | (with_reducible exact ih0 _ _ _ _ _ _ _)
      | (with_reducible exact ih1 _ _ _ _ _ _ _)
      | (with_reducible exact ih2 _ _ _ _ _ _ _)
      | (with_reducible exact ih3 _ _ _ _ _ _)
      | (with_reducible exact impl_AcceptsType.mono _ _ _ _)
      | (with_reducible exact laws_given.mono _ _ _)
      | (with_reducible exact laws_plainParams.mono _ _)
      | (with_reducible exact laws_words.mono _ _)
      | (with_reducible exact laws_zzFits1.mono _ _)
      | (with_reducible exact LeO.refl _)
      | (with_reducible exact LeO.none _)
      | (with_reducible refine LeO.ite ?_ ?_)
      | (with_reducible refine LeO.bind ?_ (fun _ => ?_))
      | exact ih0 _ _ _ _ _ _ _
      | exact ih1 _ _ _ _ _ _ _
      | exact ih2 _ _ _ _ _ _ _
      | exact ih3 _ _ _ _ _ _
      | exact impl_AcceptsType.mono _ _ _ _
      | exact laws_given.mono _ _ _
      | exact laws_plainParams.mono _ _
      | exact laws_words.mono _ _
      | exact laws_zzFits1.mono _ _
      | exact LeO.none _
      | refine LeO.ite ?_ ?_
      | refine LeO.bind ?_ (fun _ => ?_)
theorem laws_FnTypeAccepted.mono : ∀ a0 a1 a2 a3 a4 a5 k, LeO (laws_FnTypeAccepted.f k a0 a1 a2 a3 a4 a5) (laws_FnTypeAccepted.f (k + 1) a0 a1 a2 a3 a4 a5) := by
  intro a0 a1 a2 a3 a4 a5 k
  obtain ⟨ih0, ih1, ih2, ih3⟩ := laws_FnTypeAccepted.mono_l k
  unfold laws_FnTypeAccepted.f
  repeat' first
      | (with_reducible exact ih0 _ _ _ _ _ _ _)
      | (with_reducible exact ih1 _ _ _ _ _ _ _)
      | (with_reducible exact ih2 _ _ _ _ _ _ _)
      | (with_reducible exact ih3 _ _ _ _ _ _)
      | (with_reducible exact impl_AcceptsType.mono _ _ _ _)
      | (with_reducible exact laws_given.mono _ _ _)
      | (with_reducible exact laws_plainParams.mono _ _)
      | (with_reducible exact laws_words.mono _ _)
      | (with_reducible exact laws_zzFits1.mono _ _)
      | (with_reducible exact LeO.refl _)
      | (with_reducible exact LeO.none _)
      | (with_reducible refine LeO.ite ?_ ?_)
      | (with_reducible refine LeO.bind ?_ (fun _ => ?_))
      | exact ih0 _ _ _ _ _ _ _
      | exact ih1 _ _ _ _ _ _ _
      | exact ih2 _ _ _ _ _ _ _
      | exact ih3 _ _ _ _ _ _
      | exact impl_AcceptsType.mono _ _ _ _
      | exact laws_given.mono _ _ _
      | exact laws_plainParams.mono _ _
      | exact laws_words.mono _ _
      | exact laws_zzFits1.mono _ _
      | exact LeO.none _
      | refine LeO.ite ?_ ?_
      | refine LeO.bind ?_ (fun _ => ?_)
set_option maxHeartbeats 8000000 in
set_option maxRecDepth 100000 in
theorem laws_FnTypeAccepted.calls (k : Nat) (a0 : ByteArray) (a1 : ByteArray) (a2 : ByteArray) (a3 : Int) (A4 : Option Addr) (c4 : Nat) (l4 : List (S47)) (A5 : Option Addr) (c5 : Nat) (l5 : List (S47)) (r : Bool) (w : World) (hr4 : Kd.C k47 w A4 l4.length l4) (hc4 : l4.length ≤ c4) (hr5 : Kd.C k47 w A5 l5.length l5) (hc5 : l5.length ≤ c5) (h : laws_FnTypeAccepted.f k a0 a1 a2 a3 l4 l5 = some r) :
    Calls Try.prog 10 #[.string a0, .string a1, .string a2, .int .u8 a3, .slice A4 l4.length c4, .slice A5 l5.length c5] w fun e w' => e = .returned (.bool r) ∧ Below w.heap.size w w' := by
  have HR4 := Aside0.mk hr4
  have HC4 := Aside0.mk hc4
  clear hr4 hc4
  have HR5 := Aside0.mk hr5
  have HC5 := Aside0.mk hc5
  clear hr5 hc5
  have HB := Aside0.mk (Below.refl w.heap.size w)
  have H : (if (a0.size : Int) > 2147483647 then (laws_FnTypeAccepted.j0 k a0 a1 a2 a3 l4 l5 true) else (if (a1.size : Int) > 2147483647 then (laws_FnTypeAccepted.j0 k a0 a1 a2 a3 l4 l5 true) else (if (a2.size : Int) > 2147483647 then (laws_FnTypeAccepted.j0 k a0 a1 a2 a3 l4 l5 true) else ((laws_zzFits1.f k l4).bind fun t374 => (if t374 = true then ((laws_zzFits1.f k l5).bind fun t375 => (laws_FnTypeAccepted.j0 k a0 a1 a2 a3 l4 l5 (!t375))) else (laws_FnTypeAccepted.j0 k a0 a1 a2 a3 l4 l5 true)))))) = some r := h
  clear h
  have HC7 := Aside0.mk H
  clear H
  go_enter Try.func10, Try.ntmps10
  go_upto_region 1 with (fail)
  go_cut [41] (fun v41 wc => ∃ (kq : Nat) (x41_6 : Bool), v41 = .bool x41_6 ∧ Aside0 (laws_FnTypeAccepted.j0 kq a0 a1 a2 a3 l4 l5 x41_6 = some r) ∧ Aside0 (kq ≤ k) ∧ Aside0 (Below w.heap.size w wc))
  case first =>
    have H := HC7.out
    clear HC7
    by_cases c8 : (a0.size : Int) > 2147483647
    · rw [if_pos c8] at H
      have c8b0 : decide (2147483647 < (a0.size : Int)) = true := decide_eq_true c8
      have c8b1 : decide (2147483647 < a0.size) = true := decide_eq_true (by omega)
      clear c8
      (first | rw [c8b0] | (simp only [i64_w, i32_w]; rw [c8b0]) | skip)
      have H' := Aside0.mk H
      clear H
      go_wp2
      go_meet
      case rel => exact ⟨_, (true), (by first | rfl | (simp; done) | (rw [prx_ne]; first | done | rfl) | (simp [*]; done)), H', ⟨by first | omega | exact Nat.le_refl _⟩, ⟨by repeat (first | (with_reducible first | exact HB.out | apply below_alloc | apply pw_below_drewN | apply below_drew1) | exact HB.out)⟩⟩
    · rw [if_neg c8] at H
      have c8b0 : decide (2147483647 < (a0.size : Int)) = false := decide_eq_false c8
      have c8b1 : decide (2147483647 < a0.size) = false := decide_eq_false (by omega)
      clear c8
      (first | rw [c8b0] | (simp only [i64_w, i32_w]; rw [c8b0]) | skip)
      by_cases c9 : (a1.size : Int) > 2147483647
      · rw [if_pos c9] at H
        have c9b0 : decide (2147483647 < (a1.size : Int)) = true := decide_eq_true c9
        have c9b1 : decide (2147483647 < a1.size) = true := decide_eq_true (by omega)
        clear c9
        have H' := Aside0.mk H
        clear H
        go_wp2
        go_meet
        case rel => exact ⟨_, (true), (by first | rfl | (simp; done) | (rw [prx_ne]; first | done | rfl) | (simp [*]; done)), H', ⟨by first | omega | exact Nat.le_refl _⟩, ⟨by repeat (first | (with_reducible first | exact HB.out | apply below_alloc | apply pw_below_drewN | apply below_drew1) | exact HB.out)⟩⟩
      · rw [if_neg c9] at H
        have c9b0 : decide (2147483647 < (a1.size : Int)) = false := decide_eq_false c9
        have c9b1 : decide (2147483647 < a1.size) = false := decide_eq_false (by omega)
        clear c9
        by_cases c10 : (a2.size : Int) > 2147483647
        · rw [if_pos c10] at H
          have c10b0 : decide (2147483647 < (a2.size : Int)) = true := decide_eq_true c10
          have c10b1 : decide (2147483647 < a2.size) = true := decide_eq_true (by omega)
          clear c10
          have H' := Aside0.mk H
          clear H
          go_wp2
          go_meet
          case rel => exact ⟨_, (true), (by first | rfl | (simp; done) | (rw [prx_ne]; first | done | rfl) | (simp [*]; done)), H', ⟨by first | omega | exact Nat.le_refl _⟩, ⟨by repeat (first | (with_reducible first | exact HB.out | apply below_alloc | apply pw_below_drewN | apply below_drew1) | exact HB.out)⟩⟩
        · rw [if_neg c10] at H
          have c10b0 : decide (2147483647 < (a2.size : Int)) = false := decide_eq_false c10
          have c10b1 : decide (2147483647 < a2.size) = false := decide_eq_false (by omega)
          clear c10
          replace H := Option.bind_eq_some_iff.mp H
          obtain ⟨t374, A110, H⟩ := H
          replace H : (if t374 = true then ((laws_zzFits1.f k l5).bind fun t375 => (laws_FnTypeAccepted.j0 k a0 a1 a2 a3 l4 l5 (!t375))) else (laws_FnTypeAccepted.j0 k a0 a1 a2 a3 l4 l5 true)) = some r := H
          have A11 := Aside0.mk A110
          clear A110
          by_cases c12 : t374 = true
          · subst c12
            have H1 : ((laws_zzFits1.f k l5).bind fun t375 => (laws_FnTypeAccepted.j0 k a0 a1 a2 a3 l4 l5 (!t375))) = some r := by rw [if_pos rfl] at H; exact H
            clear H
            have H := H1
            clear H1
            replace H := Option.bind_eq_some_iff.mp H
            obtain ⟨t375, A130, H⟩ := H
            replace H : (laws_FnTypeAccepted.j0 k a0 a1 a2 a3 l4 l5 (!t375)) = some r := H
            have A13 := Aside0.mk A130
            clear A130
            have H' := Aside0.mk H
            clear H
            go_wp2_with (first | (go_at_call 25; (with_reducible refine (laws_zzFits1.calls k _ _ l4 true _ ?side1 ?side2 A11.out).mono ?_); (case side1 => repeat (first | exact (Kd.C_below HR4.out HB.out) | (with_reducible refine Kd.C_alloc ?_ _) | (with_reducible refine Kd.C_drewN ?_ _) | (with_reducible refine Kd.C_drew ?_))); (case side2 => exact HC4.out); rintro e w14 ⟨rfl, hb⟩; have n0_ := Aside0.mk (below_step (by repeat (first | (with_reducible first | exact HB.out | apply below_alloc | apply pw_below_drewN | apply below_drew1) | exact HB.out)) hb); clear HB; have HB := n0_; clear n0_; (try clear hb); (try clear hb2); (try clear hk); (try clear hi)) | (go_at_call 25; (with_reducible refine (laws_zzFits1.calls k _ _ l5 t375 _ ?side1 ?side2 A13.out).mono ?_); (case side1 => repeat (first | exact (Kd.C_below HR5.out HB.out) | (with_reducible refine Kd.C_alloc ?_ _) | (with_reducible refine Kd.C_drewN ?_ _) | (with_reducible refine Kd.C_drew ?_))); (case side2 => exact HC5.out); rintro e w15 ⟨rfl, hb⟩; have n0_ := Aside0.mk (below_step (by repeat (first | (with_reducible first | exact HB.out | apply below_alloc | apply pw_below_drewN | apply below_drew1) | exact HB.out)) hb); clear HB; have HB := n0_; clear n0_; (try clear hb); (try clear hb2); (try clear hk); (try clear hi)))
            go_meet
            case rel => exact ⟨_, (!t375), (by first | rfl | (simp; done) | (rw [prx_ne]; first | done | rfl) | (simp [*]; done)), H', ⟨by first | omega | exact Nat.le_refl _⟩, ⟨by repeat (first | (with_reducible first | exact HB.out | apply below_alloc | apply pw_below_drewN | apply below_drew1) | exact HB.out)⟩⟩
          · replace c12 := Bool.eq_false_iff.mpr c12
            subst c12
            have H1 : (laws_FnTypeAccepted.j0 k a0 a1 a2 a3 l4 l5 true) = some r := by rw [if_neg (show ¬ (false = true) by decide)] at H; exact H
            clear H
            have H := H1
            clear H1
            have H' := Aside0.mk H
            clear H
            go_wp2_with (first | (go_at_call 25; (with_reducible refine (laws_zzFits1.calls k _ _ l4 false _ ?side1 ?side2 A11.out).mono ?_); (case side1 => repeat (first | exact (Kd.C_below HR4.out HB.out) | (with_reducible refine Kd.C_alloc ?_ _) | (with_reducible refine Kd.C_drewN ?_ _) | (with_reducible refine Kd.C_drew ?_))); (case side2 => exact HC4.out); rintro e w16 ⟨rfl, hb⟩; have n0_ := Aside0.mk (below_step (by repeat (first | (with_reducible first | exact HB.out | apply below_alloc | apply pw_below_drewN | apply below_drew1) | exact HB.out)) hb); clear HB; have HB := n0_; clear n0_; (try clear hb); (try clear hb2); (try clear hk); (try clear hi)))
            go_meet
            case rel => exact ⟨_, (true), (by first | rfl | (simp; done) | (rw [prx_ne]; first | done | rfl) | (simp [*]; done)), H', ⟨by first | omega | exact Nat.le_refl _⟩, ⟨by repeat (first | (with_reducible first | exact HB.out | apply below_alloc | apply pw_below_drewN | apply below_drew1) | exact HB.out)⟩⟩
  case rest =>
    clear HC7
    try clear c1
    try clear p2
    try clear c4
    try clear c5
    try clear c8
    try clear c8b0
    try clear c8b1
    try clear c9
    try clear c9b0
    try clear c9b1
    try clear c10
    try clear c10b0
    try clear c10b1
    try clear c12
    obtain ⟨kq, x41_6, rfl, HA, HJ6, HB⟩ := hcut
    cases kq with
    | zero => exact absurd HA.out (by simp [laws_FnTypeAccepted.j0])
    | succ kj6 =>
      have H := HA.out
      clear HA
      simp only [laws_FnTypeAccepted.j0] at H
      by_cases c17 : x41_6 = true
      · subst c17
        have H1 : (some true) = some r := by rw [if_pos rfl] at H; exact H
        clear H
        have H := H1
        clear H1
        obtain rfl := Option.some.inj H
        go_wp2
        go_ret
        exact ⟨by first | rfl | (simp [errW_none, errW_some] <;> rfl) | (simp [*, errW_none, errW_some] <;> rfl), by repeat (first | (with_reducible first | exact HB.out | apply below_alloc | apply pw_below_drewN | apply below_drew1) | exact HB.out)⟩
      · replace c17 := Bool.eq_false_iff.mpr c17
        subst c17
        have H1 : ((impl_AcceptsType.f kj6 (⟨#[97, 47, 42]⟩ : ByteArray) (⟨#[97, 47, 98]⟩ : ByteArray) (⟨#[]⟩ : ByteArray)).bind fun bt376 => (if bt376.1 = true then (laws_FnTypeAccepted.j1 kj6 a0 a1 a2 a3 l4 l5 (!bt376.2)) else (laws_FnTypeAccepted.j1 kj6 a0 a1 a2 a3 l4 l5 true))) = some r := by rw [if_neg (show ¬ (false = true) by decide)] at H; exact H
        clear H
        have H := H1
        clear H1
        replace H := Option.bind_eq_some_iff.mp H
        obtain ⟨⟨t376, t377⟩, A180, H⟩ := H
        replace H : (if t376 = true then (laws_FnTypeAccepted.j1 kj6 a0 a1 a2 a3 l4 l5 (!t377)) else (laws_FnTypeAccepted.j1 kj6 a0 a1 a2 a3 l4 l5 true)) = some r := H
        have A18 := Aside0.mk A180
        clear A180
        have HC19 := Aside0.mk H
        clear H
        go_upto_region 4 with (first | ((with_reducible refine gate_callee (f := 34) rfl ?_); refine goesL_ (some 43) rfl rfl Try.func34 (by kernel_rfl) rfl #[.string (⟨#[97, 47, 42]⟩ : ByteArray), .string (⟨#[97, 47, 98]⟩ : ByteArray), .string (⟨#[]⟩ : ByteArray)] rfl (by (try simp only [List.map_toArray, List.map_cons, List.map_nil]); first | done | rfl | (simp only [List.length_drop, List.length_take]; rfl)) ?_; (with_reducible refine (impl_AcceptsType.calls kj6 (⟨#[97, 47, 42]⟩ : ByteArray) (⟨#[97, 47, 98]⟩ : ByteArray) (⟨#[]⟩ : ByteArray) t376 t377 _ A18.out).mono ?_); rintro e w20 ⟨rfl, hb⟩; refine ⟨_, rfl, ?_⟩; have n0_ := Aside0.mk (below_step (by repeat (first | (with_reducible first | exact HB.out | apply below_alloc | apply pw_below_drewN | apply below_drew1) | exact HB.out)) hb); clear HB; have HB := n0_; clear n0_; (try clear hb); (try clear hb2); (try clear hk); (try clear hi)))
        (try simp only [Act.put, List.setIfInBounds_toArray, List.set_cons_zero, List.set_cons_succ])
        go_cut [51] (fun v51 wc => ∃ (kq : Nat) (x51_18 : Bool), v51 = .bool x51_18 ∧ Aside0 (laws_FnTypeAccepted.j1 kq a0 a1 a2 a3 l4 l5 x51_18 = some r) ∧ Aside0 (kq ≤ kj6) ∧ Aside0 (Below w.heap.size w wc))
        case first =>
          have H := HC19.out
          clear HC19
          by_cases c21 : t376 = true
          · subst c21
            have H1 : (laws_FnTypeAccepted.j1 kj6 a0 a1 a2 a3 l4 l5 (!t377)) = some r := by rw [if_pos rfl] at H; exact H
            clear H
            have H := H1
            clear H1
            have H' := Aside0.mk H
            clear H
            go_wp2
            go_meet
            case rel => exact ⟨_, (!t377), (by first | rfl | (simp; done) | (rw [prx_ne]; first | done | rfl) | (simp [*]; done)), H', ⟨by have := HJ6.out; first | omega | exact Nat.le_refl _⟩, ⟨by repeat (first | (with_reducible first | exact HB.out | apply below_alloc | apply pw_below_drewN | apply below_drew1) | exact HB.out)⟩⟩
          · replace c21 := Bool.eq_false_iff.mpr c21
            subst c21
            have H1 : (laws_FnTypeAccepted.j1 kj6 a0 a1 a2 a3 l4 l5 true) = some r := by rw [if_neg (show ¬ (false = true) by decide)] at H; exact H
            clear H
            have H := H1
            clear H1
            have H' := Aside0.mk H
            clear H
            go_wp2
            go_meet
            case rel => exact ⟨_, (true), (by first | rfl | (simp; done) | (rw [prx_ne]; first | done | rfl) | (simp [*]; done)), H', ⟨by have := HJ6.out; first | omega | exact Nat.le_refl _⟩, ⟨by repeat (first | (with_reducible first | exact HB.out | apply below_alloc | apply pw_below_drewN | apply below_drew1) | exact HB.out)⟩⟩
        case rest =>
          clear HC19
          try clear c1
          try clear c2
          try clear p2
          try clear c3
          try clear c4
          try clear c5
          try clear c8
          try clear c8b0
          try clear c8b1
          try clear c9
          try clear c9b0
          try clear c9b1
          try clear c10
          try clear c10b0
          try clear c10b1
          try clear c12
          try clear c17
          try clear c21
          try clear p2
          obtain ⟨kq, x51_18, rfl, HA, HJ18, HB⟩ := hcut
          cases kq with
          | zero => exact absurd HA.out (by simp [laws_FnTypeAccepted.j1])
          | succ kj18 =>
            have H := HA.out
            clear HA
            simp only [laws_FnTypeAccepted.j1] at H
            by_cases c22 : x51_18 = true
            · subst c22
              have H1 : (some false) = some r := by rw [if_pos rfl] at H; exact H
              clear H
              have H := H1
              clear H1
              obtain rfl := Option.some.inj H
              go_wp2
              go_ret
              exact ⟨by first | rfl | (simp [errW_none, errW_some] <;> rfl) | (simp [*, errW_none, errW_some] <;> rfl), by repeat (first | (with_reducible first | exact HB.out | apply below_alloc | apply pw_below_drewN | apply below_drew1) | exact HB.out)⟩
            · replace c22 := Bool.eq_false_iff.mpr c22
              subst c22
              have H1 : ((laws_words.f kj18 (([a0, a1, a2] : List ByteArray))).bind fun t381 => (if t381 = true then ((laws_plainParams.f kj18 l4).bind fun t382 => (if t382 = true then ((laws_plainParams.f kj18 l5).bind fun t383 => (laws_FnTypeAccepted.j2 kj18 a0 a1 a2 a3 l4 l5 (!t383))) else (laws_FnTypeAccepted.j2 kj18 a0 a1 a2 a3 l4 l5 true))) else (laws_FnTypeAccepted.j2 kj18 a0 a1 a2 a3 l4 l5 true))) = some r := by rw [if_neg (show ¬ (false = true) by decide)] at H; exact H
              clear H
              have H := H1
              clear H1
              have HC23 := Aside0.mk H
              clear H
              go_upto_region 6 with (fail)
              go_cut [67] (fun v67 wc => ∃ (kq : Nat) (x67_22 : Bool), v67 = .bool x67_22 ∧ Aside0 (laws_FnTypeAccepted.j2 kq a0 a1 a2 a3 l4 l5 x67_22 = some r) ∧ Aside0 (kq ≤ kj18) ∧ Aside0 (Below w.heap.size w wc))
              case first =>
                have H := HC23.out
                clear HC23
                obtain ⟨y378, hy378⟩ : ∃ y_ : List ByteArray, y_ = (([a0, a1, a2] : List ByteArray)) := ⟨_, rfl⟩
                replace H : ((laws_words.f kj18 y378).bind fun t381 => (if t381 = true then ((laws_plainParams.f kj18 l4).bind fun t382 => (if t382 = true then ((laws_plainParams.f kj18 l5).bind fun t383 => (laws_FnTypeAccepted.j2 kj18 a0 a1 a2 a3 l4 l5 (!t383))) else (laws_FnTypeAccepted.j2 kj18 a0 a1 a2 a3 l4 l5 true))) else (laws_FnTypeAccepted.j2 kj18 a0 a1 a2 a3 l4 l5 true))) = some r := by first | (rw [hy378]; with_reducible exact H) | (have H2_ := (Option.bind_some _ _).symm.trans H; rw [hy378]; with_reducible exact H2_) | (have H2_ := (Option.bind_some _ _).symm.trans H; with_reducible exact H2_) | with_reducible exact H | (rw [hy378]; exact H) | exact H
                have Ny378 := Aside0.mk hy378
                clear hy378
                replace H := Option.bind_eq_some_iff.mp H
                obtain ⟨t381, A240, H⟩ := H
                replace H : (if t381 = true then ((laws_plainParams.f kj18 l4).bind fun t382 => (if t382 = true then ((laws_plainParams.f kj18 l5).bind fun t383 => (laws_FnTypeAccepted.j2 kj18 a0 a1 a2 a3 l4 l5 (!t383))) else (laws_FnTypeAccepted.j2 kj18 a0 a1 a2 a3 l4 l5 true))) else (laws_FnTypeAccepted.j2 kj18 a0 a1 a2 a3 l4 l5 true)) = some r := H
                have A24 := Aside0.mk A240
                clear A240
                by_cases c25 : t381 = true
                · subst c25
                  have H1 : ((laws_plainParams.f kj18 l4).bind fun t382 => (if t382 = true then ((laws_plainParams.f kj18 l5).bind fun t383 => (laws_FnTypeAccepted.j2 kj18 a0 a1 a2 a3 l4 l5 (!t383))) else (laws_FnTypeAccepted.j2 kj18 a0 a1 a2 a3 l4 l5 true))) = some r := by rw [if_pos rfl] at H; exact H
                  clear H
                  have H := H1
                  clear H1
                  replace H := Option.bind_eq_some_iff.mp H
                  obtain ⟨t382, A260, H⟩ := H
                  replace H : (if t382 = true then ((laws_plainParams.f kj18 l5).bind fun t383 => (laws_FnTypeAccepted.j2 kj18 a0 a1 a2 a3 l4 l5 (!t383))) else (laws_FnTypeAccepted.j2 kj18 a0 a1 a2 a3 l4 l5 true)) = some r := H
                  have A26 := Aside0.mk A260
                  clear A260
                  by_cases c27 : t382 = true
                  · subst c27
                    have H1 : ((laws_plainParams.f kj18 l5).bind fun t383 => (laws_FnTypeAccepted.j2 kj18 a0 a1 a2 a3 l4 l5 (!t383))) = some r := by rw [if_pos rfl] at H; exact H
                    clear H
                    have H := H1
                    clear H1
                    replace H := Option.bind_eq_some_iff.mp H
                    obtain ⟨t383, A280, H⟩ := H
                    replace H : (laws_FnTypeAccepted.j2 kj18 a0 a1 a2 a3 l4 l5 (!t383)) = some r := H
                    have A28 := Aside0.mk A280
                    clear A280
                    have H' := Aside0.mk H
                    clear H
                    go_wp2_with (first | ((with_reducible refine gate_dst (N := 55) rfl ?_); (try (refine gate_guard (by rfl) ?_; dsimp only)); refine Kd.R_lit Kd.string _ 9 ?hg (N := 55) ?hd (xs := ([a0, a1, a2] : List ByteArray)) (inner := [.string a0, .string a1, .string a2]) (ok := fun _ => True) (okp := fun _ => True) ?hr ?hp (fun _ hk => hk) trivial (Below.refl _ _) (Nat.le_refl _) (by simp) ?_; (case hd => rfl); (case hg => rfl); (case hr => first | (go_simp; done) | (go_simp; rfl)); (case hp => exact (Reps.one (show Kd.M Kd.string _ _ _ a0 [.string a0] from rfl) (Reps.one (show Kd.M Kd.string _ _ _ a1 [.string a1] from rfl) (Reps.one (show Kd.M Kd.string _ _ _ a2 [.string a2] from rfl) (Reps.none _ _))))); intro v379 w29 ho30 hb hg_ hnew_; clear hg_ hnew_; (first | rw [← Ny378.out] at ho30 | (simp only [Int.reduceToNat] at ho30; rw [← Ny378.out] at ho30)); have n0_ := Aside0.mk (Kd.R_lower ho30 (below_size (by repeat (first | (with_reducible first | exact HB.out | apply below_alloc | apply pw_below_drewN | apply below_drew1) | exact HB.out)))); have n1_ := Aside0.mk (below_step (by repeat (first | (with_reducible first | exact HB.out | apply below_alloc | apply pw_below_drewN | apply below_drew1) | exact HB.out)) hb); clear HB; have HO380 := n0_; have HB := n1_; clear n0_ n1_; clear hb ho30; obtain ⟨Ao31, co31, eo31⟩ := Kd.R_slice HO380.out; subst eo31) | ((with_reducible refine gate_callee (f := 20) rfl ?_); refine goesL_ (some 56) rfl rfl Try.func20 (by kernel_rfl) rfl #[.slice Ao31 y378.length co31] rfl (by (try simp only [List.map_toArray, List.map_cons, List.map_nil]); first | done | rfl | (simp only [List.length_drop, List.length_take]; rfl)) ?_; (with_reducible refine (laws_words.calls kj18 _ _ y378 true _ ?side1 ?side2 A24.out).mono ?_); (case side1 => repeat (first | exact (Kd.R_reads' HO380.out).2.2 | (with_reducible refine Kd.C_alloc ?_ _) | (with_reducible refine Kd.C_drewN ?_ _) | (with_reducible refine Kd.C_drew ?_))); (case side2 => exact (Kd.R_reads' HO380.out).2.1); rintro e w' ⟨rfl, ⟨nd, rfl⟩⟩; refine ⟨_, rfl, ?_⟩) | (go_at_call 27; (with_reducible refine (laws_plainParams.calls kj18 _ _ l4 true _ ?side1 ?side2 A26.out).mono ?_); (case side1 => repeat (first | exact (Kd.C_below HR4.out (by repeat (first | (with_reducible first | exact HB.out | apply below_alloc | apply pw_below_drewN | apply below_drew1) | exact HB.out))) | (with_reducible refine Kd.C_alloc ?_ _) | (with_reducible refine Kd.C_drewN ?_ _) | (with_reducible refine Kd.C_drew ?_))); (case side2 => exact HC4.out); rintro e w32 ⟨rfl, hb⟩; have n0_ := Aside0.mk (Kd.R_below (by (with_reducible repeat (first | apply Kd.R_alloc | apply Kd.R_drewN | apply Kd.R_drew)); exact HO380.out) hb); have n1_ := Aside0.mk (below_step (by repeat (first | (with_reducible first | exact HB.out | apply below_alloc | apply pw_below_drewN | apply below_drew1) | exact HB.out)) hb); clear HO380; clear HB; have HO380 := n0_; have HB := n1_; clear n0_ n1_; (try clear hb); (try clear hb2); (try clear hk); (try clear hi)) | (go_at_call 27; (with_reducible refine (laws_plainParams.calls kj18 _ _ l5 t383 _ ?side1 ?side2 A28.out).mono ?_); (case side1 => repeat (first | exact (Kd.C_below HR5.out HB.out) | (with_reducible refine Kd.C_alloc ?_ _) | (with_reducible refine Kd.C_drewN ?_ _) | (with_reducible refine Kd.C_drew ?_))); (case side2 => exact HC5.out); rintro e w33 ⟨rfl, hb⟩; have n0_ := Aside0.mk (Kd.R_below (by (with_reducible repeat (first | apply Kd.R_alloc | apply Kd.R_drewN | apply Kd.R_drew)); exact HO380.out) hb); have n1_ := Aside0.mk (below_step (by repeat (first | (with_reducible first | exact HB.out | apply below_alloc | apply pw_below_drewN | apply below_drew1) | exact HB.out)) hb); clear HO380; clear HB; have HO380 := n0_; have HB := n1_; clear n0_ n1_; (try clear hb); (try clear hb2); (try clear hk); (try clear hi)))
                    go_meet
                    case rel => exact ⟨_, (!t383), (by first | rfl | (simp; done) | (rw [prx_ne]; first | done | rfl) | (simp [*]; done)), H', ⟨by have := HJ6.out; have := HJ18.out; first | omega | exact Nat.le_refl _⟩, ⟨by repeat (first | (with_reducible first | exact HB.out | apply below_alloc | apply pw_below_drewN | apply below_drew1) | exact HB.out)⟩⟩
                  · replace c27 := Bool.eq_false_iff.mpr c27
                    subst c27
                    have H1 : (laws_FnTypeAccepted.j2 kj18 a0 a1 a2 a3 l4 l5 true) = some r := by rw [if_neg (show ¬ (false = true) by decide)] at H; exact H
                    clear H
                    have H := H1
                    clear H1
                    have H' := Aside0.mk H
                    clear H
                    go_wp2_with (first | ((with_reducible refine gate_dst (N := 55) rfl ?_); (try (refine gate_guard (by rfl) ?_; dsimp only)); refine Kd.R_lit Kd.string _ 9 ?hg (N := 55) ?hd (xs := ([a0, a1, a2] : List ByteArray)) (inner := [.string a0, .string a1, .string a2]) (ok := fun _ => True) (okp := fun _ => True) ?hr ?hp (fun _ hk => hk) trivial (Below.refl _ _) (Nat.le_refl _) (by simp) ?_; (case hd => rfl); (case hg => rfl); (case hr => first | (go_simp; done) | (go_simp; rfl)); (case hp => exact (Reps.one (show Kd.M Kd.string _ _ _ a0 [.string a0] from rfl) (Reps.one (show Kd.M Kd.string _ _ _ a1 [.string a1] from rfl) (Reps.one (show Kd.M Kd.string _ _ _ a2 [.string a2] from rfl) (Reps.none _ _))))); intro v379 w34 ho35 hb hg_ hnew_; clear hg_ hnew_; (first | rw [← Ny378.out] at ho35 | (simp only [Int.reduceToNat] at ho35; rw [← Ny378.out] at ho35)); have n0_ := Aside0.mk (Kd.R_lower ho35 (below_size (by repeat (first | (with_reducible first | exact HB.out | apply below_alloc | apply pw_below_drewN | apply below_drew1) | exact HB.out)))); have n1_ := Aside0.mk (below_step (by repeat (first | (with_reducible first | exact HB.out | apply below_alloc | apply pw_below_drewN | apply below_drew1) | exact HB.out)) hb); clear HB; have HO380 := n0_; have HB := n1_; clear n0_ n1_; clear hb ho35; obtain ⟨Ao36, co36, eo36⟩ := Kd.R_slice HO380.out; subst eo36) | ((with_reducible refine gate_callee (f := 20) rfl ?_); refine goesL_ (some 56) rfl rfl Try.func20 (by kernel_rfl) rfl #[.slice Ao36 y378.length co36] rfl (by (try simp only [List.map_toArray, List.map_cons, List.map_nil]); first | done | rfl | (simp only [List.length_drop, List.length_take]; rfl)) ?_; (with_reducible refine (laws_words.calls kj18 _ _ y378 true _ ?side1 ?side2 A24.out).mono ?_); (case side1 => repeat (first | exact (Kd.R_reads' HO380.out).2.2 | (with_reducible refine Kd.C_alloc ?_ _) | (with_reducible refine Kd.C_drewN ?_ _) | (with_reducible refine Kd.C_drew ?_))); (case side2 => exact (Kd.R_reads' HO380.out).2.1); rintro e w' ⟨rfl, ⟨nd, rfl⟩⟩; refine ⟨_, rfl, ?_⟩) | (go_at_call 27; (with_reducible refine (laws_plainParams.calls kj18 _ _ l4 false _ ?side1 ?side2 A26.out).mono ?_); (case side1 => repeat (first | exact (Kd.C_below HR4.out (by repeat (first | (with_reducible first | exact HB.out | apply below_alloc | apply pw_below_drewN | apply below_drew1) | exact HB.out))) | (with_reducible refine Kd.C_alloc ?_ _) | (with_reducible refine Kd.C_drewN ?_ _) | (with_reducible refine Kd.C_drew ?_))); (case side2 => exact HC4.out); rintro e w37 ⟨rfl, hb⟩; have n0_ := Aside0.mk (Kd.R_below (by (with_reducible repeat (first | apply Kd.R_alloc | apply Kd.R_drewN | apply Kd.R_drew)); exact HO380.out) hb); have n1_ := Aside0.mk (below_step (by repeat (first | (with_reducible first | exact HB.out | apply below_alloc | apply pw_below_drewN | apply below_drew1) | exact HB.out)) hb); clear HO380; clear HB; have HO380 := n0_; have HB := n1_; clear n0_ n1_; (try clear hb); (try clear hb2); (try clear hk); (try clear hi)))
                    go_meet
                    case rel => exact ⟨_, (true), (by first | rfl | (simp; done) | (rw [prx_ne]; first | done | rfl) | (simp [*]; done)), H', ⟨by have := HJ6.out; have := HJ18.out; first | omega | exact Nat.le_refl _⟩, ⟨by repeat (first | (with_reducible first | exact HB.out | apply below_alloc | apply pw_below_drewN | apply below_drew1) | exact HB.out)⟩⟩
                · replace c25 := Bool.eq_false_iff.mpr c25
                  subst c25
                  have H1 : (laws_FnTypeAccepted.j2 kj18 a0 a1 a2 a3 l4 l5 true) = some r := by rw [if_neg (show ¬ (false = true) by decide)] at H; exact H
                  clear H
                  have H := H1
                  clear H1
                  have H' := Aside0.mk H
                  clear H
                  go_wp2_with (first | ((with_reducible refine gate_dst (N := 55) rfl ?_); (try (refine gate_guard (by rfl) ?_; dsimp only)); refine Kd.R_lit Kd.string _ 9 ?hg (N := 55) ?hd (xs := ([a0, a1, a2] : List ByteArray)) (inner := [.string a0, .string a1, .string a2]) (ok := fun _ => True) (okp := fun _ => True) ?hr ?hp (fun _ hk => hk) trivial (Below.refl _ _) (Nat.le_refl _) (by simp) ?_; (case hd => rfl); (case hg => rfl); (case hr => first | (go_simp; done) | (go_simp; rfl)); (case hp => exact (Reps.one (show Kd.M Kd.string _ _ _ a0 [.string a0] from rfl) (Reps.one (show Kd.M Kd.string _ _ _ a1 [.string a1] from rfl) (Reps.one (show Kd.M Kd.string _ _ _ a2 [.string a2] from rfl) (Reps.none _ _))))); intro v379 w38 ho39 hb hg_ hnew_; clear hg_ hnew_; (first | rw [← Ny378.out] at ho39 | (simp only [Int.reduceToNat] at ho39; rw [← Ny378.out] at ho39)); have n0_ := Aside0.mk (Kd.R_lower ho39 (below_size (by repeat (first | (with_reducible first | exact HB.out | apply below_alloc | apply pw_below_drewN | apply below_drew1) | exact HB.out)))); have n1_ := Aside0.mk (below_step (by repeat (first | (with_reducible first | exact HB.out | apply below_alloc | apply pw_below_drewN | apply below_drew1) | exact HB.out)) hb); clear HB; have HO380 := n0_; have HB := n1_; clear n0_ n1_; clear hb ho39; obtain ⟨Ao40, co40, eo40⟩ := Kd.R_slice HO380.out; subst eo40) | ((with_reducible refine gate_callee (f := 20) rfl ?_); refine goesL_ (some 56) rfl rfl Try.func20 (by kernel_rfl) rfl #[.slice Ao40 y378.length co40] rfl (by (try simp only [List.map_toArray, List.map_cons, List.map_nil]); first | done | rfl | (simp only [List.length_drop, List.length_take]; rfl)) ?_; (with_reducible refine (laws_words.calls kj18 _ _ y378 false _ ?side1 ?side2 A24.out).mono ?_); (case side1 => repeat (first | exact (Kd.R_reads' HO380.out).2.2 | (with_reducible refine Kd.C_alloc ?_ _) | (with_reducible refine Kd.C_drewN ?_ _) | (with_reducible refine Kd.C_drew ?_))); (case side2 => exact (Kd.R_reads' HO380.out).2.1); rintro e w' ⟨rfl, ⟨nd, rfl⟩⟩; refine ⟨_, rfl, ?_⟩))
                  go_meet
                  case rel => exact ⟨_, (true), (by first | rfl | (simp; done) | (rw [prx_ne]; first | done | rfl) | (simp [*]; done)), H', ⟨by have := HJ6.out; have := HJ18.out; first | omega | exact Nat.le_refl _⟩, ⟨by repeat (first | (with_reducible first | exact HB.out | apply below_alloc | apply pw_below_drewN | apply below_drew1) | exact HB.out)⟩⟩
              case rest =>
                clear HC23
                try clear c1
                try clear c2
                try clear p2
                try clear c3
                try clear c4
                try clear c5
                try clear c8
                try clear c8b0
                try clear c8b1
                try clear c9
                try clear c9b0
                try clear c9b1
                try clear c10
                try clear c10b0
                try clear c10b1
                try clear c12
                try clear c17
                try clear c20
                try clear c21
                try clear c22
                try clear c25
                try clear c27
                try clear c34
                try clear p2
                obtain ⟨kq, x67_22, rfl, HA, HJ22, HB⟩ := hcut
                cases kq with
                | zero => exact absurd HA.out (by simp [laws_FnTypeAccepted.j2])
                | succ kj22 =>
                  have H := HA.out
                  clear HA
                  simp only [laws_FnTypeAccepted.j2] at H
                  by_cases c41 : x67_22 = true
                  · subst c41
                    have H1 : (some true) = some r := by rw [if_pos rfl] at H; exact H
                    clear H
                    have H := H1
                    clear H1
                    obtain rfl := Option.some.inj H
                    go_wp2
                    go_ret
                    exact ⟨by first | rfl | (simp [errW_none, errW_some] <;> rfl) | (simp [*, errW_none, errW_some] <;> rfl), by repeat (first | (with_reducible first | exact HB.out | apply below_alloc | apply pw_below_drewN | apply below_drew1) | exact HB.out)⟩
                  · replace c41 := Bool.eq_false_iff.mpr c41
                    subst c41
                    have H1 : (if (Int.tmod a3 4) = 1 then (if a0.size + 2 ≤ 9223372036854775807 then (laws_FnTypeAccepted.j3 kj22 a0 a1 l4 l5 (a0 ++ (⟨#[47, 42]⟩ : ByteArray)) true) else (none)) else (if (Int.tmod a3 4) = 2 then (if a0.size + 1 ≤ 9223372036854775807 then (if (a0 ++ (⟨#[47]⟩ : ByteArray)).size + a1.size ≤ 9223372036854775807 then (laws_FnTypeAccepted.j3 kj22 a0 a1 l4 l5 ((a0 ++ (⟨#[47]⟩ : ByteArray)) ++ a1) true) else (none)) else (none)) else (if (Int.tmod a3 4) = 3 then (if a0.size + 1 ≤ 9223372036854775807 then (if (a0 ++ (⟨#[47]⟩ : ByteArray)).size + a2.size ≤ 9223372036854775807 then ((laws_low.f a2).bind fun t384 => ((laws_low.f a1).bind fun t385 => (if t384.toList = t385.toList then (if a2.toList = a1.toList then (laws_FnTypeAccepted.j3 kj22 a0 a1 l4 l5 ((a0 ++ (⟨#[47]⟩ : ByteArray)) ++ a2) (t384.toList == t385.toList)) else (some true)) else (laws_FnTypeAccepted.j3 kj22 a0 a1 l4 l5 ((a0 ++ (⟨#[47]⟩ : ByteArray)) ++ a2) (t384.toList == t385.toList))))) else (none)) else (none)) else (laws_FnTypeAccepted.j3 kj22 a0 a1 l4 l5 (⟨#[42, 47, 42]⟩ : ByteArray) true)))) = some r := by rw [if_neg (show ¬ (false = true) by decide)] at H; exact H
                    clear H
                    have H := H1
                    clear H1
                    have HC42 := Aside0.mk H
                    clear H
                    go_upto_block 0 with (fail)
                    go_cut [15, 16] (fun v15 v16 wc => ∃ (kq : Nat) (x15_41 : ByteArray) (x16_41 : Bool), v15 = .string x15_41 ∧ v16 = .bool x16_41 ∧ Aside0 (laws_FnTypeAccepted.j3 kq a0 a1 l4 l5 x15_41 x16_41 = some r) ∧ Aside0 (kq ≤ kj22) ∧ Aside0 (Below w.heap.size w wc))
                    case first =>
                      have H := HC42.out
                      clear HC42
                      by_cases c43 : (Int.tmod a3 4) = 1
                      · rw [if_pos c43] at H
                        have c43b0 : ((Int.tmod a3 4) == 1) = true := beq_iff_eq.mpr c43
                        have c43b1 : ((Int.tmod a3 4) != 1) = false := bne_eq_false_iff_eq.mpr c43
                        clear c43
                        (first | rw [c43b0] | (simp only [i64_w, i32_w]; rw [c43b0]) | skip)
                        by_cases c44 : a0.size + 2 ≤ 9223372036854775807
                        · rw [if_pos c44] at H
                          have c44b0 := eq_true c44
                          have c44b1 : decide (a0.size + 2 ≤ 9223372036854775807) = true := decide_eq_true c44
                          try have c44b2 : (9223372036854775807 < a0.size + 2) = False := eq_false (Nat.not_lt.2 c44)
                          try (have c44b3 := c44; simp only [ByteArray.size_append, prx_sz, List.length_cons, List.length_nil] at c44b3)
                          have H' := Aside0.mk H
                          clear H
                          go_wp2
                          go_meet
                          case rel => exact ⟨_, (a0 ++ (⟨#[47, 42]⟩ : ByteArray)), (true), (by first | rfl | (simp; done) | (rw [prx_ne]; first | done | rfl) | (simp [*]; done)), (by first | rfl | (simp; done) | (rw [prx_ne]; first | done | rfl) | (simp [*]; done)), H', ⟨by have := HJ6.out; have := HJ18.out; have := HJ22.out; first | omega | exact Nat.le_refl _⟩, ⟨by repeat (first | (with_reducible first | exact HB.out | apply below_alloc | apply pw_below_drewN | apply below_drew1) | exact HB.out)⟩⟩
                        · rw [if_neg c44] at H
                          exact absurd H (by simp)
                      · rw [if_neg c43] at H
                        have c43b0 : ((Int.tmod a3 4) == 1) = false := beq_eq_false_iff_ne.mpr c43
                        have c43b1 : ((Int.tmod a3 4) != 1) = true := bne_iff_ne.mpr c43
                        (first | rw [c43b0] | (simp only [i64_w, i32_w]; rw [c43b0]) | skip)
                        by_cases c45 : (Int.tmod a3 4) = 2
                        · rw [if_pos c45] at H
                          have c45b0 : ((Int.tmod a3 4) == 2) = true := beq_iff_eq.mpr c45
                          have c45b1 : ((Int.tmod a3 4) != 2) = false := bne_eq_false_iff_eq.mpr c45
                          clear c45
                          by_cases c46 : a0.size + 1 ≤ 9223372036854775807
                          · rw [if_pos c46] at H
                            have c46b0 := eq_true c46
                            have c46b1 : decide (a0.size + 1 ≤ 9223372036854775807) = true := decide_eq_true c46
                            try have c46b2 : (9223372036854775807 < a0.size + 1) = False := eq_false (Nat.not_lt.2 c46)
                            try (have c46b3 := c46; simp only [ByteArray.size_append, prx_sz, List.length_cons, List.length_nil] at c46b3)
                            by_cases c47 : (a0 ++ (⟨#[47]⟩ : ByteArray)).size + a1.size ≤ 9223372036854775807
                            · rw [if_pos c47] at H
                              have c47b0 := eq_true c47
                              have c47b1 : decide ((a0 ++ (⟨#[47]⟩ : ByteArray)).size + a1.size ≤ 9223372036854775807) = true := decide_eq_true c47
                              try have c47b2 : (9223372036854775807 < (a0 ++ (⟨#[47]⟩ : ByteArray)).size + a1.size) = False := eq_false (Nat.not_lt.2 c47)
                              try (have c47b3 := c47; simp only [ByteArray.size_append, prx_sz, List.length_cons, List.length_nil] at c47b3)
                              have H' := Aside0.mk H
                              clear H
                              go_wp2
                              go_meet
                              case rel => exact ⟨_, ((a0 ++ (⟨#[47]⟩ : ByteArray)) ++ a1), (true), (by first | rfl | (simp; done) | (rw [prx_ne]; first | done | rfl) | (simp [*]; done)), (by first | rfl | (simp; done) | (rw [prx_ne]; first | done | rfl) | (simp [*]; done)), H', ⟨by have := HJ6.out; have := HJ18.out; have := HJ22.out; first | omega | exact Nat.le_refl _⟩, ⟨by repeat (first | (with_reducible first | exact HB.out | apply below_alloc | apply pw_below_drewN | apply below_drew1) | exact HB.out)⟩⟩
                            · rw [if_neg c47] at H
                              exact absurd H (by simp)
                          · rw [if_neg c46] at H
                            exact absurd H (by simp)
                        · rw [if_neg c45] at H
                          have c45b0 : ((Int.tmod a3 4) == 2) = false := beq_eq_false_iff_ne.mpr c45
                          have c45b1 : ((Int.tmod a3 4) != 2) = true := bne_iff_ne.mpr c45
                          by_cases c48 : (Int.tmod a3 4) = 3
                          · rw [if_pos c48] at H
                            have c48b0 : ((Int.tmod a3 4) == 3) = true := beq_iff_eq.mpr c48
                            have c48b1 : ((Int.tmod a3 4) != 3) = false := bne_eq_false_iff_eq.mpr c48
                            clear c48
                            by_cases c49 : a0.size + 1 ≤ 9223372036854775807
                            · rw [if_pos c49] at H
                              have c49b0 := eq_true c49
                              have c49b1 : decide (a0.size + 1 ≤ 9223372036854775807) = true := decide_eq_true c49
                              try have c49b2 : (9223372036854775807 < a0.size + 1) = False := eq_false (Nat.not_lt.2 c49)
                              try (have c49b3 := c49; simp only [ByteArray.size_append, prx_sz, List.length_cons, List.length_nil] at c49b3)
                              by_cases c50 : (a0 ++ (⟨#[47]⟩ : ByteArray)).size + a2.size ≤ 9223372036854775807
                              · rw [if_pos c50] at H
                                have c50b0 := eq_true c50
                                have c50b1 : decide ((a0 ++ (⟨#[47]⟩ : ByteArray)).size + a2.size ≤ 9223372036854775807) = true := decide_eq_true c50
                                try have c50b2 : (9223372036854775807 < (a0 ++ (⟨#[47]⟩ : ByteArray)).size + a2.size) = False := eq_false (Nat.not_lt.2 c50)
                                try (have c50b3 := c50; simp only [ByteArray.size_append, prx_sz, List.length_cons, List.length_nil] at c50b3)
                                replace H := Option.bind_eq_some_iff.mp H
                                obtain ⟨t384, A510, H⟩ := H
                                replace H : ((laws_low.f a1).bind fun t385 => (if t384.toList = t385.toList then (if a2.toList = a1.toList then (laws_FnTypeAccepted.j3 kj22 a0 a1 l4 l5 ((a0 ++ (⟨#[47]⟩ : ByteArray)) ++ a2) (t384.toList == t385.toList)) else (some true)) else (laws_FnTypeAccepted.j3 kj22 a0 a1 l4 l5 ((a0 ++ (⟨#[47]⟩ : ByteArray)) ++ a2) (t384.toList == t385.toList)))) = some r := H
                                have A51 := Aside0.mk A510
                                clear A510
                                replace H := Option.bind_eq_some_iff.mp H
                                obtain ⟨t385, A520, H⟩ := H
                                replace H : (if t384.toList = t385.toList then (if a2.toList = a1.toList then (laws_FnTypeAccepted.j3 kj22 a0 a1 l4 l5 ((a0 ++ (⟨#[47]⟩ : ByteArray)) ++ a2) (t384.toList == t385.toList)) else (some true)) else (laws_FnTypeAccepted.j3 kj22 a0 a1 l4 l5 ((a0 ++ (⟨#[47]⟩ : ByteArray)) ++ a2) (t384.toList == t385.toList))) = some r := H
                                have A52 := Aside0.mk A520
                                clear A520
                                by_cases c53 : t384.toList = t385.toList
                                · rw [if_pos c53] at H
                                  have c53b0 : (t384.toList == t385.toList) = true := beq_iff_eq.mpr c53
                                  have c53b1 : (t384.toList != t385.toList) = false := bne_eq_false_iff_eq.mpr c53
                                  clear c53
                                  by_cases c54 : a2.toList = a1.toList
                                  · rw [if_pos c54] at H
                                    have c54b0 : (a2.toList == a1.toList) = true := beq_iff_eq.mpr c54
                                    have c54b1 : (a2.toList != a1.toList) = false := bne_eq_false_iff_eq.mpr c54
                                    clear c54
                                    have H' := Aside0.mk H
                                    clear H
                                    go_wp2_with (first | ((with_reducible refine gate_callee (f := 29) rfl ?_); refine goesL_ (some 87) rfl rfl Try.func29 (by kernel_rfl) rfl #[.string a2] rfl (by (try simp only [List.map_toArray, List.map_cons, List.map_nil]); first | done | rfl | (simp only [List.length_drop, List.length_take]; rfl)) ?_; (with_reducible refine (laws_low.calls a2 t384 _ A51.out).mono ?_); rintro e w55 ⟨rfl, hb⟩; refine ⟨_, rfl, ?_⟩; have n0_ := Aside0.mk (below_step (by repeat (first | (with_reducible first | exact HB.out | apply below_alloc | apply pw_below_drewN | apply below_drew1) | exact HB.out)) hb); clear HB; have HB := n0_; clear n0_; (try clear hb); (try clear hb2); (try clear hk); (try clear hi)) | ((with_reducible refine gate_callee (f := 29) rfl ?_); refine goesL_ (some 89) rfl rfl Try.func29 (by kernel_rfl) rfl #[.string a1] rfl (by (try simp only [List.map_toArray, List.map_cons, List.map_nil]); first | done | rfl | (simp only [List.length_drop, List.length_take]; rfl)) ?_; (with_reducible refine (laws_low.calls a1 t385 _ A52.out).mono ?_); rintro e w56 ⟨rfl, hb⟩; refine ⟨_, rfl, ?_⟩; have n0_ := Aside0.mk (below_step (by repeat (first | (with_reducible first | exact HB.out | apply below_alloc | apply pw_below_drewN | apply below_drew1) | exact HB.out)) hb); clear HB; have HB := n0_; clear n0_; (try clear hb); (try clear hb2); (try clear hk); (try clear hi)))
                                    go_meet
                                    case rel => exact ⟨_, ((a0 ++ (⟨#[47]⟩ : ByteArray)) ++ a2), ((t384.toList == t385.toList)), (by first | rfl | (simp; done) | (rw [prx_ne]; first | done | rfl) | (simp [*]; done)), (by first | rfl | (simp; done) | (rw [prx_ne]; first | done | rfl) | (simp [*]; done)), H', ⟨by have := HJ6.out; have := HJ18.out; have := HJ22.out; first | omega | exact Nat.le_refl _⟩, ⟨by repeat (first | (with_reducible first | exact HB.out | apply below_alloc | apply pw_below_drewN | apply below_drew1) | exact HB.out)⟩⟩
                                  · rw [if_neg c54] at H
                                    have c54b0 : (a2.toList == a1.toList) = false := beq_eq_false_iff_ne.mpr c54
                                    have c54b1 : (a2.toList != a1.toList) = true := bne_iff_ne.mpr c54
                                    obtain rfl := Option.some.inj H
                                    go_wp2_with (first | ((with_reducible refine gate_callee (f := 29) rfl ?_); refine goesL_ (some 87) rfl rfl Try.func29 (by kernel_rfl) rfl #[.string a2] rfl (by (try simp only [List.map_toArray, List.map_cons, List.map_nil]); first | done | rfl | (simp only [List.length_drop, List.length_take]; rfl)) ?_; (with_reducible refine (laws_low.calls a2 t384 _ A51.out).mono ?_); rintro e w57 ⟨rfl, hb⟩; refine ⟨_, rfl, ?_⟩; have n0_ := Aside0.mk (below_step (by repeat (first | (with_reducible first | exact HB.out | apply below_alloc | apply pw_below_drewN | apply below_drew1) | exact HB.out)) hb); clear HB; have HB := n0_; clear n0_; (try clear hb); (try clear hb2); (try clear hk); (try clear hi)) | ((with_reducible refine gate_callee (f := 29) rfl ?_); refine goesL_ (some 89) rfl rfl Try.func29 (by kernel_rfl) rfl #[.string a1] rfl (by (try simp only [List.map_toArray, List.map_cons, List.map_nil]); first | done | rfl | (simp only [List.length_drop, List.length_take]; rfl)) ?_; (with_reducible refine (laws_low.calls a1 t385 _ A52.out).mono ?_); rintro e w58 ⟨rfl, hb⟩; refine ⟨_, rfl, ?_⟩; have n0_ := Aside0.mk (below_step (by repeat (first | (with_reducible first | exact HB.out | apply below_alloc | apply pw_below_drewN | apply below_drew1) | exact HB.out)) hb); clear HB; have HB := n0_; clear n0_; (try clear hb); (try clear hb2); (try clear hk); (try clear hi)))
                                    go_ret
                                    exact ⟨by first | rfl | (simp [errW_none, errW_some] <;> rfl) | (simp [*, errW_none, errW_some] <;> rfl), by repeat (first | (with_reducible first | exact HB.out | apply below_alloc | apply pw_below_drewN | apply below_drew1) | exact HB.out)⟩
                                · rw [if_neg c53] at H
                                  have c53b0 : (t384.toList == t385.toList) = false := beq_eq_false_iff_ne.mpr c53
                                  have c53b1 : (t384.toList != t385.toList) = true := bne_iff_ne.mpr c53
                                  have H' := Aside0.mk H
                                  clear H
                                  go_wp2_with (first | ((with_reducible refine gate_callee (f := 29) rfl ?_); refine goesL_ (some 87) rfl rfl Try.func29 (by kernel_rfl) rfl #[.string a2] rfl (by (try simp only [List.map_toArray, List.map_cons, List.map_nil]); first | done | rfl | (simp only [List.length_drop, List.length_take]; rfl)) ?_; (with_reducible refine (laws_low.calls a2 t384 _ A51.out).mono ?_); rintro e w59 ⟨rfl, hb⟩; refine ⟨_, rfl, ?_⟩; have n0_ := Aside0.mk (below_step (by repeat (first | (with_reducible first | exact HB.out | apply below_alloc | apply pw_below_drewN | apply below_drew1) | exact HB.out)) hb); clear HB; have HB := n0_; clear n0_; (try clear hb); (try clear hb2); (try clear hk); (try clear hi)) | ((with_reducible refine gate_callee (f := 29) rfl ?_); refine goesL_ (some 89) rfl rfl Try.func29 (by kernel_rfl) rfl #[.string a1] rfl (by (try simp only [List.map_toArray, List.map_cons, List.map_nil]); first | done | rfl | (simp only [List.length_drop, List.length_take]; rfl)) ?_; (with_reducible refine (laws_low.calls a1 t385 _ A52.out).mono ?_); rintro e w60 ⟨rfl, hb⟩; refine ⟨_, rfl, ?_⟩; have n0_ := Aside0.mk (below_step (by repeat (first | (with_reducible first | exact HB.out | apply below_alloc | apply pw_below_drewN | apply below_drew1) | exact HB.out)) hb); clear HB; have HB := n0_; clear n0_; (try clear hb); (try clear hb2); (try clear hk); (try clear hi)))
                                  go_meet
                                  case rel => exact ⟨_, ((a0 ++ (⟨#[47]⟩ : ByteArray)) ++ a2), ((t384.toList == t385.toList)), (by first | rfl | (simp; done) | (rw [prx_ne]; first | done | rfl) | (simp [*]; done)), (by first | rfl | (simp; done) | (rw [prx_ne]; first | done | rfl) | (simp [*]; done)), H', ⟨by have := HJ6.out; have := HJ18.out; have := HJ22.out; first | omega | exact Nat.le_refl _⟩, ⟨by repeat (first | (with_reducible first | exact HB.out | apply below_alloc | apply pw_below_drewN | apply below_drew1) | exact HB.out)⟩⟩
                              · rw [if_neg c50] at H
                                exact absurd H (by simp)
                            · rw [if_neg c49] at H
                              exact absurd H (by simp)
                          · rw [if_neg c48] at H
                            have c48b0 : ((Int.tmod a3 4) == 3) = false := beq_eq_false_iff_ne.mpr c48
                            have c48b1 : ((Int.tmod a3 4) != 3) = true := bne_iff_ne.mpr c48
                            have H' := Aside0.mk H
                            clear H
                            go_wp2
                            go_meet
                            case rel => exact ⟨_, ((⟨#[42, 47, 42]⟩ : ByteArray)), (true), (by first | rfl | (simp; done) | (rw [prx_ne]; first | done | rfl) | (simp [*]; done)), (by first | rfl | (simp; done) | (rw [prx_ne]; first | done | rfl) | (simp [*]; done)), H', ⟨by have := HJ6.out; have := HJ18.out; have := HJ22.out; first | omega | exact Nat.le_refl _⟩, ⟨by repeat (first | (with_reducible first | exact HB.out | apply below_alloc | apply pw_below_drewN | apply below_drew1) | exact HB.out)⟩⟩
                    case rest =>
                      clear HC42
                      try clear c1
                      try clear c2
                      try clear p2
                      try clear c3
                      try clear c4
                      try clear c5
                      try clear c8
                      try clear c8b0
                      try clear c8b1
                      try clear c9
                      try clear c9b0
                      try clear c9b1
                      try clear c10
                      try clear c10b0
                      try clear c10b1
                      try clear c12
                      try clear c17
                      try clear c20
                      try clear c21
                      try clear c22
                      try clear c25
                      try clear c27
                      try clear c29
                      try clear c34
                      try clear c41
                      try clear c43
                      try clear c43b0
                      try clear c43b1
                      try clear c44
                      try clear c44b0
                      try clear c44b1
                      try clear c44b2
                      try clear c45
                      try clear c45b0
                      try clear c45b1
                      try clear c46
                      try clear c46b0
                      try clear c46b1
                      try clear c46b2
                      try clear c47
                      try clear c47b0
                      try clear c47b1
                      try clear c47b2
                      try clear c48
                      try clear c48b0
                      try clear c48b1
                      try clear c49
                      try clear c49b0
                      try clear c49b1
                      try clear c49b2
                      try clear c50
                      try clear c50b0
                      try clear c50b1
                      try clear c50b2
                      try clear c53
                      try clear c53b0
                      try clear c53b1
                      try clear c54
                      try clear c54b0
                      try clear c54b1
                      try clear p2
                      obtain ⟨kq, x15_41, x16_41, rfl, rfl, HA, HJ41, HB⟩ := hcut
                      cases kq with
                      | zero => exact absurd HA.out (by simp [laws_FnTypeAccepted.j3])
                      | succ kj41 =>
                        have H := HA.out
                        clear HA
                        simp only [laws_FnTypeAccepted.j3] at H
                        by_cases c61 : a0.size + 1 ≤ 9223372036854775807
                        · rw [if_pos c61] at H
                          have c61b0 := eq_true c61
                          have c61b1 : decide (a0.size + 1 ≤ 9223372036854775807) = true := decide_eq_true c61
                          try have c61b2 : (9223372036854775807 < a0.size + 1) = False := eq_false (Nat.not_lt.2 c61)
                          try (have c61b3 := c61; simp only [ByteArray.size_append, prx_sz, List.length_cons, List.length_nil] at c61b3)
                          by_cases c62 : (a0 ++ (⟨#[47]⟩ : ByteArray)).size + a1.size ≤ 9223372036854775807
                          · rw [if_pos c62] at H
                            have c62b0 := eq_true c62
                            have c62b1 : decide ((a0 ++ (⟨#[47]⟩ : ByteArray)).size + a1.size ≤ 9223372036854775807) = true := decide_eq_true c62
                            try have c62b2 : (9223372036854775807 < (a0 ++ (⟨#[47]⟩ : ByteArray)).size + a1.size) = False := eq_false (Nat.not_lt.2 c62)
                            try (have c62b3 := c62; simp only [ByteArray.size_append, prx_sz, List.length_cons, List.length_nil] at c62b3)
                            replace H := Option.bind_eq_some_iff.mp H
                            obtain ⟨t386, A630, H⟩ := H
                            replace H : (if ((a0 ++ (⟨#[47]⟩ : ByteArray)) ++ a1).size + t386.size ≤ 9223372036854775807 then ((laws_given.f kj41 l4 ([] : List Int)).bind fun t387 => ((impl_AcceptsType.f kj41 x15_41 (((a0 ++ (⟨#[47]⟩ : ByteArray)) ++ a1) ++ t386) t387).bind fun bt388 => (if bt388.2 = true then (if x16_41 = true then ((laws_given.f kj41 l4 ([] : List Int)).bind fun t390 => ((laws_given.f kj41 l5 ([] : List Int)).bind fun t391 => ((impl_ParamsMatch.f t390 t391).bind fun t392 => (some (bt388.1 == t392))))) else (some (bt388.1 == false))) else (some false)))) else (none)) = some r := H
                            have A63 := Aside0.mk A630
                            clear A630
                            by_cases c64 : ((a0 ++ (⟨#[47]⟩ : ByteArray)) ++ a1).size + t386.size ≤ 9223372036854775807
                            · rw [if_pos c64] at H
                              have c64b0 := eq_true c64
                              have c64b1 : decide (((a0 ++ (⟨#[47]⟩ : ByteArray)) ++ a1).size + t386.size ≤ 9223372036854775807) = true := decide_eq_true c64
                              try have c64b2 : (9223372036854775807 < ((a0 ++ (⟨#[47]⟩ : ByteArray)) ++ a1).size + t386.size) = False := eq_false (Nat.not_lt.2 c64)
                              try (have c64b3 := c64; simp only [ByteArray.size_append, prx_sz, List.length_cons, List.length_nil] at c64b3)
                              replace H := Option.bind_eq_some_iff.mp H
                              obtain ⟨t387, A650, H⟩ := H
                              replace H : ((impl_AcceptsType.f kj41 x15_41 (((a0 ++ (⟨#[47]⟩ : ByteArray)) ++ a1) ++ t386) t387).bind fun bt388 => (if bt388.2 = true then (if x16_41 = true then ((laws_given.f kj41 l4 ([] : List Int)).bind fun t390 => ((laws_given.f kj41 l5 ([] : List Int)).bind fun t391 => ((impl_ParamsMatch.f t390 t391).bind fun t392 => (some (bt388.1 == t392))))) else (some (bt388.1 == false))) else (some false))) = some r := H
                              have A65 := Aside0.mk A650
                              clear A650
                              replace H := Option.bind_eq_some_iff.mp H
                              obtain ⟨⟨t388, t389⟩, A660, H⟩ := H
                              replace H : (if t389 = true then (if x16_41 = true then ((laws_given.f kj41 l4 ([] : List Int)).bind fun t390 => ((laws_given.f kj41 l5 ([] : List Int)).bind fun t391 => ((impl_ParamsMatch.f t390 t391).bind fun t392 => (some (t388 == t392))))) else (some (t388 == false))) else (some false)) = some r := H
                              have A66 := Aside0.mk A660
                              clear A660
                              by_cases c67 : t389 = true
                              · subst c67
                                have H1 : (if x16_41 = true then ((laws_given.f kj41 l4 ([] : List Int)).bind fun t390 => ((laws_given.f kj41 l5 ([] : List Int)).bind fun t391 => ((impl_ParamsMatch.f t390 t391).bind fun t392 => (some (t388 == t392))))) else (some (t388 == false))) = some r := by rw [if_pos rfl] at H; exact H
                                clear H
                                have H := H1
                                clear H1
                                by_cases c68 : x16_41 = true
                                · subst c68
                                  have H1 : ((laws_given.f kj41 l4 ([] : List Int)).bind fun t390 => ((laws_given.f kj41 l5 ([] : List Int)).bind fun t391 => ((impl_ParamsMatch.f t390 t391).bind fun t392 => (some (t388 == t392))))) = some r := by rw [if_pos rfl] at H; exact H
                                  clear H
                                  have H := H1
                                  clear H1
                                  replace H := Option.bind_eq_some_iff.mp H
                                  obtain ⟨t390, A690, H⟩ := H
                                  replace H : ((laws_given.f kj41 l5 ([] : List Int)).bind fun t391 => ((impl_ParamsMatch.f t390 t391).bind fun t392 => (some (t388 == t392)))) = some r := H
                                  have A69 := Aside0.mk A690
                                  clear A690
                                  replace H := Option.bind_eq_some_iff.mp H
                                  obtain ⟨t391, A700, H⟩ := H
                                  replace H : ((impl_ParamsMatch.f t390 t391).bind fun t392 => (some (t388 == t392))) = some r := H
                                  have A70 := Aside0.mk A700
                                  clear A700
                                  replace H := Option.bind_eq_some_iff.mp H
                                  obtain ⟨t392, A710, H⟩ := H
                                  replace H : (some (t388 == t392)) = some r := H
                                  have A71 := Aside0.mk A710
                                  clear A710
                                  try (obtain rfl : t390 = t387 := Option.some.inj (A69.out.symm.trans A65.out))
                                  try (obtain rfl : t391 = t386 := Option.some.inj (A70.out.symm.trans A63.out))
                                  obtain rfl := Option.some.inj H
                                  go_wp2_with (first | ((with_reducible refine gate_callee (f := 28) rfl ?_); refine goesL_ (some 104) rfl rfl Try.func28 (by kernel_rfl) rfl #[.slice A5 l5.length c5, .slice none 0 0] rfl (by (try simp only [List.map_toArray, List.map_cons, List.map_nil]); first | done | rfl | (simp only [List.length_drop, List.length_take]; rfl)) ?_; (refine (laws_given.calls kj41 _ _ l5 _ _ ([] : List Int) t391 _ ?side1 ?side2 ?side3 ?side4 A63.out).mono ?_); (case side1 => repeat (first | exact (Kd.C_below HR5.out HB.out) | (with_reducible refine Kd.C_alloc ?_ _) | (with_reducible refine Kd.C_drewN ?_ _) | (with_reducible refine Kd.C_drew ?_))); (case side2 => exact HC5.out); (case side3 => exact Kd.C_nil _ _); (case side4 => exact Nat.le_refl _); rintro e w72 ⟨rfl, hb⟩; refine ⟨_, rfl, ?_⟩; have n0_ := Aside0.mk (below_step (by repeat (first | (with_reducible first | exact HB.out | apply below_alloc | apply pw_below_drewN | apply below_drew1) | exact HB.out)) hb); clear HB; have HB := n0_; clear n0_; (try clear hb); (try clear hb2); (try clear hk); (try clear hi)) | ((with_reducible refine gate_callee (f := 28) rfl ?_); refine goesL_ (some 107) rfl rfl Try.func28 (by kernel_rfl) rfl #[.slice A4 l4.length c4, .slice none 0 0] rfl (by (try simp only [List.map_toArray, List.map_cons, List.map_nil]); first | done | rfl | (simp only [List.length_drop, List.length_take]; rfl)) ?_; (refine (laws_given.calls kj41 _ _ l4 _ _ ([] : List Int) t390 _ ?side1 ?side2 ?side3 ?side4 A65.out).mono ?_); (case side1 => repeat (first | exact (Kd.C_below HR4.out HB.out) | (with_reducible refine Kd.C_alloc ?_ _) | (with_reducible refine Kd.C_drewN ?_ _) | (with_reducible refine Kd.C_drew ?_))); (case side2 => exact HC4.out); (case side3 => exact Kd.C_nil _ _); (case side4 => exact Nat.le_refl _); rintro e w73 ⟨rfl, hb⟩; refine ⟨_, rfl, ?_⟩; have n0_ := Aside0.mk (below_step (by repeat (first | (with_reducible first | exact HB.out | apply below_alloc | apply pw_below_drewN | apply below_drew1) | exact HB.out)) hb); clear HB; have HB := n0_; clear n0_; (try clear hb); (try clear hb2); (try clear hk); (try clear hi)) | ((with_reducible refine gate_callee (f := 34) rfl ?_); refine goesL_ (some 108) rfl rfl Try.func34 (by kernel_rfl) rfl #[.string x15_41, .string (((a0 ++ (⟨#[47]⟩ : ByteArray)) ++ a1) ++ t391), .string t390] rfl (by (try simp only [List.map_toArray, List.map_cons, List.map_nil]); first | done | rfl | (simp only [List.length_drop, List.length_take]; rfl)) ?_; (with_reducible refine (impl_AcceptsType.calls kj41 x15_41 (((a0 ++ (⟨#[47]⟩ : ByteArray)) ++ a1) ++ t391) t390 t388 true _ A66.out).mono ?_); rintro e w74 ⟨rfl, hb⟩; refine ⟨_, rfl, ?_⟩; have n0_ := Aside0.mk (below_step (by repeat (first | (with_reducible first | exact HB.out | apply below_alloc | apply pw_below_drewN | apply below_drew1) | exact HB.out)) hb); clear HB; have HB := n0_; clear n0_; (try clear hb); (try clear hb2); (try clear hk); (try clear hi)) | (go_at_call 28; (with_reducible show Calls Try.prog 28 #[.slice A4 l4.length c4, .slice none 0 0] _ _); (refine (laws_given.calls kj41 _ _ l4 _ _ ([] : List Int) t390 _ ?side1 ?side2 ?side3 ?side4 A69.out).mono ?_); (case side1 => repeat (first | exact (Kd.C_below HR4.out HB.out) | (with_reducible refine Kd.C_alloc ?_ _) | (with_reducible refine Kd.C_drewN ?_ _) | (with_reducible refine Kd.C_drew ?_))); (case side2 => exact HC4.out); (case side3 => exact Kd.C_nil _ _); (case side4 => exact Nat.le_refl _); rintro e w75 ⟨rfl, hb⟩; have n0_ := Aside0.mk (below_step (by repeat (first | (with_reducible first | exact HB.out | apply below_alloc | apply pw_below_drewN | apply below_drew1) | exact HB.out)) hb); clear HB; have HB := n0_; clear n0_; (try clear hb); (try clear hb2); (try clear hk); (try clear hi)) | (go_at_call 28; (with_reducible show Calls Try.prog 28 #[.slice A5 l5.length c5, .slice none 0 0] _ _); (refine (laws_given.calls kj41 _ _ l5 _ _ ([] : List Int) t391 _ ?side1 ?side2 ?side3 ?side4 A70.out).mono ?_); (case side1 => repeat (first | exact (Kd.C_below HR5.out HB.out) | (with_reducible refine Kd.C_alloc ?_ _) | (with_reducible refine Kd.C_drewN ?_ _) | (with_reducible refine Kd.C_drew ?_))); (case side2 => exact HC5.out); (case side3 => exact Kd.C_nil _ _); (case side4 => exact Nat.le_refl _); rintro e w76 ⟨rfl, hb⟩; have n0_ := Aside0.mk (below_step (by repeat (first | (with_reducible first | exact HB.out | apply below_alloc | apply pw_below_drewN | apply below_drew1) | exact HB.out)) hb); clear HB; have HB := n0_; clear n0_; (try clear hb); (try clear hb2); (try clear hk); (try clear hi)) | (go_at_call 32; (with_reducible refine (impl_ParamsMatch.calls t390 t391 t392 _ A71.out).mono ?_); rintro e w77 ⟨rfl, hb⟩; have n0_ := Aside0.mk (below_step (by repeat (first | (with_reducible first | exact HB.out | apply below_alloc | apply pw_below_drewN | apply below_drew1) | exact HB.out)) hb); clear HB; have HB := n0_; clear n0_; (try clear hb); (try clear hb2); (try clear hk); (try clear hi)))
                                  go_ret
                                  exact ⟨by first | rfl | (simp [errW_none, errW_some] <;> rfl) | (simp [*, errW_none, errW_some] <;> rfl), by repeat (first | (with_reducible first | exact HB.out | apply below_alloc | apply pw_below_drewN | apply below_drew1) | exact HB.out)⟩
                                · replace c68 := Bool.eq_false_iff.mpr c68
                                  subst c68
                                  have H1 : (some (t388 == false)) = some r := by rw [if_neg (show ¬ (false = true) by decide)] at H; exact H
                                  clear H
                                  have H := H1
                                  clear H1
                                  obtain rfl := Option.some.inj H
                                  go_wp2_with (first | ((with_reducible refine gate_callee (f := 28) rfl ?_); refine goesL_ (some 104) rfl rfl Try.func28 (by kernel_rfl) rfl #[.slice A5 l5.length c5, .slice none 0 0] rfl (by (try simp only [List.map_toArray, List.map_cons, List.map_nil]); first | done | rfl | (simp only [List.length_drop, List.length_take]; rfl)) ?_; (refine (laws_given.calls kj41 _ _ l5 _ _ ([] : List Int) t386 _ ?side1 ?side2 ?side3 ?side4 A63.out).mono ?_); (case side1 => repeat (first | exact (Kd.C_below HR5.out HB.out) | (with_reducible refine Kd.C_alloc ?_ _) | (with_reducible refine Kd.C_drewN ?_ _) | (with_reducible refine Kd.C_drew ?_))); (case side2 => exact HC5.out); (case side3 => exact Kd.C_nil _ _); (case side4 => exact Nat.le_refl _); rintro e w78 ⟨rfl, hb⟩; refine ⟨_, rfl, ?_⟩; have n0_ := Aside0.mk (below_step (by repeat (first | (with_reducible first | exact HB.out | apply below_alloc | apply pw_below_drewN | apply below_drew1) | exact HB.out)) hb); clear HB; have HB := n0_; clear n0_; (try clear hb); (try clear hb2); (try clear hk); (try clear hi)) | ((with_reducible refine gate_callee (f := 28) rfl ?_); refine goesL_ (some 107) rfl rfl Try.func28 (by kernel_rfl) rfl #[.slice A4 l4.length c4, .slice none 0 0] rfl (by (try simp only [List.map_toArray, List.map_cons, List.map_nil]); first | done | rfl | (simp only [List.length_drop, List.length_take]; rfl)) ?_; (refine (laws_given.calls kj41 _ _ l4 _ _ ([] : List Int) t387 _ ?side1 ?side2 ?side3 ?side4 A65.out).mono ?_); (case side1 => repeat (first | exact (Kd.C_below HR4.out HB.out) | (with_reducible refine Kd.C_alloc ?_ _) | (with_reducible refine Kd.C_drewN ?_ _) | (with_reducible refine Kd.C_drew ?_))); (case side2 => exact HC4.out); (case side3 => exact Kd.C_nil _ _); (case side4 => exact Nat.le_refl _); rintro e w79 ⟨rfl, hb⟩; refine ⟨_, rfl, ?_⟩; have n0_ := Aside0.mk (below_step (by repeat (first | (with_reducible first | exact HB.out | apply below_alloc | apply pw_below_drewN | apply below_drew1) | exact HB.out)) hb); clear HB; have HB := n0_; clear n0_; (try clear hb); (try clear hb2); (try clear hk); (try clear hi)) | ((with_reducible refine gate_callee (f := 34) rfl ?_); refine goesL_ (some 108) rfl rfl Try.func34 (by kernel_rfl) rfl #[.string x15_41, .string (((a0 ++ (⟨#[47]⟩ : ByteArray)) ++ a1) ++ t386), .string t387] rfl (by (try simp only [List.map_toArray, List.map_cons, List.map_nil]); first | done | rfl | (simp only [List.length_drop, List.length_take]; rfl)) ?_; (with_reducible refine (impl_AcceptsType.calls kj41 x15_41 (((a0 ++ (⟨#[47]⟩ : ByteArray)) ++ a1) ++ t386) t387 t388 true _ A66.out).mono ?_); rintro e w80 ⟨rfl, hb⟩; refine ⟨_, rfl, ?_⟩; have n0_ := Aside0.mk (below_step (by repeat (first | (with_reducible first | exact HB.out | apply below_alloc | apply pw_below_drewN | apply below_drew1) | exact HB.out)) hb); clear HB; have HB := n0_; clear n0_; (try clear hb); (try clear hb2); (try clear hk); (try clear hi)))
                                  go_ret
                                  exact ⟨by first | rfl | (simp [errW_none, errW_some] <;> rfl) | (simp [*, errW_none, errW_some] <;> rfl), by repeat (first | (with_reducible first | exact HB.out | apply below_alloc | apply pw_below_drewN | apply below_drew1) | exact HB.out)⟩
                              · replace c67 := Bool.eq_false_iff.mpr c67
                                subst c67
                                have H1 : (some false) = some r := by rw [if_neg (show ¬ (false = true) by decide)] at H; exact H
                                clear H
                                have H := H1
                                clear H1
                                obtain rfl := Option.some.inj H
                                go_wp2_with (first | ((with_reducible refine gate_callee (f := 28) rfl ?_); refine goesL_ (some 104) rfl rfl Try.func28 (by kernel_rfl) rfl #[.slice A5 l5.length c5, .slice none 0 0] rfl (by (try simp only [List.map_toArray, List.map_cons, List.map_nil]); first | done | rfl | (simp only [List.length_drop, List.length_take]; rfl)) ?_; (refine (laws_given.calls kj41 _ _ l5 _ _ ([] : List Int) t386 _ ?side1 ?side2 ?side3 ?side4 A63.out).mono ?_); (case side1 => repeat (first | exact (Kd.C_below HR5.out HB.out) | (with_reducible refine Kd.C_alloc ?_ _) | (with_reducible refine Kd.C_drewN ?_ _) | (with_reducible refine Kd.C_drew ?_))); (case side2 => exact HC5.out); (case side3 => exact Kd.C_nil _ _); (case side4 => exact Nat.le_refl _); rintro e w81 ⟨rfl, hb⟩; refine ⟨_, rfl, ?_⟩; have n0_ := Aside0.mk (below_step (by repeat (first | (with_reducible first | exact HB.out | apply below_alloc | apply pw_below_drewN | apply below_drew1) | exact HB.out)) hb); clear HB; have HB := n0_; clear n0_; (try clear hb); (try clear hb2); (try clear hk); (try clear hi)) | ((with_reducible refine gate_callee (f := 28) rfl ?_); refine goesL_ (some 107) rfl rfl Try.func28 (by kernel_rfl) rfl #[.slice A4 l4.length c4, .slice none 0 0] rfl (by (try simp only [List.map_toArray, List.map_cons, List.map_nil]); first | done | rfl | (simp only [List.length_drop, List.length_take]; rfl)) ?_; (refine (laws_given.calls kj41 _ _ l4 _ _ ([] : List Int) t387 _ ?side1 ?side2 ?side3 ?side4 A65.out).mono ?_); (case side1 => repeat (first | exact (Kd.C_below HR4.out HB.out) | (with_reducible refine Kd.C_alloc ?_ _) | (with_reducible refine Kd.C_drewN ?_ _) | (with_reducible refine Kd.C_drew ?_))); (case side2 => exact HC4.out); (case side3 => exact Kd.C_nil _ _); (case side4 => exact Nat.le_refl _); rintro e w82 ⟨rfl, hb⟩; refine ⟨_, rfl, ?_⟩; have n0_ := Aside0.mk (below_step (by repeat (first | (with_reducible first | exact HB.out | apply below_alloc | apply pw_below_drewN | apply below_drew1) | exact HB.out)) hb); clear HB; have HB := n0_; clear n0_; (try clear hb); (try clear hb2); (try clear hk); (try clear hi)) | ((with_reducible refine gate_callee (f := 34) rfl ?_); refine goesL_ (some 108) rfl rfl Try.func34 (by kernel_rfl) rfl #[.string x15_41, .string (((a0 ++ (⟨#[47]⟩ : ByteArray)) ++ a1) ++ t386), .string t387] rfl (by (try simp only [List.map_toArray, List.map_cons, List.map_nil]); first | done | rfl | (simp only [List.length_drop, List.length_take]; rfl)) ?_; (with_reducible refine (impl_AcceptsType.calls kj41 x15_41 (((a0 ++ (⟨#[47]⟩ : ByteArray)) ++ a1) ++ t386) t387 t388 false _ A66.out).mono ?_); rintro e w83 ⟨rfl, hb⟩; refine ⟨_, rfl, ?_⟩; have n0_ := Aside0.mk (below_step (by repeat (first | (with_reducible first | exact HB.out | apply below_alloc | apply pw_below_drewN | apply below_drew1) | exact HB.out)) hb); clear HB; have HB := n0_; clear n0_; (try clear hb); (try clear hb2); (try clear hk); (try clear hi)))
                                go_ret
                                exact ⟨by first | rfl | (simp [errW_none, errW_some] <;> rfl) | (simp [*, errW_none, errW_some] <;> rfl), by repeat (first | (with_reducible first | exact HB.out | apply below_alloc | apply pw_below_drewN | apply below_drew1) | exact HB.out)⟩
                            · rw [if_neg c64] at H
                              exact absurd H (by simp)
                          · rw [if_neg c62] at H
                            exact absurd H (by simp)
                        · rw [if_neg c61] at H
                          exact absurd H (by simp)

/-- THE ONE PURE STATEMENT of laws_FnTypeAccepted: yours. -/
def laws_FnTypeAccepted.Pure : Prop := ∀ (a0 : ByteArray) (a1 : ByteArray) (a2 : ByteArray) (a3 : Int) (l4 : List (S47)) (l5 : List (S47)), a0.size ≤ 140737488351232 → a1.size ≤ 140737488351232 → a2.size ≤ 140737488351232 → (Lit.int .u8 a3).wf = true → l4.length * 32 ≤ 140737488351232 → l5.length * 32 ≤ 140737488351232 → ∃ k, laws_FnTypeAccepted.f k a0 a1 a2 a3 l4 l5 = some true
theorem laws_FnTypeAccepted.walk (P : laws_FnTypeAccepted.Pure) (a0 : ByteArray) (a1 : ByteArray) (a2 : ByteArray) (a3 : Int) (a4 : Option Addr) (cap4 : Nat) (l4 : List S47) (a5 : Option Addr) (cap5 : Nat) (l5 : List S47) (w : World) (w0 : a0.size ≤ 140737488351232) (w1 : a1.size ≤ 140737488351232) (w2 : a2.size ≤ 140737488351232) (w3 : (Lit.int .u8 a3).wf = true) (w4 : Kd.C k47 w a4 l4.length l4) (y4 : l4.length ≤ cap4) (m4 : l4.length * 32 ≤ 140737488351232) (w5 : Kd.C k47 w a5 l5.length l5) (y5 : l5.length ≤ cap5) (m5 : l5.length * 32 ≤ 140737488351232) :
    Calls Try.prog 10 #[.string a0, .string a1, .string a2, .int .u8 a3, .slice a4 l4.length cap4, .slice a5 l5.length cap5] w fun e w' => e = .returned (.bool true) ∧ Below w.heap.size w w' := by
  obtain ⟨k, h⟩ := P a0 a1 a2 a3 l4 l5 w0 w1 w2 w3 m4 m5
  refine (laws_FnTypeAccepted.calls k a0 a1 a2 a3 _ _ l4 _ _ l5 true w w4 y4 w5 y5 h).mono ?_
  rintro e w' ⟨rfl, hd⟩
  exact ⟨rfl, hd⟩

end Go.Proofs.Ytkbmababljcabaa.QA
