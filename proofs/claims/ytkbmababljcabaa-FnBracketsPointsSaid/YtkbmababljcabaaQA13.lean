/- Printed by wip/pr.py (a program of this repo over the print program of the kit). Not trusted: Lean checks it. -/
import Derived.Test.YtkbmababljcabaaQA0
import Derived.Test.YtkbmababljcabaaQA9
import Derived.Test.YtkbmababljcabaaQA11
import Derived.Test.YtkbmababljcabaaGBrackets
namespace Go.Proofs.Ytkbmababljcabaa.QA
open Go.Proofs.Ytkbmababljcabaa.Given
open Go.Proofs.Ytkbmababljcabaa.PrX
open Go.RowKit Go.Proofs.YtkbmababljcabaaW.PrintWords Go.Proofs.YtkbmababljcabaaW.PrintLast Go.Proofs.YtkbmababljcabaaW.PrintMore
attribute [local go_sem] max2_int min2_int max_two min_two max_three min_three max_four min_four   -- for this text's walks alone
set_option linter.unusedVariables false
set_option linter.unusedSimpArgs false

/-! ### laws_FnBracketsPoints: function 6 -/
mutual
def laws_FnBracketsPoints.j0 : Nat → ByteArray → List ByteArray → Bool → Option (Bool)
  | 0, _, _, _ => none
  | k + 1, x0, x1, x24 => if x24 = true then (some true) else ((impl_Brackets.f (⟨#[97, 91, 98, 93]⟩ : ByteArray)).bind fun bt125 => (if bt125.2 = true then (laws_FnBracketsPoints.j1 k x0 x1 (bt125.1.toList != ([97, 46, 98] : List UInt8))) else (laws_FnBracketsPoints.j1 k x0 x1 true)))
def laws_FnBracketsPoints.j1 : Nat → ByteArray → List ByteArray → Bool → Option (Bool)
  | 0, _, _, _ => none
  | k + 1, x0, x1, x34 => if x34 = true then (some false) else ((laws_words.f k (([x0] : List ByteArray))).bind fun t130 => (if t130 = true then ((laws_words.f k x1).bind fun t131 => (laws_FnBracketsPoints.j2 k x0 x1 (!t131))) else (laws_FnBracketsPoints.j2 k x0 x1 true)))
def laws_FnBracketsPoints.j2 : Nat → ByteArray → List ByteArray → Bool → Option (Bool)
  | 0, _, _, _ => none
  | k + 1, x0, x1, x43 => if x43 = true then (some true) else (laws_FnBracketsPoints.l0 k x0 x0 x1 (x1.length : Int) 0)
def laws_FnBracketsPoints.l0 : Nat → ByteArray → ByteArray → List ByteArray → Int → Int → Option (Bool)
  | 0, _, _, _, _, _ => none
  | k + 1, x7, x8, x46, x47, x48 => if x48 < x47 then (if 0 ≤ x48 then (if x48 < (x46.length : Int) then (if 1 + (rdOf ByteArray.empty x46 x48).size ≤ 9223372036854775807 then (if ((⟨#[91]⟩ : ByteArray) ++ (rdOf ByteArray.empty x46 x48)).size + 1 ≤ 9223372036854775807 then (if x7.size + (((⟨#[91]⟩ : ByteArray) ++ (rdOf ByteArray.empty x46 x48)) ++ (⟨#[93]⟩ : ByteArray)).size ≤ 9223372036854775807 then (if x8.size + ((⟨#[46]⟩ : ByteArray) ++ (rdOf ByteArray.empty x46 x48)).size ≤ 9223372036854775807 then (laws_FnBracketsPoints.l0 k (x7 ++ (((⟨#[91]⟩ : ByteArray) ++ (rdOf ByteArray.empty x46 x48)) ++ (⟨#[93]⟩ : ByteArray))) (x8 ++ ((⟨#[46]⟩ : ByteArray) ++ (rdOf ByteArray.empty x46 x48))) x46 x47 (wrap64 (x48 + 1))) else (none)) else (none)) else (none)) else (none)) else (none)) else (none)) else ((impl_Brackets.f x7).bind fun bt133 => (if x7.size + 1 ≤ 9223372036854775807 then ((impl_Brackets.f (x7 ++ (⟨#[91]⟩ : ByteArray))).bind fun bt135 => ((impl_Brackets.f (x7 ++ (⟨#[93]⟩ : ByteArray))).bind fun bt137 => (if bt133.2 = true then (if bt133.1.toList = x8.toList then (if bt135.2 = true then (some false) else (some (!bt137.2))) else (some false)) else (some false)))) else (none)))
end
def laws_FnBracketsPoints.f (k : Nat) (a0 : ByteArray) (l1 : List ByteArray) : Option (Bool) := if (a0.size : Int) > 2147483647 then (laws_FnBracketsPoints.j0 k a0 l1 true) else ((laws_zzFits6.f k l1).bind fun t124 => (laws_FnBracketsPoints.j0 k a0 l1 (!t124)))
theorem laws_FnBracketsPoints.mono_l : ∀ k, (∀ y0 y1 y2, LeO (laws_FnBracketsPoints.j0 k y0 y1 y2) (laws_FnBracketsPoints.j0 (k + 1) y0 y1 y2)) ∧ (∀ y0 y1 y2, LeO (laws_FnBracketsPoints.j1 k y0 y1 y2) (laws_FnBracketsPoints.j1 (k + 1) y0 y1 y2)) ∧ (∀ y0 y1 y2, LeO (laws_FnBracketsPoints.j2 k y0 y1 y2) (laws_FnBracketsPoints.j2 (k + 1) y0 y1 y2)) ∧ (∀ y0 y1 y2 y3 y4, LeO (laws_FnBracketsPoints.l0 k y0 y1 y2 y3 y4) (laws_FnBracketsPoints.l0 (k + 1) y0 y1 y2 y3 y4))
  | 0 => ⟨fun _ _ _ r h => by simp [laws_FnBracketsPoints.j0] at h, fun _ _ _ r h => by simp [laws_FnBracketsPoints.j1] at h, fun _ _ _ r h => by simp [laws_FnBracketsPoints.j2] at h, fun _ _ _ _ _ r h => by simp [laws_FnBracketsPoints.l0] at h⟩
  | k + 1 => by
    obtain ⟨ih0, ih1, ih2, ih3⟩ := laws_FnBracketsPoints.mono_l k
    refine ⟨?_, ?_, ?_, ?_⟩
    · intro y0 y1 y2
      unfold laws_FnBracketsPoints.j0
      repeat' first
      | (with_reducible exact ih0 _ _ _)
      | (with_reducible exact ih1 _ _ _)
      | (with_reducible exact ih2 _ _ _)
      | (with_reducible exact ih3 _ _ _ _ _)
      | (with_reducible exact laws_words.mono _ _)
      | (with_reducible exact laws_zzFits6.mono _ _)
      | (with_reducible exact LeO.refl _)
      | (with_reducible exact LeO.none _)
      | (with_reducible refine LeO.ite ?_ ?_)
      | (with_reducible refine LeO.bind ?_ (fun _ => ?_))
      | exact ih0 _ _ _
      | exact ih1 _ _ _
      | exact ih2 _ _ _
      | exact ih3 _ _ _ _ _
      | exact laws_words.mono _ _
      | exact laws_zzFits6.mono _ _
      | exact LeO.none _
      | refine LeO.ite ?_ ?_
      | refine LeO.bind ?_ (fun _ => ?_)
    · intro y0 y1 y2
      unfold laws_FnBracketsPoints.j1
      repeat' first
      | (with_reducible exact ih0 _ _ _)
      | (with_reducible exact ih1 _ _ _)
      | (with_reducible exact ih2 _ _ _)
      | (with_reducible exact ih3 _ _ _ _ _)
      | (with_reducible exact laws_words.mono _ _)
      | (with_reducible exact laws_zzFits6.mono _ _)
      | (with_reducible exact LeO.refl _)
      | (with_reducible exact LeO.none _)
      | (with_reducible refine LeO.ite ?_ ?_)
      | (with_reducible refine LeO.bind ?_ (fun _ => ?_))
      | exact ih0 _ _ _
      | exact ih1 _ _ _
      | exact ih2 _ _ _
      | exact ih3 _ _ _ _ _
      | exact laws_words.mono _ _
      | exact laws_zzFits6.mono _ _
      | exact LeO.none _
      | refine LeO.ite ?_ ?_
      | refine LeO.bind ?_ (fun _ => ?_)
    · intro y0 y1 y2
      unfold laws_FnBracketsPoints.j2
      repeat' first
      | (with_reducible exact ih0 _ _ _)
      | (with_reducible exact ih1 _ _ _)
      | (with_reducible exact ih2 _ _ _)
      | (with_reducible exact ih3 _ _ _ _ _)
      | (with_reducible exact laws_words.mono _ _)
      | (with_reducible exact laws_zzFits6.mono _ _)
      | (with_reducible exact LeO.refl _)
      | (with_reducible exact LeO.none _)
      | (with_reducible refine LeO.ite ?_ ?_)
      | (with_reducible refine LeO.bind ?_ (fun _ => ?_))
      | exact ih0 _ _ _
      | exact ih1 _ _ _
      | exact ih2 _ _ _
      | exact ih3 _ _ _ _ _
      | exact laws_words.mono _ _
      | exact laws_zzFits6.mono _ _
      | exact LeO.none _
      | refine LeO.ite ?_ ?_
      | refine LeO.bind ?_ (fun _ => ?_)
    · intro y0 y1 y2 y3 y4
      unfold laws_FnBracketsPoints.l0
      repeat' first
      | (with_reducible exact ih0 _ _ _)
      | (with_reducible exact ih1 _ _ _)
      | (with_reducible exact ih2 _ _ _)
      | (with_reducible exact ih3 _ _ _ _ _)
      | (with_reducible exact laws_words.mono _ _)
      | (with_reducible exact laws_zzFits6.mono _ _)
      | (with_reducible exact LeO.refl _)
      | (with_reducible exact LeO.none _)
      | (with_reducible refine LeO.ite ?_ ?_)
      | (with_reducible refine LeO.bind ?_ (fun _ => ?_))
      | exact ih0 _ _ _
      | exact ih1 _ _ _
      | exact ih2 _ _ _
      | exact ih3 _ _ _ _ _
      | exact laws_words.mono _ _
      | exact laws_zzFits6.mono _ _
      | exact LeO.none _
      | refine LeO.ite ?_ ?_
      | refine LeO.bind ?_ (fun _ => ?_)
theorem laws_FnBracketsPoints.mono : ∀ a0 a1 k, LeO (laws_FnBracketsPoints.f k a0 a1) (laws_FnBracketsPoints.f (k + 1) a0 a1) := by
  intro a0 a1 k
  obtain ⟨ih0, ih1, ih2, ih3⟩ := laws_FnBracketsPoints.mono_l k
  unfold laws_FnBracketsPoints.f
  repeat' first
      | (with_reducible exact ih0 _ _ _)
      | (with_reducible exact ih1 _ _ _)
      | (with_reducible exact ih2 _ _ _)
      | (with_reducible exact ih3 _ _ _ _ _)
      | (with_reducible exact laws_words.mono _ _)
      | (with_reducible exact laws_zzFits6.mono _ _)
      | (with_reducible exact LeO.refl _)
      | (with_reducible exact LeO.none _)
      | (with_reducible refine LeO.ite ?_ ?_)
      | (with_reducible refine LeO.bind ?_ (fun _ => ?_))
      | exact ih0 _ _ _
      | exact ih1 _ _ _
      | exact ih2 _ _ _
      | exact ih3 _ _ _ _ _
      | exact laws_words.mono _ _
      | exact laws_zzFits6.mono _ _
      | exact LeO.none _
      | refine LeO.ite ?_ ?_
      | refine LeO.bind ?_ (fun _ => ?_)
set_option maxHeartbeats 8000000 in
set_option maxRecDepth 100000 in
theorem laws_FnBracketsPoints.calls (k : Nat) (a0 : ByteArray) (A1 : Option Addr) (c1 : Nat) (l1 : List ByteArray) (r : Bool) (w : World) (hr1 : Kd.C Kd.string w A1 l1.length l1) (hc1 : l1.length ≤ c1) (h : laws_FnBracketsPoints.f k a0 l1 = some r) :
    Calls Try.prog 6 #[.string a0, .slice A1 l1.length c1] w fun e w' => e = .returned (.bool r) ∧ Below w.heap.size w w' := by
  have HR1 := Aside0.mk hr1
  have HC1 := Aside0.mk hc1
  clear hr1 hc1
  have HB := Aside0.mk (Below.refl w.heap.size w)
  have H : (if (a0.size : Int) > 2147483647 then (laws_FnBracketsPoints.j0 k a0 l1 true) else ((laws_zzFits6.f k l1).bind fun t124 => (laws_FnBracketsPoints.j0 k a0 l1 (!t124)))) = some r := h
  clear h
  have HC3 := Aside0.mk H
  clear H
  go_enter Try.func6, Try.ntmps6
  go_upto_region 1 with (fail)
  go_cut [24] (fun v24 wc => ∃ (kq : Nat) (x24_2 : Bool), v24 = .bool x24_2 ∧ Aside0 (laws_FnBracketsPoints.j0 kq a0 l1 x24_2 = some r) ∧ Aside0 (kq ≤ k) ∧ Aside0 (Below w.heap.size w wc))
  case first =>
    have H := HC3.out
    clear HC3
    by_cases c4 : (a0.size : Int) > 2147483647
    · rw [if_pos c4] at H
      have c4b0 : decide (2147483647 < (a0.size : Int)) = true := decide_eq_true c4
      have c4b1 : decide (2147483647 < a0.size) = true := decide_eq_true (by omega)
      clear c4
      (first | rw [c4b0] | (simp only [i64_w, i32_w]; rw [c4b0]) | skip)
      have H' := Aside0.mk H
      clear H
      go_wp2
      go_meet
      case rel => exact ⟨_, (true), (by first | rfl | (simp; done) | (rw [prx_ne]; first | done | rfl) | (simp [*]; done)), H', ⟨by first | omega | exact Nat.le_refl _⟩, ⟨by repeat (first | (with_reducible first | exact HB.out | apply below_alloc | apply pw_below_drewN | apply below_drew1) | exact HB.out)⟩⟩
    · rw [if_neg c4] at H
      have c4b0 : decide (2147483647 < (a0.size : Int)) = false := decide_eq_false c4
      have c4b1 : decide (2147483647 < a0.size) = false := decide_eq_false (by omega)
      clear c4
      (first | rw [c4b0] | (simp only [i64_w, i32_w]; rw [c4b0]) | skip)
      replace H := Option.bind_eq_some_iff.mp H
      obtain ⟨t124, A50, H⟩ := H
      replace H : (laws_FnBracketsPoints.j0 k a0 l1 (!t124)) = some r := H
      have A5 := Aside0.mk A50
      clear A50
      have H' := Aside0.mk H
      clear H
      go_wp2_with (first | (go_at_call 17; (with_reducible refine (laws_zzFits6.calls k _ _ l1 t124 _ ?side1 ?side2 A5.out).mono ?_); (case side1 => repeat (first | exact (Kd.C_below HR1.out HB.out) | (with_reducible refine Kd.C_alloc ?_ _) | (with_reducible refine Kd.C_drewN ?_ _) | (with_reducible refine Kd.C_drew ?_))); (case side2 => exact HC1.out); rintro e w' ⟨rfl, ⟨nd, rfl⟩⟩))
      go_meet
      case rel => exact ⟨_, (!t124), (by first | rfl | (simp; done) | (rw [prx_ne]; first | done | rfl) | (simp [*]; done)), H', ⟨by first | omega | exact Nat.le_refl _⟩, ⟨by repeat (first | (with_reducible first | exact HB.out | apply below_alloc | apply pw_below_drewN | apply below_drew1) | exact HB.out)⟩⟩
  case rest =>
    clear HC3
    try clear c1
    try clear p2
    try clear c4
    try clear c4b0
    try clear c4b1
    obtain ⟨kq, x24_2, rfl, HA, HJ2, HB⟩ := hcut
    cases kq with
    | zero => exact absurd HA.out (by simp [laws_FnBracketsPoints.j0])
    | succ kj2 =>
      have H := HA.out
      clear HA
      simp only [laws_FnBracketsPoints.j0] at H
      by_cases c6 : x24_2 = true
      · subst c6
        have H1 : (some true) = some r := by rw [if_pos rfl] at H; exact H
        clear H
        have H := H1
        clear H1
        obtain rfl := Option.some.inj H
        go_wp2
        go_ret
        exact ⟨by first | rfl | (simp [errW_none, errW_some] <;> rfl) | (simp [*, errW_none, errW_some] <;> rfl), by repeat (first | (with_reducible first | exact HB.out | apply below_alloc | apply pw_below_drewN | apply below_drew1) | exact HB.out)⟩
      · replace c6 := Bool.eq_false_iff.mpr c6
        subst c6
        have H1 : ((impl_Brackets.f (⟨#[97, 91, 98, 93]⟩ : ByteArray)).bind fun bt125 => (if bt125.2 = true then (laws_FnBracketsPoints.j1 kj2 a0 l1 (bt125.1.toList != ([97, 46, 98] : List UInt8))) else (laws_FnBracketsPoints.j1 kj2 a0 l1 true))) = some r := by rw [if_neg (show ¬ (false = true) by decide)] at H; exact H
        clear H
        have H := H1
        clear H1
        replace H := Option.bind_eq_some_iff.mp H
        obtain ⟨⟨t125, t126⟩, A70, H⟩ := H
        replace H : (if t126 = true then (laws_FnBracketsPoints.j1 kj2 a0 l1 (t125.toList != ([97, 46, 98] : List UInt8))) else (laws_FnBracketsPoints.j1 kj2 a0 l1 true)) = some r := H
        have A7 := Aside0.mk A70
        clear A70
        have HC8 := Aside0.mk H
        clear H
        go_upto_region 4 with (first | ((with_reducible refine gate_callee (f := 24) rfl ?_); refine goesL_ (some 26) rfl rfl Try.func24 (by kernel_rfl) rfl #[.string (⟨#[97, 91, 98, 93]⟩ : ByteArray)] rfl (by (try simp only [List.map_toArray, List.map_cons, List.map_nil]); first | done | rfl | (simp only [List.length_drop, List.length_take]; rfl)) ?_; (with_reducible refine (impl_Brackets.calls (⟨#[97, 91, 98, 93]⟩ : ByteArray) t125 t126 _ A7.out).mono ?_); rintro e w9 ⟨rfl, hb⟩; refine ⟨_, rfl, ?_⟩; have n0_ := Aside0.mk (below_step (by repeat (first | (with_reducible first | exact HB.out | apply below_alloc | apply pw_below_drewN | apply below_drew1) | exact HB.out)) hb); clear HB; have HB := n0_; clear n0_; (try clear hb); (try clear hb2); (try clear hk); (try clear hi)))
        (try simp only [Act.put, List.setIfInBounds_toArray, List.set_cons_zero, List.set_cons_succ])
        go_cut [34] (fun v34 wc => ∃ (kq : Nat) (x34_7 : Bool), v34 = .bool x34_7 ∧ Aside0 (laws_FnBracketsPoints.j1 kq a0 l1 x34_7 = some r) ∧ Aside0 (kq ≤ kj2) ∧ Aside0 (Below w.heap.size w wc))
        case first =>
          have H := HC8.out
          clear HC8
          by_cases c10 : t126 = true
          · subst c10
            have H1 : (laws_FnBracketsPoints.j1 kj2 a0 l1 (t125.toList != ([97, 46, 98] : List UInt8))) = some r := by rw [if_pos rfl] at H; exact H
            clear H
            have H := H1
            clear H1
            have H' := Aside0.mk H
            clear H
            go_wp2
            go_meet
            case rel => exact ⟨_, ((t125.toList != ([97, 46, 98] : List UInt8))), (by first | rfl | (simp; done) | (rw [prx_ne]; first | done | rfl) | (simp [*]; done)), H', ⟨by have := HJ2.out; first | omega | exact Nat.le_refl _⟩, ⟨by repeat (first | (with_reducible first | exact HB.out | apply below_alloc | apply pw_below_drewN | apply below_drew1) | exact HB.out)⟩⟩
          · replace c10 := Bool.eq_false_iff.mpr c10
            subst c10
            have H1 : (laws_FnBracketsPoints.j1 kj2 a0 l1 true) = some r := by rw [if_neg (show ¬ (false = true) by decide)] at H; exact H
            clear H
            have H := H1
            clear H1
            have H' := Aside0.mk H
            clear H
            go_wp2
            go_meet
            case rel => exact ⟨_, (true), (by first | rfl | (simp; done) | (rw [prx_ne]; first | done | rfl) | (simp [*]; done)), H', ⟨by have := HJ2.out; first | omega | exact Nat.le_refl _⟩, ⟨by repeat (first | (with_reducible first | exact HB.out | apply below_alloc | apply pw_below_drewN | apply below_drew1) | exact HB.out)⟩⟩
        case rest =>
          clear HC8
          try clear c1
          try clear c2
          try clear p2
          try clear c4
          try clear c4b0
          try clear c4b1
          try clear c6
          try clear c10
          try clear p2
          obtain ⟨kq, x34_7, rfl, HA, HJ7, HB⟩ := hcut
          cases kq with
          | zero => exact absurd HA.out (by simp [laws_FnBracketsPoints.j1])
          | succ kj7 =>
            have H := HA.out
            clear HA
            simp only [laws_FnBracketsPoints.j1] at H
            by_cases c11 : x34_7 = true
            · subst c11
              have H1 : (some false) = some r := by rw [if_pos rfl] at H; exact H
              clear H
              have H := H1
              clear H1
              obtain rfl := Option.some.inj H
              go_wp2
              go_ret
              exact ⟨by first | rfl | (simp [errW_none, errW_some] <;> rfl) | (simp [*, errW_none, errW_some] <;> rfl), by repeat (first | (with_reducible first | exact HB.out | apply below_alloc | apply pw_below_drewN | apply below_drew1) | exact HB.out)⟩
            · replace c11 := Bool.eq_false_iff.mpr c11
              subst c11
              have H1 : ((laws_words.f kj7 (([a0] : List ByteArray))).bind fun t130 => (if t130 = true then ((laws_words.f kj7 l1).bind fun t131 => (laws_FnBracketsPoints.j2 kj7 a0 l1 (!t131))) else (laws_FnBracketsPoints.j2 kj7 a0 l1 true))) = some r := by rw [if_neg (show ¬ (false = true) by decide)] at H; exact H
              clear H
              have H := H1
              clear H1
              have HC12 := Aside0.mk H
              clear H
              go_upto_region 6 with (fail)
              go_cut [43] (fun v43 wc => ∃ (kq : Nat) (x43_11 : Bool), v43 = .bool x43_11 ∧ Aside0 (laws_FnBracketsPoints.j2 kq a0 l1 x43_11 = some r) ∧ Aside0 (kq ≤ kj7) ∧ Aside0 (Below w.heap.size w wc))
              case first =>
                have H := HC12.out
                clear HC12
                obtain ⟨y127, hy127⟩ : ∃ y_ : List ByteArray, y_ = (([a0] : List ByteArray)) := ⟨_, rfl⟩
                replace H : ((laws_words.f kj7 y127).bind fun t130 => (if t130 = true then ((laws_words.f kj7 l1).bind fun t131 => (laws_FnBracketsPoints.j2 kj7 a0 l1 (!t131))) else (laws_FnBracketsPoints.j2 kj7 a0 l1 true))) = some r := by first | (rw [hy127]; with_reducible exact H) | (have H2_ := (Option.bind_some _ _).symm.trans H; rw [hy127]; with_reducible exact H2_) | (have H2_ := (Option.bind_some _ _).symm.trans H; with_reducible exact H2_) | with_reducible exact H | (rw [hy127]; exact H) | exact H
                have Ny127 := Aside0.mk hy127
                clear hy127
                replace H := Option.bind_eq_some_iff.mp H
                obtain ⟨t130, A130, H⟩ := H
                replace H : (if t130 = true then ((laws_words.f kj7 l1).bind fun t131 => (laws_FnBracketsPoints.j2 kj7 a0 l1 (!t131))) else (laws_FnBracketsPoints.j2 kj7 a0 l1 true)) = some r := H
                have A13 := Aside0.mk A130
                clear A130
                by_cases c14 : t130 = true
                · subst c14
                  have H1 : ((laws_words.f kj7 l1).bind fun t131 => (laws_FnBracketsPoints.j2 kj7 a0 l1 (!t131))) = some r := by rw [if_pos rfl] at H; exact H
                  clear H
                  have H := H1
                  clear H1
                  replace H := Option.bind_eq_some_iff.mp H
                  obtain ⟨t131, A150, H⟩ := H
                  replace H : (laws_FnBracketsPoints.j2 kj7 a0 l1 (!t131)) = some r := H
                  have A15 := Aside0.mk A150
                  clear A150
                  have H' := Aside0.mk H
                  clear H
                  go_wp2_with (first | ((with_reducible refine gate_dst (N := 36) rfl ?_); refine Kd.R_lit Kd.string _ 9 ?hg (N := 36) ?hd (xs := ([a0] : List ByteArray)) (inner := [.string a0]) (ok := fun _ => True) (okp := fun _ => True) ?hr ?hp (fun _ hk => hk) trivial (Below.refl _ _) (Nat.le_refl _) (by simp) ?_; (case hd => rfl); (case hg => rfl); (case hr => first | (go_simp; done) | (go_simp; rfl)); (case hp => exact (Reps.one (show Kd.M Kd.string _ _ _ a0 [.string a0] from rfl) (Reps.none _ _))); intro v128 w16 ho17 hb hg_ hnew_; clear hg_ hnew_; (first | rw [← Ny127.out] at ho17 | (simp only [Int.reduceToNat] at ho17; rw [← Ny127.out] at ho17)); have n0_ := Aside0.mk (Kd.R_lower ho17 (below_size (by repeat (first | (with_reducible first | exact HB.out | apply below_alloc | apply pw_below_drewN | apply below_drew1) | exact HB.out)))); have n1_ := Aside0.mk (below_step (by repeat (first | (with_reducible first | exact HB.out | apply below_alloc | apply pw_below_drewN | apply below_drew1) | exact HB.out)) hb); clear HB; have HO129 := n0_; have HB := n1_; clear n0_ n1_; clear hb ho17; obtain ⟨Ao18, co18, eo18⟩ := Kd.R_slice HO129.out; subst eo18) | ((with_reducible refine gate_callee (f := 20) rfl ?_); refine goesL_ (some 37) rfl rfl Try.func20 (by kernel_rfl) rfl #[.slice Ao18 y127.length co18] rfl (by (try simp only [List.map_toArray, List.map_cons, List.map_nil]); first | done | rfl | (simp only [List.length_drop, List.length_take]; rfl)) ?_; (with_reducible refine (laws_words.calls kj7 _ _ y127 true _ ?side1 ?side2 A13.out).mono ?_); (case side1 => repeat (first | exact (Kd.R_reads' HO129.out).2.2 | (with_reducible refine Kd.C_alloc ?_ _) | (with_reducible refine Kd.C_drewN ?_ _) | (with_reducible refine Kd.C_drew ?_))); (case side2 => exact (Kd.R_reads' HO129.out).2.1); rintro e w' ⟨rfl, ⟨nd, rfl⟩⟩; refine ⟨_, rfl, ?_⟩) | (go_at_call 20; (with_reducible refine (laws_words.calls kj7 _ _ l1 t131 _ ?side1 ?side2 A15.out).mono ?_); (case side1 => repeat (first | exact (Kd.C_below HR1.out (by repeat (first | (with_reducible first | exact HB.out | apply below_alloc | apply pw_below_drewN | apply below_drew1) | exact HB.out))) | (with_reducible refine Kd.C_alloc ?_ _) | (with_reducible refine Kd.C_drewN ?_ _) | (with_reducible refine Kd.C_drew ?_))); (case side2 => exact HC1.out); rintro e w' ⟨rfl, ⟨nd, rfl⟩⟩))
                  go_meet
                  case rel => exact ⟨_, (!t131), (by first | rfl | (simp; done) | (rw [prx_ne]; first | done | rfl) | (simp [*]; done)), H', ⟨by have := HJ2.out; have := HJ7.out; first | omega | exact Nat.le_refl _⟩, ⟨by repeat (first | (with_reducible first | exact HB.out | apply below_alloc | apply pw_below_drewN | apply below_drew1) | exact HB.out)⟩⟩
                · replace c14 := Bool.eq_false_iff.mpr c14
                  subst c14
                  have H1 : (laws_FnBracketsPoints.j2 kj7 a0 l1 true) = some r := by rw [if_neg (show ¬ (false = true) by decide)] at H; exact H
                  clear H
                  have H := H1
                  clear H1
                  have H' := Aside0.mk H
                  clear H
                  go_wp2_with (first | ((with_reducible refine gate_dst (N := 36) rfl ?_); refine Kd.R_lit Kd.string _ 9 ?hg (N := 36) ?hd (xs := ([a0] : List ByteArray)) (inner := [.string a0]) (ok := fun _ => True) (okp := fun _ => True) ?hr ?hp (fun _ hk => hk) trivial (Below.refl _ _) (Nat.le_refl _) (by simp) ?_; (case hd => rfl); (case hg => rfl); (case hr => first | (go_simp; done) | (go_simp; rfl)); (case hp => exact (Reps.one (show Kd.M Kd.string _ _ _ a0 [.string a0] from rfl) (Reps.none _ _))); intro v128 w19 ho20 hb hg_ hnew_; clear hg_ hnew_; (first | rw [← Ny127.out] at ho20 | (simp only [Int.reduceToNat] at ho20; rw [← Ny127.out] at ho20)); have n0_ := Aside0.mk (Kd.R_lower ho20 (below_size (by repeat (first | (with_reducible first | exact HB.out | apply below_alloc | apply pw_below_drewN | apply below_drew1) | exact HB.out)))); have n1_ := Aside0.mk (below_step (by repeat (first | (with_reducible first | exact HB.out | apply below_alloc | apply pw_below_drewN | apply below_drew1) | exact HB.out)) hb); clear HB; have HO129 := n0_; have HB := n1_; clear n0_ n1_; clear hb ho20; obtain ⟨Ao21, co21, eo21⟩ := Kd.R_slice HO129.out; subst eo21) | ((with_reducible refine gate_callee (f := 20) rfl ?_); refine goesL_ (some 37) rfl rfl Try.func20 (by kernel_rfl) rfl #[.slice Ao21 y127.length co21] rfl (by (try simp only [List.map_toArray, List.map_cons, List.map_nil]); first | done | rfl | (simp only [List.length_drop, List.length_take]; rfl)) ?_; (with_reducible refine (laws_words.calls kj7 _ _ y127 false _ ?side1 ?side2 A13.out).mono ?_); (case side1 => repeat (first | exact (Kd.R_reads' HO129.out).2.2 | (with_reducible refine Kd.C_alloc ?_ _) | (with_reducible refine Kd.C_drewN ?_ _) | (with_reducible refine Kd.C_drew ?_))); (case side2 => exact (Kd.R_reads' HO129.out).2.1); rintro e w' ⟨rfl, ⟨nd, rfl⟩⟩; refine ⟨_, rfl, ?_⟩))
                  go_meet
                  case rel => exact ⟨_, (true), (by first | rfl | (simp; done) | (rw [prx_ne]; first | done | rfl) | (simp [*]; done)), H', ⟨by have := HJ2.out; have := HJ7.out; first | omega | exact Nat.le_refl _⟩, ⟨by repeat (first | (with_reducible first | exact HB.out | apply below_alloc | apply pw_below_drewN | apply below_drew1) | exact HB.out)⟩⟩
              case rest =>
                clear HC12
                try clear c1
                try clear c2
                try clear p2
                try clear c4
                try clear c4b0
                try clear c4b1
                try clear c6
                try clear c10
                try clear c11
                try clear c14
                try clear c20
                try clear p2
                obtain ⟨kq, x43_11, rfl, HA, HJ11, HB⟩ := hcut
                cases kq with
                | zero => exact absurd HA.out (by simp [laws_FnBracketsPoints.j2])
                | succ kj11 =>
                  have H := HA.out
                  clear HA
                  simp only [laws_FnBracketsPoints.j2] at H
                  by_cases c22 : x43_11 = true
                  · subst c22
                    have H1 : (some true) = some r := by rw [if_pos rfl] at H; exact H
                    clear H
                    have H := H1
                    clear H1
                    obtain rfl := Option.some.inj H
                    go_wp2
                    go_ret
                    exact ⟨by first | rfl | (simp [errW_none, errW_some] <;> rfl) | (simp [*, errW_none, errW_some] <;> rfl), by repeat (first | (with_reducible first | exact HB.out | apply below_alloc | apply pw_below_drewN | apply below_drew1) | exact HB.out)⟩
                  · replace c22 := Bool.eq_false_iff.mpr c22
                    subst c22
                    have H1 : (laws_FnBracketsPoints.l0 kj11 a0 a0 l1 (l1.length : Int) 0) = some r := by rw [if_neg (show ¬ (false = true) by decide)] at H; exact H
                    clear H
                    have H := H1
                    clear H1
                    have H' := Aside0.mk H
                    clear H
                    go_wp2
                    go_loopg [7, 8, 48] kj11 (fun kq v7 v8 v48 w' => ∃ (x7_4 : ByteArray) (x8_4 : ByteArray) (x48_4 : Int), v7 = .string x7_4 ∧ v8 = .string x8_4 ∧ v48 = .int .i64 x48_4 ∧ Aside0 (laws_FnBracketsPoints.l0 kq x7_4 x8_4 l1 (l1.length : Int) x48_4 = some r) ∧ Aside0 (kq ≤ kj11) ∧ Aside0 (Below w.heap.size w w'))
                    case atStart => exact ⟨(a0), (a0), (0), (by first | rfl | (simp; done) | (rw [prx_ne]; first | done | rfl) | (simp [*]; done)), (by first | rfl | (simp; done) | (rw [prx_ne]; first | done | rfl) | (simp [*]; done)), (by first | rfl | (simp; done) | (rw [prx_ne]; first | done | rfl) | (simp [*]; done)), H', ⟨Nat.le_refl _⟩, ⟨by repeat (first | (with_reducible first | exact HB.out | apply below_alloc | apply pw_below_drewN | apply below_drew1) | exact HB.out)⟩⟩
                    case round =>
                      clear H'
                      try clear c1
                      try clear c2
                      try clear p2
                      try clear c4
                      try clear c4b0
                      try clear c4b1
                      try clear c6
                      try clear c10
                      try clear c11
                      try clear c14
                      try clear c20
                      try clear c22
                      try clear p2
                      obtain ⟨x7_4, x8_4, x48_4, rfl, rfl, rfl, HA, HK4, HB⟩ := hrel
                      cases gk with
                      | zero => exact absurd HA.out (by simp [laws_FnBracketsPoints.l0])
                      | succ k4 =>
                        have H := HA.out
                        clear HA
                        simp only [laws_FnBracketsPoints.l0] at H
                        by_cases c23 : x48_4 < (l1.length : Int)
                        · rw [if_pos c23] at H
                          have c23b0 : decide (x48_4 < (l1.length : Int)) = true := decide_eq_true c23
                          clear c23
                          by_cases c24 : 0 ≤ x48_4
                          · rw [if_pos c24] at H
                            have c24b0 : decide (0 ≤ x48_4) = true := decide_eq_true c24
                            clear c24
                            by_cases c25 : x48_4 < (l1.length : Int)
                            · rw [if_pos c25] at H
                              have c25b0 : decide (x48_4 < (l1.length : Int)) = true := decide_eq_true c25
                              clear c25
                              by_cases c26 : 1 + (rdOf ByteArray.empty l1 x48_4).size ≤ 9223372036854775807
                              · rw [if_pos c26] at H
                                have c26b0 := eq_true c26
                                have c26b1 : decide (1 + (rdOf ByteArray.empty l1 x48_4).size ≤ 9223372036854775807) = true := decide_eq_true c26
                                try have c26b2 : (9223372036854775807 < 1 + (rdOf ByteArray.empty l1 x48_4).size) = False := eq_false (Nat.not_lt.2 c26)
                                try (have c26b3 := c26; simp only [ByteArray.size_append, prx_sz, List.length_cons, List.length_nil] at c26b3)
                                by_cases c27 : ((⟨#[91]⟩ : ByteArray) ++ (rdOf ByteArray.empty l1 x48_4)).size + 1 ≤ 9223372036854775807
                                · rw [if_pos c27] at H
                                  have c27b0 := eq_true c27
                                  have c27b1 : decide (((⟨#[91]⟩ : ByteArray) ++ (rdOf ByteArray.empty l1 x48_4)).size + 1 ≤ 9223372036854775807) = true := decide_eq_true c27
                                  try have c27b2 : (9223372036854775807 < ((⟨#[91]⟩ : ByteArray) ++ (rdOf ByteArray.empty l1 x48_4)).size + 1) = False := eq_false (Nat.not_lt.2 c27)
                                  try (have c27b3 := c27; simp only [ByteArray.size_append, prx_sz, List.length_cons, List.length_nil] at c27b3)
                                  by_cases c28 : x7_4.size + (((⟨#[91]⟩ : ByteArray) ++ (rdOf ByteArray.empty l1 x48_4)) ++ (⟨#[93]⟩ : ByteArray)).size ≤ 9223372036854775807
                                  · rw [if_pos c28] at H
                                    have c28b0 := eq_true c28
                                    have c28b1 : decide (x7_4.size + (((⟨#[91]⟩ : ByteArray) ++ (rdOf ByteArray.empty l1 x48_4)) ++ (⟨#[93]⟩ : ByteArray)).size ≤ 9223372036854775807) = true := decide_eq_true c28
                                    try have c28b2 : (9223372036854775807 < x7_4.size + (((⟨#[91]⟩ : ByteArray) ++ (rdOf ByteArray.empty l1 x48_4)) ++ (⟨#[93]⟩ : ByteArray)).size) = False := eq_false (Nat.not_lt.2 c28)
                                    try (have c28b3 := c28; simp only [ByteArray.size_append, prx_sz, List.length_cons, List.length_nil] at c28b3)
                                    by_cases c29 : x8_4.size + ((⟨#[46]⟩ : ByteArray) ++ (rdOf ByteArray.empty l1 x48_4)).size ≤ 9223372036854775807
                                    · rw [if_pos c29] at H
                                      have c29b0 := eq_true c29
                                      have c29b1 : decide (x8_4.size + ((⟨#[46]⟩ : ByteArray) ++ (rdOf ByteArray.empty l1 x48_4)).size ≤ 9223372036854775807) = true := decide_eq_true c29
                                      try have c29b2 : (9223372036854775807 < x8_4.size + ((⟨#[46]⟩ : ByteArray) ++ (rdOf ByteArray.empty l1 x48_4)).size) = False := eq_false (Nat.not_lt.2 c29)
                                      try (have c29b3 := c29; simp only [ByteArray.size_append, prx_sz, List.length_cons, List.length_nil] at c29b3)
                                      have H' := Aside0.mk H
                                      clear H
                                      have p132 : 0 ≤ (x48_4 : Int) := of_decide_eq_true (by first | (with_reducible assumption) | assumption)
                                      have q132 : x48_4 < (l1.length : Int) := of_decide_eq_true (by first | (with_reducible assumption) | assumption)
                                      obtain ⟨ad132, e132, hx132_0⟩ := Kd.at_string HR1.out x48_4 p132 q132
                                      cases e132
                                      replace hx132_0 := (HB.out.cell (World.block_lt_of_cell? w _ hx132_0)).trans hx132_0
                                      replace p132 := eq_true p132
                                      replace q132 := eq_true q132
                                      go_wp2
                                      go_roundg k4
                                      case measure => have := HJ2.out; have := HJ7.out; have := HJ11.out; have := HK4.out; omega
                                      case rel => exact ⟨(x7_4 ++ (((⟨#[91]⟩ : ByteArray) ++ (rdOf ByteArray.empty l1 x48_4)) ++ (⟨#[93]⟩ : ByteArray))), (x8_4 ++ ((⟨#[46]⟩ : ByteArray) ++ (rdOf ByteArray.empty l1 x48_4))), (wrap64 (x48_4 + 1)), (by first | rfl | (simp; done) | (rw [prx_ne]; first | done | rfl) | (simp [*]; done)), (by first | rfl | (simp; done) | (rw [prx_ne]; first | done | rfl) | (simp [*]; done)), (by first | rfl | (simp; done) | (rw [prx_ne]; first | done | rfl) | (simp [*]; done)), H', ⟨by have := HJ2.out; have := HJ7.out; have := HJ11.out; have := HK4.out; omega⟩, ⟨by repeat (first | (with_reducible first | exact HB.out | apply below_alloc | apply pw_below_drewN | apply below_drew1) | exact HB.out)⟩⟩
                                    · rw [if_neg c29] at H
                                      exact absurd H (by simp)
                                  · rw [if_neg c28] at H
                                    exact absurd H (by simp)
                                · rw [if_neg c27] at H
                                  exact absurd H (by simp)
                              · rw [if_neg c26] at H
                                exact absurd H (by simp)
                            · rw [if_neg c25] at H
                              exact absurd H (by simp)
                          · rw [if_neg c24] at H
                            exact absurd H (by simp)
                        · rw [if_neg c23] at H
                          have c23b0 : decide (x48_4 < (l1.length : Int)) = false := decide_eq_false c23
                          clear c23
                          replace H := Option.bind_eq_some_iff.mp H
                          obtain ⟨⟨t133, t134⟩, A300, H⟩ := H
                          replace H : (if x7_4.size + 1 ≤ 9223372036854775807 then ((impl_Brackets.f (x7_4 ++ (⟨#[91]⟩ : ByteArray))).bind fun bt135 => ((impl_Brackets.f (x7_4 ++ (⟨#[93]⟩ : ByteArray))).bind fun bt137 => (if t134 = true then (if t133.toList = x8_4.toList then (if bt135.2 = true then (some false) else (some (!bt137.2))) else (some false)) else (some false)))) else (none)) = some r := H
                          have A30 := Aside0.mk A300
                          clear A300
                          by_cases c31 : x7_4.size + 1 ≤ 9223372036854775807
                          · rw [if_pos c31] at H
                            have c31b0 := eq_true c31
                            have c31b1 : decide (x7_4.size + 1 ≤ 9223372036854775807) = true := decide_eq_true c31
                            try have c31b2 : (9223372036854775807 < x7_4.size + 1) = False := eq_false (Nat.not_lt.2 c31)
                            try (have c31b3 := c31; simp only [ByteArray.size_append, prx_sz, List.length_cons, List.length_nil] at c31b3)
                            replace H := Option.bind_eq_some_iff.mp H
                            obtain ⟨⟨t135, t136⟩, A320, H⟩ := H
                            replace H : ((impl_Brackets.f (x7_4 ++ (⟨#[93]⟩ : ByteArray))).bind fun bt137 => (if t134 = true then (if t133.toList = x8_4.toList then (if t136 = true then (some false) else (some (!bt137.2))) else (some false)) else (some false))) = some r := H
                            have A32 := Aside0.mk A320
                            clear A320
                            replace H := Option.bind_eq_some_iff.mp H
                            obtain ⟨⟨t137, t138⟩, A330, H⟩ := H
                            replace H : (if t134 = true then (if t133.toList = x8_4.toList then (if t136 = true then (some false) else (some (!t138))) else (some false)) else (some false)) = some r := H
                            have A33 := Aside0.mk A330
                            clear A330
                            by_cases c34 : t134 = true
                            · subst c34
                              have H1 : (if t133.toList = x8_4.toList then (if t136 = true then (some false) else (some (!t138))) else (some false)) = some r := by rw [if_pos rfl] at H; exact H
                              clear H
                              have H := H1
                              clear H1
                              by_cases c35 : t133.toList = x8_4.toList
                              · rw [if_pos c35] at H
                                have c35b0 : (t133.toList == x8_4.toList) = true := beq_iff_eq.mpr c35
                                have c35b1 : (t133.toList != x8_4.toList) = false := bne_eq_false_iff_eq.mpr c35
                                clear c35
                                by_cases c36 : t136 = true
                                · subst c36
                                  have H1 : (some false) = some r := by rw [if_pos rfl] at H; exact H
                                  clear H
                                  have H := H1
                                  clear H1
                                  obtain rfl := Option.some.inj H
                                  go_wp2_with (first | ((with_reducible refine gate_callee (f := 24) rfl ?_); refine goesL_ (some 64) rfl rfl Try.func24 (by kernel_rfl) rfl #[.string x7_4] rfl (by (try simp only [List.map_toArray, List.map_cons, List.map_nil]); first | done | rfl | (simp only [List.length_drop, List.length_take]; rfl)) ?_; (with_reducible refine (impl_Brackets.calls x7_4 t133 true _ A30.out).mono ?_); rintro e w37 ⟨rfl, hb⟩; refine ⟨_, rfl, ?_⟩; have n0_ := Aside0.mk (below_step (by repeat (first | (with_reducible first | exact HB.out | apply below_alloc | apply pw_below_drewN | apply below_drew1) | exact HB.out)) hb); clear HB; have HB := n0_; clear n0_; (try clear hb); (try clear hb2); (try clear hk); (try clear hi)) | ((with_reducible refine gate_callee (f := 24) rfl ?_); refine goesL_ (some 70) rfl rfl Try.func24 (by kernel_rfl) rfl #[.string (x7_4 ++ (⟨#[91]⟩ : ByteArray))] rfl (by (try simp only [List.map_toArray, List.map_cons, List.map_nil]); first | done | rfl | (simp only [List.length_drop, List.length_take]; rfl)) ?_; (with_reducible refine (impl_Brackets.calls (x7_4 ++ (⟨#[91]⟩ : ByteArray)) t135 true _ A32.out).mono ?_); rintro e w38 ⟨rfl, hb⟩; refine ⟨_, rfl, ?_⟩; have n0_ := Aside0.mk (below_step (by repeat (first | (with_reducible first | exact HB.out | apply below_alloc | apply pw_below_drewN | apply below_drew1) | exact HB.out)) hb); clear HB; have HB := n0_; clear n0_; (try clear hb); (try clear hb2); (try clear hk); (try clear hi)) | ((with_reducible refine gate_callee (f := 24) rfl ?_); refine goesL_ (some 76) rfl rfl Try.func24 (by kernel_rfl) rfl #[.string (x7_4 ++ (⟨#[93]⟩ : ByteArray))] rfl (by (try simp only [List.map_toArray, List.map_cons, List.map_nil]); first | done | rfl | (simp only [List.length_drop, List.length_take]; rfl)) ?_; (with_reducible refine (impl_Brackets.calls (x7_4 ++ (⟨#[93]⟩ : ByteArray)) t137 t138 _ A33.out).mono ?_); rintro e w39 ⟨rfl, hb⟩; refine ⟨_, rfl, ?_⟩; have n0_ := Aside0.mk (below_step (by repeat (first | (with_reducible first | exact HB.out | apply below_alloc | apply pw_below_drewN | apply below_drew1) | exact HB.out)) hb); clear HB; have HB := n0_; clear n0_; (try clear hb); (try clear hb2); (try clear hk); (try clear hi)))
                                  go_ret
                                  exact ⟨by first | rfl | (simp [errW_none, errW_some] <;> rfl) | (simp [*, errW_none, errW_some] <;> rfl), by repeat (first | (with_reducible first | exact HB.out | apply below_alloc | apply pw_below_drewN | apply below_drew1) | exact HB.out)⟩
                                · replace c36 := Bool.eq_false_iff.mpr c36
                                  subst c36
                                  have H1 : (some (!t138)) = some r := by rw [if_neg (show ¬ (false = true) by decide)] at H; exact H
                                  clear H
                                  have H := H1
                                  clear H1
                                  obtain rfl := Option.some.inj H
                                  go_wp2_with (first | ((with_reducible refine gate_callee (f := 24) rfl ?_); refine goesL_ (some 64) rfl rfl Try.func24 (by kernel_rfl) rfl #[.string x7_4] rfl (by (try simp only [List.map_toArray, List.map_cons, List.map_nil]); first | done | rfl | (simp only [List.length_drop, List.length_take]; rfl)) ?_; (with_reducible refine (impl_Brackets.calls x7_4 t133 true _ A30.out).mono ?_); rintro e w40 ⟨rfl, hb⟩; refine ⟨_, rfl, ?_⟩; have n0_ := Aside0.mk (below_step (by repeat (first | (with_reducible first | exact HB.out | apply below_alloc | apply pw_below_drewN | apply below_drew1) | exact HB.out)) hb); clear HB; have HB := n0_; clear n0_; (try clear hb); (try clear hb2); (try clear hk); (try clear hi)) | ((with_reducible refine gate_callee (f := 24) rfl ?_); refine goesL_ (some 70) rfl rfl Try.func24 (by kernel_rfl) rfl #[.string (x7_4 ++ (⟨#[91]⟩ : ByteArray))] rfl (by (try simp only [List.map_toArray, List.map_cons, List.map_nil]); first | done | rfl | (simp only [List.length_drop, List.length_take]; rfl)) ?_; (with_reducible refine (impl_Brackets.calls (x7_4 ++ (⟨#[91]⟩ : ByteArray)) t135 false _ A32.out).mono ?_); rintro e w41 ⟨rfl, hb⟩; refine ⟨_, rfl, ?_⟩; have n0_ := Aside0.mk (below_step (by repeat (first | (with_reducible first | exact HB.out | apply below_alloc | apply pw_below_drewN | apply below_drew1) | exact HB.out)) hb); clear HB; have HB := n0_; clear n0_; (try clear hb); (try clear hb2); (try clear hk); (try clear hi)) | ((with_reducible refine gate_callee (f := 24) rfl ?_); refine goesL_ (some 76) rfl rfl Try.func24 (by kernel_rfl) rfl #[.string (x7_4 ++ (⟨#[93]⟩ : ByteArray))] rfl (by (try simp only [List.map_toArray, List.map_cons, List.map_nil]); first | done | rfl | (simp only [List.length_drop, List.length_take]; rfl)) ?_; (with_reducible refine (impl_Brackets.calls (x7_4 ++ (⟨#[93]⟩ : ByteArray)) t137 t138 _ A33.out).mono ?_); rintro e w42 ⟨rfl, hb⟩; refine ⟨_, rfl, ?_⟩; have n0_ := Aside0.mk (below_step (by repeat (first | (with_reducible first | exact HB.out | apply below_alloc | apply pw_below_drewN | apply below_drew1) | exact HB.out)) hb); clear HB; have HB := n0_; clear n0_; (try clear hb); (try clear hb2); (try clear hk); (try clear hi)))
                                  go_ret
                                  exact ⟨by first | rfl | (simp [errW_none, errW_some] <;> rfl) | (simp [*, errW_none, errW_some] <;> rfl), by repeat (first | (with_reducible first | exact HB.out | apply below_alloc | apply pw_below_drewN | apply below_drew1) | exact HB.out)⟩
                              · rw [if_neg c35] at H
                                have c35b0 : (t133.toList == x8_4.toList) = false := beq_eq_false_iff_ne.mpr c35
                                have c35b1 : (t133.toList != x8_4.toList) = true := bne_iff_ne.mpr c35
                                obtain rfl := Option.some.inj H
                                go_wp2_with (first | ((with_reducible refine gate_callee (f := 24) rfl ?_); refine goesL_ (some 64) rfl rfl Try.func24 (by kernel_rfl) rfl #[.string x7_4] rfl (by (try simp only [List.map_toArray, List.map_cons, List.map_nil]); first | done | rfl | (simp only [List.length_drop, List.length_take]; rfl)) ?_; (with_reducible refine (impl_Brackets.calls x7_4 t133 true _ A30.out).mono ?_); rintro e w43 ⟨rfl, hb⟩; refine ⟨_, rfl, ?_⟩; have n0_ := Aside0.mk (below_step (by repeat (first | (with_reducible first | exact HB.out | apply below_alloc | apply pw_below_drewN | apply below_drew1) | exact HB.out)) hb); clear HB; have HB := n0_; clear n0_; (try clear hb); (try clear hb2); (try clear hk); (try clear hi)) | ((with_reducible refine gate_callee (f := 24) rfl ?_); refine goesL_ (some 70) rfl rfl Try.func24 (by kernel_rfl) rfl #[.string (x7_4 ++ (⟨#[91]⟩ : ByteArray))] rfl (by (try simp only [List.map_toArray, List.map_cons, List.map_nil]); first | done | rfl | (simp only [List.length_drop, List.length_take]; rfl)) ?_; (with_reducible refine (impl_Brackets.calls (x7_4 ++ (⟨#[91]⟩ : ByteArray)) t135 t136 _ A32.out).mono ?_); rintro e w44 ⟨rfl, hb⟩; refine ⟨_, rfl, ?_⟩; have n0_ := Aside0.mk (below_step (by repeat (first | (with_reducible first | exact HB.out | apply below_alloc | apply pw_below_drewN | apply below_drew1) | exact HB.out)) hb); clear HB; have HB := n0_; clear n0_; (try clear hb); (try clear hb2); (try clear hk); (try clear hi)) | ((with_reducible refine gate_callee (f := 24) rfl ?_); refine goesL_ (some 76) rfl rfl Try.func24 (by kernel_rfl) rfl #[.string (x7_4 ++ (⟨#[93]⟩ : ByteArray))] rfl (by (try simp only [List.map_toArray, List.map_cons, List.map_nil]); first | done | rfl | (simp only [List.length_drop, List.length_take]; rfl)) ?_; (with_reducible refine (impl_Brackets.calls (x7_4 ++ (⟨#[93]⟩ : ByteArray)) t137 t138 _ A33.out).mono ?_); rintro e w45 ⟨rfl, hb⟩; refine ⟨_, rfl, ?_⟩; have n0_ := Aside0.mk (below_step (by repeat (first | (with_reducible first | exact HB.out | apply below_alloc | apply pw_below_drewN | apply below_drew1) | exact HB.out)) hb); clear HB; have HB := n0_; clear n0_; (try clear hb); (try clear hb2); (try clear hk); (try clear hi)))
                                go_ret
                                exact ⟨by first | rfl | (simp [errW_none, errW_some] <;> rfl) | (simp [*, errW_none, errW_some] <;> rfl), by repeat (first | (with_reducible first | exact HB.out | apply below_alloc | apply pw_below_drewN | apply below_drew1) | exact HB.out)⟩
                            · replace c34 := Bool.eq_false_iff.mpr c34
                              subst c34
                              have H1 : (some false) = some r := by rw [if_neg (show ¬ (false = true) by decide)] at H; exact H
                              clear H
                              have H := H1
                              clear H1
                              obtain rfl := Option.some.inj H
                              go_wp2_with (first | ((with_reducible refine gate_callee (f := 24) rfl ?_); refine goesL_ (some 64) rfl rfl Try.func24 (by kernel_rfl) rfl #[.string x7_4] rfl (by (try simp only [List.map_toArray, List.map_cons, List.map_nil]); first | done | rfl | (simp only [List.length_drop, List.length_take]; rfl)) ?_; (with_reducible refine (impl_Brackets.calls x7_4 t133 false _ A30.out).mono ?_); rintro e w46 ⟨rfl, hb⟩; refine ⟨_, rfl, ?_⟩; have n0_ := Aside0.mk (below_step (by repeat (first | (with_reducible first | exact HB.out | apply below_alloc | apply pw_below_drewN | apply below_drew1) | exact HB.out)) hb); clear HB; have HB := n0_; clear n0_; (try clear hb); (try clear hb2); (try clear hk); (try clear hi)) | ((with_reducible refine gate_callee (f := 24) rfl ?_); refine goesL_ (some 70) rfl rfl Try.func24 (by kernel_rfl) rfl #[.string (x7_4 ++ (⟨#[91]⟩ : ByteArray))] rfl (by (try simp only [List.map_toArray, List.map_cons, List.map_nil]); first | done | rfl | (simp only [List.length_drop, List.length_take]; rfl)) ?_; (with_reducible refine (impl_Brackets.calls (x7_4 ++ (⟨#[91]⟩ : ByteArray)) t135 t136 _ A32.out).mono ?_); rintro e w47 ⟨rfl, hb⟩; refine ⟨_, rfl, ?_⟩; have n0_ := Aside0.mk (below_step (by repeat (first | (with_reducible first | exact HB.out | apply below_alloc | apply pw_below_drewN | apply below_drew1) | exact HB.out)) hb); clear HB; have HB := n0_; clear n0_; (try clear hb); (try clear hb2); (try clear hk); (try clear hi)) | ((with_reducible refine gate_callee (f := 24) rfl ?_); refine goesL_ (some 76) rfl rfl Try.func24 (by kernel_rfl) rfl #[.string (x7_4 ++ (⟨#[93]⟩ : ByteArray))] rfl (by (try simp only [List.map_toArray, List.map_cons, List.map_nil]); first | done | rfl | (simp only [List.length_drop, List.length_take]; rfl)) ?_; (with_reducible refine (impl_Brackets.calls (x7_4 ++ (⟨#[93]⟩ : ByteArray)) t137 t138 _ A33.out).mono ?_); rintro e w48 ⟨rfl, hb⟩; refine ⟨_, rfl, ?_⟩; have n0_ := Aside0.mk (below_step (by repeat (first | (with_reducible first | exact HB.out | apply below_alloc | apply pw_below_drewN | apply below_drew1) | exact HB.out)) hb); clear HB; have HB := n0_; clear n0_; (try clear hb); (try clear hb2); (try clear hk); (try clear hi)))
                              go_ret
                              exact ⟨by first | rfl | (simp [errW_none, errW_some] <;> rfl) | (simp [*, errW_none, errW_some] <;> rfl), by repeat (first | (with_reducible first | exact HB.out | apply below_alloc | apply pw_below_drewN | apply below_drew1) | exact HB.out)⟩
                          · rw [if_neg c31] at H
                            exact absurd H (by simp)

/-- THE ONE PURE STATEMENT of laws_FnBracketsPoints: yours. -/
def laws_FnBracketsPoints.Pure : Prop := ∀ (a0 : ByteArray) (l1 : List ByteArray), a0.size ≤ 140737488351232 → l1.length * 16 ≤ 140737488351232 → ∃ k, laws_FnBracketsPoints.f k a0 l1 = some true
theorem laws_FnBracketsPoints.walk (P : laws_FnBracketsPoints.Pure) (a0 : ByteArray) (a1 : Option Addr) (cap1 : Nat) (l1 : List ByteArray) (w : World) (w0 : a0.size ≤ 140737488351232) (w1 : Kd.C Kd.string w a1 l1.length l1) (y1 : l1.length ≤ cap1) (m1 : l1.length * 16 ≤ 140737488351232) :
    Calls Try.prog 6 #[.string a0, .slice a1 l1.length cap1] w fun e w' => e = .returned (.bool true) ∧ Below w.heap.size w w' := by
  obtain ⟨k, h⟩ := P a0 l1 w0 m1
  refine (laws_FnBracketsPoints.calls k a0 _ _ l1 true w w1 y1 h).mono ?_
  rintro e w' ⟨rfl, hd⟩
  exact ⟨rfl, hd⟩

end Go.Proofs.Ytkbmababljcabaa.QA
