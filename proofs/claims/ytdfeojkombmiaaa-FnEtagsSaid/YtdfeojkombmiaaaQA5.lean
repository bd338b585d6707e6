/- Printed by wip/pr.py (a program of this repo over the print program of the kit). Not trusted: Lean checks it. -/
import Derived.Test.YtdfeojkombmiaaaQA0
namespace Go.Proofs.Ytdfeojkombmiaaa.QA
open Go.Proofs.Ytdfeojkombmiaaa.Given
open Go.Proofs.Ytdfeojkombmiaaa.PrX
open Go.RowKit Go.Proofs.YtdfeojkombmiaaaW.PrintWords Go.Proofs.YtdfeojkombmiaaaW.PrintLast Go.Proofs.YtdfeojkombmiaaaW.PrintMore
attribute [local go_sem] max2_int min2_int max_two min_two max_three min_three max_four min_four   -- for this text's walks alone
set_option linter.unusedVariables false
set_option linter.unusedSimpArgs false

/-! ### fiberhelpers_matchEtag: function 59 -/
def fiberhelpers_matchEtag.f (a0 : ByteArray) (a1 : ByteArray) : Option (Bool) := if a0.toList = a1.toList then (some true) else (if 2 + a1.size ≤ 9223372036854775807 then (if a0.toList = ((⟨#[87, 47]⟩ : ByteArray) ++ a1).toList then (some true) else (if 2 + a0.size ≤ 9223372036854775807 then (if ((⟨#[87, 47]⟩ : ByteArray) ++ a0).toList = a1.toList then (some true) else (some false)) else (none))) else (none))
set_option maxHeartbeats 8000000 in
set_option maxRecDepth 100000 in
theorem fiberhelpers_matchEtag.calls (a0 : ByteArray) (a1 : ByteArray) (r : Bool) (w : World) (h : fiberhelpers_matchEtag.f a0 a1 = some r) :
    Calls Try.prog 59 #[.string a0, .string a1] w fun e w' => e = .returned (.bool r) ∧ Drawn0 w w' := by
  have H : (if a0.toList = a1.toList then (some true) else (if 2 + a1.size ≤ 9223372036854775807 then (if a0.toList = ((⟨#[87, 47]⟩ : ByteArray) ++ a1).toList then (some true) else (if 2 + a0.size ≤ 9223372036854775807 then (if ((⟨#[87, 47]⟩ : ByteArray) ++ a0).toList = a1.toList then (some true) else (some false)) else (none))) else (none))) = some r := h
  clear h
  by_cases c3 : a0.toList = a1.toList
  · rw [if_pos c3] at H
    have c3b0 : (a0.toList == a1.toList) = true := beq_iff_eq.mpr c3
    have c3b1 : (a0.toList != a1.toList) = false := bne_eq_false_iff_eq.mpr c3
    clear c3
    obtain rfl := Option.some.inj H
    go_enter Try.func59, Try.ntmps59
    go_wp2
    go_ret
    exact ⟨by first | rfl | (simp; done) | (rw [prx_ne]; first | done | rfl) | (simp [*]; done), by repeat (first | exact Drawn0.refl _ | apply Drawn0.step)⟩
  · rw [if_neg c3] at H
    have c3b0 : (a0.toList == a1.toList) = false := beq_eq_false_iff_ne.mpr c3
    have c3b1 : (a0.toList != a1.toList) = true := bne_iff_ne.mpr c3
    by_cases c4 : 2 + a1.size ≤ 9223372036854775807
    · rw [if_pos c4] at H
      have c4b0 := eq_true c4
      have c4b1 : decide (2 + a1.size ≤ 9223372036854775807) = true := decide_eq_true c4
      try have c4b2 : (9223372036854775807 < 2 + a1.size) = False := eq_false (Nat.not_lt.2 c4)
      try (have c4b3 := c4; simp only [ByteArray.size_append, prx_sz, List.length_cons, List.length_nil] at c4b3)
      by_cases c5 : a0.toList = ((⟨#[87, 47]⟩ : ByteArray) ++ a1).toList
      · rw [if_pos c5] at H
        have c5b0 : (a0.toList == ((⟨#[87, 47]⟩ : ByteArray) ++ a1).toList) = true := beq_iff_eq.mpr c5
        have c5b1 : (a0.toList != ((⟨#[87, 47]⟩ : ByteArray) ++ a1).toList) = false := bne_eq_false_iff_eq.mpr c5
        clear c5
        obtain rfl := Option.some.inj H
        go_enter Try.func59, Try.ntmps59
        go_wp2
        go_ret
        exact ⟨by first | rfl | (simp; done) | (rw [prx_ne]; first | done | rfl) | (simp [*]; done), by repeat (first | exact Drawn0.refl _ | apply Drawn0.step)⟩
      · rw [if_neg c5] at H
        have c5b0 : (a0.toList == ((⟨#[87, 47]⟩ : ByteArray) ++ a1).toList) = false := beq_eq_false_iff_ne.mpr c5
        have c5b1 : (a0.toList != ((⟨#[87, 47]⟩ : ByteArray) ++ a1).toList) = true := bne_iff_ne.mpr c5
        by_cases c6 : 2 + a0.size ≤ 9223372036854775807
        · rw [if_pos c6] at H
          have c6b0 := eq_true c6
          have c6b1 : decide (2 + a0.size ≤ 9223372036854775807) = true := decide_eq_true c6
          try have c6b2 : (9223372036854775807 < 2 + a0.size) = False := eq_false (Nat.not_lt.2 c6)
          try (have c6b3 := c6; simp only [ByteArray.size_append, prx_sz, List.length_cons, List.length_nil] at c6b3)
          by_cases c7 : ((⟨#[87, 47]⟩ : ByteArray) ++ a0).toList = a1.toList
          · rw [if_pos c7] at H
            have c7b0 : (((⟨#[87, 47]⟩ : ByteArray) ++ a0).toList == a1.toList) = true := beq_iff_eq.mpr c7
            have c7b1 : (((⟨#[87, 47]⟩ : ByteArray) ++ a0).toList != a1.toList) = false := bne_eq_false_iff_eq.mpr c7
            clear c7
            obtain rfl := Option.some.inj H
            go_enter Try.func59, Try.ntmps59
            go_wp2
            go_ret
            exact ⟨by first | rfl | (simp; done) | (rw [prx_ne]; first | done | rfl) | (simp [*]; done), by repeat (first | exact Drawn0.refl _ | apply Drawn0.step)⟩
          · rw [if_neg c7] at H
            have c7b0 : (((⟨#[87, 47]⟩ : ByteArray) ++ a0).toList == a1.toList) = false := beq_eq_false_iff_ne.mpr c7
            have c7b1 : (((⟨#[87, 47]⟩ : ByteArray) ++ a0).toList != a1.toList) = true := bne_iff_ne.mpr c7
            obtain rfl := Option.some.inj H
            go_enter Try.func59, Try.ntmps59
            go_wp2
            go_ret
            exact ⟨by first | rfl | (simp; done) | (rw [prx_ne]; first | done | rfl) | (simp [*]; done), by repeat (first | exact Drawn0.refl _ | apply Drawn0.step)⟩
        · rw [if_neg c6] at H
          exact absurd H (by simp)
    · rw [if_neg c4] at H
      exact absurd H (by simp)

/-! ### fiberhelpers_ZzEtag: function 48 -/
def fiberhelpers_ZzEtag.f (a0 : ByteArray) (a1 : ByteArray) : Option (Bool) := (fiberhelpers_matchEtag.f a0 a1).bind fun t105 => (some t105)
set_option maxHeartbeats 8000000 in
set_option maxRecDepth 100000 in
theorem fiberhelpers_ZzEtag.calls (a0 : ByteArray) (a1 : ByteArray) (r : Bool) (w : World) (h : fiberhelpers_ZzEtag.f a0 a1 = some r) :
    Calls Try.prog 48 #[.string a0, .string a1] w fun e w' => e = .returned (.bool r) ∧ Drawn0 w w' := by
  have H : ((fiberhelpers_matchEtag.f a0 a1).bind fun t105 => (some t105)) = some r := h
  clear h
  replace H := Option.bind_eq_some_iff.mp H
  obtain ⟨t105, A30, H⟩ := H
  replace H : (some t105) = some r := H
  have A3 := Aside0.mk A30
  clear A30
  obtain rfl := Option.some.inj H
  go_enter Try.func48, Try.ntmps48
  go_wp2_with (first | ((with_reducible refine gate_callee (f := 59) rfl ?_); refine goesL_ (some 7) rfl rfl Try.func59 (by kernel_rfl) rfl #[.string a0, .string a1] rfl (by (try simp only [List.map_toArray, List.map_cons, List.map_nil]); first | done | rfl | (simp only [List.length_drop, List.length_take]; rfl)) ?_; (with_reducible refine (fiberhelpers_matchEtag.calls a0 a1 t105 _ A3.out).mono ?_); rintro e w' ⟨rfl, ⟨nd, rfl⟩⟩; refine ⟨_, rfl, ?_⟩))
  go_ret
  exact ⟨by first | rfl | (simp; done) | (rw [prx_ne]; first | done | rfl) | (simp [*]; done), by repeat (first | exact Drawn0.refl _ | apply Drawn0.step)⟩

/-! ### impl_EtagMatch: function 30 -/
def impl_EtagMatch.f (a0 : ByteArray) (a1 : ByteArray) : Option (Bool) := (fiberhelpers_ZzEtag.f a0 a1).bind fun t106 => (some t106)
set_option maxHeartbeats 8000000 in
set_option maxRecDepth 100000 in
theorem impl_EtagMatch.calls (a0 : ByteArray) (a1 : ByteArray) (r : Bool) (w : World) (h : impl_EtagMatch.f a0 a1 = some r) :
    Calls Try.prog 30 #[.string a0, .string a1] w fun e w' => e = .returned (.bool r) ∧ Drawn0 w w' := by
  have H : ((fiberhelpers_ZzEtag.f a0 a1).bind fun t106 => (some t106)) = some r := h
  clear h
  replace H := Option.bind_eq_some_iff.mp H
  obtain ⟨t106, A30, H⟩ := H
  replace H : (some t106) = some r := H
  have A3 := Aside0.mk A30
  clear A30
  obtain rfl := Option.some.inj H
  go_enter Try.func30, Try.ntmps30
  go_wp2_with (first | ((with_reducible refine gate_callee (f := 48) rfl ?_); refine goesL_ (some 7) rfl rfl Try.func48 (by kernel_rfl) rfl #[.string a0, .string a1] rfl (by (try simp only [List.map_toArray, List.map_cons, List.map_nil]); first | done | rfl | (simp only [List.length_drop, List.length_take]; rfl)) ?_; (with_reducible refine (fiberhelpers_ZzEtag.calls a0 a1 t106 _ A3.out).mono ?_); rintro e w' ⟨rfl, ⟨nd, rfl⟩⟩; refine ⟨_, rfl, ?_⟩))
  go_ret
  exact ⟨by first | rfl | (simp; done) | (rw [prx_ne]; first | done | rfl) | (simp [*]; done), by repeat (first | exact Drawn0.refl _ | apply Drawn0.step)⟩

end Go.Proofs.Ytdfeojkombmiaaa.QA
