/- Printed by wip/pr.py (a program of this repo over the print program of the kit). Not trusted: Lean checks it. -/
import Derived.Test.YtdfeojkombmiaaaQA0
import Derived.Test.YtdfeojkombmiaaaQA8
namespace Go.Proofs.Ytdfeojkombmiaaa.QA
open Go.Proofs.Ytdfeojkombmiaaa.PrX
open Go.RowKit Go.Proofs.YtdfeojkombmiaaaW.PrintWords Go.Proofs.YtdfeojkombmiaaaW.PrintLast Go.Proofs.YtdfeojkombmiaaaW.PrintMore
attribute [local go_sem] max2_int min2_int max_two min_two max_three min_three max_four min_four   -- for this text's walks alone
set_option linter.unusedVariables false
set_option linter.unusedSimpArgs false

/-! ### fiberhelpers_getGroupPath: function 55 -/
def fiberhelpers_getGroupPath.f (k : Nat) (a0 : ByteArray) (a1 : ByteArray) : Option (ByteArray) := if (a1.size : Int) = 0 then (some a0) else (if 0 < (a1.size : Int) then (if (bt a1 0) = 47 then ((fiberutils_TrimRight.f k a0 47).bind fun t115 => (if t115.size + a1.size ≤ 9223372036854775807 then (some (t115 ++ a1)) else (none))) else (if 1 + a1.size ≤ 9223372036854775807 then ((fiberutils_TrimRight.f k a0 47).bind fun t116 => (if t116.size + ((⟨#[47]⟩ : ByteArray) ++ a1).size ≤ 9223372036854775807 then (some (t116 ++ ((⟨#[47]⟩ : ByteArray) ++ a1))) else (none))) else (none))) else (none))
theorem fiberhelpers_getGroupPath.mono : ∀ a0 a1 k, LeO (fiberhelpers_getGroupPath.f k a0 a1) (fiberhelpers_getGroupPath.f (k + 1) a0 a1) := by
  intro a0 a1 k
  unfold fiberhelpers_getGroupPath.f
  repeat' first
      | (with_reducible exact fiberutils_TrimRight.mono _ _ _)
      | (with_reducible exact LeO.refl _)
      | (with_reducible exact LeO.none _)
      | (with_reducible refine LeO.ite ?_ ?_)
      | (with_reducible refine LeO.bind ?_ (fun _ => ?_))
      | exact fiberutils_TrimRight.mono _ _ _
      | exact LeO.none _
      | refine LeO.ite ?_ ?_
      | refine LeO.bind ?_ (fun _ => ?_)
set_option maxHeartbeats 8000000 in
set_option maxRecDepth 100000 in
theorem fiberhelpers_getGroupPath.calls (k : Nat) (a0 : ByteArray) (a1 : ByteArray) (r : ByteArray) (w : World) (h : fiberhelpers_getGroupPath.f k a0 a1 = some r) :
    Calls Try.prog 55 #[.string a0, .string a1] w fun e w' => e = .returned (.string r) ∧ Drawn0 w w' := by
  have H : (if (a1.size : Int) = 0 then (some a0) else (if 0 < (a1.size : Int) then (if (bt a1 0) = 47 then ((fiberutils_TrimRight.f k a0 47).bind fun t115 => (if t115.size + a1.size ≤ 9223372036854775807 then (some (t115 ++ a1)) else (none))) else (if 1 + a1.size ≤ 9223372036854775807 then ((fiberutils_TrimRight.f k a0 47).bind fun t116 => (if t116.size + ((⟨#[47]⟩ : ByteArray) ++ a1).size ≤ 9223372036854775807 then (some (t116 ++ ((⟨#[47]⟩ : ByteArray) ++ a1))) else (none))) else (none))) else (none))) = some r := h
  clear h
  by_cases c3 : (a1.size : Int) = 0
  · rw [if_pos c3] at H
    have c3b0 : ((a1.size : Int) == 0) = true := beq_iff_eq.mpr c3
    have c3b1 : ((a1.size : Int) != 0) = false := bne_eq_false_iff_eq.mpr c3
    clear c3
    obtain rfl := Option.some.inj H
    go_enter Try.func55, Try.ntmps55
    go_wp2
    go_ret
    exact ⟨by first | rfl | (simp; done) | (rw [prx_ne]; first | done | rfl) | (simp [*]; done), by repeat (first | exact Drawn0.refl _ | apply Drawn0.step)⟩
  · rw [if_neg c3] at H
    have c3b0 : ((a1.size : Int) == 0) = false := beq_eq_false_iff_ne.mpr c3
    have c3b1 : ((a1.size : Int) != 0) = true := bne_iff_ne.mpr c3
    by_cases c4 : 0 < (a1.size : Int)
    · rw [if_pos c4] at H
      have c4b0 : decide (0 < (a1.size : Int)) = true := decide_eq_true c4
      have c4b1 : decide (0 < a1.size) = true := decide_eq_true (by omega)
      clear c4
      by_cases c6 : (bt a1 0) = 47
      · rw [if_pos c6] at H
        have c6b0 : ((bt a1 0) == 47) = true := beq_iff_eq.mpr c6
        have c6b1 : ((bt a1 0) != 47) = false := bne_eq_false_iff_eq.mpr c6
        clear c6
        replace H := Option.bind_eq_some_iff.mp H
        obtain ⟨t115, A70, H⟩ := H
        replace H : (if t115.size + a1.size ≤ 9223372036854775807 then (some (t115 ++ a1)) else (none)) = some r := H
        have A7 := Aside0.mk A70
        clear A70
        by_cases c8 : t115.size + a1.size ≤ 9223372036854775807
        · rw [if_pos c8] at H
          have c8b0 := eq_true c8
          have c8b1 : decide (t115.size + a1.size ≤ 9223372036854775807) = true := decide_eq_true c8
          try have c8b2 : (9223372036854775807 < t115.size + a1.size) = False := eq_false (Nat.not_lt.2 c8)
          try (have c8b3 := c8; simp only [ByteArray.size_append, prx_sz, List.length_cons, List.length_nil] at c8b3)
          obtain rfl := Option.some.inj H
          have p5 : 0 ≤ (0 : Int) := (by omega)
          have q5 : 0 < a1.size := (by have : (0 : Int) < (a1.size : Int) := of_decide_eq_true (by first | (with_reducible assumption) | assumption); omega)
          have hx5 : ∀ h : 0 < a1.size, ((a1[0]'h).toNat : Int) = bt a1 0 := bt_at a1 0
          clear p5
          have qi5 : (0 < (a1.size : Int)) = True := eq_true (of_decide_eq_true (by first | (with_reducible assumption) | assumption))
          replace q5 := eq_true q5
          go_enter Try.func55, Try.ntmps55
          go_wp2_with (first | ((with_reducible refine gate_callee (f := 63) rfl ?_); refine goesL_ (some 15) rfl rfl Try.func63 (by kernel_rfl) rfl #[.string a0, .int .u8 47] rfl (by (try simp only [List.map_toArray, List.map_cons, List.map_nil]); first | done | rfl | (simp only [List.length_drop, List.length_take]; rfl)) ?_; (with_reducible refine (fiberutils_TrimRight.calls k a0 47 t115 _ A7.out).mono ?_); rintro e w' ⟨rfl, ⟨nd, rfl⟩⟩; refine ⟨_, rfl, ?_⟩))
          go_ret
          exact ⟨by first | rfl | (simp; done) | (rw [prx_ne]; first | done | rfl) | (simp [*]; done), by repeat (first | exact Drawn0.refl _ | apply Drawn0.step)⟩
        · rw [if_neg c8] at H
          exact absurd H (by simp)
      · rw [if_neg c6] at H
        have c6b0 : ((bt a1 0) == 47) = false := beq_eq_false_iff_ne.mpr c6
        have c6b1 : ((bt a1 0) != 47) = true := bne_iff_ne.mpr c6
        by_cases c9 : 1 + a1.size ≤ 9223372036854775807
        · rw [if_pos c9] at H
          have c9b0 := eq_true c9
          have c9b1 : decide (1 + a1.size ≤ 9223372036854775807) = true := decide_eq_true c9
          try have c9b2 : (9223372036854775807 < 1 + a1.size) = False := eq_false (Nat.not_lt.2 c9)
          try (have c9b3 := c9; simp only [ByteArray.size_append, prx_sz, List.length_cons, List.length_nil] at c9b3)
          replace H := Option.bind_eq_some_iff.mp H
          obtain ⟨t116, A100, H⟩ := H
          replace H : (if t116.size + ((⟨#[47]⟩ : ByteArray) ++ a1).size ≤ 9223372036854775807 then (some (t116 ++ ((⟨#[47]⟩ : ByteArray) ++ a1))) else (none)) = some r := H
          have A10 := Aside0.mk A100
          clear A100
          by_cases c11 : t116.size + ((⟨#[47]⟩ : ByteArray) ++ a1).size ≤ 9223372036854775807
          · rw [if_pos c11] at H
            have c11b0 := eq_true c11
            have c11b1 : decide (t116.size + ((⟨#[47]⟩ : ByteArray) ++ a1).size ≤ 9223372036854775807) = true := decide_eq_true c11
            try have c11b2 : (9223372036854775807 < t116.size + ((⟨#[47]⟩ : ByteArray) ++ a1).size) = False := eq_false (Nat.not_lt.2 c11)
            try (have c11b3 := c11; simp only [ByteArray.size_append, prx_sz, List.length_cons, List.length_nil] at c11b3)
            obtain rfl := Option.some.inj H
            have p5 : 0 ≤ (0 : Int) := (by omega)
            have q5 : 0 < a1.size := (by have : (0 : Int) < (a1.size : Int) := of_decide_eq_true (by first | (with_reducible assumption) | assumption); omega)
            have hx5 : ∀ h : 0 < a1.size, ((a1[0]'h).toNat : Int) = bt a1 0 := bt_at a1 0
            clear p5
            have qi5 : (0 < (a1.size : Int)) = True := eq_true (of_decide_eq_true (by first | (with_reducible assumption) | assumption))
            replace q5 := eq_true q5
            go_enter Try.func55, Try.ntmps55
            go_wp2_with (first | ((with_reducible refine gate_callee (f := 63) rfl ?_); refine goesL_ (some 15) rfl rfl Try.func63 (by kernel_rfl) rfl #[.string a0, .int .u8 47] rfl (by (try simp only [List.map_toArray, List.map_cons, List.map_nil]); first | done | rfl | (simp only [List.length_drop, List.length_take]; rfl)) ?_; (with_reducible refine (fiberutils_TrimRight.calls k a0 47 t116 _ A10.out).mono ?_); rintro e w' ⟨rfl, ⟨nd, rfl⟩⟩; refine ⟨_, rfl, ?_⟩))
            go_ret
            exact ⟨by first | rfl | (simp; done) | (rw [prx_ne]; first | done | rfl) | (simp [*]; done), by repeat (first | exact Drawn0.refl _ | apply Drawn0.step)⟩
          · rw [if_neg c11] at H
            exact absurd H (by simp)
        · rw [if_neg c9] at H
          exact absurd H (by simp)
    · rw [if_neg c4] at H
      exact absurd H (by simp)

/-! ### fiberhelpers_ZzGroup: function 42 -/
def fiberhelpers_ZzGroup.f (k : Nat) (a0 : ByteArray) (a1 : ByteArray) : Option (ByteArray) := (fiberhelpers_getGroupPath.f k a0 a1).bind fun t117 => (some t117)
theorem fiberhelpers_ZzGroup.mono : ∀ a0 a1 k, LeO (fiberhelpers_ZzGroup.f k a0 a1) (fiberhelpers_ZzGroup.f (k + 1) a0 a1) := by
  intro a0 a1 k
  unfold fiberhelpers_ZzGroup.f
  repeat' first
      | (with_reducible exact fiberhelpers_getGroupPath.mono _ _ _)
      | (with_reducible exact LeO.refl _)
      | (with_reducible exact LeO.none _)
      | (with_reducible refine LeO.ite ?_ ?_)
      | (with_reducible refine LeO.bind ?_ (fun _ => ?_))
      | exact fiberhelpers_getGroupPath.mono _ _ _
      | exact LeO.none _
      | refine LeO.ite ?_ ?_
      | refine LeO.bind ?_ (fun _ => ?_)
set_option maxHeartbeats 8000000 in
set_option maxRecDepth 100000 in
theorem fiberhelpers_ZzGroup.calls (k : Nat) (a0 : ByteArray) (a1 : ByteArray) (r : ByteArray) (w : World) (h : fiberhelpers_ZzGroup.f k a0 a1 = some r) :
    Calls Try.prog 42 #[.string a0, .string a1] w fun e w' => e = .returned (.string r) ∧ Drawn0 w w' := by
  have H : ((fiberhelpers_getGroupPath.f k a0 a1).bind fun t117 => (some t117)) = some r := h
  clear h
  replace H := Option.bind_eq_some_iff.mp H
  obtain ⟨t117, A30, H⟩ := H
  replace H : (some t117) = some r := H
  have A3 := Aside0.mk A30
  clear A30
  obtain rfl := Option.some.inj H
  go_enter Try.func42, Try.ntmps42
  go_wp2_with (first | ((with_reducible refine gate_callee (f := 55) rfl ?_); refine goesL_ (some 7) rfl rfl Try.func55 (by kernel_rfl) rfl #[.string a0, .string a1] rfl (by (try simp only [List.map_toArray, List.map_cons, List.map_nil]); first | done | rfl | (simp only [List.length_drop, List.length_take]; rfl)) ?_; (with_reducible refine (fiberhelpers_getGroupPath.calls k a0 a1 t117 _ A3.out).mono ?_); rintro e w' ⟨rfl, ⟨nd, rfl⟩⟩; refine ⟨_, rfl, ?_⟩))
  go_ret
  exact ⟨by first | rfl | (simp; done) | (rw [prx_ne]; first | done | rfl) | (simp [*]; done), by repeat (first | exact Drawn0.refl _ | apply Drawn0.step)⟩

end Go.Proofs.Ytdfeojkombmiaaa.QA
