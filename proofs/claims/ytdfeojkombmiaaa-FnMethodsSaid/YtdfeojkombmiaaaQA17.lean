-- Printed by wip/pr.py (a program of this repo over the kit's print program). Not trusted: Lean checks it.
import Derived.Test.YtdfeojkombmiaaaQA0
namespace Go.Proofs.Ytdfeojkombmiaaa.QA
open Go.Proofs.Ytdfeojkombmiaaa.PrX
open Go.RowKit Go.Proofs.YtdfeojkombmiaaaW.PrintWords Go.Proofs.YtdfeojkombmiaaaW.PrintLast Go.Proofs.YtdfeojkombmiaaaW.PrintMore
attribute [local go_sem] max2_int min2_int max_two min_two max_three min_three max_four min_four   -- for this text's walks alone
set_option linter.unusedVariables false
set_option linter.unusedSimpArgs false

/-! ### fiberhelpers_IsMethodSafe: function 44 -/
def fiberhelpers_IsMethodSafe.f (a0 : ByteArray) : Option (Bool) := if a0.toList = ([71, 69, 84] : List UInt8) then (some true) else (if a0.toList = ([72, 69, 65, 68] : List UInt8) then (some true) else (if a0.toList = ([79, 80, 84, 73, 79, 78, 83] : List UInt8) then (some true) else (if a0.toList = ([84, 82, 65, 67, 69] : List UInt8) then (some true) else (some false))))
set_option maxHeartbeats 8000000 in
set_option maxRecDepth 100000 in
theorem fiberhelpers_IsMethodSafe.calls (a0 : ByteArray) (r : Bool) (w : World) (h : fiberhelpers_IsMethodSafe.f a0 = some r) :
    Calls Try.prog 44 #[.string a0] w fun e w' => e = .returned (.bool r) ∧ Drawn0 w w' := by
  have H : (if a0.toList = ([71, 69, 84] : List UInt8) then (some true) else (if a0.toList = ([72, 69, 65, 68] : List UInt8) then (some true) else (if a0.toList = ([79, 80, 84, 73, 79, 78, 83] : List UInt8) then (some true) else (if a0.toList = ([84, 82, 65, 67, 69] : List UInt8) then (some true) else (some false))))) = some r := h
  clear h
  by_cases c2 : a0.toList = ([71, 69, 84] : List UInt8)
  · rw [if_pos c2] at H
    have c2b0 : (a0.toList == ([71, 69, 84] : List UInt8)) = true := beq_iff_eq.mpr c2
    have c2b1 : (a0.toList != ([71, 69, 84] : List UInt8)) = false := bne_eq_false_iff_eq.mpr c2
    clear c2
    obtain rfl := Option.some.inj H
    go_enter Try.func44, Try.ntmps44
    go_wp2
    go_ret
    exact ⟨by first | rfl | (simp; done) | (rw [prx_ne]; first | done | rfl) | (simp [*]; done), by repeat (first | exact Drawn0.refl _ | apply Drawn0.step)⟩
  · rw [if_neg c2] at H
    have c2b0 : (a0.toList == ([71, 69, 84] : List UInt8)) = false := beq_eq_false_iff_ne.mpr c2
    have c2b1 : (a0.toList != ([71, 69, 84] : List UInt8)) = true := bne_iff_ne.mpr c2
    by_cases c3 : a0.toList = ([72, 69, 65, 68] : List UInt8)
    · rw [if_pos c3] at H
      have c3b0 : (a0.toList == ([72, 69, 65, 68] : List UInt8)) = true := beq_iff_eq.mpr c3
      have c3b1 : (a0.toList != ([72, 69, 65, 68] : List UInt8)) = false := bne_eq_false_iff_eq.mpr c3
      clear c3
      obtain rfl := Option.some.inj H
      go_enter Try.func44, Try.ntmps44
      go_wp2
      go_ret
      exact ⟨by first | rfl | (simp; done) | (rw [prx_ne]; first | done | rfl) | (simp [*]; done), by repeat (first | exact Drawn0.refl _ | apply Drawn0.step)⟩
    · rw [if_neg c3] at H
      have c3b0 : (a0.toList == ([72, 69, 65, 68] : List UInt8)) = false := beq_eq_false_iff_ne.mpr c3
      have c3b1 : (a0.toList != ([72, 69, 65, 68] : List UInt8)) = true := bne_iff_ne.mpr c3
      by_cases c4 : a0.toList = ([79, 80, 84, 73, 79, 78, 83] : List UInt8)
      · rw [if_pos c4] at H
        have c4b0 : (a0.toList == ([79, 80, 84, 73, 79, 78, 83] : List UInt8)) = true := beq_iff_eq.mpr c4
        have c4b1 : (a0.toList != ([79, 80, 84, 73, 79, 78, 83] : List UInt8)) = false := bne_eq_false_iff_eq.mpr c4
        clear c4
        obtain rfl := Option.some.inj H
        go_enter Try.func44, Try.ntmps44
        go_wp2
        go_ret
        exact ⟨by first | rfl | (simp; done) | (rw [prx_ne]; first | done | rfl) | (simp [*]; done), by repeat (first | exact Drawn0.refl _ | apply Drawn0.step)⟩
      · rw [if_neg c4] at H
        have c4b0 : (a0.toList == ([79, 80, 84, 73, 79, 78, 83] : List UInt8)) = false := beq_eq_false_iff_ne.mpr c4
        have c4b1 : (a0.toList != ([79, 80, 84, 73, 79, 78, 83] : List UInt8)) = true := bne_iff_ne.mpr c4
        by_cases c5 : a0.toList = ([84, 82, 65, 67, 69] : List UInt8)
        · rw [if_pos c5] at H
          have c5b0 : (a0.toList == ([84, 82, 65, 67, 69] : List UInt8)) = true := beq_iff_eq.mpr c5
          have c5b1 : (a0.toList != ([84, 82, 65, 67, 69] : List UInt8)) = false := bne_eq_false_iff_eq.mpr c5
          clear c5
          obtain rfl := Option.some.inj H
          go_enter Try.func44, Try.ntmps44
          go_wp2
          go_ret
          exact ⟨by first | rfl | (simp; done) | (rw [prx_ne]; first | done | rfl) | (simp [*]; done), by repeat (first | exact Drawn0.refl _ | apply Drawn0.step)⟩
        · rw [if_neg c5] at H
          have c5b0 : (a0.toList == ([84, 82, 65, 67, 69] : List UInt8)) = false := beq_eq_false_iff_ne.mpr c5
          have c5b1 : (a0.toList != ([84, 82, 65, 67, 69] : List UInt8)) = true := bne_iff_ne.mpr c5
          obtain rfl := Option.some.inj H
          go_enter Try.func44, Try.ntmps44
          go_wp2
          go_ret
          exact ⟨by first | rfl | (simp; done) | (rw [prx_ne]; first | done | rfl) | (simp [*]; done), by repeat (first | exact Drawn0.refl _ | apply Drawn0.step)⟩

/-! ### impl_Safe: function 22 -/
def impl_Safe.f (a0 : ByteArray) : Option (Bool) := (fiberhelpers_IsMethodSafe.f a0).bind fun t136 => (some t136)
set_option maxHeartbeats 8000000 in
set_option maxRecDepth 100000 in
theorem impl_Safe.calls (a0 : ByteArray) (r : Bool) (w : World) (h : impl_Safe.f a0 = some r) :
    Calls Try.prog 22 #[.string a0] w fun e w' => e = .returned (.bool r) ∧ Drawn0 w w' := by
  have H : ((fiberhelpers_IsMethodSafe.f a0).bind fun t136 => (some t136)) = some r := h
  clear h
  replace H := Option.bind_eq_some_iff.mp H
  obtain ⟨t136, A20, H⟩ := H
  replace H : (some t136) = some r := H
  have A2 := Aside0.mk A20
  clear A20
  obtain rfl := Option.some.inj H
  go_enter Try.func22, Try.ntmps22
  go_wp2_with (first | ((with_reducible refine gate_callee (f := 44) rfl ?_); refine goesL_ (some 4) rfl rfl Try.func44 (by kernel_rfl) rfl #[.string a0] rfl (by (try simp only [List.map_toArray, List.map_cons, List.map_nil]); first | done | rfl | (simp only [List.length_drop, List.length_take]; rfl)) ?_; (with_reducible refine (fiberhelpers_IsMethodSafe.calls a0 t136 _ A2.out).mono ?_); rintro e w' ⟨rfl, ⟨nd, rfl⟩⟩; refine ⟨_, rfl, ?_⟩))
  go_ret
  exact ⟨by first | rfl | (simp; done) | (rw [prx_ne]; first | done | rfl) | (simp [*]; done), by repeat (first | exact Drawn0.refl _ | apply Drawn0.step)⟩

/-! ### fiberhelpers_IsMethodIdempotent: function 45 -/
def fiberhelpers_IsMethodIdempotent.f (a0 : ByteArray) : Option (Bool) := (fiberhelpers_IsMethodSafe.f a0).bind fun t137 => (if t137 = true then (some true) else (if a0.toList = ([80, 85, 84] : List UInt8) then (some true) else (if a0.toList = ([68, 69, 76, 69, 84, 69] : List UInt8) then (some true) else (some false))))
set_option maxHeartbeats 8000000 in
set_option maxRecDepth 100000 in
theorem fiberhelpers_IsMethodIdempotent.calls (a0 : ByteArray) (r : Bool) (w : World) (h : fiberhelpers_IsMethodIdempotent.f a0 = some r) :
    Calls Try.prog 45 #[.string a0] w fun e w' => e = .returned (.bool r) ∧ Drawn0 w w' := by
  have H : ((fiberhelpers_IsMethodSafe.f a0).bind fun t137 => (if t137 = true then (some true) else (if a0.toList = ([80, 85, 84] : List UInt8) then (some true) else (if a0.toList = ([68, 69, 76, 69, 84, 69] : List UInt8) then (some true) else (some false))))) = some r := h
  clear h
  replace H := Option.bind_eq_some_iff.mp H
  obtain ⟨t137, A20, H⟩ := H
  replace H : (if t137 = true then (some true) else (if a0.toList = ([80, 85, 84] : List UInt8) then (some true) else (if a0.toList = ([68, 69, 76, 69, 84, 69] : List UInt8) then (some true) else (some false)))) = some r := H
  have A2 := Aside0.mk A20
  clear A20
  by_cases c3 : t137 = true
  · subst c3
    have H1 : (some true) = some r := by rw [if_pos rfl] at H; exact H
    clear H
    have H := H1
    clear H1
    obtain rfl := Option.some.inj H
    go_enter Try.func45, Try.ntmps45
    go_wp2_with (first | ((with_reducible refine gate_callee (f := 44) rfl ?_); refine goesL_ (some 4) rfl rfl Try.func44 (by kernel_rfl) rfl #[.string a0] rfl (by (try simp only [List.map_toArray, List.map_cons, List.map_nil]); first | done | rfl | (simp only [List.length_drop, List.length_take]; rfl)) ?_; (with_reducible refine (fiberhelpers_IsMethodSafe.calls a0 true _ A2.out).mono ?_); rintro e w' ⟨rfl, ⟨nd, rfl⟩⟩; refine ⟨_, rfl, ?_⟩))
    go_ret
    exact ⟨by first | rfl | (simp; done) | (rw [prx_ne]; first | done | rfl) | (simp [*]; done), by repeat (first | exact Drawn0.refl _ | apply Drawn0.step)⟩
  · replace c3 := Bool.eq_false_iff.mpr c3
    subst c3
    have H1 : (if a0.toList = ([80, 85, 84] : List UInt8) then (some true) else (if a0.toList = ([68, 69, 76, 69, 84, 69] : List UInt8) then (some true) else (some false))) = some r := by rw [if_neg (show ¬ (false = true) by decide)] at H; exact H
    clear H
    have H := H1
    clear H1
    by_cases c4 : a0.toList = ([80, 85, 84] : List UInt8)
    · rw [if_pos c4] at H
      have c4b0 : (a0.toList == ([80, 85, 84] : List UInt8)) = true := beq_iff_eq.mpr c4
      have c4b1 : (a0.toList != ([80, 85, 84] : List UInt8)) = false := bne_eq_false_iff_eq.mpr c4
      clear c4
      obtain rfl := Option.some.inj H
      go_enter Try.func45, Try.ntmps45
      go_wp2_with (first | ((with_reducible refine gate_callee (f := 44) rfl ?_); refine goesL_ (some 4) rfl rfl Try.func44 (by kernel_rfl) rfl #[.string a0] rfl (by (try simp only [List.map_toArray, List.map_cons, List.map_nil]); first | done | rfl | (simp only [List.length_drop, List.length_take]; rfl)) ?_; (with_reducible refine (fiberhelpers_IsMethodSafe.calls a0 false _ A2.out).mono ?_); rintro e w' ⟨rfl, ⟨nd, rfl⟩⟩; refine ⟨_, rfl, ?_⟩))
      go_ret
      exact ⟨by first | rfl | (simp; done) | (rw [prx_ne]; first | done | rfl) | (simp [*]; done), by repeat (first | exact Drawn0.refl _ | apply Drawn0.step)⟩
    · rw [if_neg c4] at H
      have c4b0 : (a0.toList == ([80, 85, 84] : List UInt8)) = false := beq_eq_false_iff_ne.mpr c4
      have c4b1 : (a0.toList != ([80, 85, 84] : List UInt8)) = true := bne_iff_ne.mpr c4
      by_cases c5 : a0.toList = ([68, 69, 76, 69, 84, 69] : List UInt8)
      · rw [if_pos c5] at H
        have c5b0 : (a0.toList == ([68, 69, 76, 69, 84, 69] : List UInt8)) = true := beq_iff_eq.mpr c5
        have c5b1 : (a0.toList != ([68, 69, 76, 69, 84, 69] : List UInt8)) = false := bne_eq_false_iff_eq.mpr c5
        clear c5
        obtain rfl := Option.some.inj H
        go_enter Try.func45, Try.ntmps45
        go_wp2_with (first | ((with_reducible refine gate_callee (f := 44) rfl ?_); refine goesL_ (some 4) rfl rfl Try.func44 (by kernel_rfl) rfl #[.string a0] rfl (by (try simp only [List.map_toArray, List.map_cons, List.map_nil]); first | done | rfl | (simp only [List.length_drop, List.length_take]; rfl)) ?_; (with_reducible refine (fiberhelpers_IsMethodSafe.calls a0 false _ A2.out).mono ?_); rintro e w' ⟨rfl, ⟨nd, rfl⟩⟩; refine ⟨_, rfl, ?_⟩))
        go_ret
        exact ⟨by first | rfl | (simp; done) | (rw [prx_ne]; first | done | rfl) | (simp [*]; done), by repeat (first | exact Drawn0.refl _ | apply Drawn0.step)⟩
      · rw [if_neg c5] at H
        have c5b0 : (a0.toList == ([68, 69, 76, 69, 84, 69] : List UInt8)) = false := beq_eq_false_iff_ne.mpr c5
        have c5b1 : (a0.toList != ([68, 69, 76, 69, 84, 69] : List UInt8)) = true := bne_iff_ne.mpr c5
        obtain rfl := Option.some.inj H
        go_enter Try.func45, Try.ntmps45
        go_wp2_with (first | ((with_reducible refine gate_callee (f := 44) rfl ?_); refine goesL_ (some 4) rfl rfl Try.func44 (by kernel_rfl) rfl #[.string a0] rfl (by (try simp only [List.map_toArray, List.map_cons, List.map_nil]); first | done | rfl | (simp only [List.length_drop, List.length_take]; rfl)) ?_; (with_reducible refine (fiberhelpers_IsMethodSafe.calls a0 false _ A2.out).mono ?_); rintro e w' ⟨rfl, ⟨nd, rfl⟩⟩; refine ⟨_, rfl, ?_⟩))
        go_ret
        exact ⟨by first | rfl | (simp; done) | (rw [prx_ne]; first | done | rfl) | (simp [*]; done), by repeat (first | exact Drawn0.refl _ | apply Drawn0.step)⟩

end Go.Proofs.Ytdfeojkombmiaaa.QA
