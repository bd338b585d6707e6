/- Printed by wip/pr.py (a program of this repo over the print program of the kit). Not trusted: Lean checks it. -/
import Derived.Test.YtdfeojkombmiaaaQA0
namespace Go.Proofs.Ytdfeojkombmiaaa.QA
open Go.Proofs.Ytdfeojkombmiaaa.PrX
open Go.RowKit Go.Proofs.YtdfeojkombmiaaaW.PrintWords Go.Proofs.YtdfeojkombmiaaaW.PrintLast Go.Proofs.YtdfeojkombmiaaaW.PrintMore
attribute [local go_sem] max2_int min2_int max_two min_two max_three min_three max_four min_four   -- for this text's walks alone
set_option linter.unusedVariables false
set_option linter.unusedSimpArgs false

-- NOT PRINTED: function 12 (laws_FnSplicedJoin)

/-! ### fiberhelpers_validHeaderFieldByte: function 57 -/
def fiberhelpers_validHeaderFieldByte.f (a0 : Int) : Option (Bool) := if 0 ≤ a0 then (some ((Go.bits .or .u64 (Go.bits .and .u64 (shl .u64 1 a0) 288068722172624896) (Go.bits .and .u64 (shl .u64 1 ((a0 - 64) % 256)) 6341068274398134270)) != 0)) else (none)
set_option maxHeartbeats 8000000 in
set_option maxRecDepth 100000 in
theorem fiberhelpers_validHeaderFieldByte.calls (a0 : Int) (r : Bool) (w : World) (h : fiberhelpers_validHeaderFieldByte.f a0 = some r) :
    Calls Try.prog 57 #[.int .u8 a0] w fun e w' => e = .returned (.bool r) ∧ Drawn0 w w' := by
  have H : (if 0 ≤ a0 then (some ((Go.bits .or .u64 (Go.bits .and .u64 (shl .u64 1 a0) 288068722172624896) (Go.bits .and .u64 (shl .u64 1 ((a0 - 64) % 256)) 6341068274398134270)) != 0)) else (none)) = some r := h
  clear h
  by_cases c2 : 0 ≤ a0
  · rw [if_pos c2] at H
    have c2b0 := eq_true c2
    have c2b1 : decide (0 ≤ a0) = true := decide_eq_true c2
    clear c2
    obtain ⟨ji3, hji3⟩ : ∃ j_ : Int, (shl .u64 1 a0) = j_ := ⟨_, rfl⟩
    replace H : (some ((Go.bits .or .u64 (Go.bits .and .u64 (ji3) 288068722172624896) (Go.bits .and .u64 (shl .u64 1 ((a0 - 64) % 256)) 6341068274398134270)) != 0)) = some r := by first | (rw [hji3] at H; exact H) | (simp only [hji3] at H ⊢; exact H)
    try (have hji3n : 0 ≤ a0 := by omega)
    have hji3_ : (IntKind.u64.wrap (1 * 2 ^ min a0.toNat 64)) = ji3 := hji3
    have hji3z : a0 ≤ 64 → (IntKind.u64.wrap (1 * 2 ^ a0.toNat)) = ji3 := shl_small hji3
    have hji3u : (IntKind.u64.wrap (2 ^ min a0.toNat 64)) = ji3 := by have h_ := hji3_; rw [Int.one_mul] at h_; exact h_
    have hji3v : a0 ≤ 64 → (IntKind.u64.wrap (2 ^ a0.toNat)) = ji3 := fun hle_ => by have h_ := hji3z hle_; rw [Int.one_mul] at h_; exact h_
    obtain ⟨ji4, hji4⟩ : ∃ j_ : Int, (shl .u64 1 ((a0 - 64) % 256)) = j_ := ⟨_, rfl⟩
    replace H : (some ((Go.bits .or .u64 (Go.bits .and .u64 (ji3) 288068722172624896) (Go.bits .and .u64 (ji4) 6341068274398134270)) != 0)) = some r := by first | (rw [hji4] at H; exact H) | (simp only [hji4] at H ⊢; exact H)
    try (have hji4n : 0 ≤ ((a0 - 64) % 256) := by omega)
    have hji4_ : (IntKind.u64.wrap (1 * 2 ^ min ((a0 - 64) % 256).toNat 64)) = ji4 := hji4
    have hji4z : ((a0 - 64) % 256) ≤ 64 → (IntKind.u64.wrap (1 * 2 ^ ((a0 - 64) % 256).toNat)) = ji4 := shl_small hji4
    have hji4u : (IntKind.u64.wrap (2 ^ min ((a0 - 64) % 256).toNat 64)) = ji4 := by have h_ := hji4_; rw [Int.one_mul] at h_; exact h_
    have hji4v : ((a0 - 64) % 256) ≤ 64 → (IntKind.u64.wrap (2 ^ ((a0 - 64) % 256).toNat)) = ji4 := fun hle_ => by have h_ := hji4z hle_; rw [Int.one_mul] at h_; exact h_
    obtain rfl := Option.some.inj H
    go_enter Try.func57, Try.ntmps57
    go_wp2
    go_ret
    exact ⟨by first | rfl | (simp; done) | (simp only [← hji3, ← hji4] <;> (first | rfl | simp)) | (rw [prx_ne]; first | done | rfl) | (simp [*]; done), by repeat (first | exact Drawn0.refl _ | apply Drawn0.step)⟩
  · rw [if_neg c2] at H
    exact absurd H (by simp)

/-! ### fiberhelpers_ZzField: function 46 -/
def fiberhelpers_ZzField.f (a0 : Int) : Option (Bool) := (fiberhelpers_validHeaderFieldByte.f a0).bind fun t191 => (some t191)
set_option maxHeartbeats 8000000 in
set_option maxRecDepth 100000 in
theorem fiberhelpers_ZzField.calls (a0 : Int) (r : Bool) (w : World) (h : fiberhelpers_ZzField.f a0 = some r) :
    Calls Try.prog 46 #[.int .u8 a0] w fun e w' => e = .returned (.bool r) ∧ Drawn0 w w' := by
  have H : ((fiberhelpers_validHeaderFieldByte.f a0).bind fun t191 => (some t191)) = some r := h
  clear h
  replace H := Option.bind_eq_some_iff.mp H
  obtain ⟨t191, A20, H⟩ := H
  replace H : (some t191) = some r := H
  have A2 := Aside0.mk A20
  clear A20
  obtain rfl := Option.some.inj H
  go_enter Try.func46, Try.ntmps46
  go_wp2_with (first | ((with_reducible refine gate_callee (f := 57) rfl ?_); refine goesL_ (some 4) rfl rfl Try.func57 (by kernel_rfl) rfl #[.int .u8 a0] rfl (by (try simp only [List.map_toArray, List.map_cons, List.map_nil]); first | done | rfl | (simp only [List.length_drop, List.length_take]; rfl)) ?_; (with_reducible refine (fiberhelpers_validHeaderFieldByte.calls a0 t191 _ A2.out).mono ?_); rintro e w' ⟨rfl, ⟨nd, rfl⟩⟩; refine ⟨_, rfl, ?_⟩))
  go_ret
  exact ⟨by first | rfl | (simp; done) | (rw [prx_ne]; first | done | rfl) | (simp [*]; done), by repeat (first | exact Drawn0.refl _ | apply Drawn0.step)⟩

/-! ### impl_FieldByte: function 24 -/
def impl_FieldByte.f (a0 : Int) : Option (Bool) := (fiberhelpers_ZzField.f a0).bind fun t192 => (some t192)
set_option maxHeartbeats 8000000 in
set_option maxRecDepth 100000 in
theorem impl_FieldByte.calls (a0 : Int) (r : Bool) (w : World) (h : impl_FieldByte.f a0 = some r) :
    Calls Try.prog 24 #[.int .u8 a0] w fun e w' => e = .returned (.bool r) ∧ Drawn0 w w' := by
  have H : ((fiberhelpers_ZzField.f a0).bind fun t192 => (some t192)) = some r := h
  clear h
  replace H := Option.bind_eq_some_iff.mp H
  obtain ⟨t192, A20, H⟩ := H
  replace H : (some t192) = some r := H
  have A2 := Aside0.mk A20
  clear A20
  obtain rfl := Option.some.inj H
  go_enter Try.func24, Try.ntmps24
  go_wp2_with (first | ((with_reducible refine gate_callee (f := 46) rfl ?_); refine goesL_ (some 4) rfl rfl Try.func46 (by kernel_rfl) rfl #[.int .u8 a0] rfl (by (try simp only [List.map_toArray, List.map_cons, List.map_nil]); first | done | rfl | (simp only [List.length_drop, List.length_take]; rfl)) ?_; (with_reducible refine (fiberhelpers_ZzField.calls a0 t192 _ A2.out).mono ?_); rintro e w' ⟨rfl, ⟨nd, rfl⟩⟩; refine ⟨_, rfl, ?_⟩))
  go_ret
  exact ⟨by first | rfl | (simp; done) | (rw [prx_ne]; first | done | rfl) | (simp [*]; done), by repeat (first | exact Drawn0.refl _ | apply Drawn0.step)⟩

end Go.Proofs.Ytdfeojkombmiaaa.QA
