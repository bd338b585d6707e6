/- Printed by wip/pr.py (a program of this repo over the print program of the kit). Not trusted: Lean checks it. -/
import Derived.Test.YtkbmababljcabaaQA0
namespace Go.Proofs.Ytkbmababljcabaa.QA
open Go.Proofs.Ytkbmababljcabaa.Given
open Go.Proofs.Ytkbmababljcabaa.PrX
open Go.RowKit Go.Proofs.YtkbmababljcabaaW.PrintWords Go.Proofs.YtkbmababljcabaaW.PrintLast Go.Proofs.YtkbmababljcabaaW.PrintMore
attribute [local go_sem] max2_int min2_int max_two min_two max_three min_three max_four min_four   -- for this text's walks alone
set_option linter.unusedVariables false
set_option linter.unusedSimpArgs false

/-! ### fiberhelpers_validHeaderFieldByte: function 84 -/
def fiberhelpers_validHeaderFieldByte.f (a0 : Int) : Option (Bool) := if 0 ≤ a0 then (some ((Go.bits .or .u64 (Go.bits .and .u64 (shl .u64 1 a0) 288068722172624896) (Go.bits .and .u64 (shl .u64 1 ((a0 - 64) % 256)) 6341068274398134270)) != 0)) else (none)
set_option maxHeartbeats 8000000 in
set_option maxRecDepth 100000 in
theorem fiberhelpers_validHeaderFieldByte.calls (a0 : Int) (r : Bool) (w : World) (h : fiberhelpers_validHeaderFieldByte.f a0 = some r) :
    Calls Try.prog 84 #[.int .u8 a0] w fun e w' => e = .returned (.bool r) ∧ Drawn0 w w' := by
  have H : (if 0 ≤ a0 then (some ((Go.bits .or .u64 (Go.bits .and .u64 (shl .u64 1 a0) 288068722172624896) (Go.bits .and .u64 (shl .u64 1 ((a0 - 64) % 256)) 6341068274398134270)) != 0)) else (none)) = some r := h
  clear h
  by_cases c2 : 0 ≤ a0
  · rw [if_pos c2] at H
    have c2b0 := eq_true c2
    have c2b1 : decide (0 ≤ a0) = true := decide_eq_true c2
    clear c2
    obtain ⟨ji3, hji3⟩ : ∃ j_ : Int, (shl .u64 1 a0) = j_ := ⟨_, rfl⟩
    replace H : (some ((Go.bits .or .u64 (Go.bits .and .u64 (ji3) 288068722172624896) (Go.bits .and .u64 (shl .u64 1 ((a0 - 64) % 256)) 6341068274398134270)) != 0)) = some r := by first | (rw [hji3] at H; exact H) | (simp only [hji3] at H ⊢; exact H)
    try (have hji3n : 0 ≤ a0 := by omega)
    have hji3_ : (IntKind.u64.wrap (1 * 2 ^ min a0.toNat 64)) = ji3 := hji3
    have hji3z : a0 ≤ 64 → (IntKind.u64.wrap (1 * 2 ^ a0.toNat)) = ji3 := shl_small hji3
    have hji3u : (IntKind.u64.wrap (2 ^ min a0.toNat 64)) = ji3 := by have h_ := hji3_; rw [Int.one_mul] at h_; exact h_
    have hji3v : a0 ≤ 64 → (IntKind.u64.wrap (2 ^ a0.toNat)) = ji3 := fun hle_ => by have h_ := hji3z hle_; rw [Int.one_mul] at h_; exact h_
    obtain ⟨ji4, hji4⟩ : ∃ j_ : Int, (shl .u64 1 ((a0 - 64) % 256)) = j_ := ⟨_, rfl⟩
    replace H : (some ((Go.bits .or .u64 (Go.bits .and .u64 (ji3) 288068722172624896) (Go.bits .and .u64 (ji4) 6341068274398134270)) != 0)) = some r := by first | (rw [hji4] at H; exact H) | (simp only [hji4] at H ⊢; exact H)
    try (have hji4n : 0 ≤ ((a0 - 64) % 256) := by omega)
    have hji4_ : (IntKind.u64.wrap (1 * 2 ^ min ((a0 - 64) % 256).toNat 64)) = ji4 := hji4
    have hji4z : ((a0 - 64) % 256) ≤ 64 → (IntKind.u64.wrap (1 * 2 ^ ((a0 - 64) % 256).toNat)) = ji4 := shl_small hji4
    have hji4u : (IntKind.u64.wrap (2 ^ min ((a0 - 64) % 256).toNat 64)) = ji4 := by have h_ := hji4_; rw [Int.one_mul] at h_; exact h_
    have hji4v : ((a0 - 64) % 256) ≤ 64 → (IntKind.u64.wrap (2 ^ ((a0 - 64) % 256).toNat)) = ji4 := fun hle_ => by have h_ := hji4z hle_; rw [Int.one_mul] at h_; exact h_
    obtain rfl := Option.some.inj H
    go_enter Try.func84, Try.ntmps84
    go_wp2
    go_ret
    exact ⟨by first | rfl | (simp; done) | (simp only [← hji3, ← hji4] <;> (first | rfl | simp)) | (rw [prx_ne]; first | done | rfl) | (simp [*]; done), by repeat (first | exact Drawn0.refl _ | apply Drawn0.step)⟩
  · rw [if_neg c2] at H
    exact absurd H (by simp)

-- NOT PRINTED: function 71 (fiberhelpers_forEachParameter)

-- given: function 74 (fiberhelpers_paramsMatch)

-- NOT PRINTED: function 94 (bytealg_IndexByteString)

-- NOT PRINTED: function 89 (stringslite_IndexByte)

-- given: function 78 (strings_IndexByte)

/-! ### stringslite_HasPrefix: function 93 -/
def stringslite_HasPrefix.f (a0 : ByteArray) (a1 : ByteArray) : Option (Bool) := if (a0.size : Int) ≥ (a1.size : Int) then (if 0 ≤ (a1.size : Int) then (if (a1.size : Int) ≤ (a0.size : Int) then (some ((a0.extract 0 ((a1.size : Int) : Int).toNat).toList == a1.toList)) else (none)) else (none)) else (some false)
set_option maxHeartbeats 8000000 in
set_option maxRecDepth 100000 in
theorem stringslite_HasPrefix.calls (a0 : ByteArray) (a1 : ByteArray) (r : Bool) (w : World) (h : stringslite_HasPrefix.f a0 a1 = some r) :
    Calls Try.prog 93 #[.string a0, .string a1] w fun e w' => e = .returned (.bool r) ∧ Drawn0 w w' := by
  have H : (if (a0.size : Int) ≥ (a1.size : Int) then (if 0 ≤ (a1.size : Int) then (if (a1.size : Int) ≤ (a0.size : Int) then (some ((a0.extract 0 ((a1.size : Int) : Int).toNat).toList == a1.toList)) else (none)) else (none)) else (some false)) = some r := h
  clear h
  by_cases c3 : (a0.size : Int) ≥ (a1.size : Int)
  · rw [if_pos c3] at H
    have c3b0 : decide ((a1.size : Int) ≤ (a0.size : Int)) = true := decide_eq_true c3
    have c3b1 : decide (a1.size ≤ a0.size) = true := decide_eq_true (Int.ofNat_le.mp c3)
    clear c3
    by_cases c4 : 0 ≤ (a1.size : Int)
    · rw [if_pos c4] at H
      have c4b0 := eq_true c4
      have c4b1 : decide (0 ≤ (a1.size : Int)) = true := decide_eq_true c4
      clear c4
      by_cases c5 : (a1.size : Int) ≤ (a0.size : Int)
      · rw [if_pos c5] at H
        have c5b0 := eq_true c5
        have c5b1 : decide ((a1.size : Int) ≤ (a0.size : Int)) = true := decide_eq_true c5
        clear c5
        obtain rfl := Option.some.inj H
        go_enter Try.func93, Try.ntmps93
        go_wp2
        go_ret
        exact ⟨by first | rfl | (simp; done) | (rw [prx_ne]; first | done | rfl) | (simp [*]; done), by repeat (first | exact Drawn0.refl _ | apply Drawn0.step)⟩
      · rw [if_neg c5] at H
        exact absurd H (by simp)
    · rw [if_neg c4] at H
      exact absurd H (by simp)
  · rw [if_neg c3] at H
    have c3b0 : decide ((a1.size : Int) ≤ (a0.size : Int)) = false := decide_eq_false c3
    have c3b1 : decide (a1.size ≤ a0.size) = false := decide_eq_false (fun h => c3 (Int.ofNat_le.mpr h))
    clear c3
    obtain rfl := Option.some.inj H
    go_enter Try.func93, Try.ntmps93
    go_wp2
    go_ret
    exact ⟨by first | rfl | (simp; done) | (rw [prx_ne]; first | done | rfl) | (simp [*]; done), by repeat (first | exact Drawn0.refl _ | apply Drawn0.step)⟩

/-! ### strings_HasPrefix: function 88 -/
def strings_HasPrefix.f (a0 : ByteArray) (a1 : ByteArray) : Option (Bool) := (stringslite_HasPrefix.f a0 a1).bind fun t101 => (some t101)
set_option maxHeartbeats 8000000 in
set_option maxRecDepth 100000 in
theorem strings_HasPrefix.calls (a0 : ByteArray) (a1 : ByteArray) (r : Bool) (w : World) (h : strings_HasPrefix.f a0 a1 = some r) :
    Calls Try.prog 88 #[.string a0, .string a1] w fun e w' => e = .returned (.bool r) ∧ Drawn0 w w' := by
  have H : ((stringslite_HasPrefix.f a0 a1).bind fun t101 => (some t101)) = some r := h
  clear h
  replace H := Option.bind_eq_some_iff.mp H
  obtain ⟨t101, A30, H⟩ := H
  replace H : (some t101) = some r := H
  have A3 := Aside0.mk A30
  clear A30
  obtain rfl := Option.some.inj H
  go_enter Try.func88, Try.ntmps88
  go_wp2_with (first | ((with_reducible refine gate_callee (f := 93) rfl ?_); refine goesL_ (some 7) rfl rfl Try.func93 (by kernel_rfl) rfl #[.string a0, .string a1] rfl (by (try simp only [List.map_toArray, List.map_cons, List.map_nil]); first | done | rfl | (simp only [List.length_drop, List.length_take]; rfl)) ?_; (with_reducible refine (stringslite_HasPrefix.calls a0 a1 t101 _ A3.out).mono ?_); rintro e w' ⟨rfl, ⟨nd, rfl⟩⟩; refine ⟨_, rfl, ?_⟩))
  go_ret
  exact ⟨by first | rfl | (simp; done) | (rw [prx_ne]; first | done | rfl) | (simp [*]; done), by repeat (first | exact Drawn0.refl _ | apply Drawn0.step)⟩

end Go.Proofs.Ytkbmababljcabaa.QA
