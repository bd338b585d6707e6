/- Texts of this claim, one behind the other (merged by wip/prune.py of this repo, without what the proof does not use): QA25, QA26, QA28, QA30, QA1, QA23. -/
import Derived.Test.YtgmjaggkiifdjaaDoorZS4
set_option linter.unusedVariables false
set_option linter.unusedSimpArgs false
namespace Go.Proofs.YtgmjaggkiifdjaaDoor.QA
open Go.Proofs.YtgmjaggkiifdjaaDoor.Given
open Go.Proofs.YtgmjaggkiifdjaaDoor.PrX
open Go.RowKit Go.Proofs.YtgmjaggkiifdjaaDoorW.PrintWords Go.Proofs.YtgmjaggkiifdjaaDoorW.PrintLast Go.Proofs.YtgmjaggkiifdjaaDoorW.PrintMore
def fiberhelpers_IsMethodIdempotent.f (a0 : ByteArray) : Option (Bool) := (fiberhelpers_IsMethodSafe.f a0).bind fun t139 => (if t139 = true then (some true) else (if a0.toList = ([80, 85, 84] : List UInt8) then (some true) else (if a0.toList = ([68, 69, 76, 69, 84, 69] : List UInt8) then (some true) else (some false))))
set_option maxHeartbeats 8000000 in
set_option maxRecDepth 100000 in
theorem fiberhelpers_IsMethodIdempotent.calls (a0 : ByteArray) (r : Bool) (w : World) (h : fiberhelpers_IsMethodIdempotent.f a0 = some r) :
    Calls Tryd.prog 63 #[.string a0] w fun e w' => e = .returned (.bool r) ∧ Drawn0 w w' := by
  have H : ((fiberhelpers_IsMethodSafe.f a0).bind fun t139 => (if t139 = true then (some true) else (if a0.toList = ([80, 85, 84] : List UInt8) then (some true) else (if a0.toList = ([68, 69, 76, 69, 84, 69] : List UInt8) then (some true) else (some false))))) = some r := h
  clear h
  replace H := Option.bind_eq_some_iff.mp H
  obtain ⟨t139, A20, H⟩ := H
  replace H : (if t139 = true then (some true) else (if a0.toList = ([80, 85, 84] : List UInt8) then (some true) else (if a0.toList = ([68, 69, 76, 69, 84, 69] : List UInt8) then (some true) else (some false)))) = some r := H
  have A2 := Aside0.mk A20
  clear A20
  by_cases c3 : t139 = true
  · subst c3
    have H1 : (some true) = some r := by rw [if_pos rfl] at H; exact H
    clear H
    have H := H1
    clear H1
    obtain rfl := Option.some.inj H
    go_enter Tryd.func63, Tryd.ntmps63
    go_wp2_with (first | ((with_reducible refine gate_callee (f := 62) rfl ?_); refine goesL_ (some 4) rfl rfl Tryd.func62 (by kernel_rfl) rfl #[.string a0] rfl (by (try simp only [List.map_toArray, List.map_cons, List.map_nil]); first | done | rfl | (simp only [List.length_drop, List.length_take]; rfl)) ?_; (with_reducible refine (fiberhelpers_IsMethodSafe.calls a0 true _ A2.out).mono ?_); rintro e w' ⟨rfl, ⟨nd, rfl⟩⟩; refine ⟨_, rfl, ?_⟩))
    go_ret
    exact ⟨by first | rfl | (simp; done) | (rw [prx_ne]; first | done | rfl) | (simp [*]; done), by repeat (first | exact Drawn0.refl _ | apply Drawn0.step)⟩
  · replace c3 := Bool.eq_false_iff.mpr c3
    subst c3
    have H1 : (if a0.toList = ([80, 85, 84] : List UInt8) then (some true) else (if a0.toList = ([68, 69, 76, 69, 84, 69] : List UInt8) then (some true) else (some false))) = some r := by rw [if_neg (show ¬ (false = true) by decide)] at H; exact H
    clear H
    have H := H1
    clear H1
    by_cases c4 : a0.toList = ([80, 85, 84] : List UInt8)
    · rw [if_pos c4] at H
      have c4b0 : (a0.toList == ([80, 85, 84] : List UInt8)) = true := beq_iff_eq.mpr c4
      have c4b1 : (a0.toList != ([80, 85, 84] : List UInt8)) = false := bne_eq_false_iff_eq.mpr c4
      clear c4
      obtain rfl := Option.some.inj H
      go_enter Tryd.func63, Tryd.ntmps63
      go_wp2_with (first | ((with_reducible refine gate_callee (f := 62) rfl ?_); refine goesL_ (some 4) rfl rfl Tryd.func62 (by kernel_rfl) rfl #[.string a0] rfl (by (try simp only [List.map_toArray, List.map_cons, List.map_nil]); first | done | rfl | (simp only [List.length_drop, List.length_take]; rfl)) ?_; (with_reducible refine (fiberhelpers_IsMethodSafe.calls a0 false _ A2.out).mono ?_); rintro e w' ⟨rfl, ⟨nd, rfl⟩⟩; refine ⟨_, rfl, ?_⟩))
      go_ret
      exact ⟨by first | rfl | (simp; done) | (rw [prx_ne]; first | done | rfl) | (simp [*]; done), by repeat (first | exact Drawn0.refl _ | apply Drawn0.step)⟩
    · rw [if_neg c4] at H
      have c4b0 : (a0.toList == ([80, 85, 84] : List UInt8)) = false := beq_eq_false_iff_ne.mpr c4
      have c4b1 : (a0.toList != ([80, 85, 84] : List UInt8)) = true := bne_iff_ne.mpr c4
      by_cases c5 : a0.toList = ([68, 69, 76, 69, 84, 69] : List UInt8)
      · rw [if_pos c5] at H
        have c5b0 : (a0.toList == ([68, 69, 76, 69, 84, 69] : List UInt8)) = true := beq_iff_eq.mpr c5
        have c5b1 : (a0.toList != ([68, 69, 76, 69, 84, 69] : List UInt8)) = false := bne_eq_false_iff_eq.mpr c5
        clear c5
        obtain rfl := Option.some.inj H
        go_enter Tryd.func63, Tryd.ntmps63
        go_wp2_with (first | ((with_reducible refine gate_callee (f := 62) rfl ?_); refine goesL_ (some 4) rfl rfl Tryd.func62 (by kernel_rfl) rfl #[.string a0] rfl (by (try simp only [List.map_toArray, List.map_cons, List.map_nil]); first | done | rfl | (simp only [List.length_drop, List.length_take]; rfl)) ?_; (with_reducible refine (fiberhelpers_IsMethodSafe.calls a0 false _ A2.out).mono ?_); rintro e w' ⟨rfl, ⟨nd, rfl⟩⟩; refine ⟨_, rfl, ?_⟩))
        go_ret
        exact ⟨by first | rfl | (simp; done) | (rw [prx_ne]; first | done | rfl) | (simp [*]; done), by repeat (first | exact Drawn0.refl _ | apply Drawn0.step)⟩
      · rw [if_neg c5] at H
        have c5b0 : (a0.toList == ([68, 69, 76, 69, 84, 69] : List UInt8)) = false := beq_eq_false_iff_ne.mpr c5
        have c5b1 : (a0.toList != ([68, 69, 76, 69, 84, 69] : List UInt8)) = true := bne_iff_ne.mpr c5
        obtain rfl := Option.some.inj H
        go_enter Tryd.func63, Tryd.ntmps63
        go_wp2_with (first | ((with_reducible refine gate_callee (f := 62) rfl ?_); refine goesL_ (some 4) rfl rfl Tryd.func62 (by kernel_rfl) rfl #[.string a0] rfl (by (try simp only [List.map_toArray, List.map_cons, List.map_nil]); first | done | rfl | (simp only [List.length_drop, List.length_take]; rfl)) ?_; (with_reducible refine (fiberhelpers_IsMethodSafe.calls a0 false _ A2.out).mono ?_); rintro e w' ⟨rfl, ⟨nd, rfl⟩⟩; refine ⟨_, rfl, ?_⟩))
        go_ret
        exact ⟨by first | rfl | (simp; done) | (rw [prx_ne]; first | done | rfl) | (simp [*]; done), by repeat (first | exact Drawn0.refl _ | apply Drawn0.step)⟩
def impl_Idempotent.f (a0 : ByteArray) : Option (Bool) := (fiberhelpers_IsMethodIdempotent.f a0).bind fun t140 => (some t140)
set_option maxHeartbeats 8000000 in
set_option maxRecDepth 100000 in
theorem impl_Idempotent.calls (a0 : ByteArray) (r : Bool) (w : World) (h : impl_Idempotent.f a0 = some r) :
    Calls Tryd.prog 31 #[.string a0] w fun e w' => e = .returned (.bool r) ∧ Drawn0 w w' := by
  have H : ((fiberhelpers_IsMethodIdempotent.f a0).bind fun t140 => (some t140)) = some r := h
  clear h
  replace H := Option.bind_eq_some_iff.mp H
  obtain ⟨t140, A20, H⟩ := H
  replace H : (some t140) = some r := H
  have A2 := Aside0.mk A20
  clear A20
  obtain rfl := Option.some.inj H
  go_enter Tryd.func31, Tryd.ntmps31
  go_wp2_with (first | ((with_reducible refine gate_callee (f := 63) rfl ?_); refine goesL_ (some 4) rfl rfl Tryd.func63 (by kernel_rfl) rfl #[.string a0] rfl (by (try simp only [List.map_toArray, List.map_cons, List.map_nil]); first | done | rfl | (simp only [List.length_drop, List.length_take]; rfl)) ?_; (with_reducible refine (fiberhelpers_IsMethodIdempotent.calls a0 t140 _ A2.out).mono ?_); rintro e w' ⟨rfl, ⟨nd, rfl⟩⟩; refine ⟨_, rfl, ?_⟩))
  go_ret
  exact ⟨by first | rfl | (simp; done) | (rw [prx_ne]; first | done | rfl) | (simp [*]; done), by repeat (first | exact Drawn0.refl _ | apply Drawn0.step)⟩
def spec_Idempotent.f (a0 : ByteArray) : Option (Bool) := (spec_Safe.f a0).bind fun t141 => (if t141 = true then (some true) else (if a0.toList = ([80, 85, 84] : List UInt8) then (some true) else (some (a0.toList == ([68, 69, 76, 69, 84, 69] : List UInt8)))))
set_option maxHeartbeats 8000000 in
set_option maxRecDepth 100000 in
theorem spec_Idempotent.calls (a0 : ByteArray) (r : Bool) (w : World) (h : spec_Idempotent.f a0 = some r) :
    Calls Tryd.prog 32 #[.string a0] w fun e w' => e = .returned (.bool r) ∧ Drawn0 w w' := by
  have H : ((spec_Safe.f a0).bind fun t141 => (if t141 = true then (some true) else (if a0.toList = ([80, 85, 84] : List UInt8) then (some true) else (some (a0.toList == ([68, 69, 76, 69, 84, 69] : List UInt8)))))) = some r := h
  clear h
  replace H := Option.bind_eq_some_iff.mp H
  obtain ⟨t141, A20, H⟩ := H
  replace H : (if t141 = true then (some true) else (if a0.toList = ([80, 85, 84] : List UInt8) then (some true) else (some (a0.toList == ([68, 69, 76, 69, 84, 69] : List UInt8))))) = some r := H
  have A2 := Aside0.mk A20
  clear A20
  by_cases c3 : t141 = true
  · subst c3
    have H1 : (some true) = some r := by rw [if_pos rfl] at H; exact H
    clear H
    have H := H1
    clear H1
    obtain rfl := Option.some.inj H
    go_enter Tryd.func32, Tryd.ntmps32
    go_wp2_with (first | ((with_reducible refine gate_callee (f := 30) rfl ?_); refine goesL_ (some 4) rfl rfl Tryd.func30 (by kernel_rfl) rfl #[.string a0] rfl (by (try simp only [List.map_toArray, List.map_cons, List.map_nil]); first | done | rfl | (simp only [List.length_drop, List.length_take]; rfl)) ?_; (with_reducible refine (spec_Safe.calls a0 true _ A2.out).mono ?_); rintro e w' ⟨rfl, ⟨nd, rfl⟩⟩; refine ⟨_, rfl, ?_⟩))
    go_ret
    exact ⟨by first | rfl | (simp; done) | (rw [prx_ne]; first | done | rfl) | (simp [*]; done), by repeat (first | exact Drawn0.refl _ | apply Drawn0.step)⟩
  · replace c3 := Bool.eq_false_iff.mpr c3
    subst c3
    have H1 : (if a0.toList = ([80, 85, 84] : List UInt8) then (some true) else (some (a0.toList == ([68, 69, 76, 69, 84, 69] : List UInt8)))) = some r := by rw [if_neg (show ¬ (false = true) by decide)] at H; exact H
    clear H
    have H := H1
    clear H1
    by_cases c4 : a0.toList = ([80, 85, 84] : List UInt8)
    · rw [if_pos c4] at H
      have c4b0 : (a0.toList == ([80, 85, 84] : List UInt8)) = true := beq_iff_eq.mpr c4
      have c4b1 : (a0.toList != ([80, 85, 84] : List UInt8)) = false := bne_eq_false_iff_eq.mpr c4
      clear c4
      obtain rfl := Option.some.inj H
      go_enter Tryd.func32, Tryd.ntmps32
      go_wp2_with (first | ((with_reducible refine gate_callee (f := 30) rfl ?_); refine goesL_ (some 4) rfl rfl Tryd.func30 (by kernel_rfl) rfl #[.string a0] rfl (by (try simp only [List.map_toArray, List.map_cons, List.map_nil]); first | done | rfl | (simp only [List.length_drop, List.length_take]; rfl)) ?_; (with_reducible refine (spec_Safe.calls a0 false _ A2.out).mono ?_); rintro e w' ⟨rfl, ⟨nd, rfl⟩⟩; refine ⟨_, rfl, ?_⟩))
      go_ret
      exact ⟨by first | rfl | (simp; done) | (rw [prx_ne]; first | done | rfl) | (simp [*]; done), by repeat (first | exact Drawn0.refl _ | apply Drawn0.step)⟩
    · rw [if_neg c4] at H
      have c4b0 : (a0.toList == ([80, 85, 84] : List UInt8)) = false := beq_eq_false_iff_ne.mpr c4
      have c4b1 : (a0.toList != ([80, 85, 84] : List UInt8)) = true := bne_iff_ne.mpr c4
      obtain rfl := Option.some.inj H
      go_enter Tryd.func32, Tryd.ntmps32
      go_wp2_with (first | ((with_reducible refine gate_callee (f := 30) rfl ?_); refine goesL_ (some 4) rfl rfl Tryd.func30 (by kernel_rfl) rfl #[.string a0] rfl (by (try simp only [List.map_toArray, List.map_cons, List.map_nil]); first | done | rfl | (simp only [List.length_drop, List.length_take]; rfl)) ?_; (with_reducible refine (spec_Safe.calls a0 false _ A2.out).mono ?_); rintro e w' ⟨rfl, ⟨nd, rfl⟩⟩; refine ⟨_, rfl, ?_⟩))
      go_ret
      exact ⟨by first | rfl | (simp; done) | (rw [prx_ne]; first | done | rfl) | (simp [*]; done), by repeat (first | exact Drawn0.refl _ | apply Drawn0.step)⟩
def fiberhelpers_validHeaderFieldByte.f (a0 : Int) : Option (Bool) := if 0 ≤ a0 then (some ((Go.bits .or .u64 (Go.bits .and .u64 (shl .u64 1 a0) 288068722172624896) (Go.bits .and .u64 (shl .u64 1 ((a0 - 64) % 256)) 6341068274398134270)) != 0)) else (none)
set_option maxHeartbeats 8000000 in
set_option maxRecDepth 100000 in
theorem fiberhelpers_validHeaderFieldByte.calls (a0 : Int) (r : Bool) (w : World) (h : fiberhelpers_validHeaderFieldByte.f a0 = some r) :
    Calls Tryd.prog 87 #[.int .u8 a0] w fun e w' => e = .returned (.bool r) ∧ Drawn0 w w' := by
  have H : (if 0 ≤ a0 then (some ((Go.bits .or .u64 (Go.bits .and .u64 (shl .u64 1 a0) 288068722172624896) (Go.bits .and .u64 (shl .u64 1 ((a0 - 64) % 256)) 6341068274398134270)) != 0)) else (none)) = some r := h
  clear h
  by_cases c2 : 0 ≤ a0
  · rw [if_pos c2] at H
    have c2b0 := eq_true c2
    have c2b1 : decide (0 ≤ a0) = true := decide_eq_true c2
    clear c2
    obtain ⟨ji3, hji3⟩ : ∃ j_ : Int, (shl .u64 1 a0) = j_ := ⟨_, rfl⟩
    replace H : (some ((Go.bits .or .u64 (Go.bits .and .u64 (ji3) 288068722172624896) (Go.bits .and .u64 (shl .u64 1 ((a0 - 64) % 256)) 6341068274398134270)) != 0)) = some r := by first | (rw [hji3] at H; exact H) | (simp only [hji3] at H ⊢; exact H)
    try (have hji3n : 0 ≤ a0 := by omega)
    have hji3_ : (IntKind.u64.wrap (1 * 2 ^ min a0.toNat 64)) = ji3 := hji3
    have hji3z : a0 ≤ 64 → (IntKind.u64.wrap (1 * 2 ^ a0.toNat)) = ji3 := shl_small hji3
    have hji3u : (IntKind.u64.wrap (2 ^ min a0.toNat 64)) = ji3 := by have h_ := hji3_; rw [Int.one_mul] at h_; exact h_
    have hji3v : a0 ≤ 64 → (IntKind.u64.wrap (2 ^ a0.toNat)) = ji3 := fun hle_ => by have h_ := hji3z hle_; rw [Int.one_mul] at h_; exact h_
    obtain ⟨ji4, hji4⟩ : ∃ j_ : Int, (shl .u64 1 ((a0 - 64) % 256)) = j_ := ⟨_, rfl⟩
    replace H : (some ((Go.bits .or .u64 (Go.bits .and .u64 (ji3) 288068722172624896) (Go.bits .and .u64 (ji4) 6341068274398134270)) != 0)) = some r := by first | (rw [hji4] at H; exact H) | (simp only [hji4] at H ⊢; exact H)
    try (have hji4n : 0 ≤ ((a0 - 64) % 256) := by omega)
    have hji4_ : (IntKind.u64.wrap (1 * 2 ^ min ((a0 - 64) % 256).toNat 64)) = ji4 := hji4
    have hji4z : ((a0 - 64) % 256) ≤ 64 → (IntKind.u64.wrap (1 * 2 ^ ((a0 - 64) % 256).toNat)) = ji4 := shl_small hji4
    have hji4u : (IntKind.u64.wrap (2 ^ min ((a0 - 64) % 256).toNat 64)) = ji4 := by have h_ := hji4_; rw [Int.one_mul] at h_; exact h_
    have hji4v : ((a0 - 64) % 256) ≤ 64 → (IntKind.u64.wrap (2 ^ ((a0 - 64) % 256).toNat)) = ji4 := fun hle_ => by have h_ := hji4z hle_; rw [Int.one_mul] at h_; exact h_
    obtain rfl := Option.some.inj H
    go_enter Tryd.func87, Tryd.ntmps87
    go_wp2
    go_ret
    exact ⟨by first | rfl | (simp; done) | (simp only [← hji3, ← hji4] <;> (first | rfl | simp)) | (rw [prx_ne]; first | done | rfl) | (simp [*]; done), by repeat (first | exact Drawn0.refl _ | apply Drawn0.step)⟩
  · rw [if_neg c2] at H
    exact absurd H (by simp)
def fiberhelpers_ZzField.f (a0 : Int) : Option (Bool) := (fiberhelpers_validHeaderFieldByte.f a0).bind fun t142 => (some t142)
set_option maxHeartbeats 8000000 in
set_option maxRecDepth 100000 in
theorem fiberhelpers_ZzField.calls (a0 : Int) (r : Bool) (w : World) (h : fiberhelpers_ZzField.f a0 = some r) :
    Calls Tryd.prog 64 #[.int .u8 a0] w fun e w' => e = .returned (.bool r) ∧ Drawn0 w w' := by
  have H : ((fiberhelpers_validHeaderFieldByte.f a0).bind fun t142 => (some t142)) = some r := h
  clear h
  replace H := Option.bind_eq_some_iff.mp H
  obtain ⟨t142, A20, H⟩ := H
  replace H : (some t142) = some r := H
  have A2 := Aside0.mk A20
  clear A20
  obtain rfl := Option.some.inj H
  go_enter Tryd.func64, Tryd.ntmps64
  go_wp2_with (first | ((with_reducible refine gate_callee (f := 87) rfl ?_); refine goesL_ (some 4) rfl rfl Tryd.func87 (by kernel_rfl) rfl #[.int .u8 a0] rfl (by (try simp only [List.map_toArray, List.map_cons, List.map_nil]); first | done | rfl | (simp only [List.length_drop, List.length_take]; rfl)) ?_; (with_reducible refine (fiberhelpers_validHeaderFieldByte.calls a0 t142 _ A2.out).mono ?_); rintro e w' ⟨rfl, ⟨nd, rfl⟩⟩; refine ⟨_, rfl, ?_⟩))
  go_ret
  exact ⟨by first | rfl | (simp; done) | (rw [prx_ne]; first | done | rfl) | (simp [*]; done), by repeat (first | exact Drawn0.refl _ | apply Drawn0.step)⟩
def impl_FieldByte.f (a0 : Int) : Option (Bool) := (fiberhelpers_ZzField.f a0).bind fun t143 => (some t143)
set_option maxHeartbeats 8000000 in
set_option maxRecDepth 100000 in
theorem impl_FieldByte.calls (a0 : Int) (r : Bool) (w : World) (h : impl_FieldByte.f a0 = some r) :
    Calls Tryd.prog 33 #[.int .u8 a0] w fun e w' => e = .returned (.bool r) ∧ Drawn0 w w' := by
  have H : ((fiberhelpers_ZzField.f a0).bind fun t143 => (some t143)) = some r := h
  clear h
  replace H := Option.bind_eq_some_iff.mp H
  obtain ⟨t143, A20, H⟩ := H
  replace H : (some t143) = some r := H
  have A2 := Aside0.mk A20
  clear A20
  obtain rfl := Option.some.inj H
  go_enter Tryd.func33, Tryd.ntmps33
  go_wp2_with (first | ((with_reducible refine gate_callee (f := 64) rfl ?_); refine goesL_ (some 4) rfl rfl Tryd.func64 (by kernel_rfl) rfl #[.int .u8 a0] rfl (by (try simp only [List.map_toArray, List.map_cons, List.map_nil]); first | done | rfl | (simp only [List.length_drop, List.length_take]; rfl)) ?_; (with_reducible refine (fiberhelpers_ZzField.calls a0 t143 _ A2.out).mono ?_); rintro e w' ⟨rfl, ⟨nd, rfl⟩⟩; refine ⟨_, rfl, ?_⟩))
  go_ret
  exact ⟨by first | rfl | (simp; done) | (rw [prx_ne]; first | done | rfl) | (simp [*]; done), by repeat (first | exact Drawn0.refl _ | apply Drawn0.step)⟩
def spec_fold.f (a0 : Int) : Option (Int) := if a0 ≥ 65 then (if a0 ≤ 90 then (some ((a0 + 32) % 256)) else (some a0)) else (some a0)
set_option maxHeartbeats 8000000 in
set_option maxRecDepth 100000 in
theorem spec_fold.calls (a0 : Int) (r : Int) (w : World) (h : spec_fold.f a0 = some r) :
    Calls Tryd.prog 65 #[.int .u8 a0] w fun e w' => e = .returned (.int .u8 r) ∧ Drawn0 w w' := by
  have H : (if a0 ≥ 65 then (if a0 ≤ 90 then (some ((a0 + 32) % 256)) else (some a0)) else (some a0)) = some r := h
  clear h
  by_cases c2 : a0 ≥ 65
  · rw [if_pos c2] at H
    have c2b0 : decide (65 ≤ a0) = true := decide_eq_true c2
    clear c2
    by_cases c3 : a0 ≤ 90
    · rw [if_pos c3] at H
      have c3b0 : decide (a0 ≤ 90) = true := decide_eq_true c3
      clear c3
      obtain rfl := Option.some.inj H
      go_enter Tryd.func65, Tryd.ntmps65
      go_wp2
      go_ret
      exact ⟨by first | rfl | (simp; done) | (rw [prx_ne]; first | done | rfl) | (simp [*]; done), by repeat (first | exact Drawn0.refl _ | apply Drawn0.step)⟩
    · rw [if_neg c3] at H
      have c3b0 : decide (a0 ≤ 90) = false := decide_eq_false c3
      clear c3
      obtain rfl := Option.some.inj H
      go_enter Tryd.func65, Tryd.ntmps65
      go_wp2
      go_ret
      exact ⟨by first | rfl | (simp; done) | (rw [prx_ne]; first | done | rfl) | (simp [*]; done), by repeat (first | exact Drawn0.refl _ | apply Drawn0.step)⟩
  · rw [if_neg c2] at H
    have c2b0 : decide (65 ≤ a0) = false := decide_eq_false c2
    clear c2
    obtain rfl := Option.some.inj H
    go_enter Tryd.func65, Tryd.ntmps65
    go_wp2
    go_ret
    exact ⟨by first | rfl | (simp; done) | (rw [prx_ne]; first | done | rfl) | (simp [*]; done), by repeat (first | exact Drawn0.refl _ | apply Drawn0.step)⟩
def spec_FieldByte.f (k : Nat) (a0 : Int) : Option (Bool) := if a0 ≥ 48 then (if a0 ≤ 57 then (some true) else ((spec_fold.f a0).bind fun t144 => (if t144 ≥ 97 then ((spec_fold.f a0).bind fun t145 => (if t145 ≤ 122 then (some true) else ((some (([96] : List Int) : List Int)).bind fun y146 => (if 12 + (strOfNums y146).size ≤ 9223372036854775807 then (if ((⟨#[33, 35, 36, 37, 38, 39, 42, 43, 45, 46, 94, 95]⟩ : ByteArray) ++ (strOfNums y146)).size + 2 ≤ 9223372036854775807 then ((spec_place.f k (((⟨#[33, 35, 36, 37, 38, 39, 42, 43, 45, 46, 94, 95]⟩ : ByteArray) ++ (strOfNums y146)) ++ (⟨#[124, 126]⟩ : ByteArray)) a0).bind fun t149 => (some (decide (t149 ≥ 0)))) else (none)) else (none))))) else ((some (([96] : List Int) : List Int)).bind fun y150 => (if 12 + (strOfNums y150).size ≤ 9223372036854775807 then (if ((⟨#[33, 35, 36, 37, 38, 39, 42, 43, 45, 46, 94, 95]⟩ : ByteArray) ++ (strOfNums y150)).size + 2 ≤ 9223372036854775807 then ((spec_place.f k (((⟨#[33, 35, 36, 37, 38, 39, 42, 43, 45, 46, 94, 95]⟩ : ByteArray) ++ (strOfNums y150)) ++ (⟨#[124, 126]⟩ : ByteArray)) a0).bind fun t153 => (some (decide (t153 ≥ 0)))) else (none)) else (none)))))) else ((spec_fold.f a0).bind fun t154 => (if t154 ≥ 97 then ((spec_fold.f a0).bind fun t155 => (if t155 ≤ 122 then (some true) else ((some (([96] : List Int) : List Int)).bind fun y156 => (if 12 + (strOfNums y156).size ≤ 9223372036854775807 then (if ((⟨#[33, 35, 36, 37, 38, 39, 42, 43, 45, 46, 94, 95]⟩ : ByteArray) ++ (strOfNums y156)).size + 2 ≤ 9223372036854775807 then ((spec_place.f k (((⟨#[33, 35, 36, 37, 38, 39, 42, 43, 45, 46, 94, 95]⟩ : ByteArray) ++ (strOfNums y156)) ++ (⟨#[124, 126]⟩ : ByteArray)) a0).bind fun t159 => (some (decide (t159 ≥ 0)))) else (none)) else (none))))) else ((some (([96] : List Int) : List Int)).bind fun y160 => (if 12 + (strOfNums y160).size ≤ 9223372036854775807 then (if ((⟨#[33, 35, 36, 37, 38, 39, 42, 43, 45, 46, 94, 95]⟩ : ByteArray) ++ (strOfNums y160)).size + 2 ≤ 9223372036854775807 then ((spec_place.f k (((⟨#[33, 35, 36, 37, 38, 39, 42, 43, 45, 46, 94, 95]⟩ : ByteArray) ++ (strOfNums y160)) ++ (⟨#[124, 126]⟩ : ByteArray)) a0).bind fun t163 => (some (decide (t163 ≥ 0)))) else (none)) else (none)))))
theorem spec_FieldByte.mono : ∀ a0 k, LeO (spec_FieldByte.f k a0) (spec_FieldByte.f (k + 1) a0) := by
  intro a0 k
  unfold spec_FieldByte.f
  repeat' first
      | (with_reducible exact spec_place.mono _ _ _)
      | (with_reducible exact LeO.refl _)
      | (with_reducible exact LeO.none _)
      | (with_reducible refine LeO.ite ?_ ?_)
      | (with_reducible refine LeO.bind ?_ (fun _ => ?_))
      | exact spec_place.mono _ _ _
      | exact LeO.none _
      | refine LeO.ite ?_ ?_
      | refine LeO.bind ?_ (fun _ => ?_)
set_option maxHeartbeats 8000000 in
set_option maxRecDepth 100000 in
theorem spec_FieldByte.calls (k : Nat) (a0 : Int) (r : Bool) (w : World) (h : spec_FieldByte.f k a0 = some r) :
  Calls Tryd.prog 34 #[.int .u8 a0] w fun e w' => e = .returned (.bool r) ∧ Below w.heap.size w w' := by
 have HB := Aside0.mk (Below.refl w.heap.size w)
 have H : (if a0 ≥ 48 then (if a0 ≤ 57 then (some true) else ((spec_fold.f a0).bind fun t144 => (if t144 ≥ 97 then ((spec_fold.f a0).bind fun t145 => (if t145 ≤ 122 then (some true) else ((some (([96] : List Int) : List Int)).bind fun y146 => (if 12 + (strOfNums y146).size ≤ 9223372036854775807 then (if ((⟨#[33, 35, 36, 37, 38, 39, 42, 43, 45, 46, 94, 95]⟩ : ByteArray) ++ (strOfNums y146)).size + 2 ≤ 9223372036854775807 then ((spec_place.f k (((⟨#[33, 35, 36, 37, 38, 39, 42, 43, 45, 46, 94, 95]⟩ : ByteArray) ++ (strOfNums y146)) ++ (⟨#[124, 126]⟩ : ByteArray)) a0).bind fun t149 => (some (decide (t149 ≥ 0)))) else (none)) else (none))))) else ((some (([96] : List Int) : List Int)).bind fun y150 => (if 12 + (strOfNums y150).size ≤ 9223372036854775807 then (if ((⟨#[33, 35, 36, 37, 38, 39, 42, 43, 45, 46, 94, 95]⟩ : ByteArray) ++ (strOfNums y150)).size + 2 ≤ 9223372036854775807 then ((spec_place.f k (((⟨#[33, 35, 36, 37, 38, 39, 42, 43, 45, 46, 94, 95]⟩ : ByteArray) ++ (strOfNums y150)) ++ (⟨#[124, 126]⟩ : ByteArray)) a0).bind fun t153 => (some (decide (t153 ≥ 0)))) else (none)) else (none)))))) else ((spec_fold.f a0).bind fun t154 => (if t154 ≥ 97 then ((spec_fold.f a0).bind fun t155 => (if t155 ≤ 122 then (some true) else ((some (([96] : List Int) : List Int)).bind fun y156 => (if 12 + (strOfNums y156).size ≤ 9223372036854775807 then (if ((⟨#[33, 35, 36, 37, 38, 39, 42, 43, 45, 46, 94, 95]⟩ : ByteArray) ++ (strOfNums y156)).size + 2 ≤ 9223372036854775807 then ((spec_place.f k (((⟨#[33, 35, 36, 37, 38, 39, 42, 43, 45, 46, 94, 95]⟩ : ByteArray) ++ (strOfNums y156)) ++ (⟨#[124, 126]⟩ : ByteArray)) a0).bind fun t159 => (some (decide (t159 ≥ 0)))) else (none)) else (none))))) else ((some (([96] : List Int) : List Int)).bind fun y160 => (if 12 + (strOfNums y160).size ≤ 9223372036854775807 then (if ((⟨#[33, 35, 36, 37, 38, 39, 42, 43, 45, 46, 94, 95]⟩ : ByteArray) ++ (strOfNums y160)).size + 2 ≤ 9223372036854775807 then ((spec_place.f k (((⟨#[33, 35, 36, 37, 38, 39, 42, 43, 45, 46, 94, 95]⟩ : ByteArray) ++ (strOfNums y160)) ++ (⟨#[124, 126]⟩ : ByteArray)) a0).bind fun t163 => (some (decide (t163 ≥ 0)))) else (none)) else (none)))))) = some r := h
 clear h
 by_cases c2 : a0 ≥ 48
 ·rw [if_pos c2] at H
  have c2b0 : decide (48 ≤ a0) = true := decide_eq_true c2
  clear c2
  by_cases c3 : a0 ≤ 57
  ·rw [if_pos c3] at H
   have c3b0 : decide (a0 ≤ 57) = true := decide_eq_true c3
   clear c3
   obtain rfl := Option.some.inj H
   go_enter Tryd.func34, Tryd.ntmps34
   go_wp2
   go_ret
   exact ⟨by first | rfl | (simp [errW_none, errW_some] <;> rfl) | (simp [*, errW_none, errW_some] <;> rfl), by repeat (first | (with_reducible first | exact HB.out | apply below_alloc | apply pw_below_drewN | apply below_drew1) | exact HB.out)⟩
  ·rw [if_neg c3] at H
   have c3b0 : decide (a0 ≤ 57) = false := decide_eq_false c3
   clear c3
   replace H := Option.bind_eq_some_iff.mp H
   obtain ⟨t144, A40, H⟩ := H
   replace H : (if t144 ≥ 97 then ((spec_fold.f a0).bind fun t145 => (if t145 ≤ 122 then (some true) else ((some (([96] : List Int) : List Int)).bind fun y146 => (if 12 + (strOfNums y146).size ≤ 9223372036854775807 then (if ((⟨#[33, 35, 36, 37, 38, 39, 42, 43, 45, 46, 94, 95]⟩ : ByteArray) ++ (strOfNums y146)).size + 2 ≤ 9223372036854775807 then ((spec_place.f k (((⟨#[33, 35, 36, 37, 38, 39, 42, 43, 45, 46, 94, 95]⟩ : ByteArray) ++ (strOfNums y146)) ++ (⟨#[124, 126]⟩ : ByteArray)) a0).bind fun t149 => (some (decide (t149 ≥ 0)))) else (none)) else (none))))) else ((some (([96] : List Int) : List Int)).bind fun y150 => (if 12 + (strOfNums y150).size ≤ 9223372036854775807 then (if ((⟨#[33, 35, 36, 37, 38, 39, 42, 43, 45, 46, 94, 95]⟩ : ByteArray) ++ (strOfNums y150)).size + 2 ≤ 9223372036854775807 then ((spec_place.f k (((⟨#[33, 35, 36, 37, 38, 39, 42, 43, 45, 46, 94, 95]⟩ : ByteArray) ++ (strOfNums y150)) ++ (⟨#[124, 126]⟩ : ByteArray)) a0).bind fun t153 => (some (decide (t153 ≥ 0)))) else (none)) else (none)))) = some r := H
   have A4 := Aside0.mk A40
   clear A40
   by_cases c5 : t144 ≥ 97
   ·rw [if_pos c5] at H
    have c5b0 : decide (97 ≤ t144) = true := decide_eq_true c5
    clear c5
    replace H := Option.bind_eq_some_iff.mp H
    obtain ⟨t145, A60, H⟩ := H
    replace H : (if t145 ≤ 122 then (some true) else ((some (([96] : List Int) : List Int)).bind fun y146 => (if 12 + (strOfNums y146).size ≤ 9223372036854775807 then (if ((⟨#[33, 35, 36, 37, 38, 39, 42, 43, 45, 46, 94, 95]⟩ : ByteArray) ++ (strOfNums y146)).size + 2 ≤ 9223372036854775807 then ((spec_place.f k (((⟨#[33, 35, 36, 37, 38, 39, 42, 43, 45, 46, 94, 95]⟩ : ByteArray) ++ (strOfNums y146)) ++ (⟨#[124, 126]⟩ : ByteArray)) a0).bind fun t149 => (some (decide (t149 ≥ 0)))) else (none)) else (none)))) = some r := H
    have A6 := Aside0.mk A60
    clear A60
    by_cases c7 : t145 ≤ 122
    ·rw [if_pos c7] at H
     have c7b0 : decide (t145 ≤ 122) = true := decide_eq_true c7
     clear c7
     try (obtain rfl : t145 = t144 := Option.some.inj (A6.out.symm.trans A4.out))
     obtain rfl := Option.some.inj H
     go_enter Tryd.func34, Tryd.ntmps34
     go_wp2_with (first | (go_at_call 65; (with_reducible refine (spec_fold.calls a0 t145 _ A4.out).mono ?_); rintro e w' ⟨rfl, ⟨nd, rfl⟩⟩) | (go_at_call 65; (with_reducible refine (spec_fold.calls a0 t145 _ A6.out).mono ?_); rintro e w' ⟨rfl, ⟨nd, rfl⟩⟩))
     go_ret
     exact ⟨by first | rfl | (simp [errW_none, errW_some] <;> rfl) | (simp [*, errW_none, errW_some] <;> rfl), by repeat (first | (with_reducible first | exact HB.out | apply below_alloc | apply pw_below_drewN | apply below_drew1) | exact HB.out)⟩
    ·rw [if_neg c7] at H
     have c7b0 : decide (t145 ≤ 122) = false := decide_eq_false c7
     clear c7
     obtain ⟨y146, hy146⟩ : ∃ y_ : List Int, y_ = (([96] : List Int)) := ⟨_, rfl⟩
     replace H : (if 12 + (strOfNums y146).size ≤ 9223372036854775807 then (if ((⟨#[33, 35, 36, 37, 38, 39, 42, 43, 45, 46, 94, 95]⟩ : ByteArray) ++ (strOfNums y146)).size + 2 ≤ 9223372036854775807 then ((spec_place.f k (((⟨#[33, 35, 36, 37, 38, 39, 42, 43, 45, 46, 94, 95]⟩ : ByteArray) ++ (strOfNums y146)) ++ (⟨#[124, 126]⟩ : ByteArray)) a0).bind fun t149 => (some (decide (t149 ≥ 0)))) else (none)) else (none)) = some r := by first | (rw [hy146]; with_reducible exact H) | (have H2_ := (Option.bind_some _ _).symm.trans H; rw [hy146]; with_reducible exact H2_) | (have H2_ := (Option.bind_some _ _).symm.trans H; with_reducible exact H2_) | with_reducible exact H | (rw [hy146]; exact H) | exact H
     have Ny146 := Aside0.mk hy146
     clear hy146
     by_cases c8 : 12 + (strOfNums y146).size ≤ 9223372036854775807
     ·rw [if_pos c8] at H
      have c8b0 := eq_true c8
      have c8b1 : decide (12 + (strOfNums y146).size ≤ 9223372036854775807) = true := decide_eq_true c8
      try have c8b2 : (9223372036854775807 < 12 + (strOfNums y146).size) = False := eq_false (Nat.not_lt.2 c8)
      try (have c8b3 := c8; simp only [ByteArray.size_append, prx_sz, List.length_cons, List.length_nil] at c8b3)
      by_cases c9 : ((⟨#[33, 35, 36, 37, 38, 39, 42, 43, 45, 46, 94, 95]⟩ : ByteArray) ++ (strOfNums y146)).size + 2 ≤ 9223372036854775807
      ·rw [if_pos c9] at H
       have c9b0 := eq_true c9
       have c9b1 : decide (((⟨#[33, 35, 36, 37, 38, 39, 42, 43, 45, 46, 94, 95]⟩ : ByteArray) ++ (strOfNums y146)).size + 2 ≤ 9223372036854775807) = true := decide_eq_true c9
       try have c9b2 : (9223372036854775807 < ((⟨#[33, 35, 36, 37, 38, 39, 42, 43, 45, 46, 94, 95]⟩ : ByteArray) ++ (strOfNums y146)).size + 2) = False := eq_false (Nat.not_lt.2 c9)
       try (have c9b3 := c9; simp only [ByteArray.size_append, prx_sz, List.length_cons, List.length_nil] at c9b3)
       replace H := Option.bind_eq_some_iff.mp H
       obtain ⟨t149, A100, H⟩ := H
       replace H : (some (decide (t149 ≥ 0))) = some r := H
       have A10 := Aside0.mk A100
       clear A100
       try (obtain rfl : t145 = t144 := Option.some.inj (A6.out.symm.trans A4.out))
       obtain rfl := Option.some.inj H
       go_enter Tryd.func34, Tryd.ntmps34
       go_wp2_with (first | (go_at_call 65; (with_reducible refine (spec_fold.calls a0 t145 _ A4.out).mono ?_); rintro e w' ⟨rfl, ⟨nd, rfl⟩⟩) | (go_at_call 65; (with_reducible refine (spec_fold.calls a0 t145 _ A6.out).mono ?_); rintro e w' ⟨rfl, ⟨nd, rfl⟩⟩) | ((with_reducible refine gate_dst (N := 19) rfl ?_); refine Kd.R_lit (Kd.int .u8) _ 5 ?hg (N := 19) ?hd (xs := ([96] : List Int)) (inner := [.int .u8 96]) (ok := fun _ => True) (okp := fun _ => True) ?hr ?hp (fun _ hk => hk) trivial (Below.refl _ _) (Nat.le_refl _) (by simp) ?_; (case hd => rfl); (case hg => rfl); (case hr => first | (go_simp; done) | (go_simp; rfl)); (case hp => exact (Reps.one (show Kd.M (Kd.int .u8) _ _ _ 96 [.int .u8 96] from rfl) (Reps.none _ _))); intro v147 w11 ho12 hb hg_ hnew_; clear hg_ hnew_; (first | rw [← Ny146.out] at ho12 | (simp only [Int.reduceToNat] at ho12; rw [← Ny146.out] at ho12)); have n0_ := Aside0.mk (Kd.R_lower ho12 (below_size (by repeat (first | (with_reducible first | exact HB.out | apply below_alloc | apply pw_below_drewN | apply below_drew1) | exact HB.out)))); have n1_ := Aside0.mk (below_step (by repeat (first | (with_reducible first | exact HB.out | apply below_alloc | apply pw_below_drewN | apply below_drew1) | exact HB.out)) hb); clear HB; have HO148 := n0_; have HB := n1_; clear n0_ n1_; clear hb ho12; have hcv13 := own_string (P := Tryd.prog) Tryd.underlying49 Tryd.underlying5 Tryd.underlying9 (Kd.own_of_R HO148.out)) | ((with_reducible refine gate_callee (f := 66) rfl ?_); refine goesL_ (some 24) rfl rfl Tryd.func66 (by kernel_rfl) rfl #[.string (((⟨#[33, 35, 36, 37, 38, 39, 42, 43, 45, 46, 94, 95]⟩ : ByteArray) ++ (strOfNums y146)) ++ (⟨#[124, 126]⟩ : ByteArray)), .int .u8 a0] rfl (by (try simp only [List.map_toArray, List.map_cons, List.map_nil]); first | done | rfl | (simp only [List.length_drop, List.length_take]; rfl)) ?_; (with_reducible refine (spec_place.calls k (((⟨#[33, 35, 36, 37, 38, 39, 42, 43, 45, 46, 94, 95]⟩ : ByteArray) ++ (strOfNums y146)) ++ (⟨#[124, 126]⟩ : ByteArray)) a0 t149 _ A10.out).mono ?_); rintro e w' ⟨rfl, ⟨nd, rfl⟩⟩; refine ⟨_, rfl, ?_⟩))
       go_ret
       exact ⟨by first | rfl | (simp [errW_none, errW_some] <;> rfl) | (simp [*, errW_none, errW_some] <;> rfl), by repeat (first | (with_reducible first | exact HB.out | apply below_alloc | apply pw_below_drewN | apply below_drew1) | exact HB.out)⟩
      ·rw [if_neg c9] at H
       exact absurd H (by simp)
     ·rw [if_neg c8] at H
      exact absurd H (by simp)
   ·rw [if_neg c5] at H
    have c5b0 : decide (97 ≤ t144) = false := decide_eq_false c5
    clear c5
    obtain ⟨y150, hy150⟩ : ∃ y_ : List Int, y_ = (([96] : List Int)) := ⟨_, rfl⟩
    replace H : (if 12 + (strOfNums y150).size ≤ 9223372036854775807 then (if ((⟨#[33, 35, 36, 37, 38, 39, 42, 43, 45, 46, 94, 95]⟩ : ByteArray) ++ (strOfNums y150)).size + 2 ≤ 9223372036854775807 then ((spec_place.f k (((⟨#[33, 35, 36, 37, 38, 39, 42, 43, 45, 46, 94, 95]⟩ : ByteArray) ++ (strOfNums y150)) ++ (⟨#[124, 126]⟩ : ByteArray)) a0).bind fun t153 => (some (decide (t153 ≥ 0)))) else (none)) else (none)) = some r := by first | (rw [hy150]; with_reducible exact H) | (have H2_ := (Option.bind_some _ _).symm.trans H; rw [hy150]; with_reducible exact H2_) | (have H2_ := (Option.bind_some _ _).symm.trans H; with_reducible exact H2_) | with_reducible exact H | (rw [hy150]; exact H) | exact H
    have Ny150 := Aside0.mk hy150
    clear hy150
    by_cases c14 : 12 + (strOfNums y150).size ≤ 9223372036854775807
    ·rw [if_pos c14] at H
     have c14b0 := eq_true c14
     have c14b1 : decide (12 + (strOfNums y150).size ≤ 9223372036854775807) = true := decide_eq_true c14
     try have c14b2 : (9223372036854775807 < 12 + (strOfNums y150).size) = False := eq_false (Nat.not_lt.2 c14)
     try (have c14b3 := c14; simp only [ByteArray.size_append, prx_sz, List.length_cons, List.length_nil] at c14b3)
     by_cases c15 : ((⟨#[33, 35, 36, 37, 38, 39, 42, 43, 45, 46, 94, 95]⟩ : ByteArray) ++ (strOfNums y150)).size + 2 ≤ 9223372036854775807
     ·rw [if_pos c15] at H
      have c15b0 := eq_true c15
      have c15b1 : decide (((⟨#[33, 35, 36, 37, 38, 39, 42, 43, 45, 46, 94, 95]⟩ : ByteArray) ++ (strOfNums y150)).size + 2 ≤ 9223372036854775807) = true := decide_eq_true c15
      try have c15b2 : (9223372036854775807 < ((⟨#[33, 35, 36, 37, 38, 39, 42, 43, 45, 46, 94, 95]⟩ : ByteArray) ++ (strOfNums y150)).size + 2) = False := eq_false (Nat.not_lt.2 c15)
      try (have c15b3 := c15; simp only [ByteArray.size_append, prx_sz, List.length_cons, List.length_nil] at c15b3)
      replace H := Option.bind_eq_some_iff.mp H
      obtain ⟨t153, A160, H⟩ := H
      replace H : (some (decide (t153 ≥ 0))) = some r := H
      have A16 := Aside0.mk A160
      clear A160
      obtain rfl := Option.some.inj H
      go_enter Tryd.func34, Tryd.ntmps34
      go_wp2_with (first | (go_at_call 65; (with_reducible refine (spec_fold.calls a0 t144 _ A4.out).mono ?_); rintro e w' ⟨rfl, ⟨nd, rfl⟩⟩) | ((with_reducible refine gate_dst (N := 19) rfl ?_); refine Kd.R_lit (Kd.int .u8) _ 5 ?hg (N := 19) ?hd (xs := ([96] : List Int)) (inner := [.int .u8 96]) (ok := fun _ => True) (okp := fun _ => True) ?hr ?hp (fun _ hk => hk) trivial (Below.refl _ _) (Nat.le_refl _) (by simp) ?_; (case hd => rfl); (case hg => rfl); (case hr => first | (go_simp; done) | (go_simp; rfl)); (case hp => exact (Reps.one (show Kd.M (Kd.int .u8) _ _ _ 96 [.int .u8 96] from rfl) (Reps.none _ _))); intro v151 w17 ho18 hb hg_ hnew_; clear hg_ hnew_; (first | rw [← Ny150.out] at ho18 | (simp only [Int.reduceToNat] at ho18; rw [← Ny150.out] at ho18)); have n0_ := Aside0.mk (Kd.R_lower ho18 (below_size (by repeat (first | (with_reducible first | exact HB.out | apply below_alloc | apply pw_below_drewN | apply below_drew1) | exact HB.out)))); have n1_ := Aside0.mk (below_step (by repeat (first | (with_reducible first | exact HB.out | apply below_alloc | apply pw_below_drewN | apply below_drew1) | exact HB.out)) hb); clear HB; have HO152 := n0_; have HB := n1_; clear n0_ n1_; clear hb ho18; have hcv19 := own_string (P := Tryd.prog) Tryd.underlying49 Tryd.underlying5 Tryd.underlying9 (Kd.own_of_R HO152.out)) | ((with_reducible refine gate_callee (f := 66) rfl ?_); refine goesL_ (some 24) rfl rfl Tryd.func66 (by kernel_rfl) rfl #[.string (((⟨#[33, 35, 36, 37, 38, 39, 42, 43, 45, 46, 94, 95]⟩ : ByteArray) ++ (strOfNums y150)) ++ (⟨#[124, 126]⟩ : ByteArray)), .int .u8 a0] rfl (by (try simp only [List.map_toArray, List.map_cons, List.map_nil]); first | done | rfl | (simp only [List.length_drop, List.length_take]; rfl)) ?_; (with_reducible refine (spec_place.calls k (((⟨#[33, 35, 36, 37, 38, 39, 42, 43, 45, 46, 94, 95]⟩ : ByteArray) ++ (strOfNums y150)) ++ (⟨#[124, 126]⟩ : ByteArray)) a0 t153 _ A16.out).mono ?_); rintro e w' ⟨rfl, ⟨nd, rfl⟩⟩; refine ⟨_, rfl, ?_⟩))
      go_ret
      exact ⟨by first | rfl | (simp [errW_none, errW_some] <;> rfl) | (simp [*, errW_none, errW_some] <;> rfl), by repeat (first | (with_reducible first | exact HB.out | apply below_alloc | apply pw_below_drewN | apply below_drew1) | exact HB.out)⟩
     ·rw [if_neg c15] at H
      exact absurd H (by simp)
    ·rw [if_neg c14] at H
     exact absurd H (by simp)
 ·rw [if_neg c2] at H
  have c2b0 : decide (48 ≤ a0) = false := decide_eq_false c2
  clear c2
  replace H := Option.bind_eq_some_iff.mp H
  obtain ⟨t154, A200, H⟩ := H
  replace H : (if t154 ≥ 97 then ((spec_fold.f a0).bind fun t155 => (if t155 ≤ 122 then (some true) else ((some (([96] : List Int) : List Int)).bind fun y156 => (if 12 + (strOfNums y156).size ≤ 9223372036854775807 then (if ((⟨#[33, 35, 36, 37, 38, 39, 42, 43, 45, 46, 94, 95]⟩ : ByteArray) ++ (strOfNums y156)).size + 2 ≤ 9223372036854775807 then ((spec_place.f k (((⟨#[33, 35, 36, 37, 38, 39, 42, 43, 45, 46, 94, 95]⟩ : ByteArray) ++ (strOfNums y156)) ++ (⟨#[124, 126]⟩ : ByteArray)) a0).bind fun t159 => (some (decide (t159 ≥ 0)))) else (none)) else (none))))) else ((some (([96] : List Int) : List Int)).bind fun y160 => (if 12 + (strOfNums y160).size ≤ 9223372036854775807 then (if ((⟨#[33, 35, 36, 37, 38, 39, 42, 43, 45, 46, 94, 95]⟩ : ByteArray) ++ (strOfNums y160)).size + 2 ≤ 9223372036854775807 then ((spec_place.f k (((⟨#[33, 35, 36, 37, 38, 39, 42, 43, 45, 46, 94, 95]⟩ : ByteArray) ++ (strOfNums y160)) ++ (⟨#[124, 126]⟩ : ByteArray)) a0).bind fun t163 => (some (decide (t163 ≥ 0)))) else (none)) else (none)))) = some r := H
  have A20 := Aside0.mk A200
  clear A200
  by_cases c21 : t154 ≥ 97
  ·rw [if_pos c21] at H
   have c21b0 : decide (97 ≤ t154) = true := decide_eq_true c21
   clear c21
   replace H := Option.bind_eq_some_iff.mp H
   obtain ⟨t155, A220, H⟩ := H
   replace H : (if t155 ≤ 122 then (some true) else ((some (([96] : List Int) : List Int)).bind fun y156 => (if 12 + (strOfNums y156).size ≤ 9223372036854775807 then (if ((⟨#[33, 35, 36, 37, 38, 39, 42, 43, 45, 46, 94, 95]⟩ : ByteArray) ++ (strOfNums y156)).size + 2 ≤ 9223372036854775807 then ((spec_place.f k (((⟨#[33, 35, 36, 37, 38, 39, 42, 43, 45, 46, 94, 95]⟩ : ByteArray) ++ (strOfNums y156)) ++ (⟨#[124, 126]⟩ : ByteArray)) a0).bind fun t159 => (some (decide (t159 ≥ 0)))) else (none)) else (none)))) = some r := H
   have A22 := Aside0.mk A220
   clear A220
   by_cases c23 : t155 ≤ 122
   ·rw [if_pos c23] at H
    have c23b0 : decide (t155 ≤ 122) = true := decide_eq_true c23
    clear c23
    try (obtain rfl : t155 = t154 := Option.some.inj (A22.out.symm.trans A20.out))
    obtain rfl := Option.some.inj H
    go_enter Tryd.func34, Tryd.ntmps34
    go_wp2_with (first | (go_at_call 65; (with_reducible refine (spec_fold.calls a0 t155 _ A20.out).mono ?_); rintro e w' ⟨rfl, ⟨nd, rfl⟩⟩) | (go_at_call 65; (with_reducible refine (spec_fold.calls a0 t155 _ A22.out).mono ?_); rintro e w' ⟨rfl, ⟨nd, rfl⟩⟩))
    go_ret
    exact ⟨by first | rfl | (simp [errW_none, errW_some] <;> rfl) | (simp [*, errW_none, errW_some] <;> rfl), by repeat (first | (with_reducible first | exact HB.out | apply below_alloc | apply pw_below_drewN | apply below_drew1) | exact HB.out)⟩
   ·rw [if_neg c23] at H
    have c23b0 : decide (t155 ≤ 122) = false := decide_eq_false c23
    clear c23
    obtain ⟨y156, hy156⟩ : ∃ y_ : List Int, y_ = (([96] : List Int)) := ⟨_, rfl⟩
    replace H : (if 12 + (strOfNums y156).size ≤ 9223372036854775807 then (if ((⟨#[33, 35, 36, 37, 38, 39, 42, 43, 45, 46, 94, 95]⟩ : ByteArray) ++ (strOfNums y156)).size + 2 ≤ 9223372036854775807 then ((spec_place.f k (((⟨#[33, 35, 36, 37, 38, 39, 42, 43, 45, 46, 94, 95]⟩ : ByteArray) ++ (strOfNums y156)) ++ (⟨#[124, 126]⟩ : ByteArray)) a0).bind fun t159 => (some (decide (t159 ≥ 0)))) else (none)) else (none)) = some r := by first | (rw [hy156]; with_reducible exact H) | (have H2_ := (Option.bind_some _ _).symm.trans H; rw [hy156]; with_reducible exact H2_) | (have H2_ := (Option.bind_some _ _).symm.trans H; with_reducible exact H2_) | with_reducible exact H | (rw [hy156]; exact H) | exact H
    have Ny156 := Aside0.mk hy156
    clear hy156
    by_cases c24 : 12 + (strOfNums y156).size ≤ 9223372036854775807
    ·rw [if_pos c24] at H
     have c24b0 := eq_true c24
     have c24b1 : decide (12 + (strOfNums y156).size ≤ 9223372036854775807) = true := decide_eq_true c24
     try have c24b2 : (9223372036854775807 < 12 + (strOfNums y156).size) = False := eq_false (Nat.not_lt.2 c24)
     try (have c24b3 := c24; simp only [ByteArray.size_append, prx_sz, List.length_cons, List.length_nil] at c24b3)
     by_cases c25 : ((⟨#[33, 35, 36, 37, 38, 39, 42, 43, 45, 46, 94, 95]⟩ : ByteArray) ++ (strOfNums y156)).size + 2 ≤ 9223372036854775807
     ·rw [if_pos c25] at H
      have c25b0 := eq_true c25
      have c25b1 : decide (((⟨#[33, 35, 36, 37, 38, 39, 42, 43, 45, 46, 94, 95]⟩ : ByteArray) ++ (strOfNums y156)).size + 2 ≤ 9223372036854775807) = true := decide_eq_true c25
      try have c25b2 : (9223372036854775807 < ((⟨#[33, 35, 36, 37, 38, 39, 42, 43, 45, 46, 94, 95]⟩ : ByteArray) ++ (strOfNums y156)).size + 2) = False := eq_false (Nat.not_lt.2 c25)
      try (have c25b3 := c25; simp only [ByteArray.size_append, prx_sz, List.length_cons, List.length_nil] at c25b3)
      replace H := Option.bind_eq_some_iff.mp H
      obtain ⟨t159, A260, H⟩ := H
      replace H : (some (decide (t159 ≥ 0))) = some r := H
      have A26 := Aside0.mk A260
      clear A260
      try (obtain rfl : t155 = t154 := Option.some.inj (A22.out.symm.trans A20.out))
      obtain rfl := Option.some.inj H
      go_enter Tryd.func34, Tryd.ntmps34
      go_wp2_with (first | (go_at_call 65; (with_reducible refine (spec_fold.calls a0 t155 _ A20.out).mono ?_); rintro e w' ⟨rfl, ⟨nd, rfl⟩⟩) | (go_at_call 65; (with_reducible refine (spec_fold.calls a0 t155 _ A22.out).mono ?_); rintro e w' ⟨rfl, ⟨nd, rfl⟩⟩) | ((with_reducible refine gate_dst (N := 19) rfl ?_); refine Kd.R_lit (Kd.int .u8) _ 5 ?hg (N := 19) ?hd (xs := ([96] : List Int)) (inner := [.int .u8 96]) (ok := fun _ => True) (okp := fun _ => True) ?hr ?hp (fun _ hk => hk) trivial (Below.refl _ _) (Nat.le_refl _) (by simp) ?_; (case hd => rfl); (case hg => rfl); (case hr => first | (go_simp; done) | (go_simp; rfl)); (case hp => exact (Reps.one (show Kd.M (Kd.int .u8) _ _ _ 96 [.int .u8 96] from rfl) (Reps.none _ _))); intro v157 w27 ho28 hb hg_ hnew_; clear hg_ hnew_; (first | rw [← Ny156.out] at ho28 | (simp only [Int.reduceToNat] at ho28; rw [← Ny156.out] at ho28)); have n0_ := Aside0.mk (Kd.R_lower ho28 (below_size (by repeat (first | (with_reducible first | exact HB.out | apply below_alloc | apply pw_below_drewN | apply below_drew1) | exact HB.out)))); have n1_ := Aside0.mk (below_step (by repeat (first | (with_reducible first | exact HB.out | apply below_alloc | apply pw_below_drewN | apply below_drew1) | exact HB.out)) hb); clear HB; have HO158 := n0_; have HB := n1_; clear n0_ n1_; clear hb ho28; have hcv29 := own_string (P := Tryd.prog) Tryd.underlying49 Tryd.underlying5 Tryd.underlying9 (Kd.own_of_R HO158.out)) | ((with_reducible refine gate_callee (f := 66) rfl ?_); refine goesL_ (some 24) rfl rfl Tryd.func66 (by kernel_rfl) rfl #[.string (((⟨#[33, 35, 36, 37, 38, 39, 42, 43, 45, 46, 94, 95]⟩ : ByteArray) ++ (strOfNums y156)) ++ (⟨#[124, 126]⟩ : ByteArray)), .int .u8 a0] rfl (by (try simp only [List.map_toArray, List.map_cons, List.map_nil]); first | done | rfl | (simp only [List.length_drop, List.length_take]; rfl)) ?_; (with_reducible refine (spec_place.calls k (((⟨#[33, 35, 36, 37, 38, 39, 42, 43, 45, 46, 94, 95]⟩ : ByteArray) ++ (strOfNums y156)) ++ (⟨#[124, 126]⟩ : ByteArray)) a0 t159 _ A26.out).mono ?_); rintro e w' ⟨rfl, ⟨nd, rfl⟩⟩; refine ⟨_, rfl, ?_⟩))
      go_ret
      exact ⟨by first | rfl | (simp [errW_none, errW_some] <;> rfl) | (simp [*, errW_none, errW_some] <;> rfl), by repeat (first | (with_reducible first | exact HB.out | apply below_alloc | apply pw_below_drewN | apply below_drew1) | exact HB.out)⟩
     ·rw [if_neg c25] at H
      exact absurd H (by simp)
    ·rw [if_neg c24] at H
     exact absurd H (by simp)
  ·rw [if_neg c21] at H
   have c21b0 : decide (97 ≤ t154) = false := decide_eq_false c21
   clear c21
   obtain ⟨y160, hy160⟩ : ∃ y_ : List Int, y_ = (([96] : List Int)) := ⟨_, rfl⟩
   replace H : (if 12 + (strOfNums y160).size ≤ 9223372036854775807 then (if ((⟨#[33, 35, 36, 37, 38, 39, 42, 43, 45, 46, 94, 95]⟩ : ByteArray) ++ (strOfNums y160)).size + 2 ≤ 9223372036854775807 then ((spec_place.f k (((⟨#[33, 35, 36, 37, 38, 39, 42, 43, 45, 46, 94, 95]⟩ : ByteArray) ++ (strOfNums y160)) ++ (⟨#[124, 126]⟩ : ByteArray)) a0).bind fun t163 => (some (decide (t163 ≥ 0)))) else (none)) else (none)) = some r := by first | (rw [hy160]; with_reducible exact H) | (have H2_ := (Option.bind_some _ _).symm.trans H; rw [hy160]; with_reducible exact H2_) | (have H2_ := (Option.bind_some _ _).symm.trans H; with_reducible exact H2_) | with_reducible exact H | (rw [hy160]; exact H) | exact H
   have Ny160 := Aside0.mk hy160
   clear hy160
   by_cases c30 : 12 + (strOfNums y160).size ≤ 9223372036854775807
   ·rw [if_pos c30] at H
    have c30b0 := eq_true c30
    have c30b1 : decide (12 + (strOfNums y160).size ≤ 9223372036854775807) = true := decide_eq_true c30
    try have c30b2 : (9223372036854775807 < 12 + (strOfNums y160).size) = False := eq_false (Nat.not_lt.2 c30)
    try (have c30b3 := c30; simp only [ByteArray.size_append, prx_sz, List.length_cons, List.length_nil] at c30b3)
    by_cases c31 : ((⟨#[33, 35, 36, 37, 38, 39, 42, 43, 45, 46, 94, 95]⟩ : ByteArray) ++ (strOfNums y160)).size + 2 ≤ 9223372036854775807
    ·rw [if_pos c31] at H
     have c31b0 := eq_true c31
     have c31b1 : decide (((⟨#[33, 35, 36, 37, 38, 39, 42, 43, 45, 46, 94, 95]⟩ : ByteArray) ++ (strOfNums y160)).size + 2 ≤ 9223372036854775807) = true := decide_eq_true c31
     try have c31b2 : (9223372036854775807 < ((⟨#[33, 35, 36, 37, 38, 39, 42, 43, 45, 46, 94, 95]⟩ : ByteArray) ++ (strOfNums y160)).size + 2) = False := eq_false (Nat.not_lt.2 c31)
     try (have c31b3 := c31; simp only [ByteArray.size_append, prx_sz, List.length_cons, List.length_nil] at c31b3)
     replace H := Option.bind_eq_some_iff.mp H
     obtain ⟨t163, A320, H⟩ := H
     replace H : (some (decide (t163 ≥ 0))) = some r := H
     have A32 := Aside0.mk A320
     clear A320
     obtain rfl := Option.some.inj H
     go_enter Tryd.func34, Tryd.ntmps34
     go_wp2_with (first | (go_at_call 65; (with_reducible refine (spec_fold.calls a0 t154 _ A20.out).mono ?_); rintro e w' ⟨rfl, ⟨nd, rfl⟩⟩) | ((with_reducible refine gate_dst (N := 19) rfl ?_); refine Kd.R_lit (Kd.int .u8) _ 5 ?hg (N := 19) ?hd (xs := ([96] : List Int)) (inner := [.int .u8 96]) (ok := fun _ => True) (okp := fun _ => True) ?hr ?hp (fun _ hk => hk) trivial (Below.refl _ _) (Nat.le_refl _) (by simp) ?_; (case hd => rfl); (case hg => rfl); (case hr => first | (go_simp; done) | (go_simp; rfl)); (case hp => exact (Reps.one (show Kd.M (Kd.int .u8) _ _ _ 96 [.int .u8 96] from rfl) (Reps.none _ _))); intro v161 w33 ho34 hb hg_ hnew_; clear hg_ hnew_; (first | rw [← Ny160.out] at ho34 | (simp only [Int.reduceToNat] at ho34; rw [← Ny160.out] at ho34)); have n0_ := Aside0.mk (Kd.R_lower ho34 (below_size (by repeat (first | (with_reducible first | exact HB.out | apply below_alloc | apply pw_below_drewN | apply below_drew1) | exact HB.out)))); have n1_ := Aside0.mk (below_step (by repeat (first | (with_reducible first | exact HB.out | apply below_alloc | apply pw_below_drewN | apply below_drew1) | exact HB.out)) hb); clear HB; have HO162 := n0_; have HB := n1_; clear n0_ n1_; clear hb ho34; have hcv35 := own_string (P := Tryd.prog) Tryd.underlying49 Tryd.underlying5 Tryd.underlying9 (Kd.own_of_R HO162.out)) | ((with_reducible refine gate_callee (f := 66) rfl ?_); refine goesL_ (some 24) rfl rfl Tryd.func66 (by kernel_rfl) rfl #[.string (((⟨#[33, 35, 36, 37, 38, 39, 42, 43, 45, 46, 94, 95]⟩ : ByteArray) ++ (strOfNums y160)) ++ (⟨#[124, 126]⟩ : ByteArray)), .int .u8 a0] rfl (by (try simp only [List.map_toArray, List.map_cons, List.map_nil]); first | done | rfl | (simp only [List.length_drop, List.length_take]; rfl)) ?_; (with_reducible refine (spec_place.calls k (((⟨#[33, 35, 36, 37, 38, 39, 42, 43, 45, 46, 94, 95]⟩ : ByteArray) ++ (strOfNums y160)) ++ (⟨#[124, 126]⟩ : ByteArray)) a0 t163 _ A32.out).mono ?_); rintro e w' ⟨rfl, ⟨nd, rfl⟩⟩; refine ⟨_, rfl, ?_⟩))
     go_ret
     exact ⟨by first | rfl | (simp [errW_none, errW_some] <;> rfl) | (simp [*, errW_none, errW_some] <;> rfl), by repeat (first | (with_reducible first | exact HB.out | apply below_alloc | apply pw_below_drewN | apply below_drew1) | exact HB.out)⟩
    ·rw [if_neg c31] at H
     exact absurd H (by simp)
   ·rw [if_neg c30] at H
    exact absurd H (by simp)
def spec_NextLine.f (k : Nat) (a0 : ByteArray) : Option (ByteArray × ByteArray × Bool) := (spec_place.f k a0 10).bind fun t164 => (if t164 < 0 then (some ((⟨#[]⟩ : ByteArray), (⟨#[]⟩ : ByteArray), false)) else (if t164 > 0 then (if 0 ≤ (wrap64 (t164 - 1)) then (if (wrap64 (t164 - 1)) < (a0.size : Int) then (if (bt a0 (wrap64 (t164 - 1))) = 13 then (if (wrap64 (t164 - 1)) ≤ (a0.size : Int) then (if 0 ≤ (wrap64 (t164 + 1)) then (if (wrap64 (t164 + 1)) ≤ (a0.size : Int) then (some (a0.extract 0 ((wrap64 (t164 - 1)) : Int).toNat, a0.extract ((wrap64 (t164 + 1)) : Int).toNat a0.size, true)) else (none)) else (none)) else (none)) else (if 0 ≤ t164 then (if t164 ≤ (a0.size : Int) then (if 0 ≤ (wrap64 (t164 + 1)) then (if (wrap64 (t164 + 1)) ≤ (a0.size : Int) then (some (a0.extract 0 (t164 : Int).toNat, a0.extract ((wrap64 (t164 + 1)) : Int).toNat a0.size, true)) else (none)) else (none)) else (none)) else (none))) else (none)) else (none)) else (if 0 ≤ t164 then (if t164 ≤ (a0.size : Int) then (if 0 ≤ (wrap64 (t164 + 1)) then (if (wrap64 (t164 + 1)) ≤ (a0.size : Int) then (some (a0.extract 0 (t164 : Int).toNat, a0.extract ((wrap64 (t164 + 1)) : Int).toNat a0.size, true)) else (none)) else (none)) else (none)) else (none))))
set_option maxHeartbeats 8000000 in
set_option maxRecDepth 100000 in
theorem spec_NextLine.calls (k : Nat) (a0 : ByteArray) (r1 : ByteArray) (r2 : ByteArray) (r3 : Bool) (w : World) (h : spec_NextLine.f k a0 = some (r1, r2, r3)) :
    Calls Tryd.prog 36 #[.string a0] w fun e w' => e = .returned (.tuple #[.string r1, .string r2, .bool r3]) ∧ Drawn0 w w' := by
  have H : ((spec_place.f k a0 10).bind fun t164 => (if t164 < 0 then (some ((⟨#[]⟩ : ByteArray), (⟨#[]⟩ : ByteArray), false)) else (if t164 > 0 then (if 0 ≤ (wrap64 (t164 - 1)) then (if (wrap64 (t164 - 1)) < (a0.size : Int) then (if (bt a0 (wrap64 (t164 - 1))) = 13 then (if (wrap64 (t164 - 1)) ≤ (a0.size : Int) then (if 0 ≤ (wrap64 (t164 + 1)) then (if (wrap64 (t164 + 1)) ≤ (a0.size : Int) then (some (a0.extract 0 ((wrap64 (t164 - 1)) : Int).toNat, a0.extract ((wrap64 (t164 + 1)) : Int).toNat a0.size, true)) else (none)) else (none)) else (none)) else (if 0 ≤ t164 then (if t164 ≤ (a0.size : Int) then (if 0 ≤ (wrap64 (t164 + 1)) then (if (wrap64 (t164 + 1)) ≤ (a0.size : Int) then (some (a0.extract 0 (t164 : Int).toNat, a0.extract ((wrap64 (t164 + 1)) : Int).toNat a0.size, true)) else (none)) else (none)) else (none)) else (none))) else (none)) else (none)) else (if 0 ≤ t164 then (if t164 ≤ (a0.size : Int) then (if 0 ≤ (wrap64 (t164 + 1)) then (if (wrap64 (t164 + 1)) ≤ (a0.size : Int) then (some (a0.extract 0 (t164 : Int).toNat, a0.extract ((wrap64 (t164 + 1)) : Int).toNat a0.size, true)) else (none)) else (none)) else (none)) else (none))))) = some (r1, r2, r3) := h
  clear h
  replace H := Option.bind_eq_some_iff.mp H
  obtain ⟨t164, A20, H⟩ := H
  replace H : (if t164 < 0 then (some ((⟨#[]⟩ : ByteArray), (⟨#[]⟩ : ByteArray), false)) else (if t164 > 0 then (if 0 ≤ (wrap64 (t164 - 1)) then (if (wrap64 (t164 - 1)) < (a0.size : Int) then (if (bt a0 (wrap64 (t164 - 1))) = 13 then (if (wrap64 (t164 - 1)) ≤ (a0.size : Int) then (if 0 ≤ (wrap64 (t164 + 1)) then (if (wrap64 (t164 + 1)) ≤ (a0.size : Int) then (some (a0.extract 0 ((wrap64 (t164 - 1)) : Int).toNat, a0.extract ((wrap64 (t164 + 1)) : Int).toNat a0.size, true)) else (none)) else (none)) else (none)) else (if 0 ≤ t164 then (if t164 ≤ (a0.size : Int) then (if 0 ≤ (wrap64 (t164 + 1)) then (if (wrap64 (t164 + 1)) ≤ (a0.size : Int) then (some (a0.extract 0 (t164 : Int).toNat, a0.extract ((wrap64 (t164 + 1)) : Int).toNat a0.size, true)) else (none)) else (none)) else (none)) else (none))) else (none)) else (none)) else (if 0 ≤ t164 then (if t164 ≤ (a0.size : Int) then (if 0 ≤ (wrap64 (t164 + 1)) then (if (wrap64 (t164 + 1)) ≤ (a0.size : Int) then (some (a0.extract 0 (t164 : Int).toNat, a0.extract ((wrap64 (t164 + 1)) : Int).toNat a0.size, true)) else (none)) else (none)) else (none)) else (none)))) = some (r1, r2, r3) := H
  have A2 := Aside0.mk A20
  clear A20
  by_cases c3 : t164 < 0
  · rw [if_pos c3] at H
    have c3b0 : decide (t164 < 0) = true := decide_eq_true c3
    clear c3
    simp only [Option.some.injEq, Prod.mk.injEq] at H
    obtain ⟨rfl, rfl, rfl⟩ := H
    go_enter Tryd.func36, Tryd.ntmps36
    go_wp2_with (first | (go_at_call 66; (with_reducible refine (spec_place.calls k a0 10 t164 _ A2.out).mono ?_); rintro e w' ⟨rfl, ⟨nd, rfl⟩⟩; (try first | exact ⟨rfl, _, World.drewN_drewN _ _ _⟩ | exact ⟨rfl, _, Eq.trans (World.drewN_drewN _ _ _) (congrArg (World.drewN _) (Nat.add_assoc _ _ _))⟩)))
    repeat (go_quiet (first | (go_at_call 66; (with_reducible refine (spec_place.calls k a0 10 t164 _ A2.out).mono ?_); rintro e w' ⟨rfl, ⟨nd, rfl⟩⟩; (try first | exact ⟨rfl, _, World.drewN_drewN _ _ _⟩ | exact ⟨rfl, _, Eq.trans (World.drewN_drewN _ _ _) (congrArg (World.drewN _) (Nat.add_assoc _ _ _))⟩))); try go_wp2_with (first | (go_at_call 66; (with_reducible refine (spec_place.calls k a0 10 t164 _ A2.out).mono ?_); rintro e w' ⟨rfl, ⟨nd, rfl⟩⟩; (try first | exact ⟨rfl, _, World.drewN_drewN _ _ _⟩ | exact ⟨rfl, _, Eq.trans (World.drewN_drewN _ _ _) (congrArg (World.drewN _) (Nat.add_assoc _ _ _))⟩))))
    go_ret3
    exact ⟨by first | rfl | (simp; done) | (rw [prx_ne]; first | done | rfl) | (simp [*]; done), by repeat (first | exact Drawn0.refl _ | apply Drawn0.step)⟩
  · rw [if_neg c3] at H
    have c3b0 : decide (t164 < 0) = false := decide_eq_false c3
    clear c3
    by_cases c4 : t164 > 0
    · rw [if_pos c4] at H
      have c4b0 : decide (0 < t164) = true := decide_eq_true c4
      clear c4
      obtain ⟨ji5, hji5⟩ : ∃ j_ : Int, (wrap64 (t164 - 1)) = j_ := ⟨_, rfl⟩
      replace H : (if 0 ≤ (ji5) then (if (ji5) < (a0.size : Int) then (if (bt a0 (ji5)) = 13 then (if (ji5) ≤ (a0.size : Int) then (if 0 ≤ (wrap64 (t164 + 1)) then (if (wrap64 (t164 + 1)) ≤ (a0.size : Int) then (some (a0.extract 0 ((ji5) : Int).toNat, a0.extract ((wrap64 (t164 + 1)) : Int).toNat a0.size, true)) else (none)) else (none)) else (none)) else (if 0 ≤ t164 then (if t164 ≤ (a0.size : Int) then (if 0 ≤ (wrap64 (t164 + 1)) then (if (wrap64 (t164 + 1)) ≤ (a0.size : Int) then (some (a0.extract 0 (t164 : Int).toNat, a0.extract ((wrap64 (t164 + 1)) : Int).toNat a0.size, true)) else (none)) else (none)) else (none)) else (none))) else (none)) else (none)) = some (r1, r2, r3) := by first | (rw [hji5] at H; exact H) | (simp only [hji5] at H ⊢; exact H)
      (try rw [hji5] at A2)
      have hji5w : (IntKind.i64.wrap (t164 - 1)) = ji5 := (i64_w _).trans hji5
      by_cases c6 : 0 ≤ (ji5)
      · rw [if_pos c6] at H
        have c6b0 : decide (0 ≤ (ji5)) = true := decide_eq_true c6
        clear c6
        by_cases c7 : (ji5) < (a0.size : Int)
        · rw [if_pos c7] at H
          have c7b0 : decide ((ji5) < (a0.size : Int)) = true := decide_eq_true c7
          clear c7
          by_cases c9 : (bt a0 (ji5)) = 13
          · rw [if_pos c9] at H
            have c9b0 : ((bt a0 (ji5)) == 13) = true := beq_iff_eq.mpr c9
            have c9b1 : ((bt a0 (ji5)) != 13) = false := bne_eq_false_iff_eq.mpr c9
            clear c9
            have c10b0 := eq_true (of_decide_eq_true (by first | (with_reducible assumption) | assumption) : 0 ≤ (ji5))
            by_cases c11 : (ji5) ≤ (a0.size : Int)
            · rw [if_pos c11] at H
              have c11b0 := eq_true c11
              have c11b1 : decide ((ji5) ≤ (a0.size : Int)) = true := decide_eq_true c11
              clear c11
              obtain ⟨ji12, hji12⟩ : ∃ j_ : Int, (wrap64 (t164 + 1)) = j_ := ⟨_, rfl⟩
              replace H : (if 0 ≤ (ji12) then (if (ji12) ≤ (a0.size : Int) then (some (a0.extract 0 ((ji5) : Int).toNat, a0.extract ((ji12) : Int).toNat a0.size, true)) else (none)) else (none)) = some (r1, r2, r3) := by first | (rw [hji12] at H; exact H) | (simp only [hji12] at H ⊢; exact H)
              (try rw [hji12] at A2)
              have hji12w : (IntKind.i64.wrap (t164 + 1)) = ji12 := (i64_w _).trans hji12
              by_cases c13 : 0 ≤ (ji12)
              · rw [if_pos c13] at H
                have c13b0 := eq_true c13
                have c13b1 : decide (0 ≤ (ji12)) = true := decide_eq_true c13
                clear c13
                by_cases c14 : (ji12) ≤ (a0.size : Int)
                · rw [if_pos c14] at H
                  have c14b0 := eq_true c14
                  have c14b1 : decide ((ji12) ≤ (a0.size : Int)) = true := decide_eq_true c14
                  clear c14
                  simp only [Option.some.injEq, Prod.mk.injEq] at H
                  obtain ⟨rfl, rfl, rfl⟩ := H
                  go_enter Tryd.func36, Tryd.ntmps36
                  go_wp2_with (first | (go_at_call 66; (with_reducible refine (spec_place.calls k a0 10 t164 _ A2.out).mono ?_); rintro e w' ⟨rfl, ⟨nd, rfl⟩⟩; (try first | exact ⟨rfl, _, World.drewN_drewN _ _ _⟩ | exact ⟨rfl, _, Eq.trans (World.drewN_drewN _ _ _) (congrArg (World.drewN _) (Nat.add_assoc _ _ _))⟩); have p8 : 0 ≤ ((ji5) : Int) := of_decide_eq_true (by first | (with_reducible assumption) | assumption); have q8 : (ji5) < (a0.size : Int) := of_decide_eq_true (by first | (with_reducible assumption) | assumption); have hx8 := bt_at a0 (ji5); replace p8 := eq_true p8; replace q8 := eq_true q8))
                  repeat (go_quiet (first | (go_at_call 66; (with_reducible refine (spec_place.calls k a0 10 t164 _ A2.out).mono ?_); rintro e w' ⟨rfl, ⟨nd, rfl⟩⟩; (try first | exact ⟨rfl, _, World.drewN_drewN _ _ _⟩ | exact ⟨rfl, _, Eq.trans (World.drewN_drewN _ _ _) (congrArg (World.drewN _) (Nat.add_assoc _ _ _))⟩); have p8 : 0 ≤ ((ji5) : Int) := of_decide_eq_true (by first | (with_reducible assumption) | assumption); have q8 : (ji5) < (a0.size : Int) := of_decide_eq_true (by first | (with_reducible assumption) | assumption); have hx8 := bt_at a0 (ji5); replace p8 := eq_true p8; replace q8 := eq_true q8)); try go_wp2_with (first | (go_at_call 66; (with_reducible refine (spec_place.calls k a0 10 t164 _ A2.out).mono ?_); rintro e w' ⟨rfl, ⟨nd, rfl⟩⟩; (try first | exact ⟨rfl, _, World.drewN_drewN _ _ _⟩ | exact ⟨rfl, _, Eq.trans (World.drewN_drewN _ _ _) (congrArg (World.drewN _) (Nat.add_assoc _ _ _))⟩); have p8 : 0 ≤ ((ji5) : Int) := of_decide_eq_true (by first | (with_reducible assumption) | assumption); have q8 : (ji5) < (a0.size : Int) := of_decide_eq_true (by first | (with_reducible assumption) | assumption); have hx8 := bt_at a0 (ji5); replace p8 := eq_true p8; replace q8 := eq_true q8)))
                  go_ret3
                  exact ⟨by first | rfl | (simp; done) | (simp only [← hji5, ← hji12] <;> (first | rfl | simp)) | (rw [prx_ne]; first | done | rfl) | (simp [*]; done), by repeat (first | exact Drawn0.refl _ | apply Drawn0.step)⟩
                · rw [if_neg c14] at H
                  exact absurd H (by simp)
              · rw [if_neg c13] at H
                exact absurd H (by simp)
            · rw [if_neg c11] at H
              exact absurd H (by simp)
          · rw [if_neg c9] at H
            have c9b0 : ((bt a0 (ji5)) == 13) = false := beq_eq_false_iff_ne.mpr c9
            have c9b1 : ((bt a0 (ji5)) != 13) = true := bne_iff_ne.mpr c9
            by_cases c15 : 0 ≤ t164
            · rw [if_pos c15] at H
              have c15b0 := eq_true c15
              have c15b1 : decide (0 ≤ t164) = true := decide_eq_true c15
              clear c15
              by_cases c16 : t164 ≤ (a0.size : Int)
              · rw [if_pos c16] at H
                have c16b0 := eq_true c16
                have c16b1 : decide (t164 ≤ (a0.size : Int)) = true := decide_eq_true c16
                clear c16
                obtain ⟨ji17, hji17⟩ : ∃ j_ : Int, (wrap64 (t164 + 1)) = j_ := ⟨_, rfl⟩
                replace H : (if 0 ≤ (ji17) then (if (ji17) ≤ (a0.size : Int) then (some (a0.extract 0 (t164 : Int).toNat, a0.extract ((ji17) : Int).toNat a0.size, true)) else (none)) else (none)) = some (r1, r2, r3) := by first | (rw [hji17] at H; exact H) | (simp only [hji17] at H ⊢; exact H)
                (try rw [hji17] at A2)
                have hji17w : (IntKind.i64.wrap (t164 + 1)) = ji17 := (i64_w _).trans hji17
                by_cases c18 : 0 ≤ (ji17)
                · rw [if_pos c18] at H
                  have c18b0 := eq_true c18
                  have c18b1 : decide (0 ≤ (ji17)) = true := decide_eq_true c18
                  clear c18
                  by_cases c19 : (ji17) ≤ (a0.size : Int)
                  · rw [if_pos c19] at H
                    have c19b0 := eq_true c19
                    have c19b1 : decide ((ji17) ≤ (a0.size : Int)) = true := decide_eq_true c19
                    clear c19
                    simp only [Option.some.injEq, Prod.mk.injEq] at H
                    obtain ⟨rfl, rfl, rfl⟩ := H
                    go_enter Tryd.func36, Tryd.ntmps36
                    go_wp2_with (first | (go_at_call 66; (with_reducible refine (spec_place.calls k a0 10 t164 _ A2.out).mono ?_); rintro e w' ⟨rfl, ⟨nd, rfl⟩⟩; (try first | exact ⟨rfl, _, World.drewN_drewN _ _ _⟩ | exact ⟨rfl, _, Eq.trans (World.drewN_drewN _ _ _) (congrArg (World.drewN _) (Nat.add_assoc _ _ _))⟩); have p8 : 0 ≤ ((ji5) : Int) := of_decide_eq_true (by first | (with_reducible assumption) | assumption); have q8 : (ji5) < (a0.size : Int) := of_decide_eq_true (by first | (with_reducible assumption) | assumption); have hx8 := bt_at a0 (ji5); replace p8 := eq_true p8; replace q8 := eq_true q8))
                    repeat (go_quiet (first | (go_at_call 66; (with_reducible refine (spec_place.calls k a0 10 t164 _ A2.out).mono ?_); rintro e w' ⟨rfl, ⟨nd, rfl⟩⟩; (try first | exact ⟨rfl, _, World.drewN_drewN _ _ _⟩ | exact ⟨rfl, _, Eq.trans (World.drewN_drewN _ _ _) (congrArg (World.drewN _) (Nat.add_assoc _ _ _))⟩); have p8 : 0 ≤ ((ji5) : Int) := of_decide_eq_true (by first | (with_reducible assumption) | assumption); have q8 : (ji5) < (a0.size : Int) := of_decide_eq_true (by first | (with_reducible assumption) | assumption); have hx8 := bt_at a0 (ji5); replace p8 := eq_true p8; replace q8 := eq_true q8)); try go_wp2_with (first | (go_at_call 66; (with_reducible refine (spec_place.calls k a0 10 t164 _ A2.out).mono ?_); rintro e w' ⟨rfl, ⟨nd, rfl⟩⟩; (try first | exact ⟨rfl, _, World.drewN_drewN _ _ _⟩ | exact ⟨rfl, _, Eq.trans (World.drewN_drewN _ _ _) (congrArg (World.drewN _) (Nat.add_assoc _ _ _))⟩); have p8 : 0 ≤ ((ji5) : Int) := of_decide_eq_true (by first | (with_reducible assumption) | assumption); have q8 : (ji5) < (a0.size : Int) := of_decide_eq_true (by first | (with_reducible assumption) | assumption); have hx8 := bt_at a0 (ji5); replace p8 := eq_true p8; replace q8 := eq_true q8)))
                    go_ret3
                    exact ⟨by first | rfl | (simp; done) | (simp only [← hji5, ← hji17] <;> (first | rfl | simp)) | (rw [prx_ne]; first | done | rfl) | (simp [*]; done), by repeat (first | exact Drawn0.refl _ | apply Drawn0.step)⟩
                  · rw [if_neg c19] at H
                    exact absurd H (by simp)
                · rw [if_neg c18] at H
                  exact absurd H (by simp)
              · rw [if_neg c16] at H
                exact absurd H (by simp)
            · rw [if_neg c15] at H
              exact absurd H (by simp)
        · rw [if_neg c7] at H
          exact absurd H (by simp)
      · rw [if_neg c6] at H
        exact absurd H (by simp)
    · rw [if_neg c4] at H
      have c4b0 : decide (0 < t164) = false := decide_eq_false c4
      clear c4
      by_cases c20 : 0 ≤ t164
      · rw [if_pos c20] at H
        have c20b0 := eq_true c20
        have c20b1 : decide (0 ≤ t164) = true := decide_eq_true c20
        clear c20
        by_cases c21 : t164 ≤ (a0.size : Int)
        · rw [if_pos c21] at H
          have c21b0 := eq_true c21
          have c21b1 : decide (t164 ≤ (a0.size : Int)) = true := decide_eq_true c21
          clear c21
          obtain ⟨ji22, hji22⟩ : ∃ j_ : Int, (wrap64 (t164 + 1)) = j_ := ⟨_, rfl⟩
          replace H : (if 0 ≤ (ji22) then (if (ji22) ≤ (a0.size : Int) then (some (a0.extract 0 (t164 : Int).toNat, a0.extract ((ji22) : Int).toNat a0.size, true)) else (none)) else (none)) = some (r1, r2, r3) := by first | (rw [hji22] at H; exact H) | (simp only [hji22] at H ⊢; exact H)
          (try rw [hji22] at A2)
          have hji22w : (IntKind.i64.wrap (t164 + 1)) = ji22 := (i64_w _).trans hji22
          by_cases c23 : 0 ≤ (ji22)
          · rw [if_pos c23] at H
            have c23b0 := eq_true c23
            have c23b1 : decide (0 ≤ (ji22)) = true := decide_eq_true c23
            clear c23
            by_cases c24 : (ji22) ≤ (a0.size : Int)
            · rw [if_pos c24] at H
              have c24b0 := eq_true c24
              have c24b1 : decide ((ji22) ≤ (a0.size : Int)) = true := decide_eq_true c24
              clear c24
              simp only [Option.some.injEq, Prod.mk.injEq] at H
              obtain ⟨rfl, rfl, rfl⟩ := H
              go_enter Tryd.func36, Tryd.ntmps36
              go_wp2_with (first | (go_at_call 66; (with_reducible refine (spec_place.calls k a0 10 t164 _ A2.out).mono ?_); rintro e w' ⟨rfl, ⟨nd, rfl⟩⟩; (try first | exact ⟨rfl, _, World.drewN_drewN _ _ _⟩ | exact ⟨rfl, _, Eq.trans (World.drewN_drewN _ _ _) (congrArg (World.drewN _) (Nat.add_assoc _ _ _))⟩)))
              repeat (go_quiet (first | (go_at_call 66; (with_reducible refine (spec_place.calls k a0 10 t164 _ A2.out).mono ?_); rintro e w' ⟨rfl, ⟨nd, rfl⟩⟩; (try first | exact ⟨rfl, _, World.drewN_drewN _ _ _⟩ | exact ⟨rfl, _, Eq.trans (World.drewN_drewN _ _ _) (congrArg (World.drewN _) (Nat.add_assoc _ _ _))⟩))); try go_wp2_with (first | (go_at_call 66; (with_reducible refine (spec_place.calls k a0 10 t164 _ A2.out).mono ?_); rintro e w' ⟨rfl, ⟨nd, rfl⟩⟩; (try first | exact ⟨rfl, _, World.drewN_drewN _ _ _⟩ | exact ⟨rfl, _, Eq.trans (World.drewN_drewN _ _ _) (congrArg (World.drewN _) (Nat.add_assoc _ _ _))⟩))))
              go_ret3
              exact ⟨by first | rfl | (simp; done) | (simp only [← hji22] <;> (first | rfl | simp)) | (rw [prx_ne]; first | done | rfl) | (simp [*]; done), by repeat (first | exact Drawn0.refl _ | apply Drawn0.step)⟩
            · rw [if_neg c24] at H
              exact absurd H (by simp)
          · rw [if_neg c23] at H
            exact absurd H (by simp)
        · rw [if_neg c21] at H
          exact absurd H (by simp)
      · rw [if_neg c20] at H
        exact absurd H (by simp)
def laws_short.l0 : Nat → List ByteArray → List ByteArray → Int → Int → Option (Bool)
  | 0, _, _, _, _ => none
  | k + 1, x0, x5, x6, x7 => if x7 < x6 then (if 0 ≤ x7 then (if x7 < (x5.length : Int) then (if ((rdOf ByteArray.empty x5 x7).size : Int) > 200 then (some false) else (laws_short.l0 k x0 x5 x6 (wrap64 (x7 + 1)))) else (none)) else (none)) else (some (decide ((x0.length : Int) ≤ 60)))
def laws_short.f (k : Nat) (l0 : List ByteArray) : Option (Bool) := laws_short.l0 k l0 l0 (l0.length : Int) 0
set_option maxHeartbeats 8000000 in
set_option maxRecDepth 100000 in
theorem laws_short.calls (k : Nat) (A0 : Option Addr) (c0 : Nat) (l0 : List ByteArray) (r : Bool) (w : World) (hr0 : Kd.C Kd.string w A0 l0.length l0) (hc0 : l0.length ≤ c0) (h : laws_short.f k l0 = some r) :
    Calls Tryd.prog 11 #[.slice A0 l0.length c0] w fun e w' => e = .returned (.bool r) ∧ Drawn0 w w' := by
  have HR0 := Aside0.mk hr0
  have HC0 := Aside0.mk hc0
  clear hr0 hc0
  have H : (laws_short.l0 k l0 l0 (l0.length : Int) 0) = some r := h
  clear h
  have H' := Aside0.mk H
  clear H
  go_enter Tryd.func11, Tryd.ntmps11
  go_wp2
  go_loopg [7] k (fun kq v7 w' => ∃ (x7_1 : Int), v7 = .int .i64 x7_1 ∧ Aside0 (laws_short.l0 kq l0 l0 (l0.length : Int) x7_1 = some r) ∧ Aside0 (kq ≤ k) ∧ Drawn0 w w')
  case atStart => exact ⟨(0), (by first | rfl | (simp; done) | (rw [prx_ne]; first | done | rfl) | (simp [*]; done)), H', ⟨Nat.le_refl _⟩, by repeat (first | exact Drawn0.refl _ | apply Drawn0.step)⟩
  case round =>
    clear H'
    try clear c1
    obtain ⟨x7_1, rfl, HA, HK1, ⟨m1, rfl⟩⟩ := hrel
    cases gk with
    | zero => exact absurd HA.out (by simp [laws_short.l0])
    | succ k1 =>
      have H := HA.out
      clear HA
      simp only [laws_short.l0] at H
      by_cases c2 : x7_1 < (l0.length : Int)
      · rw [if_pos c2] at H
        have c2b0 : decide (x7_1 < (l0.length : Int)) = true := decide_eq_true c2
        clear c2
        by_cases c3 : 0 ≤ x7_1
        · rw [if_pos c3] at H
          have c3b0 : decide (0 ≤ x7_1) = true := decide_eq_true c3
          clear c3
          by_cases c4 : x7_1 < (l0.length : Int)
          · rw [if_pos c4] at H
            have c4b0 : decide (x7_1 < (l0.length : Int)) = true := decide_eq_true c4
            clear c4
            by_cases c5 : ((rdOf ByteArray.empty l0 x7_1).size : Int) > 200
            · rw [if_pos c5] at H
              have c5b0 : decide (200 < ((rdOf ByteArray.empty l0 x7_1).size : Int)) = true := decide_eq_true c5
              have c5b1 : decide (200 < (rdOf ByteArray.empty l0 x7_1).size) = true := decide_eq_true (by omega)
              clear c5
              obtain rfl := Option.some.inj H
              have p101 : 0 ≤ (x7_1 : Int) := of_decide_eq_true (by first | (with_reducible assumption) | assumption)
              have q101 : x7_1 < (l0.length : Int) := of_decide_eq_true (by first | (with_reducible assumption) | assumption)
              obtain ⟨ad101, e101, hx101_0⟩ := Kd.at_string HR0.out x7_1 p101 q101
              cases e101
              replace p101 := eq_true p101
              replace q101 := eq_true q101
              go_wp2
              go_ret
              exact ⟨by first | rfl | (simp; done) | (rw [prx_ne]; first | done | rfl) | (simp [*]; done), by repeat (first | exact Drawn0.refl _ | apply Drawn0.step)⟩
            · rw [if_neg c5] at H
              have c5b0 : decide (200 < ((rdOf ByteArray.empty l0 x7_1).size : Int)) = false := decide_eq_false c5
              have c5b1 : decide (200 < (rdOf ByteArray.empty l0 x7_1).size) = false := decide_eq_false (by omega)
              clear c5
              have H' := Aside0.mk H
              clear H
              have p101 : 0 ≤ (x7_1 : Int) := of_decide_eq_true (by first | (with_reducible assumption) | assumption)
              have q101 : x7_1 < (l0.length : Int) := of_decide_eq_true (by first | (with_reducible assumption) | assumption)
              obtain ⟨ad101, e101, hx101_0⟩ := Kd.at_string HR0.out x7_1 p101 q101
              cases e101
              replace p101 := eq_true p101
              replace q101 := eq_true q101
              go_wp2
              go_roundg k1
              case measure => have := HK1.out; omega
              case rel => exact ⟨(wrap64 (x7_1 + 1)), (by first | rfl | (simp; done) | (rw [prx_ne]; first | done | rfl) | (simp [*]; done)), H', ⟨by have := HK1.out; omega⟩, by repeat (first | exact Drawn0.refl _ | apply Drawn0.step)⟩
          · rw [if_neg c4] at H
            exact absurd H (by simp)
        · rw [if_neg c3] at H
          exact absurd H (by simp)
      · rw [if_neg c2] at H
        have c2b0 : decide (x7_1 < (l0.length : Int)) = false := decide_eq_false c2
        clear c2
        obtain rfl := Option.some.inj H
        go_wp2
        go_ret
        exact ⟨by first | rfl | (simp; done) | (rw [prx_ne]; first | done | rfl) | (simp [*]; done), by repeat (first | exact Drawn0.refl _ | apply Drawn0.step)⟩
def laws_sameTexts.l0 : Nat → List ByteArray → List ByteArray → Int → Int → Option (Bool)
  | 0, _, _, _, _ => none
  | k + 1, x0, x1, x12, x13 => if x13 < x12 then (if 0 ≤ x13 then (if x13 < (x0.length : Int) then (if x13 < (x1.length : Int) then (if (rdOf ByteArray.empty x0 x13).toList = (rdOf ByteArray.empty x1 x13).toList then (laws_sameTexts.l0 k x0 x1 x12 (wrap64 (x13 + 1))) else (some false)) else (none)) else (none)) else (none)) else (some true)
def laws_sameTexts.f (k : Nat) (l0 : List ByteArray) (l1 : List ByteArray) : Option (Bool) := if (l0.length : Int) = (l1.length : Int) then (laws_sameTexts.l0 k l0 l1 (l0.length : Int) 0) else (some false)
set_option maxHeartbeats 8000000 in
set_option maxRecDepth 100000 in
theorem laws_sameTexts.calls (k : Nat) (A0 : Option Addr) (c0 : Nat) (l0 : List ByteArray) (A1 : Option Addr) (c1 : Nat) (l1 : List ByteArray) (r : Bool) (w : World) (hr0 : Kd.C Kd.string w A0 l0.length l0) (hc0 : l0.length ≤ c0) (hr1 : Kd.C Kd.string w A1 l1.length l1) (hc1 : l1.length ≤ c1) (h : laws_sameTexts.f k l0 l1 = some r) :
    Calls Tryd.prog 28 #[.slice A0 l0.length c0, .slice A1 l1.length c1] w fun e w' => e = .returned (.bool r) ∧ Drawn0 w w' := by
  have HR0 := Aside0.mk hr0
  have HC0 := Aside0.mk hc0
  clear hr0 hc0
  have HR1 := Aside0.mk hr1
  have HC1 := Aside0.mk hc1
  clear hr1 hc1
  have H : (if (l0.length : Int) = (l1.length : Int) then (laws_sameTexts.l0 k l0 l1 (l0.length : Int) 0) else (some false)) = some r := h
  clear h
  by_cases c3 : (l0.length : Int) = (l1.length : Int)
  · rw [if_pos c3] at H
    have c3b0 : ((l0.length : Int) == (l1.length : Int)) = true := beq_iff_eq.mpr c3
    have c3b1 : ((l0.length : Int) != (l1.length : Int)) = false := bne_eq_false_iff_eq.mpr c3
    have c3b2 : (l0.length == l1.length) = true := by first | simpa using c3 | (simp at c3 ⊢; omega)
    clear c3
    have H' := Aside0.mk H
    clear H
    go_enter Tryd.func28, Tryd.ntmps28
    go_wp2
    repeat (go_quiet (fail); try go_wp2)
    go_loopg [13] k (fun kq v13 w' => ∃ (x13_1 : Int), v13 = .int .i64 x13_1 ∧ Aside0 (laws_sameTexts.l0 kq l0 l1 (l0.length : Int) x13_1 = some r) ∧ Aside0 (kq ≤ k) ∧ Drawn0 w w')
    case atStart => exact ⟨(0), (by first | rfl | (simp; done) | (rw [prx_ne]; first | done | rfl) | (simp [*]; done)), H', ⟨Nat.le_refl _⟩, by repeat (first | exact Drawn0.refl _ | apply Drawn0.step)⟩
    case round =>
      clear H'
      try clear c1
      try clear c2
      try clear p2
      try clear c3
      try clear c3b0
      try clear c3b1
      try clear c3b2
      obtain ⟨x13_1, rfl, HA, HK1, ⟨m1, rfl⟩⟩ := hrel
      cases gk with
      | zero => exact absurd HA.out (by simp [laws_sameTexts.l0])
      | succ k1 =>
        have H := HA.out
        clear HA
        simp only [laws_sameTexts.l0] at H
        by_cases c4 : x13_1 < (l0.length : Int)
        · rw [if_pos c4] at H
          have c4b0 : decide (x13_1 < (l0.length : Int)) = true := decide_eq_true c4
          clear c4
          by_cases c5 : 0 ≤ x13_1
          · rw [if_pos c5] at H
            have c5b0 : decide (0 ≤ x13_1) = true := decide_eq_true c5
            clear c5
            by_cases c6 : x13_1 < (l0.length : Int)
            · rw [if_pos c6] at H
              have c6b0 : decide (x13_1 < (l0.length : Int)) = true := decide_eq_true c6
              clear c6
              by_cases c7 : x13_1 < (l1.length : Int)
              · rw [if_pos c7] at H
                have c7b0 : decide (x13_1 < (l1.length : Int)) = true := decide_eq_true c7
                clear c7
                by_cases c8 : (rdOf ByteArray.empty l0 x13_1).toList = (rdOf ByteArray.empty l1 x13_1).toList
                · rw [if_pos c8] at H
                  have c8b0 : ((rdOf ByteArray.empty l0 x13_1).toList == (rdOf ByteArray.empty l1 x13_1).toList) = true := beq_iff_eq.mpr c8
                  have c8b1 : ((rdOf ByteArray.empty l0 x13_1).toList != (rdOf ByteArray.empty l1 x13_1).toList) = false := bne_eq_false_iff_eq.mpr c8
                  clear c8
                  have H' := Aside0.mk H
                  clear H
                  have p136 : 0 ≤ (x13_1 : Int) := of_decide_eq_true (by first | (with_reducible assumption) | assumption)
                  have q136 : x13_1 < (l0.length : Int) := of_decide_eq_true (by first | (with_reducible assumption) | assumption)
                  obtain ⟨ad136, e136, hx136_0⟩ := Kd.at_string HR0.out x13_1 p136 q136
                  cases e136
                  replace p136 := eq_true p136
                  replace q136 := eq_true q136
                  have p137 : 0 ≤ (x13_1 : Int) := of_decide_eq_true (by first | (with_reducible assumption) | assumption)
                  have q137 : x13_1 < (l1.length : Int) := of_decide_eq_true (by first | (with_reducible assumption) | assumption)
                  obtain ⟨ad137, e137, hx137_0⟩ := Kd.at_string HR1.out x13_1 p137 q137
                  cases e137
                  replace p137 := eq_true p137
                  replace q137 := eq_true q137
                  go_wp2
                  repeat (go_quiet (fail); try go_wp2)
                  go_roundg k1
                  case measure => have := HK1.out; omega
                  case rel => exact ⟨(wrap64 (x13_1 + 1)), (by first | rfl | (simp; done) | (rw [prx_ne]; first | done | rfl) | (simp [*]; done)), H', ⟨by have := HK1.out; omega⟩, by repeat (first | exact Drawn0.refl _ | apply Drawn0.step)⟩
                · rw [if_neg c8] at H
                  have c8b0 : ((rdOf ByteArray.empty l0 x13_1).toList == (rdOf ByteArray.empty l1 x13_1).toList) = false := beq_eq_false_iff_ne.mpr c8
                  have c8b1 : ((rdOf ByteArray.empty l0 x13_1).toList != (rdOf ByteArray.empty l1 x13_1).toList) = true := bne_iff_ne.mpr c8
                  obtain rfl := Option.some.inj H
                  have p136 : 0 ≤ (x13_1 : Int) := of_decide_eq_true (by first | (with_reducible assumption) | assumption)
                  have q136 : x13_1 < (l0.length : Int) := of_decide_eq_true (by first | (with_reducible assumption) | assumption)
                  obtain ⟨ad136, e136, hx136_0⟩ := Kd.at_string HR0.out x13_1 p136 q136
                  cases e136
                  replace p136 := eq_true p136
                  replace q136 := eq_true q136
                  have p137 : 0 ≤ (x13_1 : Int) := of_decide_eq_true (by first | (with_reducible assumption) | assumption)
                  have q137 : x13_1 < (l1.length : Int) := of_decide_eq_true (by first | (with_reducible assumption) | assumption)
                  obtain ⟨ad137, e137, hx137_0⟩ := Kd.at_string HR1.out x13_1 p137 q137
                  cases e137
                  replace p137 := eq_true p137
                  replace q137 := eq_true q137
                  go_wp2
                  repeat (go_quiet (fail); try go_wp2)
                  go_ret
                  exact ⟨by first | rfl | (simp; done) | (rw [prx_ne]; first | done | rfl) | (simp [*]; done), by repeat (first | exact Drawn0.refl _ | apply Drawn0.step)⟩
              · rw [if_neg c7] at H
                exact absurd H (by simp)
            · rw [if_neg c6] at H
              exact absurd H (by simp)
          · rw [if_neg c5] at H
            exact absurd H (by simp)
        · rw [if_neg c4] at H
          have c4b0 : decide (x13_1 < (l0.length : Int)) = false := decide_eq_false c4
          clear c4
          obtain rfl := Option.some.inj H
          go_wp2
          repeat (go_quiet (fail); try go_wp2)
          go_ret
          exact ⟨by first | rfl | (simp; done) | (rw [prx_ne]; first | done | rfl) | (simp [*]; done), by repeat (first | exact Drawn0.refl _ | apply Drawn0.step)⟩
  · rw [if_neg c3] at H
    have c3b0 : ((l0.length : Int) == (l1.length : Int)) = false := beq_eq_false_iff_ne.mpr c3
    have c3b1 : ((l0.length : Int) != (l1.length : Int)) = true := bne_iff_ne.mpr c3
    have c3b2 : (l0.length == l1.length) = false := by first | simpa using c3 | (simp at c3 ⊢; omega)
    obtain rfl := Option.some.inj H
    go_enter Tryd.func28, Tryd.ntmps28
    go_wp2
    repeat (go_quiet (fail); try go_wp2)
    go_ret
    exact ⟨by first | rfl | (simp; done) | (rw [prx_ne]; first | done | rfl) | (simp [*]; done), by repeat (first | exact Drawn0.refl _ | apply Drawn0.step)⟩
end Go.Proofs.YtgmjaggkiifdjaaDoor.QA
