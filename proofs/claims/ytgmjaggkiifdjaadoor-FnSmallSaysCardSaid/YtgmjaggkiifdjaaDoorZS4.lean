/- Texts of this claim, one behind the other (merged by wip/prune.py of this repo, without what the proof does not use): QA0, QA3, QA4, QA5, QA2, QA9, QA10, QA11, QA17, QA18, QA19, QA22, QA16, QA20, QA24, QA27. -/
import Derived.Test.YtgmjaggkiifdjaaDoorZS1
import Derived.Test.YtgmjaggkiifdjaaDoorZS2
import Derived.ArgAppend
import Derived.Below
import Derived.BigQuiet
import Derived.Deep.AppendLies
import Derived.Deep.CutBlock
import Derived.Deep.DeepCutAuto
import Derived.Deep.Draws
import Derived.Deep.LoopGhost
import Derived.Deep.OwnRows
import Derived.Deep.QuietTactic
import Derived.Deep.RegionHeld3
import Derived.KernelRfl
import Derived.Laws.BitsLemmas
import Derived.Laws.BytesArg
import Derived.Laws.IdiomCopy
import Derived.Laws.MakeOwn
import Derived.Laws.OwnMore
import Derived.Laws.Rows
import Derived.Laws.Slices
import Derived.Laws.StructEq
import Derived.Lib.AppendStr
import Derived.Lib.ConvBytes
import Derived.Maps.AppendAt
import Derived.OrdersHeld
import Derived.OwnWalk
import Derived.RowKit
import Derived.RowKit3
import Derived.Tactics
import Derived.Test.YtgmjaggkiifdjaaDoorProg
import Derived.WalkKit
import Derived.WideLaws
set_option linter.unusedVariables false
set_option linter.unusedSimpArgs false
namespace Go.Proofs.YtgmjaggkiifdjaaDoor.QA
open Go.Proofs.YtgmjaggkiifdjaaDoor.Given
open Go.Proofs.YtgmjaggkiifdjaaDoor.PrX
open Go.RowKit Go.Proofs.YtgmjaggkiifdjaaDoorW.PrintWords Go.Proofs.YtgmjaggkiifdjaaDoorW.PrintLast Go.Proofs.YtgmjaggkiifdjaaDoorW.PrintMore
def errW : Option Int → Value
  | none => .nilIface
  | some c => .iface 0 (.int .i64 c)
theorem errW_none : errW none = .nilIface := rfl
theorem errW_some (c : Int) : errW (some c) = .iface 0 (.int .i64 c) := rfl
theorem info9 : (Tryd.prog.info? 9).map (fun i => (i.zero, i.size, i.bytes)) = some (some (.string ⟨#[]⟩), 1, 16) := by kernel_rfl
def fiberutils_TrimRight.l0 : Nat → ByteArray → Int → Int → Option (ByteArray)
  | 0, _, _, _ => none
  | k + 1, x0, x1, x5 => if x5 > 0 then (if 0 ≤ (wrap64 (x5 - 1)) then (if (wrap64 (x5 - 1)) < (x0.size : Int) then (if (bt x0 (wrap64 (x5 - 1))) = x1 then (fiberutils_TrimRight.l0 k x0 x1 (wrap64 (x5 - 1))) else (if 0 ≤ x5 then (if x5 ≤ (x0.size : Int) then (some (x0.extract 0 (x5 : Int).toNat)) else (none)) else (none))) else (none)) else (none)) else (if 0 ≤ x5 then (if x5 ≤ (x0.size : Int) then (some (x0.extract 0 (x5 : Int).toNat)) else (none)) else (none))
def fiberutils_TrimRight.f (k : Nat) (a0 : ByteArray) (a1 : Int) : Option (ByteArray) := fiberutils_TrimRight.l0 k a0 a1 (a0.size : Int)
set_option maxHeartbeats 8000000 in
set_option maxRecDepth 100000 in
theorem fiberutils_TrimRight.calls (k : Nat) (a0 : ByteArray) (a1 : Int) (r : ByteArray) (w : World) (h : fiberutils_TrimRight.f k a0 a1 = some r) :
    Calls Tryd.prog 98 #[.string a0, .int .u8 a1] w fun e w' => e = .returned (.string r) ∧ Drawn0 w w' := by
  have H : (fiberutils_TrimRight.l0 k a0 a1 (a0.size : Int)) = some r := h
  clear h
  have H' := Aside0.mk H
  clear H
  go_enter Tryd.func98, Tryd.ntmps98
  go_wp2
  go_loopg [5] k (fun kq v5 w' => ∃ (x5_1 : Int), v5 = .int .i64 x5_1 ∧ Aside0 (fiberutils_TrimRight.l0 kq a0 a1 x5_1 = some r) ∧ Aside0 (kq ≤ k) ∧ Drawn0 w w')
  case atStart => exact ⟨((a0.size : Int)), (by first | rfl | (simp; done) | (rw [prx_ne]; first | done | rfl) | (simp [*]; done)), H', ⟨Nat.le_refl _⟩, by repeat (first | exact Drawn0.refl _ | apply Drawn0.step)⟩
  case round =>
    clear H'
    try clear p2
    obtain ⟨x5_1, rfl, HA, HK1, ⟨m1, rfl⟩⟩ := hrel
    cases gk with
    | zero => exact absurd HA.out (by simp [fiberutils_TrimRight.l0])
    | succ k1 =>
      have H := HA.out
      clear HA
      simp only [fiberutils_TrimRight.l0] at H
      by_cases c3 : x5_1 > 0
      · rw [if_pos c3] at H
        have c3b0 : decide (0 < x5_1) = true := decide_eq_true c3
        clear c3
        obtain ⟨ji4, hji4⟩ : ∃ j_ : Int, (wrap64 (x5_1 - 1)) = j_ := ⟨_, rfl⟩
        replace H : (if 0 ≤ (ji4) then (if (ji4) < (a0.size : Int) then (if (bt a0 (ji4)) = a1 then (fiberutils_TrimRight.l0 k1 a0 a1 ji4) else (if 0 ≤ x5_1 then (if x5_1 ≤ (a0.size : Int) then (some (a0.extract 0 (x5_1 : Int).toNat)) else (none)) else (none))) else (none)) else (none)) = some r := by first | (rw [hji4] at H; exact H) | (simp only [hji4] at H ⊢; exact H)
        have hji4w : (IntKind.i64.wrap (x5_1 - 1)) = ji4 := (i64_w _).trans hji4
        by_cases c5 : 0 ≤ (ji4)
        · rw [if_pos c5] at H
          have c5b0 : decide (0 ≤ (ji4)) = true := decide_eq_true c5
          clear c5
          by_cases c6 : (ji4) < (a0.size : Int)
          · rw [if_pos c6] at H
            have c6b0 : decide ((ji4) < (a0.size : Int)) = true := decide_eq_true c6
            clear c6
            by_cases c8 : (bt a0 (ji4)) = a1
            · rw [if_pos c8] at H
              have c8b0 : ((bt a0 (ji4)) == a1) = true := beq_iff_eq.mpr c8
              have c8b1 : ((bt a0 (ji4)) != a1) = false := bne_eq_false_iff_eq.mpr c8
              clear c8
              have H' := Aside0.mk H
              clear H
              have p7 : 0 ≤ ((ji4) : Int) := of_decide_eq_true (by first | (with_reducible assumption) | assumption)
              have q7 : (ji4) < (a0.size : Int) := of_decide_eq_true (by first | (with_reducible assumption) | assumption)
              have hx7 := bt_at a0 (ji4)
              replace p7 := eq_true p7
              replace q7 := eq_true q7
              go_wp2
              go_roundg k1
              case measure => have := HK1.out; omega
              case rel => exact ⟨(ji4), (by first | rfl | (simp; done) | (simp only [← hji4] <;> (first | rfl | simp)) | (rw [prx_ne]; first | done | rfl) | (simp [*]; done)), H', ⟨by have := HK1.out; omega⟩, by repeat (first | exact Drawn0.refl _ | apply Drawn0.step)⟩
            · rw [if_neg c8] at H
              have c8b0 : ((bt a0 (ji4)) == a1) = false := beq_eq_false_iff_ne.mpr c8
              have c8b1 : ((bt a0 (ji4)) != a1) = true := bne_iff_ne.mpr c8
              by_cases c9 : 0 ≤ x5_1
              · rw [if_pos c9] at H
                have c9b0 := eq_true c9
                have c9b1 : decide (0 ≤ x5_1) = true := decide_eq_true c9
                clear c9
                by_cases c10 : x5_1 ≤ (a0.size : Int)
                · rw [if_pos c10] at H
                  have c10b0 := eq_true c10
                  have c10b1 : decide (x5_1 ≤ (a0.size : Int)) = true := decide_eq_true c10
                  clear c10
                  obtain rfl := Option.some.inj H
                  have p7 : 0 ≤ ((ji4) : Int) := of_decide_eq_true (by first | (with_reducible assumption) | assumption)
                  have q7 : (ji4) < (a0.size : Int) := of_decide_eq_true (by first | (with_reducible assumption) | assumption)
                  have hx7 := bt_at a0 (ji4)
                  replace p7 := eq_true p7
                  replace q7 := eq_true q7
                  go_wp2
                  go_ret
                  exact ⟨by first | rfl | (simp; done) | (simp only [← hji4] <;> (first | rfl | simp)) | (rw [prx_ne]; first | done | rfl) | (simp [*]; done), by repeat (first | exact Drawn0.refl _ | apply Drawn0.step)⟩
                · rw [if_neg c10] at H
                  exact absurd H (by simp)
              · rw [if_neg c9] at H
                exact absurd H (by simp)
          · rw [if_neg c6] at H
            exact absurd H (by simp)
        · rw [if_neg c5] at H
          exact absurd H (by simp)
      · rw [if_neg c3] at H
        have c3b0 : decide (0 < x5_1) = false := decide_eq_false c3
        clear c3
        by_cases c11 : 0 ≤ x5_1
        · rw [if_pos c11] at H
          have c11b0 := eq_true c11
          have c11b1 : decide (0 ≤ x5_1) = true := decide_eq_true c11
          clear c11
          by_cases c12 : x5_1 ≤ (a0.size : Int)
          · rw [if_pos c12] at H
            have c12b0 := eq_true c12
            have c12b1 : decide (x5_1 ≤ (a0.size : Int)) = true := decide_eq_true c12
            clear c12
            obtain rfl := Option.some.inj H
            go_wp2
            go_ret
            exact ⟨by first | rfl | (simp; done) | (rw [prx_ne]; first | done | rfl) | (simp [*]; done), by repeat (first | exact Drawn0.refl _ | apply Drawn0.step)⟩
          · rw [if_neg c12] at H
            exact absurd H (by simp)
        · rw [if_neg c11] at H
          exact absurd H (by simp)
def fiberhelpers_getGroupPath.f (k : Nat) (a0 : ByteArray) (a1 : ByteArray) : Option (ByteArray) := if (a1.size : Int) = 0 then (some a0) else (if 0 < (a1.size : Int) then (if (bt a1 0) = 47 then ((fiberutils_TrimRight.f k a0 47).bind fun t104 => (if t104.size + a1.size ≤ 9223372036854775807 then (some (t104 ++ a1)) else (none))) else (if 1 + a1.size ≤ 9223372036854775807 then ((fiberutils_TrimRight.f k a0 47).bind fun t105 => (if t105.size + ((⟨#[47]⟩ : ByteArray) ++ a1).size ≤ 9223372036854775807 then (some (t105 ++ ((⟨#[47]⟩ : ByteArray) ++ a1))) else (none))) else (none))) else (none))
set_option maxHeartbeats 8000000 in
set_option maxRecDepth 100000 in
theorem fiberhelpers_getGroupPath.calls (k : Nat) (a0 : ByteArray) (a1 : ByteArray) (r : ByteArray) (w : World) (h : fiberhelpers_getGroupPath.f k a0 a1 = some r) :
    Calls Tryd.prog 81 #[.string a0, .string a1] w fun e w' => e = .returned (.string r) ∧ Drawn0 w w' := by
  have H : (if (a1.size : Int) = 0 then (some a0) else (if 0 < (a1.size : Int) then (if (bt a1 0) = 47 then ((fiberutils_TrimRight.f k a0 47).bind fun t104 => (if t104.size + a1.size ≤ 9223372036854775807 then (some (t104 ++ a1)) else (none))) else (if 1 + a1.size ≤ 9223372036854775807 then ((fiberutils_TrimRight.f k a0 47).bind fun t105 => (if t105.size + ((⟨#[47]⟩ : ByteArray) ++ a1).size ≤ 9223372036854775807 then (some (t105 ++ ((⟨#[47]⟩ : ByteArray) ++ a1))) else (none))) else (none))) else (none))) = some r := h
  clear h
  by_cases c3 : (a1.size : Int) = 0
  · rw [if_pos c3] at H
    have c3b0 : ((a1.size : Int) == 0) = true := beq_iff_eq.mpr c3
    have c3b1 : ((a1.size : Int) != 0) = false := bne_eq_false_iff_eq.mpr c3
    clear c3
    obtain rfl := Option.some.inj H
    go_enter Tryd.func81, Tryd.ntmps81
    go_wp2
    go_ret
    exact ⟨by first | rfl | (simp; done) | (rw [prx_ne]; first | done | rfl) | (simp [*]; done), by repeat (first | exact Drawn0.refl _ | apply Drawn0.step)⟩
  · rw [if_neg c3] at H
    have c3b0 : ((a1.size : Int) == 0) = false := beq_eq_false_iff_ne.mpr c3
    have c3b1 : ((a1.size : Int) != 0) = true := bne_iff_ne.mpr c3
    by_cases c4 : 0 < (a1.size : Int)
    · rw [if_pos c4] at H
      have c4b0 : decide (0 < (a1.size : Int)) = true := decide_eq_true c4
      have c4b1 : decide (0 < a1.size) = true := decide_eq_true (by omega)
      clear c4
      by_cases c6 : (bt a1 0) = 47
      · rw [if_pos c6] at H
        have c6b0 : ((bt a1 0) == 47) = true := beq_iff_eq.mpr c6
        have c6b1 : ((bt a1 0) != 47) = false := bne_eq_false_iff_eq.mpr c6
        clear c6
        replace H := Option.bind_eq_some_iff.mp H
        obtain ⟨t104, A70, H⟩ := H
        replace H : (if t104.size + a1.size ≤ 9223372036854775807 then (some (t104 ++ a1)) else (none)) = some r := H
        have A7 := Aside0.mk A70
        clear A70
        by_cases c8 : t104.size + a1.size ≤ 9223372036854775807
        · rw [if_pos c8] at H
          have c8b0 := eq_true c8
          have c8b1 : decide (t104.size + a1.size ≤ 9223372036854775807) = true := decide_eq_true c8
          try have c8b2 : (9223372036854775807 < t104.size + a1.size) = False := eq_false (Nat.not_lt.2 c8)
          try (have c8b3 := c8; simp only [ByteArray.size_append, prx_sz, List.length_cons, List.length_nil] at c8b3)
          obtain rfl := Option.some.inj H
          have p5 : 0 ≤ (0 : Int) := (by omega)
          have q5 : 0 < a1.size := (by have : (0 : Int) < (a1.size : Int) := of_decide_eq_true (by first | (with_reducible assumption) | assumption); omega)
          have hx5 : ∀ h : 0 < a1.size, ((a1[0]'h).toNat : Int) = bt a1 0 := bt_at a1 0
          clear p5
          have qi5 : (0 < (a1.size : Int)) = True := eq_true (of_decide_eq_true (by first | (with_reducible assumption) | assumption))
          replace q5 := eq_true q5
          go_enter Tryd.func81, Tryd.ntmps81
          go_wp2_with (first | ((with_reducible refine gate_callee (f := 98) rfl ?_); refine goesL_ (some 15) rfl rfl Tryd.func98 (by kernel_rfl) rfl #[.string a0, .int .u8 47] rfl (by (try simp only [List.map_toArray, List.map_cons, List.map_nil]); first | done | rfl | (simp only [List.length_drop, List.length_take]; rfl)) ?_; (with_reducible refine (fiberutils_TrimRight.calls k a0 47 t104 _ A7.out).mono ?_); rintro e w' ⟨rfl, ⟨nd, rfl⟩⟩; refine ⟨_, rfl, ?_⟩))
          go_ret
          exact ⟨by first | rfl | (simp; done) | (rw [prx_ne]; first | done | rfl) | (simp [*]; done), by repeat (first | exact Drawn0.refl _ | apply Drawn0.step)⟩
        · rw [if_neg c8] at H
          exact absurd H (by simp)
      · rw [if_neg c6] at H
        have c6b0 : ((bt a1 0) == 47) = false := beq_eq_false_iff_ne.mpr c6
        have c6b1 : ((bt a1 0) != 47) = true := bne_iff_ne.mpr c6
        by_cases c9 : 1 + a1.size ≤ 9223372036854775807
        · rw [if_pos c9] at H
          have c9b0 := eq_true c9
          have c9b1 : decide (1 + a1.size ≤ 9223372036854775807) = true := decide_eq_true c9
          try have c9b2 : (9223372036854775807 < 1 + a1.size) = False := eq_false (Nat.not_lt.2 c9)
          try (have c9b3 := c9; simp only [ByteArray.size_append, prx_sz, List.length_cons, List.length_nil] at c9b3)
          replace H := Option.bind_eq_some_iff.mp H
          obtain ⟨t105, A100, H⟩ := H
          replace H : (if t105.size + ((⟨#[47]⟩ : ByteArray) ++ a1).size ≤ 9223372036854775807 then (some (t105 ++ ((⟨#[47]⟩ : ByteArray) ++ a1))) else (none)) = some r := H
          have A10 := Aside0.mk A100
          clear A100
          by_cases c11 : t105.size + ((⟨#[47]⟩ : ByteArray) ++ a1).size ≤ 9223372036854775807
          · rw [if_pos c11] at H
            have c11b0 := eq_true c11
            have c11b1 : decide (t105.size + ((⟨#[47]⟩ : ByteArray) ++ a1).size ≤ 9223372036854775807) = true := decide_eq_true c11
            try have c11b2 : (9223372036854775807 < t105.size + ((⟨#[47]⟩ : ByteArray) ++ a1).size) = False := eq_false (Nat.not_lt.2 c11)
            try (have c11b3 := c11; simp only [ByteArray.size_append, prx_sz, List.length_cons, List.length_nil] at c11b3)
            obtain rfl := Option.some.inj H
            have p5 : 0 ≤ (0 : Int) := (by omega)
            have q5 : 0 < a1.size := (by have : (0 : Int) < (a1.size : Int) := of_decide_eq_true (by first | (with_reducible assumption) | assumption); omega)
            have hx5 : ∀ h : 0 < a1.size, ((a1[0]'h).toNat : Int) = bt a1 0 := bt_at a1 0
            clear p5
            have qi5 : (0 < (a1.size : Int)) = True := eq_true (of_decide_eq_true (by first | (with_reducible assumption) | assumption))
            replace q5 := eq_true q5
            go_enter Tryd.func81, Tryd.ntmps81
            go_wp2_with (first | ((with_reducible refine gate_callee (f := 98) rfl ?_); refine goesL_ (some 15) rfl rfl Tryd.func98 (by kernel_rfl) rfl #[.string a0, .int .u8 47] rfl (by (try simp only [List.map_toArray, List.map_cons, List.map_nil]); first | done | rfl | (simp only [List.length_drop, List.length_take]; rfl)) ?_; (with_reducible refine (fiberutils_TrimRight.calls k a0 47 t105 _ A10.out).mono ?_); rintro e w' ⟨rfl, ⟨nd, rfl⟩⟩; refine ⟨_, rfl, ?_⟩))
            go_ret
            exact ⟨by first | rfl | (simp; done) | (rw [prx_ne]; first | done | rfl) | (simp [*]; done), by repeat (first | exact Drawn0.refl _ | apply Drawn0.step)⟩
          · rw [if_neg c11] at H
            exact absurd H (by simp)
        · rw [if_neg c9] at H
          exact absurd H (by simp)
    · rw [if_neg c4] at H
      exact absurd H (by simp)
def fiberhelpers_ZzGroup.f (k : Nat) (a0 : ByteArray) (a1 : ByteArray) : Option (ByteArray) := (fiberhelpers_getGroupPath.f k a0 a1).bind fun t106 => (some t106)
set_option maxHeartbeats 8000000 in
set_option maxRecDepth 100000 in
theorem fiberhelpers_ZzGroup.calls (k : Nat) (a0 : ByteArray) (a1 : ByteArray) (r : ByteArray) (w : World) (h : fiberhelpers_ZzGroup.f k a0 a1 = some r) :
    Calls Tryd.prog 53 #[.string a0, .string a1] w fun e w' => e = .returned (.string r) ∧ Drawn0 w w' := by
  have H : ((fiberhelpers_getGroupPath.f k a0 a1).bind fun t106 => (some t106)) = some r := h
  clear h
  replace H := Option.bind_eq_some_iff.mp H
  obtain ⟨t106, A30, H⟩ := H
  replace H : (some t106) = some r := H
  have A3 := Aside0.mk A30
  clear A30
  obtain rfl := Option.some.inj H
  go_enter Tryd.func53, Tryd.ntmps53
  go_wp2_with (first | ((with_reducible refine gate_callee (f := 81) rfl ?_); refine goesL_ (some 7) rfl rfl Tryd.func81 (by kernel_rfl) rfl #[.string a0, .string a1] rfl (by (try simp only [List.map_toArray, List.map_cons, List.map_nil]); first | done | rfl | (simp only [List.length_drop, List.length_take]; rfl)) ?_; (with_reducible refine (fiberhelpers_getGroupPath.calls k a0 a1 t106 _ A3.out).mono ?_); rintro e w' ⟨rfl, ⟨nd, rfl⟩⟩; refine ⟨_, rfl, ?_⟩))
  go_ret
  exact ⟨by first | rfl | (simp; done) | (rw [prx_ne]; first | done | rfl) | (simp [*]; done), by repeat (first | exact Drawn0.refl _ | apply Drawn0.step)⟩
def impl_GroupPath.f (k : Nat) (a0 : ByteArray) (a1 : ByteArray) : Option (ByteArray) := (fiberhelpers_ZzGroup.f k a0 a1).bind fun t107 => (some t107)
set_option maxHeartbeats 8000000 in
set_option maxRecDepth 100000 in
theorem impl_GroupPath.calls (k : Nat) (a0 : ByteArray) (a1 : ByteArray) (r : ByteArray) (w : World) (h : impl_GroupPath.f k a0 a1 = some r) :
    Calls Tryd.prog 14 #[.string a0, .string a1] w fun e w' => e = .returned (.string r) ∧ Drawn0 w w' := by
  have H : ((fiberhelpers_ZzGroup.f k a0 a1).bind fun t107 => (some t107)) = some r := h
  clear h
  replace H := Option.bind_eq_some_iff.mp H
  obtain ⟨t107, A30, H⟩ := H
  replace H : (some t107) = some r := H
  have A3 := Aside0.mk A30
  clear A30
  obtain rfl := Option.some.inj H
  go_enter Tryd.func14, Tryd.ntmps14
  go_wp2_with (first | ((with_reducible refine gate_callee (f := 53) rfl ?_); refine goesL_ (some 7) rfl rfl Tryd.func53 (by kernel_rfl) rfl #[.string a0, .string a1] rfl (by (try simp only [List.map_toArray, List.map_cons, List.map_nil]); first | done | rfl | (simp only [List.length_drop, List.length_take]; rfl)) ?_; (with_reducible refine (fiberhelpers_ZzGroup.calls k a0 a1 t107 _ A3.out).mono ?_); rintro e w' ⟨rfl, ⟨nd, rfl⟩⟩; refine ⟨_, rfl, ?_⟩))
  go_ret
  exact ⟨by first | rfl | (simp; done) | (rw [prx_ne]; first | done | rfl) | (simp [*]; done), by repeat (first | exact Drawn0.refl _ | apply Drawn0.step)⟩
def bytealg_LastIndexByteString.l0 : Nat → ByteArray → Int → Int → Option (Int)
  | 0, _, _, _ => none
  | k + 1, x0, x1, x5 => if x5 ≥ 0 then (if 0 ≤ x5 then (if x5 < (x0.size : Int) then (if (bt x0 x5) = x1 then (some x5) else (bytealg_LastIndexByteString.l0 k x0 x1 (wrap64 (x5 - 1)))) else (none)) else (none)) else (some (-1))
def bytealg_LastIndexByteString.f (k : Nat) (a0 : ByteArray) (a1 : Int) : Option (Int) := bytealg_LastIndexByteString.l0 k a0 a1 (wrap64 ((a0.size : Int) - 1))
set_option maxHeartbeats 8000000 in
set_option maxRecDepth 100000 in
theorem bytealg_LastIndexByteString.calls (k : Nat) (a0 : ByteArray) (a1 : Int) (r : Int) (w : World) (h : bytealg_LastIndexByteString.f k a0 a1 = some r) :
    Calls Tryd.prog 113 #[.string a0, .int .u8 a1] w fun e w' => e = .returned (.int .i64 r) ∧ Drawn0 w w' := by
  have H : (bytealg_LastIndexByteString.l0 k a0 a1 (wrap64 ((a0.size : Int) - 1))) = some r := h
  clear h
  have H' := Aside0.mk H
  clear H
  go_enter Tryd.func113, Tryd.ntmps113
  go_wp2
  go_loopg [5] k (fun kq v5 w' => ∃ (x5_1 : Int), v5 = .int .i64 x5_1 ∧ Aside0 (bytealg_LastIndexByteString.l0 kq a0 a1 x5_1 = some r) ∧ Aside0 (kq ≤ k) ∧ Drawn0 w w')
  case atStart => exact ⟨(wrap64 ((a0.size : Int) - 1)), (by first | rfl | (simp; done) | (rw [prx_ne]; first | done | rfl) | (simp [*]; done)), H', ⟨Nat.le_refl _⟩, by repeat (first | exact Drawn0.refl _ | apply Drawn0.step)⟩
  case round =>
    clear H'
    try clear c1
    try clear p2
    obtain ⟨x5_1, rfl, HA, HK1, ⟨m1, rfl⟩⟩ := hrel
    cases gk with
    | zero => exact absurd HA.out (by simp [bytealg_LastIndexByteString.l0])
    | succ k1 =>
      have H := HA.out
      clear HA
      simp only [bytealg_LastIndexByteString.l0] at H
      by_cases c3 : x5_1 ≥ 0
      · rw [if_pos c3] at H
        have c3b0 : decide (0 ≤ x5_1) = true := decide_eq_true c3
        clear c3
        by_cases c4 : 0 ≤ x5_1
        · rw [if_pos c4] at H
          have c4b0 : decide (0 ≤ x5_1) = true := decide_eq_true c4
          clear c4
          by_cases c5 : x5_1 < (a0.size : Int)
          · rw [if_pos c5] at H
            have c5b0 : decide (x5_1 < (a0.size : Int)) = true := decide_eq_true c5
            clear c5
            by_cases c7 : (bt a0 x5_1) = a1
            · rw [if_pos c7] at H
              have c7b0 : ((bt a0 x5_1) == a1) = true := beq_iff_eq.mpr c7
              have c7b1 : ((bt a0 x5_1) != a1) = false := bne_eq_false_iff_eq.mpr c7
              clear c7
              obtain rfl := Option.some.inj H
              have p6 : 0 ≤ (x5_1 : Int) := of_decide_eq_true (by first | (with_reducible assumption) | assumption)
              have q6 : x5_1 < (a0.size : Int) := of_decide_eq_true (by first | (with_reducible assumption) | assumption)
              have hx6 := bt_at a0 x5_1
              replace p6 := eq_true p6
              replace q6 := eq_true q6
              go_wp2
              go_ret
              exact ⟨by first | rfl | (simp; done) | (rw [prx_ne]; first | done | rfl) | (simp [*]; done), by repeat (first | exact Drawn0.refl _ | apply Drawn0.step)⟩
            · rw [if_neg c7] at H
              have c7b0 : ((bt a0 x5_1) == a1) = false := beq_eq_false_iff_ne.mpr c7
              have c7b1 : ((bt a0 x5_1) != a1) = true := bne_iff_ne.mpr c7
              have H' := Aside0.mk H
              clear H
              have p6 : 0 ≤ (x5_1 : Int) := of_decide_eq_true (by first | (with_reducible assumption) | assumption)
              have q6 : x5_1 < (a0.size : Int) := of_decide_eq_true (by first | (with_reducible assumption) | assumption)
              have hx6 := bt_at a0 x5_1
              replace p6 := eq_true p6
              replace q6 := eq_true q6
              go_wp2
              go_roundg k1
              case measure => have := HK1.out; omega
              case rel => exact ⟨(wrap64 (x5_1 - 1)), (by first | rfl | (simp; done) | (rw [prx_ne]; first | done | rfl) | (simp [*]; done)), H', ⟨by have := HK1.out; omega⟩, by repeat (first | exact Drawn0.refl _ | apply Drawn0.step)⟩
          · rw [if_neg c5] at H
            exact absurd H (by simp)
        · rw [if_neg c4] at H
          exact absurd H (by simp)
      · rw [if_neg c3] at H
        have c3b0 : decide (0 ≤ x5_1) = false := decide_eq_false c3
        clear c3
        obtain rfl := Option.some.inj H
        go_wp2
        go_ret
        exact ⟨by first | rfl | (simp; done) | (rw [prx_ne]; first | done | rfl) | (simp [*]; done), by repeat (first | exact Drawn0.refl _ | apply Drawn0.step)⟩
def fiberhelpers_matchEtag.f (a0 : ByteArray) (a1 : ByteArray) : Option (Bool) := if a0.toList = a1.toList then (some true) else (if 2 + a1.size ≤ 9223372036854775807 then (if a0.toList = ((⟨#[87, 47]⟩ : ByteArray) ++ a1).toList then (some true) else (if 2 + a0.size ≤ 9223372036854775807 then (if ((⟨#[87, 47]⟩ : ByteArray) ++ a0).toList = a1.toList then (some true) else (some false)) else (none))) else (none))
set_option maxHeartbeats 8000000 in
set_option maxRecDepth 100000 in
theorem fiberhelpers_matchEtag.calls (a0 : ByteArray) (a1 : ByteArray) (r : Bool) (w : World) (h : fiberhelpers_matchEtag.f a0 a1 = some r) :
    Calls Tryd.prog 80 #[.string a0, .string a1] w fun e w' => e = .returned (.bool r) ∧ Drawn0 w w' := by
  have H : (if a0.toList = a1.toList then (some true) else (if 2 + a1.size ≤ 9223372036854775807 then (if a0.toList = ((⟨#[87, 47]⟩ : ByteArray) ++ a1).toList then (some true) else (if 2 + a0.size ≤ 9223372036854775807 then (if ((⟨#[87, 47]⟩ : ByteArray) ++ a0).toList = a1.toList then (some true) else (some false)) else (none))) else (none))) = some r := h
  clear h
  by_cases c3 : a0.toList = a1.toList
  · rw [if_pos c3] at H
    have c3b0 : (a0.toList == a1.toList) = true := beq_iff_eq.mpr c3
    have c3b1 : (a0.toList != a1.toList) = false := bne_eq_false_iff_eq.mpr c3
    clear c3
    obtain rfl := Option.some.inj H
    go_enter Tryd.func80, Tryd.ntmps80
    go_wp2
    go_ret
    exact ⟨by first | rfl | (simp; done) | (rw [prx_ne]; first | done | rfl) | (simp [*]; done), by repeat (first | exact Drawn0.refl _ | apply Drawn0.step)⟩
  · rw [if_neg c3] at H
    have c3b0 : (a0.toList == a1.toList) = false := beq_eq_false_iff_ne.mpr c3
    have c3b1 : (a0.toList != a1.toList) = true := bne_iff_ne.mpr c3
    by_cases c4 : 2 + a1.size ≤ 9223372036854775807
    · rw [if_pos c4] at H
      have c4b0 := eq_true c4
      have c4b1 : decide (2 + a1.size ≤ 9223372036854775807) = true := decide_eq_true c4
      try have c4b2 : (9223372036854775807 < 2 + a1.size) = False := eq_false (Nat.not_lt.2 c4)
      try (have c4b3 := c4; simp only [ByteArray.size_append, prx_sz, List.length_cons, List.length_nil] at c4b3)
      by_cases c5 : a0.toList = ((⟨#[87, 47]⟩ : ByteArray) ++ a1).toList
      · rw [if_pos c5] at H
        have c5b0 : (a0.toList == ((⟨#[87, 47]⟩ : ByteArray) ++ a1).toList) = true := beq_iff_eq.mpr c5
        have c5b1 : (a0.toList != ((⟨#[87, 47]⟩ : ByteArray) ++ a1).toList) = false := bne_eq_false_iff_eq.mpr c5
        clear c5
        obtain rfl := Option.some.inj H
        go_enter Tryd.func80, Tryd.ntmps80
        go_wp2
        go_ret
        exact ⟨by first | rfl | (simp; done) | (rw [prx_ne]; first | done | rfl) | (simp [*]; done), by repeat (first | exact Drawn0.refl _ | apply Drawn0.step)⟩
      · rw [if_neg c5] at H
        have c5b0 : (a0.toList == ((⟨#[87, 47]⟩ : ByteArray) ++ a1).toList) = false := beq_eq_false_iff_ne.mpr c5
        have c5b1 : (a0.toList != ((⟨#[87, 47]⟩ : ByteArray) ++ a1).toList) = true := bne_iff_ne.mpr c5
        by_cases c6 : 2 + a0.size ≤ 9223372036854775807
        · rw [if_pos c6] at H
          have c6b0 := eq_true c6
          have c6b1 : decide (2 + a0.size ≤ 9223372036854775807) = true := decide_eq_true c6
          try have c6b2 : (9223372036854775807 < 2 + a0.size) = False := eq_false (Nat.not_lt.2 c6)
          try (have c6b3 := c6; simp only [ByteArray.size_append, prx_sz, List.length_cons, List.length_nil] at c6b3)
          by_cases c7 : ((⟨#[87, 47]⟩ : ByteArray) ++ a0).toList = a1.toList
          · rw [if_pos c7] at H
            have c7b0 : (((⟨#[87, 47]⟩ : ByteArray) ++ a0).toList == a1.toList) = true := beq_iff_eq.mpr c7
            have c7b1 : (((⟨#[87, 47]⟩ : ByteArray) ++ a0).toList != a1.toList) = false := bne_eq_false_iff_eq.mpr c7
            clear c7
            obtain rfl := Option.some.inj H
            go_enter Tryd.func80, Tryd.ntmps80
            go_wp2
            go_ret
            exact ⟨by first | rfl | (simp; done) | (rw [prx_ne]; first | done | rfl) | (simp [*]; done), by repeat (first | exact Drawn0.refl _ | apply Drawn0.step)⟩
          · rw [if_neg c7] at H
            have c7b0 : (((⟨#[87, 47]⟩ : ByteArray) ++ a0).toList == a1.toList) = false := beq_eq_false_iff_ne.mpr c7
            have c7b1 : (((⟨#[87, 47]⟩ : ByteArray) ++ a0).toList != a1.toList) = true := bne_iff_ne.mpr c7
            obtain rfl := Option.some.inj H
            go_enter Tryd.func80, Tryd.ntmps80
            go_wp2
            go_ret
            exact ⟨by first | rfl | (simp; done) | (rw [prx_ne]; first | done | rfl) | (simp [*]; done), by repeat (first | exact Drawn0.refl _ | apply Drawn0.step)⟩
        · rw [if_neg c6] at H
          exact absurd H (by simp)
    · rw [if_neg c4] at H
      exact absurd H (by simp)
def fiberhelpers_ZzEtag.f (a0 : ByteArray) (a1 : ByteArray) : Option (Bool) := (fiberhelpers_matchEtag.f a0 a1).bind fun t102 => (some t102)
set_option maxHeartbeats 8000000 in
set_option maxRecDepth 100000 in
theorem fiberhelpers_ZzEtag.calls (a0 : ByteArray) (a1 : ByteArray) (r : Bool) (w : World) (h : fiberhelpers_ZzEtag.f a0 a1 = some r) :
    Calls Tryd.prog 52 #[.string a0, .string a1] w fun e w' => e = .returned (.bool r) ∧ Drawn0 w w' := by
  have H : ((fiberhelpers_matchEtag.f a0 a1).bind fun t102 => (some t102)) = some r := h
  clear h
  replace H := Option.bind_eq_some_iff.mp H
  obtain ⟨t102, A30, H⟩ := H
  replace H : (some t102) = some r := H
  have A3 := Aside0.mk A30
  clear A30
  obtain rfl := Option.some.inj H
  go_enter Tryd.func52, Tryd.ntmps52
  go_wp2_with (first | ((with_reducible refine gate_callee (f := 80) rfl ?_); refine goesL_ (some 7) rfl rfl Tryd.func80 (by kernel_rfl) rfl #[.string a0, .string a1] rfl (by (try simp only [List.map_toArray, List.map_cons, List.map_nil]); first | done | rfl | (simp only [List.length_drop, List.length_take]; rfl)) ?_; (with_reducible refine (fiberhelpers_matchEtag.calls a0 a1 t102 _ A3.out).mono ?_); rintro e w' ⟨rfl, ⟨nd, rfl⟩⟩; refine ⟨_, rfl, ?_⟩))
  go_ret
  exact ⟨by first | rfl | (simp; done) | (rw [prx_ne]; first | done | rfl) | (simp [*]; done), by repeat (first | exact Drawn0.refl _ | apply Drawn0.step)⟩
def impl_EtagMatch.f (a0 : ByteArray) (a1 : ByteArray) : Option (Bool) := (fiberhelpers_ZzEtag.f a0 a1).bind fun t103 => (some t103)
set_option maxHeartbeats 8000000 in
set_option maxRecDepth 100000 in
theorem impl_EtagMatch.calls (a0 : ByteArray) (a1 : ByteArray) (r : Bool) (w : World) (h : impl_EtagMatch.f a0 a1 = some r) :
    Calls Tryd.prog 13 #[.string a0, .string a1] w fun e w' => e = .returned (.bool r) ∧ Drawn0 w w' := by
  have H : ((fiberhelpers_ZzEtag.f a0 a1).bind fun t103 => (some t103)) = some r := h
  clear h
  replace H := Option.bind_eq_some_iff.mp H
  obtain ⟨t103, A30, H⟩ := H
  replace H : (some t103) = some r := H
  have A3 := Aside0.mk A30
  clear A30
  obtain rfl := Option.some.inj H
  go_enter Tryd.func13, Tryd.ntmps13
  go_wp2_with (first | ((with_reducible refine gate_callee (f := 52) rfl ?_); refine goesL_ (some 7) rfl rfl Tryd.func52 (by kernel_rfl) rfl #[.string a0, .string a1] rfl (by (try simp only [List.map_toArray, List.map_cons, List.map_nil]); first | done | rfl | (simp only [List.length_drop, List.length_take]; rfl)) ?_; (with_reducible refine (fiberhelpers_ZzEtag.calls a0 a1 t103 _ A3.out).mono ?_); rintro e w' ⟨rfl, ⟨nd, rfl⟩⟩; refine ⟨_, rfl, ?_⟩))
  go_ret
  exact ⟨by first | rfl | (simp; done) | (rw [prx_ne]; first | done | rfl) | (simp [*]; done), by repeat (first | exact Drawn0.refl _ | apply Drawn0.step)⟩
def spec_Addr.l0 : Nat → ByteArray → Int → Option (ByteArray × ByteArray)
  | 0, _, _ => none
  | k + 1, x0, x4 => if x4 ≥ 0 then (if 0 ≤ x4 then (if x4 < (x0.size : Int) then (if (bt x0 x4) = 58 then (if x4 ≤ (x0.size : Int) then (if 0 ≤ (wrap64 (x4 + 1)) then (if (wrap64 (x4 + 1)) ≤ (x0.size : Int) then (some (x0.extract 0 (x4 : Int).toNat, x0.extract ((wrap64 (x4 + 1)) : Int).toNat x0.size)) else (none)) else (none)) else (none)) else (spec_Addr.l0 k x0 (wrap64 (x4 - 1)))) else (none)) else (none)) else (some (x0, (⟨#[]⟩ : ByteArray)))
def spec_Addr.f (k : Nat) (a0 : ByteArray) : Option (ByteArray × ByteArray) := spec_Addr.l0 k a0 (wrap64 ((a0.size : Int) - 1))
set_option maxHeartbeats 8000000 in
set_option maxRecDepth 100000 in
theorem spec_Addr.calls (k : Nat) (a0 : ByteArray) (r1 : ByteArray) (r2 : ByteArray) (w : World) (h : spec_Addr.f k a0 = some (r1, r2)) :
    Calls Tryd.prog 16 #[.string a0] w fun e w' => e = .returned (.tuple #[.string r1, .string r2]) ∧ Drawn0 w w' := by
  have H : (spec_Addr.l0 k a0 (wrap64 ((a0.size : Int) - 1))) = some (r1, r2) := h
  clear h
  have H' := Aside0.mk H
  clear H
  go_enter Tryd.func16, Tryd.ntmps16
  go_wp2
  repeat (go_quiet (fail); try go_wp2)
  go_loopg [4] k (fun kq v4 w' => ∃ (x4_1 : Int), v4 = .int .i64 x4_1 ∧ Aside0 (spec_Addr.l0 kq a0 x4_1 = some (r1, r2)) ∧ Aside0 (kq ≤ k) ∧ Drawn0 w w')
  case atStart => exact ⟨(wrap64 ((a0.size : Int) - 1)), (by first | rfl | (simp; done) | (rw [prx_ne]; first | done | rfl) | (simp [*]; done)), H', ⟨Nat.le_refl _⟩, by repeat (first | exact Drawn0.refl _ | apply Drawn0.step)⟩
  case round =>
    clear H'
    try clear c1
    obtain ⟨x4_1, rfl, HA, HK1, ⟨m1, rfl⟩⟩ := hrel
    cases gk with
    | zero => exact absurd HA.out (by simp [spec_Addr.l0])
    | succ k1 =>
      have H := HA.out
      clear HA
      simp only [spec_Addr.l0] at H
      by_cases c2 : x4_1 ≥ 0
      · rw [if_pos c2] at H
        have c2b0 : decide (0 ≤ x4_1) = true := decide_eq_true c2
        clear c2
        by_cases c3 : 0 ≤ x4_1
        · rw [if_pos c3] at H
          have c3b0 : decide (0 ≤ x4_1) = true := decide_eq_true c3
          clear c3
          by_cases c4 : x4_1 < (a0.size : Int)
          · rw [if_pos c4] at H
            have c4b0 : decide (x4_1 < (a0.size : Int)) = true := decide_eq_true c4
            clear c4
            by_cases c6 : (bt a0 x4_1) = 58
            · rw [if_pos c6] at H
              have c6b0 : ((bt a0 x4_1) == 58) = true := beq_iff_eq.mpr c6
              have c6b1 : ((bt a0 x4_1) != 58) = false := bne_eq_false_iff_eq.mpr c6
              clear c6
              have c7b0 := eq_true (of_decide_eq_true (by first | (with_reducible assumption) | assumption) : 0 ≤ x4_1)
              by_cases c8 : x4_1 ≤ (a0.size : Int)
              · rw [if_pos c8] at H
                have c8b0 := eq_true c8
                have c8b1 : decide (x4_1 ≤ (a0.size : Int)) = true := decide_eq_true c8
                clear c8
                obtain ⟨ji9, hji9⟩ : ∃ j_ : Int, (wrap64 (x4_1 + 1)) = j_ := ⟨_, rfl⟩
                replace H : (if 0 ≤ (ji9) then (if (ji9) ≤ (a0.size : Int) then (some (a0.extract 0 (x4_1 : Int).toNat, a0.extract ((ji9) : Int).toNat a0.size)) else (none)) else (none)) = some (r1, r2) := by first | (rw [hji9] at H; exact H) | (simp only [hji9] at H ⊢; exact H)
                have hji9w : (IntKind.i64.wrap (x4_1 + 1)) = ji9 := (i64_w _).trans hji9
                by_cases c10 : 0 ≤ (ji9)
                · rw [if_pos c10] at H
                  have c10b0 := eq_true c10
                  have c10b1 : decide (0 ≤ (ji9)) = true := decide_eq_true c10
                  clear c10
                  by_cases c11 : (ji9) ≤ (a0.size : Int)
                  · rw [if_pos c11] at H
                    have c11b0 := eq_true c11
                    have c11b1 : decide ((ji9) ≤ (a0.size : Int)) = true := decide_eq_true c11
                    clear c11
                    simp only [Option.some.injEq, Prod.mk.injEq] at H
                    obtain ⟨rfl, rfl⟩ := H
                    have p5 : 0 ≤ (x4_1 : Int) := of_decide_eq_true (by first | (with_reducible assumption) | assumption)
                    have q5 : x4_1 < (a0.size : Int) := of_decide_eq_true (by first | (with_reducible assumption) | assumption)
                    have hx5 := bt_at a0 x4_1
                    replace p5 := eq_true p5
                    replace q5 := eq_true q5
                    go_wp2
                    repeat (go_quiet (fail); try go_wp2)
                    go_ret2
                    exact ⟨by first | rfl | (simp; done) | (simp only [← hji9] <;> (first | rfl | simp)) | (rw [prx_ne]; first | done | rfl) | (simp [*]; done), by repeat (first | exact Drawn0.refl _ | apply Drawn0.step)⟩
                  · rw [if_neg c11] at H
                    exact absurd H (by simp)
                · rw [if_neg c10] at H
                  exact absurd H (by simp)
              · rw [if_neg c8] at H
                exact absurd H (by simp)
            · rw [if_neg c6] at H
              have c6b0 : ((bt a0 x4_1) == 58) = false := beq_eq_false_iff_ne.mpr c6
              have c6b1 : ((bt a0 x4_1) != 58) = true := bne_iff_ne.mpr c6
              have H' := Aside0.mk H
              clear H
              have p5 : 0 ≤ (x4_1 : Int) := of_decide_eq_true (by first | (with_reducible assumption) | assumption)
              have q5 : x4_1 < (a0.size : Int) := of_decide_eq_true (by first | (with_reducible assumption) | assumption)
              have hx5 := bt_at a0 x4_1
              replace p5 := eq_true p5
              replace q5 := eq_true q5
              go_wp2
              repeat (go_quiet (fail); try go_wp2)
              go_roundg k1
              case measure => have := HK1.out; omega
              case rel => exact ⟨(wrap64 (x4_1 - 1)), (by first | rfl | (simp; done) | (rw [prx_ne]; first | done | rfl) | (simp [*]; done)), H', ⟨by have := HK1.out; omega⟩, by repeat (first | exact Drawn0.refl _ | apply Drawn0.step)⟩
          · rw [if_neg c4] at H
            exact absurd H (by simp)
        · rw [if_neg c3] at H
          exact absurd H (by simp)
      · rw [if_neg c2] at H
        have c2b0 : decide (0 ≤ x4_1) = false := decide_eq_false c2
        clear c2
        simp only [Option.some.injEq, Prod.mk.injEq] at H
        obtain ⟨rfl, rfl⟩ := H
        go_wp2
        repeat (go_quiet (fail); try go_wp2)
        go_ret2
        exact ⟨by first | rfl | (simp; done) | (rw [prx_ne]; first | done | rfl) | (simp [*]; done), by repeat (first | exact Drawn0.refl _ | apply Drawn0.step)⟩
def spec_Brackets.l0 : Nat → ByteArray → ByteArray → Int → Int → Int → Option (ByteArray × Bool)
  | 0, _, _, _, _, _ => none
  | k + 1, x0, x4, x5, x8, x9 => if x9 < x8 then (if 0 ≤ x9 then (if x9 < (x0.size : Int) then (if (bt x0 x9) = 91 then (if (wrap64 (x9 + 1)) < (x0.size : Int) then (if 0 ≤ (wrap64 (x9 + 1)) then (if (bt x0 (wrap64 (x9 + 1))) = 93 then (spec_Brackets.l0 k x0 x4 (wrap64 (x5 + 1)) x8 (wrap64 (x9 + 1))) else (if x4.size + 1 ≤ 9223372036854775807 then (spec_Brackets.l0 k x0 (x4 ++ (⟨#[46]⟩ : ByteArray)) (wrap64 (x5 + 1)) x8 (wrap64 (x9 + 1))) else (none))) else (none)) else (spec_Brackets.l0 k x0 x4 (wrap64 (x5 + 1)) x8 (wrap64 (x9 + 1)))) else (if (bt x0 x9) = 93 then (if (wrap64 (x5 - 1)) < 0 then (some ((⟨#[]⟩ : ByteArray), false)) else (spec_Brackets.l0 k x0 x4 (wrap64 (x5 - 1)) x8 (wrap64 (x9 + 1)))) else (if x9 ≤ (wrap64 (x9 + 1)) then (if (wrap64 (x9 + 1)) ≤ (x0.size : Int) then (if x4.size + (x0.extract (x9 : Int).toNat ((wrap64 (x9 + 1)) : Int).toNat).size ≤ 9223372036854775807 then (spec_Brackets.l0 k x0 (x4 ++ (x0.extract (x9 : Int).toNat ((wrap64 (x9 + 1)) : Int).toNat)) x5 x8 (wrap64 (x9 + 1))) else (none)) else (none)) else (none)))) else (none)) else (none)) else (if x5 > 0 then (some ((⟨#[]⟩ : ByteArray), false)) else (some (x4, true)))
def spec_Brackets.f (k : Nat) (a0 : ByteArray) : Option (ByteArray × Bool) := spec_Brackets.l0 k a0 (⟨#[]⟩ : ByteArray) 0 (a0.size : Int) 0
set_option maxHeartbeats 8000000 in
set_option maxRecDepth 100000 in
theorem spec_Brackets.calls (k : Nat) (a0 : ByteArray) (r1 : ByteArray) (r2 : Bool) (w : World) (h : spec_Brackets.f k a0 = some (r1, r2)) :
    Calls Tryd.prog 18 #[.string a0] w fun e w' => e = .returned (.tuple #[.string r1, .bool r2]) ∧ Drawn0 w w' := by
  have H : (spec_Brackets.l0 k a0 (⟨#[]⟩ : ByteArray) 0 (a0.size : Int) 0) = some (r1, r2) := h
  clear h
  have H' := Aside0.mk H
  clear H
  go_enter Tryd.func18, Tryd.ntmps18
  go_wp2
  go_loopg [4, 5, 9] k (fun kq v4 v5 v9 w' => ∃ (x4_1 : ByteArray) (x5_1 : Int) (x9_1 : Int), v4 = .string x4_1 ∧ v5 = .int .i64 x5_1 ∧ v9 = .int .i64 x9_1 ∧ Aside0 (spec_Brackets.l0 kq a0 x4_1 x5_1 (a0.size : Int) x9_1 = some (r1, r2)) ∧ Aside0 (kq ≤ k) ∧ Drawn0 w w')
  case atStart => exact ⟨((⟨#[]⟩ : ByteArray)), (0), (0), (by first | rfl | (simp; done) | (rw [prx_ne]; first | done | rfl) | (simp [*]; done)), (by first | rfl | (simp; done) | (rw [prx_ne]; first | done | rfl) | (simp [*]; done)), (by first | rfl | (simp; done) | (rw [prx_ne]; first | done | rfl) | (simp [*]; done)), H', ⟨Nat.le_refl _⟩, by repeat (first | exact Drawn0.refl _ | apply Drawn0.step)⟩
  case round =>
    clear H'
    try clear c1
    obtain ⟨x4_1, x5_1, x9_1, rfl, rfl, rfl, HA, HK1, ⟨m1, rfl⟩⟩ := hrel
    cases gk with
    | zero => exact absurd HA.out (by simp [spec_Brackets.l0])
    | succ k1 =>
      have H := HA.out
      clear HA
      simp only [spec_Brackets.l0] at H
      by_cases c2 : x9_1 < (a0.size : Int)
      · rw [if_pos c2] at H
        have c2b0 : decide (x9_1 < (a0.size : Int)) = true := decide_eq_true c2
        clear c2
        by_cases c3 : 0 ≤ x9_1
        · rw [if_pos c3] at H
          have c3b0 : decide (0 ≤ x9_1) = true := decide_eq_true c3
          clear c3
          by_cases c4 : x9_1 < (a0.size : Int)
          · rw [if_pos c4] at H
            have c4b0 : decide (x9_1 < (a0.size : Int)) = true := decide_eq_true c4
            clear c4
            by_cases c6 : (bt a0 x9_1) = 91
            · rw [if_pos c6] at H
              have c6b0 : ((bt a0 x9_1) == 91) = true := beq_iff_eq.mpr c6
              have c6b1 : ((bt a0 x9_1) != 91) = false := bne_eq_false_iff_eq.mpr c6
              clear c6
              by_cases c7 : (wrap64 (x9_1 + 1)) < (a0.size : Int)
              · rw [if_pos c7] at H
                have c7b0 : decide ((wrap64 (x9_1 + 1)) < (a0.size : Int)) = true := decide_eq_true c7
                clear c7
                obtain ⟨ji8, hji8⟩ : ∃ j_ : Int, (wrap64 (x9_1 + 1)) = j_ := ⟨_, rfl⟩
                replace H : (if 0 ≤ (ji8) then (if (bt a0 (ji8)) = 93 then (spec_Brackets.l0 k1 a0 x4_1 (wrap64 (x5_1 + 1)) (a0.size : Int) ji8) else (if x4_1.size + 1 ≤ 9223372036854775807 then (spec_Brackets.l0 k1 a0 (x4_1 ++ (⟨#[46]⟩ : ByteArray)) (wrap64 (x5_1 + 1)) (a0.size : Int) ji8) else (none))) else (none)) = some (r1, r2) := by first | (rw [hji8] at H; exact H) | (simp only [hji8] at H ⊢; exact H)
                (try rw [hji8] at c7b0)
                have hji8w : (IntKind.i64.wrap (x9_1 + 1)) = ji8 := (i64_w _).trans hji8
                by_cases c9 : 0 ≤ (ji8)
                · rw [if_pos c9] at H
                  have c9b0 : decide (0 ≤ (ji8)) = true := decide_eq_true c9
                  clear c9
                  by_cases c11 : (bt a0 (ji8)) = 93
                  · rw [if_pos c11] at H
                    have c11b0 : ((bt a0 (ji8)) == 93) = true := beq_iff_eq.mpr c11
                    have c11b1 : ((bt a0 (ji8)) != 93) = false := bne_eq_false_iff_eq.mpr c11
                    clear c11
                    have H' := Aside0.mk H
                    clear H
                    have p5 : 0 ≤ (x9_1 : Int) := of_decide_eq_true (by first | (with_reducible assumption) | assumption)
                    have q5 : x9_1 < (a0.size : Int) := of_decide_eq_true (by first | (with_reducible assumption) | assumption)
                    have hx5 := bt_at a0 x9_1
                    replace p5 := eq_true p5
                    replace q5 := eq_true q5
                    have p10 : 0 ≤ ((ji8) : Int) := of_decide_eq_true (by first | (with_reducible assumption) | assumption)
                    have q10 : (ji8) < (a0.size : Int) := of_decide_eq_true (by first | (with_reducible assumption) | assumption)
                    have hx10 := bt_at a0 (ji8)
                    replace p10 := eq_true p10
                    replace q10 := eq_true q10
                    go_wp2
                    go_roundg k1
                    case measure => have := HK1.out; omega
                    case rel => exact ⟨(x4_1), (wrap64 (x5_1 + 1)), (ji8), (by first | rfl | (simp; done) | (rw [prx_ne]; first | done | rfl) | (simp [*]; done)), (by first | rfl | (simp; done) | (rw [prx_ne]; first | done | rfl) | (simp [*]; done)), (by first | rfl | (simp; done) | (simp only [← hji8] <;> (first | rfl | simp)) | (rw [prx_ne]; first | done | rfl) | (simp [*]; done)), H', ⟨by have := HK1.out; omega⟩, by repeat (first | exact Drawn0.refl _ | apply Drawn0.step)⟩
                  · rw [if_neg c11] at H
                    have c11b0 : ((bt a0 (ji8)) == 93) = false := beq_eq_false_iff_ne.mpr c11
                    have c11b1 : ((bt a0 (ji8)) != 93) = true := bne_iff_ne.mpr c11
                    by_cases c12 : x4_1.size + 1 ≤ 9223372036854775807
                    · rw [if_pos c12] at H
                      have c12b0 := eq_true c12
                      have c12b1 : decide (x4_1.size + 1 ≤ 9223372036854775807) = true := decide_eq_true c12
                      try have c12b2 : (9223372036854775807 < x4_1.size + 1) = False := eq_false (Nat.not_lt.2 c12)
                      try (have c12b3 := c12; simp only [ByteArray.size_append, prx_sz, List.length_cons, List.length_nil] at c12b3)
                      have H' := Aside0.mk H
                      clear H
                      have p5 : 0 ≤ (x9_1 : Int) := of_decide_eq_true (by first | (with_reducible assumption) | assumption)
                      have q5 : x9_1 < (a0.size : Int) := of_decide_eq_true (by first | (with_reducible assumption) | assumption)
                      have hx5 := bt_at a0 x9_1
                      replace p5 := eq_true p5
                      replace q5 := eq_true q5
                      have p10 : 0 ≤ ((ji8) : Int) := of_decide_eq_true (by first | (with_reducible assumption) | assumption)
                      have q10 : (ji8) < (a0.size : Int) := of_decide_eq_true (by first | (with_reducible assumption) | assumption)
                      have hx10 := bt_at a0 (ji8)
                      replace p10 := eq_true p10
                      replace q10 := eq_true q10
                      go_wp2
                      go_roundg k1
                      case measure => have := HK1.out; omega
                      case rel => exact ⟨(x4_1 ++ (⟨#[46]⟩ : ByteArray)), (wrap64 (x5_1 + 1)), (ji8), (by first | rfl | (simp; done) | (rw [prx_ne]; first | done | rfl) | (simp [*]; done)), (by first | rfl | (simp; done) | (rw [prx_ne]; first | done | rfl) | (simp [*]; done)), (by first | rfl | (simp; done) | (simp only [← hji8] <;> (first | rfl | simp)) | (rw [prx_ne]; first | done | rfl) | (simp [*]; done)), H', ⟨by have := HK1.out; omega⟩, by repeat (first | exact Drawn0.refl _ | apply Drawn0.step)⟩
                    · rw [if_neg c12] at H
                      exact absurd H (by simp)
                · rw [if_neg c9] at H
                  exact absurd H (by simp)
              · rw [if_neg c7] at H
                have c7b0 : decide ((wrap64 (x9_1 + 1)) < (a0.size : Int)) = false := decide_eq_false c7
                clear c7
                have H' := Aside0.mk H
                clear H
                have p5 : 0 ≤ (x9_1 : Int) := of_decide_eq_true (by first | (with_reducible assumption) | assumption)
                have q5 : x9_1 < (a0.size : Int) := of_decide_eq_true (by first | (with_reducible assumption) | assumption)
                have hx5 := bt_at a0 x9_1
                replace p5 := eq_true p5
                replace q5 := eq_true q5
                go_wp2
                go_roundg k1
                case measure => have := HK1.out; omega
                case rel => exact ⟨(x4_1), (wrap64 (x5_1 + 1)), (wrap64 (x9_1 + 1)), (by first | rfl | (simp; done) | (rw [prx_ne]; first | done | rfl) | (simp [*]; done)), (by first | rfl | (simp; done) | (rw [prx_ne]; first | done | rfl) | (simp [*]; done)), (by first | rfl | (simp; done) | (rw [prx_ne]; first | done | rfl) | (simp [*]; done)), H', ⟨by have := HK1.out; omega⟩, by repeat (first | exact Drawn0.refl _ | apply Drawn0.step)⟩
            · rw [if_neg c6] at H
              have c6b0 : ((bt a0 x9_1) == 91) = false := beq_eq_false_iff_ne.mpr c6
              have c6b1 : ((bt a0 x9_1) != 91) = true := bne_iff_ne.mpr c6
              by_cases c13 : (bt a0 x9_1) = 93
              · rw [if_pos c13] at H
                have c13b0 : ((bt a0 x9_1) == 93) = true := beq_iff_eq.mpr c13
                have c13b1 : ((bt a0 x9_1) != 93) = false := bne_eq_false_iff_eq.mpr c13
                clear c13
                by_cases c14 : (wrap64 (x5_1 - 1)) < 0
                · rw [if_pos c14] at H
                  have c14b0 : decide ((wrap64 (x5_1 - 1)) < 0) = true := decide_eq_true c14
                  clear c14
                  simp only [Option.some.injEq, Prod.mk.injEq] at H
                  obtain ⟨rfl, rfl⟩ := H
                  have p5 : 0 ≤ (x9_1 : Int) := of_decide_eq_true (by first | (with_reducible assumption) | assumption)
                  have q5 : x9_1 < (a0.size : Int) := of_decide_eq_true (by first | (with_reducible assumption) | assumption)
                  have hx5 := bt_at a0 x9_1
                  replace p5 := eq_true p5
                  replace q5 := eq_true q5
                  go_wp2
                  go_ret2
                  exact ⟨by first | rfl | (simp; done) | (rw [prx_ne]; first | done | rfl) | (simp [*]; done), by repeat (first | exact Drawn0.refl _ | apply Drawn0.step)⟩
                · rw [if_neg c14] at H
                  have c14b0 : decide ((wrap64 (x5_1 - 1)) < 0) = false := decide_eq_false c14
                  clear c14
                  have H' := Aside0.mk H
                  clear H
                  have p5 : 0 ≤ (x9_1 : Int) := of_decide_eq_true (by first | (with_reducible assumption) | assumption)
                  have q5 : x9_1 < (a0.size : Int) := of_decide_eq_true (by first | (with_reducible assumption) | assumption)
                  have hx5 := bt_at a0 x9_1
                  replace p5 := eq_true p5
                  replace q5 := eq_true q5
                  go_wp2
                  go_roundg k1
                  case measure => have := HK1.out; omega
                  case rel => exact ⟨(x4_1), (wrap64 (x5_1 - 1)), (wrap64 (x9_1 + 1)), (by first | rfl | (simp; done) | (rw [prx_ne]; first | done | rfl) | (simp [*]; done)), (by first | rfl | (simp; done) | (rw [prx_ne]; first | done | rfl) | (simp [*]; done)), (by first | rfl | (simp; done) | (rw [prx_ne]; first | done | rfl) | (simp [*]; done)), H', ⟨by have := HK1.out; omega⟩, by repeat (first | exact Drawn0.refl _ | apply Drawn0.step)⟩
              · rw [if_neg c13] at H
                have c13b0 : ((bt a0 x9_1) == 93) = false := beq_eq_false_iff_ne.mpr c13
                have c13b1 : ((bt a0 x9_1) != 93) = true := bne_iff_ne.mpr c13
                have c15b0 := eq_true (of_decide_eq_true (by first | (with_reducible assumption) | assumption) : 0 ≤ x9_1)
                by_cases c16 : x9_1 ≤ (wrap64 (x9_1 + 1))
                · rw [if_pos c16] at H
                  have c16b0 := eq_true c16
                  have c16b1 : decide (x9_1 ≤ (wrap64 (x9_1 + 1))) = true := decide_eq_true c16
                  by_cases c17 : (wrap64 (x9_1 + 1)) ≤ (a0.size : Int)
                  · rw [if_pos c17] at H
                    have c17b0 := eq_true c17
                    have c17b1 : decide ((wrap64 (x9_1 + 1)) ≤ (a0.size : Int)) = true := decide_eq_true c17
                    by_cases c18 : x4_1.size + (a0.extract (x9_1 : Int).toNat ((wrap64 (x9_1 + 1)) : Int).toNat).size ≤ 9223372036854775807
                    · rw [if_pos c18] at H
                      have c18b0 := eq_true c18
                      have c18b1 : decide (x4_1.size + (a0.extract (x9_1 : Int).toNat ((wrap64 (x9_1 + 1)) : Int).toNat).size ≤ 9223372036854775807) = true := decide_eq_true c18
                      try have c18b2 : (9223372036854775807 < x4_1.size + (a0.extract (x9_1 : Int).toNat ((wrap64 (x9_1 + 1)) : Int).toNat).size) = False := eq_false (Nat.not_lt.2 c18)
                      try (have c18b3 := c18; simp only [ByteArray.size_append, prx_sz, List.length_cons, List.length_nil] at c18b3)
                      have H' := Aside0.mk H
                      clear H
                      have p5 : 0 ≤ (x9_1 : Int) := of_decide_eq_true (by first | (with_reducible assumption) | assumption)
                      have q5 : x9_1 < (a0.size : Int) := of_decide_eq_true (by first | (with_reducible assumption) | assumption)
                      have hx5 := bt_at a0 x9_1
                      replace p5 := eq_true p5
                      replace q5 := eq_true q5
                      go_wp2
                      go_roundg k1
                      case measure => have := HK1.out; omega
                      case rel => exact ⟨(x4_1 ++ (a0.extract (x9_1 : Int).toNat ((wrap64 (x9_1 + 1)) : Int).toNat)), (x5_1), (wrap64 (x9_1 + 1)), (by first | rfl | (simp; done) | (rw [prx_ne]; first | done | rfl) | (simp [*]; done)), (by first | rfl | (simp; done) | (rw [prx_ne]; first | done | rfl) | (simp [*]; done)), (by first | rfl | (simp; done) | (rw [prx_ne]; first | done | rfl) | (simp [*]; done)), H', ⟨by have := HK1.out; omega⟩, by repeat (first | exact Drawn0.refl _ | apply Drawn0.step)⟩
                    · rw [if_neg c18] at H
                      exact absurd H (by simp)
                  · rw [if_neg c17] at H
                    exact absurd H (by simp)
                · rw [if_neg c16] at H
                  exact absurd H (by simp)
          · rw [if_neg c4] at H
            exact absurd H (by simp)
        · rw [if_neg c3] at H
          exact absurd H (by simp)
      · rw [if_neg c2] at H
        have c2b0 : decide (x9_1 < (a0.size : Int)) = false := decide_eq_false c2
        clear c2
        by_cases c19 : x5_1 > 0
        · rw [if_pos c19] at H
          have c19b0 : decide (0 < x5_1) = true := decide_eq_true c19
          clear c19
          simp only [Option.some.injEq, Prod.mk.injEq] at H
          obtain ⟨rfl, rfl⟩ := H
          go_wp2
          go_ret2
          exact ⟨by first | rfl | (simp; done) | (rw [prx_ne]; first | done | rfl) | (simp [*]; done), by repeat (first | exact Drawn0.refl _ | apply Drawn0.step)⟩
        · rw [if_neg c19] at H
          have c19b0 : decide (0 < x5_1) = false := decide_eq_false c19
          clear c19
          simp only [Option.some.injEq, Prod.mk.injEq] at H
          obtain ⟨rfl, rfl⟩ := H
          go_wp2
          go_ret2
          exact ⟨by first | rfl | (simp; done) | (rw [prx_ne]; first | done | rfl) | (simp [*]; done), by repeat (first | exact Drawn0.refl _ | apply Drawn0.step)⟩
def spec_EtagMatch.f (a0 : ByteArray) (a1 : ByteArray) : Option (Bool) := if a0.toList = a1.toList then (some true) else (if 2 + a1.size ≤ 9223372036854775807 then (if a0.toList = ((⟨#[87, 47]⟩ : ByteArray) ++ a1).toList then (some true) else (if 2 + a0.size ≤ 9223372036854775807 then (some (((⟨#[87, 47]⟩ : ByteArray) ++ a0).toList == a1.toList)) else (none))) else (none))
set_option maxHeartbeats 8000000 in
set_option maxRecDepth 100000 in
theorem spec_EtagMatch.calls (a0 : ByteArray) (a1 : ByteArray) (r : Bool) (w : World) (h : spec_EtagMatch.f a0 a1 = some r) :
    Calls Tryd.prog 19 #[.string a0, .string a1] w fun e w' => e = .returned (.bool r) ∧ Drawn0 w w' := by
  have H : (if a0.toList = a1.toList then (some true) else (if 2 + a1.size ≤ 9223372036854775807 then (if a0.toList = ((⟨#[87, 47]⟩ : ByteArray) ++ a1).toList then (some true) else (if 2 + a0.size ≤ 9223372036854775807 then (some (((⟨#[87, 47]⟩ : ByteArray) ++ a0).toList == a1.toList)) else (none))) else (none))) = some r := h
  clear h
  by_cases c3 : a0.toList = a1.toList
  · rw [if_pos c3] at H
    have c3b0 : (a0.toList == a1.toList) = true := beq_iff_eq.mpr c3
    have c3b1 : (a0.toList != a1.toList) = false := bne_eq_false_iff_eq.mpr c3
    clear c3
    obtain rfl := Option.some.inj H
    go_enter Tryd.func19, Tryd.ntmps19
    go_wp2
    go_ret
    exact ⟨by first | rfl | (simp; done) | (rw [prx_ne]; first | done | rfl) | (simp [*]; done), by repeat (first | exact Drawn0.refl _ | apply Drawn0.step)⟩
  · rw [if_neg c3] at H
    have c3b0 : (a0.toList == a1.toList) = false := beq_eq_false_iff_ne.mpr c3
    have c3b1 : (a0.toList != a1.toList) = true := bne_iff_ne.mpr c3
    by_cases c4 : 2 + a1.size ≤ 9223372036854775807
    · rw [if_pos c4] at H
      have c4b0 := eq_true c4
      have c4b1 : decide (2 + a1.size ≤ 9223372036854775807) = true := decide_eq_true c4
      try have c4b2 : (9223372036854775807 < 2 + a1.size) = False := eq_false (Nat.not_lt.2 c4)
      try (have c4b3 := c4; simp only [ByteArray.size_append, prx_sz, List.length_cons, List.length_nil] at c4b3)
      by_cases c5 : a0.toList = ((⟨#[87, 47]⟩ : ByteArray) ++ a1).toList
      · rw [if_pos c5] at H
        have c5b0 : (a0.toList == ((⟨#[87, 47]⟩ : ByteArray) ++ a1).toList) = true := beq_iff_eq.mpr c5
        have c5b1 : (a0.toList != ((⟨#[87, 47]⟩ : ByteArray) ++ a1).toList) = false := bne_eq_false_iff_eq.mpr c5
        clear c5
        obtain rfl := Option.some.inj H
        go_enter Tryd.func19, Tryd.ntmps19
        go_wp2
        go_ret
        exact ⟨by first | rfl | (simp; done) | (rw [prx_ne]; first | done | rfl) | (simp [*]; done), by repeat (first | exact Drawn0.refl _ | apply Drawn0.step)⟩
      · rw [if_neg c5] at H
        have c5b0 : (a0.toList == ((⟨#[87, 47]⟩ : ByteArray) ++ a1).toList) = false := beq_eq_false_iff_ne.mpr c5
        have c5b1 : (a0.toList != ((⟨#[87, 47]⟩ : ByteArray) ++ a1).toList) = true := bne_iff_ne.mpr c5
        by_cases c6 : 2 + a0.size ≤ 9223372036854775807
        · rw [if_pos c6] at H
          have c6b0 := eq_true c6
          have c6b1 : decide (2 + a0.size ≤ 9223372036854775807) = true := decide_eq_true c6
          try have c6b2 : (9223372036854775807 < 2 + a0.size) = False := eq_false (Nat.not_lt.2 c6)
          try (have c6b3 := c6; simp only [ByteArray.size_append, prx_sz, List.length_cons, List.length_nil] at c6b3)
          obtain rfl := Option.some.inj H
          go_enter Tryd.func19, Tryd.ntmps19
          go_wp2
          go_ret
          exact ⟨by first | rfl | (simp; done) | (rw [prx_ne]; first | done | rfl) | (simp [*]; done), by repeat (first | exact Drawn0.refl _ | apply Drawn0.step)⟩
        · rw [if_neg c6] at H
          exact absurd H (by simp)
    · rw [if_neg c4] at H
      exact absurd H (by simp)
def laws_told.f (a0 : Bool) (a1 : Int) : Option (Bool) := if a1 = 2 then (some true) else (some (a0 == (a1 == 1)))
set_option maxHeartbeats 8000000 in
set_option maxRecDepth 100000 in
theorem laws_told.calls (a0 : Bool) (a1 : Int) (r : Bool) (w : World) (h : laws_told.f a0 a1 = some r) :
    Calls Tryd.prog 23 #[.bool a0, .int .i64 a1] w fun e w' => e = .returned (.bool r) ∧ Drawn0 w w' := by
  have H : (if a1 = 2 then (some true) else (some (a0 == (a1 == 1)))) = some r := h
  clear h
  by_cases c3 : a1 = 2
  · rw [if_pos c3] at H
    have c3b0 : (a1 == 2) = true := beq_iff_eq.mpr c3
    have c3b1 : (a1 != 2) = false := bne_eq_false_iff_eq.mpr c3
    clear c3
    obtain rfl := Option.some.inj H
    go_enter Tryd.func23, Tryd.ntmps23
    go_wp2
    go_ret
    exact ⟨by first | rfl | (simp; done) | (rw [prx_ne]; first | done | rfl) | (simp [*]; done), by repeat (first | exact Drawn0.refl _ | apply Drawn0.step)⟩
  · rw [if_neg c3] at H
    have c3b0 : (a1 == 2) = false := beq_eq_false_iff_ne.mpr c3
    have c3b1 : (a1 != 2) = true := bne_iff_ne.mpr c3
    obtain rfl := Option.some.inj H
    go_enter Tryd.func23, Tryd.ntmps23
    go_wp2
    go_ret
    exact ⟨by first | rfl | (simp; done) | (rw [prx_ne]; first | done | rfl) | (simp [*]; done), by repeat (first | exact Drawn0.refl _ | apply Drawn0.step)⟩
def fiberhelpers_zzIndex.l0 : Nat → ByteArray → ByteArray → Int → Option (Int)
  | 0, _, _, _ => none
  | k + 1, x0, x1, x5 => if (wrap64 (x5 + (x1.size : Int))) ≤ (x0.size : Int) then (if 0 ≤ x5 then (if x5 ≤ (wrap64 (x5 + (x1.size : Int))) then (if (x0.extract (x5 : Int).toNat ((wrap64 (x5 + (x1.size : Int))) : Int).toNat).toList = x1.toList then (some x5) else (fiberhelpers_zzIndex.l0 k x0 x1 (wrap64 (x5 + 1)))) else (none)) else (none)) else (some (-1))
def fiberhelpers_zzIndex.f (k : Nat) (a0 : ByteArray) (a1 : ByteArray) : Option (Int) := fiberhelpers_zzIndex.l0 k a0 a1 0
set_option maxHeartbeats 8000000 in
set_option maxRecDepth 100000 in
theorem fiberhelpers_zzIndex.calls (k : Nat) (a0 : ByteArray) (a1 : ByteArray) (r : Int) (w : World) (h : fiberhelpers_zzIndex.f k a0 a1 = some r) :
    Calls Tryd.prog 101 #[.string a0, .string a1] w fun e w' => e = .returned (.int .i64 r) ∧ Drawn0 w w' := by
  have H : (fiberhelpers_zzIndex.l0 k a0 a1 0) = some r := h
  clear h
  have H' := Aside0.mk H
  clear H
  go_enter Tryd.func101, Tryd.ntmps101
  go_wp2
  go_loopg [5] k (fun kq v5 w' => ∃ (x5_1 : Int), v5 = .int .i64 x5_1 ∧ Aside0 (fiberhelpers_zzIndex.l0 kq a0 a1 x5_1 = some r) ∧ Aside0 (kq ≤ k) ∧ Drawn0 w w')
  case atStart => exact ⟨(0), (by first | rfl | (simp; done) | (rw [prx_ne]; first | done | rfl) | (simp [*]; done)), H', ⟨Nat.le_refl _⟩, by repeat (first | exact Drawn0.refl _ | apply Drawn0.step)⟩
  case round =>
    clear H'
    try clear c1
    try clear p2
    obtain ⟨x5_1, rfl, HA, HK1, ⟨m1, rfl⟩⟩ := hrel
    cases gk with
    | zero => exact absurd HA.out (by simp [fiberhelpers_zzIndex.l0])
    | succ k1 =>
      have H := HA.out
      clear HA
      simp only [fiberhelpers_zzIndex.l0] at H
      by_cases c3 : (wrap64 (x5_1 + (a1.size : Int))) ≤ (a0.size : Int)
      · rw [if_pos c3] at H
        have c3b0 : decide ((wrap64 (x5_1 + (a1.size : Int))) ≤ (a0.size : Int)) = true := decide_eq_true c3
        clear c3
        by_cases c4 : 0 ≤ x5_1
        · rw [if_pos c4] at H
          have c4b0 := eq_true c4
          have c4b1 : decide (0 ≤ x5_1) = true := decide_eq_true c4
          clear c4
          by_cases c5 : x5_1 ≤ (wrap64 (x5_1 + (a1.size : Int)))
          · rw [if_pos c5] at H
            have c5b0 := eq_true c5
            have c5b1 : decide (x5_1 ≤ (wrap64 (x5_1 + (a1.size : Int)))) = true := decide_eq_true c5
            have c6b0 := eq_true (of_decide_eq_true (by first | (with_reducible assumption) | assumption) : (wrap64 (x5_1 + (a1.size : Int))) ≤ (a0.size : Int))
            by_cases c7 : (a0.extract (x5_1 : Int).toNat ((wrap64 (x5_1 + (a1.size : Int))) : Int).toNat).toList = a1.toList
            · rw [if_pos c7] at H
              have c7b0 : ((a0.extract (x5_1 : Int).toNat ((wrap64 (x5_1 + (a1.size : Int))) : Int).toNat).toList == a1.toList) = true := beq_iff_eq.mpr c7
              have c7b1 : ((a0.extract (x5_1 : Int).toNat ((wrap64 (x5_1 + (a1.size : Int))) : Int).toNat).toList != a1.toList) = false := bne_eq_false_iff_eq.mpr c7
              clear c7
              obtain rfl := Option.some.inj H
              go_wp2
              go_ret
              exact ⟨by first | rfl | (simp; done) | (rw [prx_ne]; first | done | rfl) | (simp [*]; done), by repeat (first | exact Drawn0.refl _ | apply Drawn0.step)⟩
            · rw [if_neg c7] at H
              have c7b0 : ((a0.extract (x5_1 : Int).toNat ((wrap64 (x5_1 + (a1.size : Int))) : Int).toNat).toList == a1.toList) = false := beq_eq_false_iff_ne.mpr c7
              have c7b1 : ((a0.extract (x5_1 : Int).toNat ((wrap64 (x5_1 + (a1.size : Int))) : Int).toNat).toList != a1.toList) = true := bne_iff_ne.mpr c7
              have H' := Aside0.mk H
              clear H
              go_wp2
              go_roundg k1
              case measure => have := HK1.out; omega
              case rel => exact ⟨(wrap64 (x5_1 + 1)), (by first | rfl | (simp; done) | (rw [prx_ne]; first | done | rfl) | (simp [*]; done)), H', ⟨by have := HK1.out; omega⟩, by repeat (first | exact Drawn0.refl _ | apply Drawn0.step)⟩
          · rw [if_neg c5] at H
            exact absurd H (by simp)
        · rw [if_neg c4] at H
          exact absurd H (by simp)
      · rw [if_neg c3] at H
        have c3b0 : decide ((wrap64 (x5_1 + (a1.size : Int))) ≤ (a0.size : Int)) = false := decide_eq_false c3
        clear c3
        obtain rfl := Option.some.inj H
        go_wp2
        go_ret
        exact ⟨by first | rfl | (simp; done) | (rw [prx_ne]; first | done | rfl) | (simp [*]; done), by repeat (first | exact Drawn0.refl _ | apply Drawn0.step)⟩
def fiberhelpers_isNoCache.j0 : Nat → ByteArray → Int → Bool → Option (Bool)
  | 0, _, _, _ => none
  | k + 1, x0, x3, x24 => if x24 = true then (some false) else (if (wrap64 (x3 + 8)) = (x0.size : Int) then (some true) else (if 0 ≤ (wrap64 (x3 + 8)) then (if (wrap64 (x3 + 8)) < (x0.size : Int) then (if (bt x0 (wrap64 (x3 + 8))) = 44 then (some true) else (some false)) else (none)) else (none)))
def fiberhelpers_isNoCache.f (k : Nat) (a0 : ByteArray) : Option (Bool) := (fiberhelpers_zzIndex.f k a0 (⟨#[110, 111, 45, 99, 97, 99, 104, 101]⟩ : ByteArray)).bind fun t125 => (if t125 = (-1) then (some false) else (if t125 > 0 then (if 0 ≤ (wrap64 (t125 - 1)) then (if (wrap64 (t125 - 1)) < (a0.size : Int) then (if (bt a0 (wrap64 (t125 - 1))) = 32 then (fiberhelpers_isNoCache.j0 k a0 t125 (!true)) else (fiberhelpers_isNoCache.j0 k a0 t125 (!((bt a0 (wrap64 (t125 - 1))) == 44)))) else (none)) else (none)) else (fiberhelpers_isNoCache.j0 k a0 t125 false)))
set_option maxHeartbeats 8000000 in
set_option maxRecDepth 100000 in
theorem fiberhelpers_isNoCache.calls (k : Nat) (a0 : ByteArray) (r : Bool) (w : World) (h : fiberhelpers_isNoCache.f k a0 = some r) :
    Calls Tryd.prog 85 #[.string a0] w fun e w' => e = .returned (.bool r) ∧ Drawn0 w w' := by
  have H : ((fiberhelpers_zzIndex.f k a0 (⟨#[110, 111, 45, 99, 97, 99, 104, 101]⟩ : ByteArray)).bind fun t125 => (if t125 = (-1) then (some false) else (if t125 > 0 then (if 0 ≤ (wrap64 (t125 - 1)) then (if (wrap64 (t125 - 1)) < (a0.size : Int) then (if (bt a0 (wrap64 (t125 - 1))) = 32 then (fiberhelpers_isNoCache.j0 k a0 t125 (!true)) else (fiberhelpers_isNoCache.j0 k a0 t125 (!((bt a0 (wrap64 (t125 - 1))) == 44)))) else (none)) else (none)) else (fiberhelpers_isNoCache.j0 k a0 t125 false)))) = some r := h
  clear h
  replace H := Option.bind_eq_some_iff.mp H
  obtain ⟨t125, A20, H⟩ := H
  replace H : (if t125 = (-1) then (some false) else (if t125 > 0 then (if 0 ≤ (wrap64 (t125 - 1)) then (if (wrap64 (t125 - 1)) < (a0.size : Int) then (if (bt a0 (wrap64 (t125 - 1))) = 32 then (fiberhelpers_isNoCache.j0 k a0 t125 (!true)) else (fiberhelpers_isNoCache.j0 k a0 t125 (!((bt a0 (wrap64 (t125 - 1))) == 44)))) else (none)) else (none)) else (fiberhelpers_isNoCache.j0 k a0 t125 false))) = some r := H
  have A2 := Aside0.mk A20
  clear A20
  by_cases c3 : t125 = (-1)
  · rw [if_pos c3] at H
    have c3b0 : (t125 == (-1)) = true := beq_iff_eq.mpr c3
    have c3b1 : (t125 != (-1)) = false := bne_eq_false_iff_eq.mpr c3
    clear c3
    obtain rfl := Option.some.inj H
    go_enter Tryd.func85, Tryd.ntmps85
    go_wp2_with (first | ((with_reducible refine gate_callee (f := 101) rfl ?_); refine goesL_ (some 5) rfl rfl Tryd.func101 (by kernel_rfl) rfl #[.string a0, .string (⟨#[110, 111, 45, 99, 97, 99, 104, 101]⟩ : ByteArray)] rfl (by (try simp only [List.map_toArray, List.map_cons, List.map_nil]); first | done | rfl | (simp only [List.length_drop, List.length_take]; rfl)) ?_; (with_reducible refine (fiberhelpers_zzIndex.calls k a0 (⟨#[110, 111, 45, 99, 97, 99, 104, 101]⟩ : ByteArray) t125 _ A2.out).mono ?_); rintro e w' ⟨rfl, ⟨nd, rfl⟩⟩; refine ⟨_, rfl, ?_⟩))
    go_ret
    exact ⟨by first | rfl | (simp; done) | (rw [prx_ne]; first | done | rfl) | (simp [*]; done), by repeat (first | exact Drawn0.refl _ | apply Drawn0.step)⟩
  · rw [if_neg c3] at H
    have c3b0 : (t125 == (-1)) = false := beq_eq_false_iff_ne.mpr c3
    have c3b1 : (t125 != (-1)) = true := bne_iff_ne.mpr c3
    have HC4 := Aside0.mk H
    clear H
    go_enter Tryd.func85, Tryd.ntmps85
    go_upto_region 4 with (first | ((with_reducible refine gate_callee (f := 101) rfl ?_); refine goesL_ (some 5) rfl rfl Tryd.func101 (by kernel_rfl) rfl #[.string a0, .string (⟨#[110, 111, 45, 99, 97, 99, 104, 101]⟩ : ByteArray)] rfl (by (try simp only [List.map_toArray, List.map_cons, List.map_nil]); first | done | rfl | (simp only [List.length_drop, List.length_take]; rfl)) ?_; (with_reducible refine (fiberhelpers_zzIndex.calls k a0 (⟨#[110, 111, 45, 99, 97, 99, 104, 101]⟩ : ByteArray) t125 _ A2.out).mono ?_); rintro e w' ⟨rfl, ⟨nd, rfl⟩⟩; refine ⟨_, rfl, ?_⟩))
    (try simp only [Act.put, List.setIfInBounds_toArray, List.set_cons_zero, List.set_cons_succ])
    go_cut [24] (fun v24 wc => ∃ (kq : Nat) (x24_3 : Bool), v24 = .bool x24_3 ∧ Aside0 (fiberhelpers_isNoCache.j0 kq a0 t125 x24_3 = some r) ∧ Aside0 (kq ≤ k) ∧ Drawn0 w wc)
    case first =>
      have H := HC4.out
      clear HC4
      by_cases c5 : t125 > 0
      · rw [if_pos c5] at H
        have c5b0 : decide (0 < t125) = true := decide_eq_true c5
        clear c5
        (first | rw [c5b0] | (simp only [i64_w, i32_w]; rw [c5b0]) | skip)
        obtain ⟨ji6, hji6⟩ : ∃ j_ : Int, (wrap64 (t125 - 1)) = j_ := ⟨_, rfl⟩
        replace H : (if 0 ≤ (ji6) then (if (ji6) < (a0.size : Int) then (if (bt a0 (ji6)) = 32 then (fiberhelpers_isNoCache.j0 k a0 t125 (!true)) else (fiberhelpers_isNoCache.j0 k a0 t125 (!((bt a0 (ji6)) == 44)))) else (none)) else (none)) = some r := by first | (rw [hji6] at H; exact H) | (simp only [hji6] at H ⊢; exact H)
        have hji6w : (IntKind.i64.wrap (t125 - 1)) = ji6 := (i64_w _).trans hji6
        by_cases c7 : 0 ≤ (ji6)
        · rw [if_pos c7] at H
          have c7b0 : decide (0 ≤ (ji6)) = true := decide_eq_true c7
          clear c7
          by_cases c8 : (ji6) < (a0.size : Int)
          · rw [if_pos c8] at H
            have c8b0 : decide ((ji6) < (a0.size : Int)) = true := decide_eq_true c8
            clear c8
            by_cases c10 : (bt a0 (ji6)) = 32
            · rw [if_pos c10] at H
              have c10b0 : ((bt a0 (ji6)) == 32) = true := beq_iff_eq.mpr c10
              have c10b1 : ((bt a0 (ji6)) != 32) = false := bne_eq_false_iff_eq.mpr c10
              clear c10
              have H' := Aside0.mk H
              clear H
              have p9 : 0 ≤ ((ji6) : Int) := of_decide_eq_true (by first | (with_reducible assumption) | assumption)
              have q9 : (ji6) < (a0.size : Int) := of_decide_eq_true (by first | (with_reducible assumption) | assumption)
              have hx9 := bt_at a0 (ji6)
              replace p9 := eq_true p9
              replace q9 := eq_true q9
              go_wp2
              go_meet
              case rel => exact ⟨_, (!true), (by first | rfl | (simp; done) | (rw [prx_ne]; first | done | rfl) | (simp [*]; done)), H', ⟨by first | omega | exact Nat.le_refl _⟩, by repeat (first | exact Drawn0.refl _ | apply Drawn0.step)⟩
            · rw [if_neg c10] at H
              have c10b0 : ((bt a0 (ji6)) == 32) = false := beq_eq_false_iff_ne.mpr c10
              have c10b1 : ((bt a0 (ji6)) != 32) = true := bne_iff_ne.mpr c10
              have H' := Aside0.mk H
              clear H
              have p9 : 0 ≤ ((ji6) : Int) := of_decide_eq_true (by first | (with_reducible assumption) | assumption)
              have q9 : (ji6) < (a0.size : Int) := of_decide_eq_true (by first | (with_reducible assumption) | assumption)
              have hx9 := bt_at a0 (ji6)
              replace p9 := eq_true p9
              replace q9 := eq_true q9
              have p11 : 0 ≤ ((ji6) : Int) := of_decide_eq_true (by first | (with_reducible assumption) | assumption)
              have q11 : (ji6) < (a0.size : Int) := of_decide_eq_true (by first | (with_reducible assumption) | assumption)
              have hx11 := bt_at a0 (ji6)
              replace p11 := eq_true p11
              replace q11 := eq_true q11
              go_wp2
              go_meet
              case rel => exact ⟨_, (!((bt a0 (ji6)) == 44)), (by first | rfl | (simp; done) | (simp only [← hji6] <;> (first | rfl | simp)) | (rw [prx_ne]; first | done | rfl) | (simp [*]; done)), H', ⟨by first | omega | exact Nat.le_refl _⟩, by repeat (first | exact Drawn0.refl _ | apply Drawn0.step)⟩
          · rw [if_neg c8] at H
            exact absurd H (by simp)
        · rw [if_neg c7] at H
          exact absurd H (by simp)
      · rw [if_neg c5] at H
        have c5b0 : decide (0 < t125) = false := decide_eq_false c5
        clear c5
        (first | rw [c5b0] | (simp only [i64_w, i32_w]; rw [c5b0]) | skip)
        have H' := Aside0.mk H
        clear H
        go_wp2
        go_meet
        case rel => exact ⟨_, (false), (by first | rfl | (simp; done) | (rw [prx_ne]; first | done | rfl) | (simp [*]; done)), H', ⟨by first | omega | exact Nat.le_refl _⟩, by repeat (first | exact Drawn0.refl _ | apply Drawn0.step)⟩
    case rest =>
      clear HC4
      try clear c1
      try clear p1
      try clear q1
      try clear hx1
      try clear p2
      try clear c3
      try clear c3b0
      try clear c3b1
      try clear c5
      try clear c5b0
      try clear p6
      try clear c7
      try clear c7b0
      try clear c8
      try clear c8b0
      try clear p9
      try clear q9
      try clear hx9
      try clear c10
      try clear c10b0
      try clear c10b1
      try clear p11
      try clear q11
      try clear hx11
      try clear p11
      try clear p9
      try clear q11
      try clear q9
      obtain ⟨kq, x24_3, rfl, HA, HJ3, ⟨mc3, rfl⟩⟩ := hcut
      cases kq with
      | zero => exact absurd HA.out (by simp [fiberhelpers_isNoCache.j0])
      | succ kj3 =>
        have H := HA.out
        clear HA
        simp only [fiberhelpers_isNoCache.j0] at H
        by_cases c12 : x24_3 = true
        · subst c12
          have H1 : (some false) = some r := by rw [if_pos rfl] at H; exact H
          clear H
          have H := H1
          clear H1
          obtain rfl := Option.some.inj H
          go_wp2
          go_ret
          exact ⟨by first | rfl | (simp; done) | (rw [prx_ne]; first | done | rfl) | (simp [*]; done), by repeat (first | exact Drawn0.refl _ | apply Drawn0.step)⟩
        · replace c12 := Bool.eq_false_iff.mpr c12
          subst c12
          have H1 : (if (wrap64 (t125 + 8)) = (a0.size : Int) then (some true) else (if 0 ≤ (wrap64 (t125 + 8)) then (if (wrap64 (t125 + 8)) < (a0.size : Int) then (if (bt a0 (wrap64 (t125 + 8))) = 44 then (some true) else (some false)) else (none)) else (none))) = some r := by rw [if_neg (show ¬ (false = true) by decide)] at H; exact H
          clear H
          have H := H1
          clear H1
          by_cases c13 : (wrap64 (t125 + 8)) = (a0.size : Int)
          · rw [if_pos c13] at H
            have c13b0 : ((wrap64 (t125 + 8)) == (a0.size : Int)) = true := beq_iff_eq.mpr c13
            have c13b1 : ((wrap64 (t125 + 8)) != (a0.size : Int)) = false := bne_eq_false_iff_eq.mpr c13
            clear c13
            obtain rfl := Option.some.inj H
            go_wp2
            go_ret
            exact ⟨by first | rfl | (simp; done) | (rw [prx_ne]; first | done | rfl) | (simp [*]; done), by repeat (first | exact Drawn0.refl _ | apply Drawn0.step)⟩
          · rw [if_neg c13] at H
            have c13b0 : ((wrap64 (t125 + 8)) == (a0.size : Int)) = false := beq_eq_false_iff_ne.mpr c13
            have c13b1 : ((wrap64 (t125 + 8)) != (a0.size : Int)) = true := bne_iff_ne.mpr c13
            obtain ⟨ji14, hji14⟩ : ∃ j_ : Int, (wrap64 (t125 + 8)) = j_ := ⟨_, rfl⟩
            replace H : (if 0 ≤ (ji14) then (if (ji14) < (a0.size : Int) then (if (bt a0 (ji14)) = 44 then (some true) else (some false)) else (none)) else (none)) = some r := by first | (rw [hji14] at H; exact H) | (simp only [hji14] at H ⊢; exact H)
            (try rw [hji14] at c13b0)
            (try rw [hji14] at c13b1)
            have hji14w : (IntKind.i64.wrap (t125 + 8)) = ji14 := (i64_w _).trans hji14
            by_cases c15 : 0 ≤ (ji14)
            · rw [if_pos c15] at H
              have c15b0 : decide (0 ≤ (ji14)) = true := decide_eq_true c15
              clear c15
              by_cases c16 : (ji14) < (a0.size : Int)
              · rw [if_pos c16] at H
                have c16b0 : decide ((ji14) < (a0.size : Int)) = true := decide_eq_true c16
                clear c16
                by_cases c18 : (bt a0 (ji14)) = 44
                · rw [if_pos c18] at H
                  have c18b0 : ((bt a0 (ji14)) == 44) = true := beq_iff_eq.mpr c18
                  have c18b1 : ((bt a0 (ji14)) != 44) = false := bne_eq_false_iff_eq.mpr c18
                  clear c18
                  obtain rfl := Option.some.inj H
                  have p17 : 0 ≤ ((ji14) : Int) := of_decide_eq_true (by first | (with_reducible assumption) | assumption)
                  have q17 : (ji14) < (a0.size : Int) := of_decide_eq_true (by first | (with_reducible assumption) | assumption)
                  have hx17 := bt_at a0 (ji14)
                  replace p17 := eq_true p17
                  replace q17 := eq_true q17
                  go_wp2
                  go_ret
                  exact ⟨by first | rfl | (simp; done) | (simp only [← hji14] <;> (first | rfl | simp)) | (rw [prx_ne]; first | done | rfl) | (simp [*]; done), by repeat (first | exact Drawn0.refl _ | apply Drawn0.step)⟩
                · rw [if_neg c18] at H
                  have c18b0 : ((bt a0 (ji14)) == 44) = false := beq_eq_false_iff_ne.mpr c18
                  have c18b1 : ((bt a0 (ji14)) != 44) = true := bne_iff_ne.mpr c18
                  obtain rfl := Option.some.inj H
                  have p17 : 0 ≤ ((ji14) : Int) := of_decide_eq_true (by first | (with_reducible assumption) | assumption)
                  have q17 : (ji14) < (a0.size : Int) := of_decide_eq_true (by first | (with_reducible assumption) | assumption)
                  have hx17 := bt_at a0 (ji14)
                  replace p17 := eq_true p17
                  replace q17 := eq_true q17
                  go_wp2
                  go_ret
                  exact ⟨by first | rfl | (simp; done) | (simp only [← hji14] <;> (first | rfl | simp)) | (rw [prx_ne]; first | done | rfl) | (simp [*]; done), by repeat (first | exact Drawn0.refl _ | apply Drawn0.step)⟩
              · rw [if_neg c16] at H
                exact absurd H (by simp)
            · rw [if_neg c15] at H
              exact absurd H (by simp)
def fiberhelpers_ZzNoCache.f (k : Nat) (a0 : ByteArray) : Option (Bool) := (fiberhelpers_isNoCache.f k a0).bind fun t126 => (some t126)
set_option maxHeartbeats 8000000 in
set_option maxRecDepth 100000 in
theorem fiberhelpers_ZzNoCache.calls (k : Nat) (a0 : ByteArray) (r : Bool) (w : World) (h : fiberhelpers_ZzNoCache.f k a0 = some r) :
    Calls Tryd.prog 58 #[.string a0] w fun e w' => e = .returned (.bool r) ∧ Drawn0 w w' := by
  have H : ((fiberhelpers_isNoCache.f k a0).bind fun t126 => (some t126)) = some r := h
  clear h
  replace H := Option.bind_eq_some_iff.mp H
  obtain ⟨t126, A20, H⟩ := H
  replace H : (some t126) = some r := H
  have A2 := Aside0.mk A20
  clear A20
  obtain rfl := Option.some.inj H
  go_enter Tryd.func58, Tryd.ntmps58
  go_wp2_with (first | ((with_reducible refine gate_callee (f := 85) rfl ?_); refine goesL_ (some 4) rfl rfl Tryd.func85 (by kernel_rfl) rfl #[.string a0] rfl (by (try simp only [List.map_toArray, List.map_cons, List.map_nil]); first | done | rfl | (simp only [List.length_drop, List.length_take]; rfl)) ?_; (with_reducible refine (fiberhelpers_isNoCache.calls k a0 t126 _ A2.out).mono ?_); rintro e w' ⟨rfl, ⟨nd, rfl⟩⟩; refine ⟨_, rfl, ?_⟩))
  go_ret
  exact ⟨by first | rfl | (simp; done) | (rw [prx_ne]; first | done | rfl) | (simp [*]; done), by repeat (first | exact Drawn0.refl _ | apply Drawn0.step)⟩
def impl_NoCache.f (k : Nat) (a0 : ByteArray) : Option (Bool) := (fiberhelpers_ZzNoCache.f k a0).bind fun t127 => (some t127)
set_option maxHeartbeats 8000000 in
set_option maxRecDepth 100000 in
theorem impl_NoCache.calls (k : Nat) (a0 : ByteArray) (r : Bool) (w : World) (h : impl_NoCache.f k a0 = some r) :
    Calls Tryd.prog 24 #[.string a0] w fun e w' => e = .returned (.bool r) ∧ Drawn0 w w' := by
  have H : ((fiberhelpers_ZzNoCache.f k a0).bind fun t127 => (some t127)) = some r := h
  clear h
  replace H := Option.bind_eq_some_iff.mp H
  obtain ⟨t127, A20, H⟩ := H
  replace H : (some t127) = some r := H
  have A2 := Aside0.mk A20
  clear A20
  obtain rfl := Option.some.inj H
  go_enter Tryd.func24, Tryd.ntmps24
  go_wp2_with (first | ((with_reducible refine gate_callee (f := 58) rfl ?_); refine goesL_ (some 4) rfl rfl Tryd.func58 (by kernel_rfl) rfl #[.string a0] rfl (by (try simp only [List.map_toArray, List.map_cons, List.map_nil]); first | done | rfl | (simp only [List.length_drop, List.length_take]; rfl)) ?_; (with_reducible refine (fiberhelpers_ZzNoCache.calls k a0 t127 _ A2.out).mono ?_); rintro e w' ⟨rfl, ⟨nd, rfl⟩⟩; refine ⟨_, rfl, ?_⟩))
  go_ret
  exact ⟨by first | rfl | (simp; done) | (rw [prx_ne]; first | done | rfl) | (simp [*]; done), by repeat (first | exact Drawn0.refl _ | apply Drawn0.step)⟩
def fiberutils_TrimLeft.l0 : Nat → ByteArray → Int → Int → Int → Option (ByteArray)
  | 0, _, _, _, _ => none
  | k + 1, x0, x1, x5, x6 => if x6 < x5 then (if 0 ≤ x6 then (if x6 < (x0.size : Int) then (if (bt x0 x6) = x1 then (fiberutils_TrimLeft.l0 k x0 x1 x5 (wrap64 (x6 + 1))) else (if x6 ≤ (x0.size : Int) then (some (x0.extract (x6 : Int).toNat x0.size)) else (none))) else (none)) else (none)) else (if 0 ≤ x6 then (if x6 ≤ (x0.size : Int) then (some (x0.extract (x6 : Int).toNat x0.size)) else (none)) else (none))
def fiberutils_TrimLeft.f (k : Nat) (a0 : ByteArray) (a1 : Int) : Option (ByteArray) := fiberutils_TrimLeft.l0 k a0 a1 (a0.size : Int) 0
set_option maxHeartbeats 8000000 in
set_option maxRecDepth 100000 in
theorem fiberutils_TrimLeft.calls (k : Nat) (a0 : ByteArray) (a1 : Int) (r : ByteArray) (w : World) (h : fiberutils_TrimLeft.f k a0 a1 = some r) :
    Calls Tryd.prog 102 #[.string a0, .int .u8 a1] w fun e w' => e = .returned (.string r) ∧ Drawn0 w w' := by
  have H : (fiberutils_TrimLeft.l0 k a0 a1 (a0.size : Int) 0) = some r := h
  clear h
  have H' := Aside0.mk H
  clear H
  go_enter Tryd.func102, Tryd.ntmps102
  go_wp2
  go_loopg [6] k (fun kq v6 w' => ∃ (x6_1 : Int), v6 = .int .i64 x6_1 ∧ Aside0 (fiberutils_TrimLeft.l0 kq a0 a1 (a0.size : Int) x6_1 = some r) ∧ Aside0 (kq ≤ k) ∧ Drawn0 w w')
  case atStart => exact ⟨(0), (by first | rfl | (simp; done) | (rw [prx_ne]; first | done | rfl) | (simp [*]; done)), H', ⟨Nat.le_refl _⟩, by repeat (first | exact Drawn0.refl _ | apply Drawn0.step)⟩
  case round =>
    clear H'
    try clear c1
    try clear p2
    obtain ⟨x6_1, rfl, HA, HK1, ⟨m1, rfl⟩⟩ := hrel
    cases gk with
    | zero => exact absurd HA.out (by simp [fiberutils_TrimLeft.l0])
    | succ k1 =>
      have H := HA.out
      clear HA
      simp only [fiberutils_TrimLeft.l0] at H
      by_cases c3 : x6_1 < (a0.size : Int)
      · rw [if_pos c3] at H
        have c3b0 : decide (x6_1 < (a0.size : Int)) = true := decide_eq_true c3
        clear c3
        by_cases c4 : 0 ≤ x6_1
        · rw [if_pos c4] at H
          have c4b0 : decide (0 ≤ x6_1) = true := decide_eq_true c4
          clear c4
          by_cases c5 : x6_1 < (a0.size : Int)
          · rw [if_pos c5] at H
            have c5b0 : decide (x6_1 < (a0.size : Int)) = true := decide_eq_true c5
            clear c5
            by_cases c7 : (bt a0 x6_1) = a1
            · rw [if_pos c7] at H
              have c7b0 : ((bt a0 x6_1) == a1) = true := beq_iff_eq.mpr c7
              have c7b1 : ((bt a0 x6_1) != a1) = false := bne_eq_false_iff_eq.mpr c7
              clear c7
              have H' := Aside0.mk H
              clear H
              have p6 : 0 ≤ (x6_1 : Int) := of_decide_eq_true (by first | (with_reducible assumption) | assumption)
              have q6 : x6_1 < (a0.size : Int) := of_decide_eq_true (by first | (with_reducible assumption) | assumption)
              have hx6 := bt_at a0 x6_1
              replace p6 := eq_true p6
              replace q6 := eq_true q6
              go_wp2
              go_roundg k1
              case measure => have := HK1.out; omega
              case rel => exact ⟨(wrap64 (x6_1 + 1)), (by first | rfl | (simp; done) | (rw [prx_ne]; first | done | rfl) | (simp [*]; done)), H', ⟨by have := HK1.out; omega⟩, by repeat (first | exact Drawn0.refl _ | apply Drawn0.step)⟩
            · rw [if_neg c7] at H
              have c7b0 : ((bt a0 x6_1) == a1) = false := beq_eq_false_iff_ne.mpr c7
              have c7b1 : ((bt a0 x6_1) != a1) = true := bne_iff_ne.mpr c7
              have c8b0 := eq_true (of_decide_eq_true (by first | (with_reducible assumption) | assumption) : 0 ≤ x6_1)
              by_cases c9 : x6_1 ≤ (a0.size : Int)
              · rw [if_pos c9] at H
                have c9b0 := eq_true c9
                have c9b1 : decide (x6_1 ≤ (a0.size : Int)) = true := decide_eq_true c9
                clear c9
                obtain rfl := Option.some.inj H
                have p6 : 0 ≤ (x6_1 : Int) := of_decide_eq_true (by first | (with_reducible assumption) | assumption)
                have q6 : x6_1 < (a0.size : Int) := of_decide_eq_true (by first | (with_reducible assumption) | assumption)
                have hx6 := bt_at a0 x6_1
                replace p6 := eq_true p6
                replace q6 := eq_true q6
                go_wp2
                go_ret
                exact ⟨by first | rfl | (simp; done) | (rw [prx_ne]; first | done | rfl) | (simp [*]; done), by repeat (first | exact Drawn0.refl _ | apply Drawn0.step)⟩
              · rw [if_neg c9] at H
                exact absurd H (by simp)
          · rw [if_neg c5] at H
            exact absurd H (by simp)
        · rw [if_neg c4] at H
          exact absurd H (by simp)
      · rw [if_neg c3] at H
        have c3b0 : decide (x6_1 < (a0.size : Int)) = false := decide_eq_false c3
        clear c3
        by_cases c10 : 0 ≤ x6_1
        · rw [if_pos c10] at H
          have c10b0 := eq_true c10
          have c10b1 : decide (0 ≤ x6_1) = true := decide_eq_true c10
          clear c10
          by_cases c11 : x6_1 ≤ (a0.size : Int)
          · rw [if_pos c11] at H
            have c11b0 := eq_true c11
            have c11b1 : decide (x6_1 ≤ (a0.size : Int)) = true := decide_eq_true c11
            clear c11
            obtain rfl := Option.some.inj H
            go_wp2
            go_ret
            exact ⟨by first | rfl | (simp; done) | (rw [prx_ne]; first | done | rfl) | (simp [*]; done), by repeat (first | exact Drawn0.refl _ | apply Drawn0.step)⟩
          · rw [if_neg c11] at H
            exact absurd H (by simp)
        · rw [if_neg c10] at H
          exact absurd H (by simp)
def spec_GroupPath.l0 : Nat → ByteArray → ByteArray → Option (ByteArray)
  | 0, _, _ => none
  | k + 1, x0, x1 => if x0.toList = ([] : List UInt8) then (if 0 < (x1.size : Int) then (if (bt x1 0) = 47 then (if x0.size + x1.size ≤ 9223372036854775807 then (some (x0 ++ x1)) else (none)) else (if 1 + x1.size ≤ 9223372036854775807 then (if x0.size + ((⟨#[47]⟩ : ByteArray) ++ x1).size ≤ 9223372036854775807 then (some (x0 ++ ((⟨#[47]⟩ : ByteArray) ++ x1))) else (none)) else (none))) else (none)) else (if 0 ≤ (wrap64 ((x0.size : Int) - 1)) then (if (wrap64 ((x0.size : Int) - 1)) < (x0.size : Int) then (if (bt x0 (wrap64 ((x0.size : Int) - 1))) = 47 then (if (wrap64 ((x0.size : Int) - 1)) ≤ (x0.size : Int) then (spec_GroupPath.l0 k (x0.extract 0 ((wrap64 ((x0.size : Int) - 1)) : Int).toNat) x1) else (none)) else (if 0 < (x1.size : Int) then (if (bt x1 0) = 47 then (if x0.size + x1.size ≤ 9223372036854775807 then (some (x0 ++ x1)) else (none)) else (if 1 + x1.size ≤ 9223372036854775807 then (if x0.size + ((⟨#[47]⟩ : ByteArray) ++ x1).size ≤ 9223372036854775807 then (some (x0 ++ ((⟨#[47]⟩ : ByteArray) ++ x1))) else (none)) else (none))) else (none))) else (none)) else (none))
def spec_GroupPath.f (k : Nat) (a0 : ByteArray) (a1 : ByteArray) : Option (ByteArray) := if a1.toList = ([] : List UInt8) then (some a0) else (spec_GroupPath.l0 k a0 a1)
set_option maxHeartbeats 8000000 in
set_option maxRecDepth 100000 in
theorem spec_GroupPath.calls (k : Nat) (a0 : ByteArray) (a1 : ByteArray) (r : ByteArray) (w : World) (h : spec_GroupPath.f k a0 a1 = some r) :
    Calls Tryd.prog 22 #[.string a0, .string a1] w fun e w' => e = .returned (.string r) ∧ Drawn0 w w' := by
  have H : (if a1.toList = ([] : List UInt8) then (some a0) else (spec_GroupPath.l0 k a0 a1)) = some r := h
  clear h
  by_cases c3 : a1.toList = ([] : List UInt8)
  · rw [if_pos c3] at H
    have c3b0 : (a1.toList == ([] : List UInt8)) = true := beq_iff_eq.mpr c3
    have c3b1 : (a1.toList != ([] : List UInt8)) = false := bne_eq_false_iff_eq.mpr c3
    clear c3
    obtain rfl := Option.some.inj H
    go_enter Tryd.func22, Tryd.ntmps22
    go_wp2
    go_ret
    exact ⟨by first | rfl | (simp; done) | (rw [prx_ne]; first | done | rfl) | (simp [*]; done), by repeat (first | exact Drawn0.refl _ | apply Drawn0.step)⟩
  · rw [if_neg c3] at H
    have c3b0 : (a1.toList == ([] : List UInt8)) = false := beq_eq_false_iff_ne.mpr c3
    have c3b1 : (a1.toList != ([] : List UInt8)) = true := bne_iff_ne.mpr c3
    have H' := Aside0.mk H
    clear H
    go_enter Tryd.func22, Tryd.ntmps22
    go_wp2
    go_loopg [0] k (fun kq v0 w' => ∃ (x0_1 : ByteArray), v0 = .string x0_1 ∧ Aside0 (spec_GroupPath.l0 kq x0_1 a1 = some r) ∧ Aside0 (kq ≤ k) ∧ Drawn0 w w')
    case atStart => exact ⟨(a0), (by first | rfl | (simp; done) | (rw [prx_ne]; first | done | rfl) | (simp [*]; done)), H', ⟨Nat.le_refl _⟩, by repeat (first | exact Drawn0.refl _ | apply Drawn0.step)⟩
    case round =>
      clear H'
      try clear c2
      try clear p2
      try clear c3
      try clear c3b0
      try clear c3b1
      obtain ⟨x0_1, rfl, HA, HK1, ⟨m1, rfl⟩⟩ := hrel
      cases gk with
      | zero => exact absurd HA.out (by simp [spec_GroupPath.l0])
      | succ k1 =>
        have H := HA.out
        clear HA
        simp only [spec_GroupPath.l0] at H
        by_cases c4 : x0_1.toList = ([] : List UInt8)
        · rw [if_pos c4] at H
          have c4b0 : (x0_1.toList == ([] : List UInt8)) = true := beq_iff_eq.mpr c4
          have c4b1 : (x0_1.toList != ([] : List UInt8)) = false := bne_eq_false_iff_eq.mpr c4
          clear c4
          by_cases c5 : 0 < (a1.size : Int)
          · rw [if_pos c5] at H
            have c5b0 : decide (0 < (a1.size : Int)) = true := decide_eq_true c5
            have c5b1 : decide (0 < a1.size) = true := decide_eq_true (by omega)
            clear c5
            by_cases c7 : (bt a1 0) = 47
            · rw [if_pos c7] at H
              have c7b0 : ((bt a1 0) == 47) = true := beq_iff_eq.mpr c7
              have c7b1 : ((bt a1 0) != 47) = false := bne_eq_false_iff_eq.mpr c7
              clear c7
              by_cases c8 : x0_1.size + a1.size ≤ 9223372036854775807
              · rw [if_pos c8] at H
                have c8b0 := eq_true c8
                have c8b1 : decide (x0_1.size + a1.size ≤ 9223372036854775807) = true := decide_eq_true c8
                try have c8b2 : (9223372036854775807 < x0_1.size + a1.size) = False := eq_false (Nat.not_lt.2 c8)
                try (have c8b3 := c8; simp only [ByteArray.size_append, prx_sz, List.length_cons, List.length_nil] at c8b3)
                obtain rfl := Option.some.inj H
                have p6 : 0 ≤ (0 : Int) := (by omega)
                have q6 : 0 < a1.size := (by have : (0 : Int) < (a1.size : Int) := of_decide_eq_true (by first | (with_reducible assumption) | assumption); omega)
                have hx6 : ∀ h : 0 < a1.size, ((a1[0]'h).toNat : Int) = bt a1 0 := bt_at a1 0
                clear p6
                have qi6 : (0 < (a1.size : Int)) = True := eq_true (of_decide_eq_true (by first | (with_reducible assumption) | assumption))
                replace q6 := eq_true q6
                go_wp2
                go_ret
                exact ⟨by first | rfl | (simp; done) | (rw [prx_ne]; first | done | rfl) | (simp [*]; done), by repeat (first | exact Drawn0.refl _ | apply Drawn0.step)⟩
              · rw [if_neg c8] at H
                exact absurd H (by simp)
            · rw [if_neg c7] at H
              have c7b0 : ((bt a1 0) == 47) = false := beq_eq_false_iff_ne.mpr c7
              have c7b1 : ((bt a1 0) != 47) = true := bne_iff_ne.mpr c7
              by_cases c9 : 1 + a1.size ≤ 9223372036854775807
              · rw [if_pos c9] at H
                have c9b0 := eq_true c9
                have c9b1 : decide (1 + a1.size ≤ 9223372036854775807) = true := decide_eq_true c9
                try have c9b2 : (9223372036854775807 < 1 + a1.size) = False := eq_false (Nat.not_lt.2 c9)
                try (have c9b3 := c9; simp only [ByteArray.size_append, prx_sz, List.length_cons, List.length_nil] at c9b3)
                by_cases c10 : x0_1.size + ((⟨#[47]⟩ : ByteArray) ++ a1).size ≤ 9223372036854775807
                · rw [if_pos c10] at H
                  have c10b0 := eq_true c10
                  have c10b1 : decide (x0_1.size + ((⟨#[47]⟩ : ByteArray) ++ a1).size ≤ 9223372036854775807) = true := decide_eq_true c10
                  try have c10b2 : (9223372036854775807 < x0_1.size + ((⟨#[47]⟩ : ByteArray) ++ a1).size) = False := eq_false (Nat.not_lt.2 c10)
                  try (have c10b3 := c10; simp only [ByteArray.size_append, prx_sz, List.length_cons, List.length_nil] at c10b3)
                  obtain rfl := Option.some.inj H
                  have p6 : 0 ≤ (0 : Int) := (by omega)
                  have q6 : 0 < a1.size := (by have : (0 : Int) < (a1.size : Int) := of_decide_eq_true (by first | (with_reducible assumption) | assumption); omega)
                  have hx6 : ∀ h : 0 < a1.size, ((a1[0]'h).toNat : Int) = bt a1 0 := bt_at a1 0
                  clear p6
                  have qi6 : (0 < (a1.size : Int)) = True := eq_true (of_decide_eq_true (by first | (with_reducible assumption) | assumption))
                  replace q6 := eq_true q6
                  go_wp2
                  go_ret
                  exact ⟨by first | rfl | (simp; done) | (rw [prx_ne]; first | done | rfl) | (simp [*]; done), by repeat (first | exact Drawn0.refl _ | apply Drawn0.step)⟩
                · rw [if_neg c10] at H
                  exact absurd H (by simp)
              · rw [if_neg c9] at H
                exact absurd H (by simp)
          · rw [if_neg c5] at H
            exact absurd H (by simp)
        · rw [if_neg c4] at H
          have c4b0 : (x0_1.toList == ([] : List UInt8)) = false := beq_eq_false_iff_ne.mpr c4
          have c4b1 : (x0_1.toList != ([] : List UInt8)) = true := bne_iff_ne.mpr c4
          obtain ⟨ji11, hji11⟩ : ∃ j_ : Int, (wrap64 ((x0_1.size : Int) - 1)) = j_ := ⟨_, rfl⟩
          replace H : (if 0 ≤ (ji11) then (if (ji11) < (x0_1.size : Int) then (if (bt x0_1 (ji11)) = 47 then (if (ji11) ≤ (x0_1.size : Int) then (spec_GroupPath.l0 k1 (x0_1.extract 0 ((ji11) : Int).toNat) a1) else (none)) else (if 0 < (a1.size : Int) then (if (bt a1 0) = 47 then (if x0_1.size + a1.size ≤ 9223372036854775807 then (some (x0_1 ++ a1)) else (none)) else (if 1 + a1.size ≤ 9223372036854775807 then (if x0_1.size + ((⟨#[47]⟩ : ByteArray) ++ a1).size ≤ 9223372036854775807 then (some (x0_1 ++ ((⟨#[47]⟩ : ByteArray) ++ a1))) else (none)) else (none))) else (none))) else (none)) else (none)) = some r := by first | (rw [hji11] at H; exact H) | (simp only [hji11] at H ⊢; exact H)
          have hji11w : (IntKind.i64.wrap ((x0_1.size : Int) - 1)) = ji11 := (i64_w _).trans hji11
          by_cases c12 : 0 ≤ (ji11)
          · rw [if_pos c12] at H
            have c12b0 : decide (0 ≤ (ji11)) = true := decide_eq_true c12
            clear c12
            by_cases c13 : (ji11) < (x0_1.size : Int)
            · rw [if_pos c13] at H
              have c13b0 : decide ((ji11) < (x0_1.size : Int)) = true := decide_eq_true c13
              clear c13
              by_cases c15 : (bt x0_1 (ji11)) = 47
              · rw [if_pos c15] at H
                have c15b0 : ((bt x0_1 (ji11)) == 47) = true := beq_iff_eq.mpr c15
                have c15b1 : ((bt x0_1 (ji11)) != 47) = false := bne_eq_false_iff_eq.mpr c15
                clear c15
                have c16b0 := eq_true (of_decide_eq_true (by first | (with_reducible assumption) | assumption) : 0 ≤ (ji11))
                by_cases c17 : (ji11) ≤ (x0_1.size : Int)
                · rw [if_pos c17] at H
                  have c17b0 := eq_true c17
                  have c17b1 : decide ((ji11) ≤ (x0_1.size : Int)) = true := decide_eq_true c17
                  clear c17
                  have H' := Aside0.mk H
                  clear H
                  have p14 : 0 ≤ ((ji11) : Int) := of_decide_eq_true (by first | (with_reducible assumption) | assumption)
                  have q14 : (ji11) < (x0_1.size : Int) := of_decide_eq_true (by first | (with_reducible assumption) | assumption)
                  have hx14 := bt_at x0_1 (ji11)
                  replace p14 := eq_true p14
                  replace q14 := eq_true q14
                  go_wp2
                  go_roundg k1
                  case measure => have := HK1.out; omega
                  case rel => exact ⟨(x0_1.extract 0 ((ji11) : Int).toNat), (by first | rfl | (simp; done) | (simp only [← hji11] <;> (first | rfl | simp)) | (rw [prx_ne]; first | done | rfl) | (simp [*]; done)), H', ⟨by have := HK1.out; omega⟩, by repeat (first | exact Drawn0.refl _ | apply Drawn0.step)⟩
                · rw [if_neg c17] at H
                  exact absurd H (by simp)
              · rw [if_neg c15] at H
                have c15b0 : ((bt x0_1 (ji11)) == 47) = false := beq_eq_false_iff_ne.mpr c15
                have c15b1 : ((bt x0_1 (ji11)) != 47) = true := bne_iff_ne.mpr c15
                by_cases c18 : 0 < (a1.size : Int)
                · rw [if_pos c18] at H
                  have c18b0 : decide (0 < (a1.size : Int)) = true := decide_eq_true c18
                  have c18b1 : decide (0 < a1.size) = true := decide_eq_true (by omega)
                  clear c18
                  by_cases c20 : (bt a1 0) = 47
                  · rw [if_pos c20] at H
                    have c20b0 : ((bt a1 0) == 47) = true := beq_iff_eq.mpr c20
                    have c20b1 : ((bt a1 0) != 47) = false := bne_eq_false_iff_eq.mpr c20
                    clear c20
                    by_cases c21 : x0_1.size + a1.size ≤ 9223372036854775807
                    · rw [if_pos c21] at H
                      have c21b0 := eq_true c21
                      have c21b1 : decide (x0_1.size + a1.size ≤ 9223372036854775807) = true := decide_eq_true c21
                      try have c21b2 : (9223372036854775807 < x0_1.size + a1.size) = False := eq_false (Nat.not_lt.2 c21)
                      try (have c21b3 := c21; simp only [ByteArray.size_append, prx_sz, List.length_cons, List.length_nil] at c21b3)
                      obtain rfl := Option.some.inj H
                      have p14 : 0 ≤ ((ji11) : Int) := of_decide_eq_true (by first | (with_reducible assumption) | assumption)
                      have q14 : (ji11) < (x0_1.size : Int) := of_decide_eq_true (by first | (with_reducible assumption) | assumption)
                      have hx14 := bt_at x0_1 (ji11)
                      replace p14 := eq_true p14
                      replace q14 := eq_true q14
                      have p19 : 0 ≤ (0 : Int) := (by omega)
                      have q19 : 0 < a1.size := (by have : (0 : Int) < (a1.size : Int) := of_decide_eq_true (by first | (with_reducible assumption) | assumption); omega)
                      have hx19 : ∀ h : 0 < a1.size, ((a1[0]'h).toNat : Int) = bt a1 0 := bt_at a1 0
                      clear p19
                      have qi19 : (0 < (a1.size : Int)) = True := eq_true (of_decide_eq_true (by first | (with_reducible assumption) | assumption))
                      replace q19 := eq_true q19
                      go_wp2
                      go_ret
                      exact ⟨by first | rfl | (simp; done) | (simp only [← hji11] <;> (first | rfl | simp)) | (rw [prx_ne]; first | done | rfl) | (simp [*]; done), by repeat (first | exact Drawn0.refl _ | apply Drawn0.step)⟩
                    · rw [if_neg c21] at H
                      exact absurd H (by simp)
                  · rw [if_neg c20] at H
                    have c20b0 : ((bt a1 0) == 47) = false := beq_eq_false_iff_ne.mpr c20
                    have c20b1 : ((bt a1 0) != 47) = true := bne_iff_ne.mpr c20
                    by_cases c22 : 1 + a1.size ≤ 9223372036854775807
                    · rw [if_pos c22] at H
                      have c22b0 := eq_true c22
                      have c22b1 : decide (1 + a1.size ≤ 9223372036854775807) = true := decide_eq_true c22
                      try have c22b2 : (9223372036854775807 < 1 + a1.size) = False := eq_false (Nat.not_lt.2 c22)
                      try (have c22b3 := c22; simp only [ByteArray.size_append, prx_sz, List.length_cons, List.length_nil] at c22b3)
                      by_cases c23 : x0_1.size + ((⟨#[47]⟩ : ByteArray) ++ a1).size ≤ 9223372036854775807
                      · rw [if_pos c23] at H
                        have c23b0 := eq_true c23
                        have c23b1 : decide (x0_1.size + ((⟨#[47]⟩ : ByteArray) ++ a1).size ≤ 9223372036854775807) = true := decide_eq_true c23
                        try have c23b2 : (9223372036854775807 < x0_1.size + ((⟨#[47]⟩ : ByteArray) ++ a1).size) = False := eq_false (Nat.not_lt.2 c23)
                        try (have c23b3 := c23; simp only [ByteArray.size_append, prx_sz, List.length_cons, List.length_nil] at c23b3)
                        obtain rfl := Option.some.inj H
                        have p14 : 0 ≤ ((ji11) : Int) := of_decide_eq_true (by first | (with_reducible assumption) | assumption)
                        have q14 : (ji11) < (x0_1.size : Int) := of_decide_eq_true (by first | (with_reducible assumption) | assumption)
                        have hx14 := bt_at x0_1 (ji11)
                        replace p14 := eq_true p14
                        replace q14 := eq_true q14
                        have p19 : 0 ≤ (0 : Int) := (by omega)
                        have q19 : 0 < a1.size := (by have : (0 : Int) < (a1.size : Int) := of_decide_eq_true (by first | (with_reducible assumption) | assumption); omega)
                        have hx19 : ∀ h : 0 < a1.size, ((a1[0]'h).toNat : Int) = bt a1 0 := bt_at a1 0
                        clear p19
                        have qi19 : (0 < (a1.size : Int)) = True := eq_true (of_decide_eq_true (by first | (with_reducible assumption) | assumption))
                        replace q19 := eq_true q19
                        go_wp2
                        go_ret
                        exact ⟨by first | rfl | (simp; done) | (simp only [← hji11] <;> (first | rfl | simp)) | (rw [prx_ne]; first | done | rfl) | (simp [*]; done), by repeat (first | exact Drawn0.refl _ | apply Drawn0.step)⟩
                      · rw [if_neg c23] at H
                        exact absurd H (by simp)
                    · rw [if_neg c22] at H
                      exact absurd H (by simp)
                · rw [if_neg c18] at H
                  exact absurd H (by simp)
            · rw [if_neg c13] at H
              exact absurd H (by simp)
          · rw [if_neg c12] at H
            exact absurd H (by simp)
def spec_NoCache.l0 : Nat → ByteArray → Int → Bool → Int → Option (Int)
  | 0, _, _, _, _ => none
  | k + 1, x0, x3, x4, x5 => if (wrap64 (x5 + 8)) ≤ (x0.size : Int) then (if 0 ≤ x5 then (if x5 ≤ (wrap64 (x5 + 8)) then (if (x0.extract (x5 : Int).toNat ((wrap64 (x5 + 8)) : Int).toNat).toList = ([110, 111, 45, 99, 97, 99, 104, 101] : List UInt8) then (if x5 = 0 then (if (wrap64 (x5 + 8)) = (x0.size : Int) then (spec_NoCache.l0 k x0 (wrap64 (x3 + 1)) true (wrap64 (x5 + 1))) else (if 0 ≤ (wrap64 (x5 + 8)) then (if (wrap64 (x5 + 8)) < (x0.size : Int) then (spec_NoCache.l0 k x0 (wrap64 (x3 + 1)) ((bt x0 (wrap64 (x5 + 8))) == 44) (wrap64 (x5 + 1))) else (none)) else (none))) else (if 0 ≤ (wrap64 (x5 - 1)) then (if (wrap64 (x5 - 1)) < (x0.size : Int) then (if (bt x0 (wrap64 (x5 - 1))) = 32 then (if (wrap64 (x5 + 8)) = (x0.size : Int) then (spec_NoCache.l0 k x0 (wrap64 (x3 + 1)) true (wrap64 (x5 + 1))) else (if 0 ≤ (wrap64 (x5 + 8)) then (if (wrap64 (x5 + 8)) < (x0.size : Int) then (spec_NoCache.l0 k x0 (wrap64 (x3 + 1)) ((bt x0 (wrap64 (x5 + 8))) == 44) (wrap64 (x5 + 1))) else (none)) else (none))) else (if (bt x0 (wrap64 (x5 - 1))) = 44 then (if (wrap64 (x5 + 8)) = (x0.size : Int) then (spec_NoCache.l0 k x0 (wrap64 (x3 + 1)) true (wrap64 (x5 + 1))) else (if 0 ≤ (wrap64 (x5 + 8)) then (if (wrap64 (x5 + 8)) < (x0.size : Int) then (spec_NoCache.l0 k x0 (wrap64 (x3 + 1)) ((bt x0 (wrap64 (x5 + 8))) == 44) (wrap64 (x5 + 1))) else (none)) else (none))) else (spec_NoCache.l0 k x0 (wrap64 (x3 + 1)) false (wrap64 (x5 + 1))))) else (none)) else (none))) else (spec_NoCache.l0 k x0 x3 x4 (wrap64 (x5 + 1)))) else (none)) else (none)) else (if x3 = 0 then (some 0) else (if x3 = 1 then (if x4 = true then (some 1) else (some 2)) else (some 2)))
def spec_NoCache.f (k : Nat) (a0 : ByteArray) : Option (Int) := spec_NoCache.l0 k a0 0 false 0
set_option maxHeartbeats 8000000 in
set_option maxRecDepth 100000 in
theorem spec_NoCache.calls (k : Nat) (a0 : ByteArray) (r : Int) (w : World) (h : spec_NoCache.f k a0 = some r) :
  Calls Tryd.prog 25 #[.string a0] w fun e w' => e = .returned (.int .i64 r) ∧ Drawn0 w w' := by
 have H : (spec_NoCache.l0 k a0 0 false 0) = some r := h
 clear h
 have H' := Aside0.mk H
 clear H
 go_enter Tryd.func25, Tryd.ntmps25
 go_wp2
 go_loopg [3, 4, 5] k (fun kq v3 v4 v5 w' => ∃ (x3_1 : Int) (x4_1 : Bool) (x5_1 : Int), v3 = .int .i64 x3_1 ∧ v4 = .bool x4_1 ∧ v5 = .int .i64 x5_1 ∧ Aside0 (spec_NoCache.l0 kq a0 x3_1 x4_1 x5_1 = some r) ∧ Aside0 (kq ≤ k) ∧ Drawn0 w w')
 case atStart => exact ⟨(0), (false), (0), (by first | rfl | (simp; done) | (rw [prx_ne]; first | done | rfl) | (simp [*]; done)), (by first | rfl | (simp; done) | (rw [prx_ne]; first | done | rfl) | (simp [*]; done)), (by first | rfl | (simp; done) | (rw [prx_ne]; first | done | rfl) | (simp [*]; done)), H', ⟨Nat.le_refl _⟩, by repeat (first | exact Drawn0.refl _ | apply Drawn0.step)⟩
 case round =>
  clear H'
  obtain ⟨x3_1, x4_1, x5_1, rfl, rfl, rfl, HA, HK1, ⟨m1, rfl⟩⟩ := hrel
  cases gk with
  | zero => exact absurd HA.out (by simp [spec_NoCache.l0])
  | succ k1 =>
   have H := HA.out
   clear HA
   simp only [spec_NoCache.l0] at H
   by_cases c2 : (wrap64 (x5_1 + 8)) ≤ (a0.size : Int)
   ·rw [if_pos c2] at H
    have c2b0 : decide ((wrap64 (x5_1 + 8)) ≤ (a0.size : Int)) = true := decide_eq_true c2
    clear c2
    by_cases c3 : 0 ≤ x5_1
    ·rw [if_pos c3] at H
     have c3b0 := eq_true c3
     have c3b1 : decide (0 ≤ x5_1) = true := decide_eq_true c3
     clear c3
     by_cases c4 : x5_1 ≤ (wrap64 (x5_1 + 8))
     ·rw [if_pos c4] at H
      have c4b0 := eq_true c4
      have c4b1 : decide (x5_1 ≤ (wrap64 (x5_1 + 8))) = true := decide_eq_true c4
      have c5b0 := eq_true (of_decide_eq_true (by first | (with_reducible assumption) | assumption) : (wrap64 (x5_1 + 8)) ≤ (a0.size : Int))
      by_cases c6 : (a0.extract (x5_1 : Int).toNat ((wrap64 (x5_1 + 8)) : Int).toNat).toList = ([110, 111, 45, 99, 97, 99, 104, 101] : List UInt8)
      ·rw [if_pos c6] at H
       have c6b0 : ((a0.extract (x5_1 : Int).toNat ((wrap64 (x5_1 + 8)) : Int).toNat).toList == ([110, 111, 45, 99, 97, 99, 104, 101] : List UInt8)) = true := beq_iff_eq.mpr c6
       have c6b1 : ((a0.extract (x5_1 : Int).toNat ((wrap64 (x5_1 + 8)) : Int).toNat).toList != ([110, 111, 45, 99, 97, 99, 104, 101] : List UInt8)) = false := bne_eq_false_iff_eq.mpr c6
       clear c6
       by_cases c7 : x5_1 = 0
       ·rw [if_pos c7] at H
        have c7b0 : (x5_1 == 0) = true := beq_iff_eq.mpr c7
        have c7b1 : (x5_1 != 0) = false := bne_eq_false_iff_eq.mpr c7
        clear c7
        by_cases c8 : (wrap64 (x5_1 + 8)) = (a0.size : Int)
        ·rw [if_pos c8] at H
         have c8b0 : ((wrap64 (x5_1 + 8)) == (a0.size : Int)) = true := beq_iff_eq.mpr c8
         have c8b1 : ((wrap64 (x5_1 + 8)) != (a0.size : Int)) = false := bne_eq_false_iff_eq.mpr c8
         clear c8
         have H' := Aside0.mk H
         clear H
         go_wp2
         go_roundg k1
         case measure => have := HK1.out; omega
         case rel => exact ⟨(wrap64 (x3_1 + 1)), (true), (wrap64 (x5_1 + 1)), (by first | rfl | (simp; done) | (rw [prx_ne]; first | done | rfl) | (simp [*]; done)), (by first | rfl | (simp; done) | (rw [prx_ne]; first | done | rfl) | (simp [*]; done)), (by first | rfl | (simp; done) | (rw [prx_ne]; first | done | rfl) | (simp [*]; done)), H', ⟨by have := HK1.out; omega⟩, by repeat (first | exact Drawn0.refl _ | apply Drawn0.step)⟩
        ·rw [if_neg c8] at H
         have c8b0 : ((wrap64 (x5_1 + 8)) == (a0.size : Int)) = false := beq_eq_false_iff_ne.mpr c8
         have c8b1 : ((wrap64 (x5_1 + 8)) != (a0.size : Int)) = true := bne_iff_ne.mpr c8
         obtain ⟨ji9, hji9⟩ : ∃ j_ : Int, (wrap64 (x5_1 + 8)) = j_ := ⟨_, rfl⟩
         (try rw [hji9] at c5b0)
         replace H : (if 0 ≤ (ji9) then (if (ji9) < (a0.size : Int) then (spec_NoCache.l0 k1 a0 (wrap64 (x3_1 + 1)) ((bt a0 (ji9)) == 44) (wrap64 (x5_1 + 1))) else (none)) else (none)) = some r := by first | (rw [hji9] at H; exact H) | (simp only [hji9] at H ⊢; exact H)
         (try rw [hji9] at c2b0)
         (try rw [hji9] at c4b0)
         (try rw [hji9] at c4b1)
         (try rw [hji9] at c4)
         (try rw [hji9] at c6b0)
         (try rw [hji9] at c6b1)
         (try rw [hji9] at c8b0)
         (try rw [hji9] at c8b1)
         have hji9w : (IntKind.i64.wrap (x5_1 + 8)) = ji9 := (i64_w _).trans hji9
         by_cases c10 : 0 ≤ (ji9)
         ·rw [if_pos c10] at H
          have c10b0 : decide (0 ≤ (ji9)) = true := decide_eq_true c10
          clear c10
          by_cases c11 : (ji9) < (a0.size : Int)
          ·rw [if_pos c11] at H
           have c11b0 : decide ((ji9) < (a0.size : Int)) = true := decide_eq_true c11
           clear c11
           have H' := Aside0.mk H
           clear H
           have p12 : 0 ≤ ((ji9) : Int) := of_decide_eq_true (by first | (with_reducible assumption) | assumption)
           have q12 : (ji9) < (a0.size : Int) := of_decide_eq_true (by first | (with_reducible assumption) | assumption)
           have hx12 := bt_at a0 (ji9)
           replace p12 := eq_true p12
           replace q12 := eq_true q12
           go_wp2
           go_roundg k1
           case measure => have := HK1.out; omega
           case rel => exact ⟨(wrap64 (x3_1 + 1)), (((bt a0 (ji9)) == 44)), (wrap64 (x5_1 + 1)), (by first | rfl | (simp; done) | (rw [prx_ne]; first | done | rfl) | (simp [*]; done)), (by first | rfl | (simp; done) | (simp only [← hji9] <;> (first | rfl | simp)) | (rw [prx_ne]; first | done | rfl) | (simp [*]; done)), (by first | rfl | (simp; done) | (rw [prx_ne]; first | done | rfl) | (simp [*]; done)), H', ⟨by have := HK1.out; omega⟩, by repeat (first | exact Drawn0.refl _ | apply Drawn0.step)⟩
          ·rw [if_neg c11] at H
           exact absurd H (by simp)
         ·rw [if_neg c10] at H
          exact absurd H (by simp)
       ·rw [if_neg c7] at H
        have c7b0 : (x5_1 == 0) = false := beq_eq_false_iff_ne.mpr c7
        have c7b1 : (x5_1 != 0) = true := bne_iff_ne.mpr c7
        obtain ⟨ji13, hji13⟩ : ∃ j_ : Int, (wrap64 (x5_1 - 1)) = j_ := ⟨_, rfl⟩
        replace H : (if 0 ≤ (ji13) then (if (ji13) < (a0.size : Int) then (if (bt a0 (ji13)) = 32 then (if (wrap64 (x5_1 + 8)) = (a0.size : Int) then (spec_NoCache.l0 k1 a0 (wrap64 (x3_1 + 1)) true (wrap64 (x5_1 + 1))) else (if 0 ≤ (wrap64 (x5_1 + 8)) then (if (wrap64 (x5_1 + 8)) < (a0.size : Int) then (spec_NoCache.l0 k1 a0 (wrap64 (x3_1 + 1)) ((bt a0 (wrap64 (x5_1 + 8))) == 44) (wrap64 (x5_1 + 1))) else (none)) else (none))) else (if (bt a0 (ji13)) = 44 then (if (wrap64 (x5_1 + 8)) = (a0.size : Int) then (spec_NoCache.l0 k1 a0 (wrap64 (x3_1 + 1)) true (wrap64 (x5_1 + 1))) else (if 0 ≤ (wrap64 (x5_1 + 8)) then (if (wrap64 (x5_1 + 8)) < (a0.size : Int) then (spec_NoCache.l0 k1 a0 (wrap64 (x3_1 + 1)) ((bt a0 (wrap64 (x5_1 + 8))) == 44) (wrap64 (x5_1 + 1))) else (none)) else (none))) else (spec_NoCache.l0 k1 a0 (wrap64 (x3_1 + 1)) false (wrap64 (x5_1 + 1))))) else (none)) else (none)) = some r := by first | (rw [hji13] at H; exact H) | (simp only [hji13] at H ⊢; exact H)
        have hji13w : (IntKind.i64.wrap (x5_1 - 1)) = ji13 := (i64_w _).trans hji13
        by_cases c14 : 0 ≤ (ji13)
        ·rw [if_pos c14] at H
         have c14b0 : decide (0 ≤ (ji13)) = true := decide_eq_true c14
         clear c14
         by_cases c15 : (ji13) < (a0.size : Int)
         ·rw [if_pos c15] at H
          have c15b0 : decide ((ji13) < (a0.size : Int)) = true := decide_eq_true c15
          clear c15
          by_cases c17 : (bt a0 (ji13)) = 32
          ·rw [if_pos c17] at H
           have c17b0 : ((bt a0 (ji13)) == 32) = true := beq_iff_eq.mpr c17
           have c17b1 : ((bt a0 (ji13)) != 32) = false := bne_eq_false_iff_eq.mpr c17
           clear c17
           by_cases c18 : (wrap64 (x5_1 + 8)) = (a0.size : Int)
           ·rw [if_pos c18] at H
            have c18b0 : ((wrap64 (x5_1 + 8)) == (a0.size : Int)) = true := beq_iff_eq.mpr c18
            have c18b1 : ((wrap64 (x5_1 + 8)) != (a0.size : Int)) = false := bne_eq_false_iff_eq.mpr c18
            clear c18
            have H' := Aside0.mk H
            clear H
            have p16 : 0 ≤ ((ji13) : Int) := of_decide_eq_true (by first | (with_reducible assumption) | assumption)
            have q16 : (ji13) < (a0.size : Int) := of_decide_eq_true (by first | (with_reducible assumption) | assumption)
            have hx16 := bt_at a0 (ji13)
            replace p16 := eq_true p16
            replace q16 := eq_true q16
            go_wp2
            go_roundg k1
            case measure => have := HK1.out; omega
            case rel => exact ⟨(wrap64 (x3_1 + 1)), (true), (wrap64 (x5_1 + 1)), (by first | rfl | (simp; done) | (rw [prx_ne]; first | done | rfl) | (simp [*]; done)), (by first | rfl | (simp; done) | (rw [prx_ne]; first | done | rfl) | (simp [*]; done)), (by first | rfl | (simp; done) | (rw [prx_ne]; first | done | rfl) | (simp [*]; done)), H', ⟨by have := HK1.out; omega⟩, by repeat (first | exact Drawn0.refl _ | apply Drawn0.step)⟩
           ·rw [if_neg c18] at H
            have c18b0 : ((wrap64 (x5_1 + 8)) == (a0.size : Int)) = false := beq_eq_false_iff_ne.mpr c18
            have c18b1 : ((wrap64 (x5_1 + 8)) != (a0.size : Int)) = true := bne_iff_ne.mpr c18
            obtain ⟨ji19, hji19⟩ : ∃ j_ : Int, (wrap64 (x5_1 + 8)) = j_ := ⟨_, rfl⟩
            (try rw [hji19] at c5b0)
            replace H : (if 0 ≤ (ji19) then (if (ji19) < (a0.size : Int) then (spec_NoCache.l0 k1 a0 (wrap64 (x3_1 + 1)) ((bt a0 (ji19)) == 44) (wrap64 (x5_1 + 1))) else (none)) else (none)) = some r := by first | (rw [hji19] at H; exact H) | (simp only [hji19] at H ⊢; exact H)
            (try rw [hji19] at c2b0)
            (try rw [hji19] at c4b0)
            (try rw [hji19] at c4b1)
            (try rw [hji19] at c4)
            (try rw [hji19] at c6b0)
            (try rw [hji19] at c6b1)
            (try rw [hji19] at c18b0)
            (try rw [hji19] at c18b1)
            have hji19w : (IntKind.i64.wrap (x5_1 + 8)) = ji19 := (i64_w _).trans hji19
            by_cases c20 : 0 ≤ (ji19)
            ·rw [if_pos c20] at H
             have c20b0 : decide (0 ≤ (ji19)) = true := decide_eq_true c20
             clear c20
             by_cases c21 : (ji19) < (a0.size : Int)
             ·rw [if_pos c21] at H
              have c21b0 : decide ((ji19) < (a0.size : Int)) = true := decide_eq_true c21
              clear c21
              have H' := Aside0.mk H
              clear H
              have p16 : 0 ≤ ((ji13) : Int) := of_decide_eq_true (by first | (with_reducible assumption) | assumption)
              have q16 : (ji13) < (a0.size : Int) := of_decide_eq_true (by first | (with_reducible assumption) | assumption)
              have hx16 := bt_at a0 (ji13)
              replace p16 := eq_true p16
              replace q16 := eq_true q16
              have p22 : 0 ≤ ((ji19) : Int) := of_decide_eq_true (by first | (with_reducible assumption) | assumption)
              have q22 : (ji19) < (a0.size : Int) := of_decide_eq_true (by first | (with_reducible assumption) | assumption)
              have hx22 := bt_at a0 (ji19)
              replace p22 := eq_true p22
              replace q22 := eq_true q22
              go_wp2
              go_roundg k1
              case measure => have := HK1.out; omega
              case rel => exact ⟨(wrap64 (x3_1 + 1)), (((bt a0 (ji19)) == 44)), (wrap64 (x5_1 + 1)), (by first | rfl | (simp; done) | (rw [prx_ne]; first | done | rfl) | (simp [*]; done)), (by first | rfl | (simp; done) | (simp only [← hji19] <;> (first | rfl | simp)) | (rw [prx_ne]; first | done | rfl) | (simp [*]; done)), (by first | rfl | (simp; done) | (rw [prx_ne]; first | done | rfl) | (simp [*]; done)), H', ⟨by have := HK1.out; omega⟩, by repeat (first | exact Drawn0.refl _ | apply Drawn0.step)⟩
             ·rw [if_neg c21] at H
              exact absurd H (by simp)
            ·rw [if_neg c20] at H
             exact absurd H (by simp)
          ·rw [if_neg c17] at H
           have c17b0 : ((bt a0 (ji13)) == 32) = false := beq_eq_false_iff_ne.mpr c17
           have c17b1 : ((bt a0 (ji13)) != 32) = true := bne_iff_ne.mpr c17
           by_cases c24 : (bt a0 (ji13)) = 44
           ·rw [if_pos c24] at H
            have c24b0 : ((bt a0 (ji13)) == 44) = true := beq_iff_eq.mpr c24
            have c24b1 : ((bt a0 (ji13)) != 44) = false := bne_eq_false_iff_eq.mpr c24
            clear c24
            by_cases c25 : (wrap64 (x5_1 + 8)) = (a0.size : Int)
            ·rw [if_pos c25] at H
             have c25b0 : ((wrap64 (x5_1 + 8)) == (a0.size : Int)) = true := beq_iff_eq.mpr c25
             have c25b1 : ((wrap64 (x5_1 + 8)) != (a0.size : Int)) = false := bne_eq_false_iff_eq.mpr c25
             clear c25
             have H' := Aside0.mk H
             clear H
             have p16 : 0 ≤ ((ji13) : Int) := of_decide_eq_true (by first | (with_reducible assumption) | assumption)
             have q16 : (ji13) < (a0.size : Int) := of_decide_eq_true (by first | (with_reducible assumption) | assumption)
             have hx16 := bt_at a0 (ji13)
             replace p16 := eq_true p16
             replace q16 := eq_true q16
             have p23 : 0 ≤ ((ji13) : Int) := of_decide_eq_true (by first | (with_reducible assumption) | assumption)
             have q23 : (ji13) < (a0.size : Int) := of_decide_eq_true (by first | (with_reducible assumption) | assumption)
             have hx23 := bt_at a0 (ji13)
             replace p23 := eq_true p23
             replace q23 := eq_true q23
             go_wp2
             go_roundg k1
             case measure => have := HK1.out; omega
             case rel => exact ⟨(wrap64 (x3_1 + 1)), (true), (wrap64 (x5_1 + 1)), (by first | rfl | (simp; done) | (rw [prx_ne]; first | done | rfl) | (simp [*]; done)), (by first | rfl | (simp; done) | (rw [prx_ne]; first | done | rfl) | (simp [*]; done)), (by first | rfl | (simp; done) | (rw [prx_ne]; first | done | rfl) | (simp [*]; done)), H', ⟨by have := HK1.out; omega⟩, by repeat (first | exact Drawn0.refl _ | apply Drawn0.step)⟩
            ·rw [if_neg c25] at H
             have c25b0 : ((wrap64 (x5_1 + 8)) == (a0.size : Int)) = false := beq_eq_false_iff_ne.mpr c25
             have c25b1 : ((wrap64 (x5_1 + 8)) != (a0.size : Int)) = true := bne_iff_ne.mpr c25
             obtain ⟨ji26, hji26⟩ : ∃ j_ : Int, (wrap64 (x5_1 + 8)) = j_ := ⟨_, rfl⟩
             (try rw [hji26] at c5b0)
             replace H : (if 0 ≤ (ji26) then (if (ji26) < (a0.size : Int) then (spec_NoCache.l0 k1 a0 (wrap64 (x3_1 + 1)) ((bt a0 (ji26)) == 44) (wrap64 (x5_1 + 1))) else (none)) else (none)) = some r := by first | (rw [hji26] at H; exact H) | (simp only [hji26] at H ⊢; exact H)
             (try rw [hji26] at c2b0)
             (try rw [hji26] at c4b0)
             (try rw [hji26] at c4b1)
             (try rw [hji26] at c4)
             (try rw [hji26] at c6b0)
             (try rw [hji26] at c6b1)
             (try rw [hji26] at c25b0)
             (try rw [hji26] at c25b1)
             have hji26w : (IntKind.i64.wrap (x5_1 + 8)) = ji26 := (i64_w _).trans hji26
             by_cases c27 : 0 ≤ (ji26)
             ·rw [if_pos c27] at H
              have c27b0 : decide (0 ≤ (ji26)) = true := decide_eq_true c27
              clear c27
              by_cases c28 : (ji26) < (a0.size : Int)
              ·rw [if_pos c28] at H
               have c28b0 : decide ((ji26) < (a0.size : Int)) = true := decide_eq_true c28
               clear c28
               have H' := Aside0.mk H
               clear H
               have p16 : 0 ≤ ((ji13) : Int) := of_decide_eq_true (by first | (with_reducible assumption) | assumption)
               have q16 : (ji13) < (a0.size : Int) := of_decide_eq_true (by first | (with_reducible assumption) | assumption)
               have hx16 := bt_at a0 (ji13)
               replace p16 := eq_true p16
               replace q16 := eq_true q16
               have p23 : 0 ≤ ((ji13) : Int) := of_decide_eq_true (by first | (with_reducible assumption) | assumption)
               have q23 : (ji13) < (a0.size : Int) := of_decide_eq_true (by first | (with_reducible assumption) | assumption)
               have hx23 := bt_at a0 (ji13)
               replace p23 := eq_true p23
               replace q23 := eq_true q23
               have p29 : 0 ≤ ((ji26) : Int) := of_decide_eq_true (by first | (with_reducible assumption) | assumption)
               have q29 : (ji26) < (a0.size : Int) := of_decide_eq_true (by first | (with_reducible assumption) | assumption)
               have hx29 := bt_at a0 (ji26)
               replace p29 := eq_true p29
               replace q29 := eq_true q29
               go_wp2
               go_roundg k1
               case measure => have := HK1.out; omega
               case rel => exact ⟨(wrap64 (x3_1 + 1)), (((bt a0 (ji26)) == 44)), (wrap64 (x5_1 + 1)), (by first | rfl | (simp; done) | (rw [prx_ne]; first | done | rfl) | (simp [*]; done)), (by first | rfl | (simp; done) | (simp only [← hji26] <;> (first | rfl | simp)) | (rw [prx_ne]; first | done | rfl) | (simp [*]; done)), (by first | rfl | (simp; done) | (rw [prx_ne]; first | done | rfl) | (simp [*]; done)), H', ⟨by have := HK1.out; omega⟩, by repeat (first | exact Drawn0.refl _ | apply Drawn0.step)⟩
              ·rw [if_neg c28] at H
               exact absurd H (by simp)
             ·rw [if_neg c27] at H
              exact absurd H (by simp)
           ·rw [if_neg c24] at H
            have c24b0 : ((bt a0 (ji13)) == 44) = false := beq_eq_false_iff_ne.mpr c24
            have c24b1 : ((bt a0 (ji13)) != 44) = true := bne_iff_ne.mpr c24
            have H' := Aside0.mk H
            clear H
            have p16 : 0 ≤ ((ji13) : Int) := of_decide_eq_true (by first | (with_reducible assumption) | assumption)
            have q16 : (ji13) < (a0.size : Int) := of_decide_eq_true (by first | (with_reducible assumption) | assumption)
            have hx16 := bt_at a0 (ji13)
            replace p16 := eq_true p16
            replace q16 := eq_true q16
            have p23 : 0 ≤ ((ji13) : Int) := of_decide_eq_true (by first | (with_reducible assumption) | assumption)
            have q23 : (ji13) < (a0.size : Int) := of_decide_eq_true (by first | (with_reducible assumption) | assumption)
            have hx23 := bt_at a0 (ji13)
            replace p23 := eq_true p23
            replace q23 := eq_true q23
            go_wp2
            go_roundg k1
            case measure => have := HK1.out; omega
            case rel => exact ⟨(wrap64 (x3_1 + 1)), (false), (wrap64 (x5_1 + 1)), (by first | rfl | (simp; done) | (rw [prx_ne]; first | done | rfl) | (simp [*]; done)), (by first | rfl | (simp; done) | (rw [prx_ne]; first | done | rfl) | (simp [*]; done)), (by first | rfl | (simp; done) | (rw [prx_ne]; first | done | rfl) | (simp [*]; done)), H', ⟨by have := HK1.out; omega⟩, by repeat (first | exact Drawn0.refl _ | apply Drawn0.step)⟩
         ·rw [if_neg c15] at H
          exact absurd H (by simp)
        ·rw [if_neg c14] at H
         exact absurd H (by simp)
      ·rw [if_neg c6] at H
       have c6b0 : ((a0.extract (x5_1 : Int).toNat ((wrap64 (x5_1 + 8)) : Int).toNat).toList == ([110, 111, 45, 99, 97, 99, 104, 101] : List UInt8)) = false := beq_eq_false_iff_ne.mpr c6
       have c6b1 : ((a0.extract (x5_1 : Int).toNat ((wrap64 (x5_1 + 8)) : Int).toNat).toList != ([110, 111, 45, 99, 97, 99, 104, 101] : List UInt8)) = true := bne_iff_ne.mpr c6
       have H' := Aside0.mk H
       clear H
       go_wp2
       go_roundg k1
       case measure => have := HK1.out; omega
       case rel => exact ⟨(x3_1), (x4_1), (wrap64 (x5_1 + 1)), (by first | rfl | (simp; done) | (rw [prx_ne]; first | done | rfl) | (simp [*]; done)), (by first | rfl | (simp; done) | (rw [prx_ne]; first | done | rfl) | (simp [*]; done)), (by first | rfl | (simp; done) | (rw [prx_ne]; first | done | rfl) | (simp [*]; done)), H', ⟨by have := HK1.out; omega⟩, by repeat (first | exact Drawn0.refl _ | apply Drawn0.step)⟩
     ·rw [if_neg c4] at H
      exact absurd H (by simp)
    ·rw [if_neg c3] at H
     exact absurd H (by simp)
   ·rw [if_neg c2] at H
    have c2b0 : decide ((wrap64 (x5_1 + 8)) ≤ (a0.size : Int)) = false := decide_eq_false c2
    clear c2
    by_cases c30 : x3_1 = 0
    ·rw [if_pos c30] at H
     have c30b0 : (x3_1 == 0) = true := beq_iff_eq.mpr c30
     have c30b1 : (x3_1 != 0) = false := bne_eq_false_iff_eq.mpr c30
     clear c30
     obtain rfl := Option.some.inj H
     go_wp2
     go_ret
     exact ⟨by first | rfl | (simp; done) | (rw [prx_ne]; first | done | rfl) | (simp [*]; done), by repeat (first | exact Drawn0.refl _ | apply Drawn0.step)⟩
    ·rw [if_neg c30] at H
     have c30b0 : (x3_1 == 0) = false := beq_eq_false_iff_ne.mpr c30
     have c30b1 : (x3_1 != 0) = true := bne_iff_ne.mpr c30
     by_cases c31 : x3_1 = 1
     ·rw [if_pos c31] at H
      have c31b0 : (x3_1 == 1) = true := beq_iff_eq.mpr c31
      have c31b1 : (x3_1 != 1) = false := bne_eq_false_iff_eq.mpr c31
      clear c31
      by_cases c32 : x4_1 = true
      ·subst c32
       have H1 : (some 1) = some r := by rw [if_pos rfl] at H; exact H
       clear H
       have H := H1
       clear H1
       obtain rfl := Option.some.inj H
       go_wp2
       go_ret
       exact ⟨by first | rfl | (simp; done) | (rw [prx_ne]; first | done | rfl) | (simp [*]; done), by repeat (first | exact Drawn0.refl _ | apply Drawn0.step)⟩
      ·replace c32 := Bool.eq_false_iff.mpr c32
       subst c32
       have H1 : (some 2) = some r := by rw [if_neg (show ¬ (false = true) by decide)] at H; exact H
       clear H
       have H := H1
       clear H1
       obtain rfl := Option.some.inj H
       go_wp2
       go_ret
       exact ⟨by first | rfl | (simp; done) | (rw [prx_ne]; first | done | rfl) | (simp [*]; done), by repeat (first | exact Drawn0.refl _ | apply Drawn0.step)⟩
     ·rw [if_neg c31] at H
      have c31b0 : (x3_1 == 1) = false := beq_eq_false_iff_ne.mpr c31
      have c31b1 : (x3_1 != 1) = true := bne_iff_ne.mpr c31
      obtain rfl := Option.some.inj H
      go_wp2
      go_ret
      exact ⟨by first | rfl | (simp; done) | (rw [prx_ne]; first | done | rfl) | (simp [*]; done), by repeat (first | exact Drawn0.refl _ | apply Drawn0.step)⟩
def fiberhelpers_IsMethodSafe.f (a0 : ByteArray) : Option (Bool) := if a0.toList = ([71, 69, 84] : List UInt8) then (some true) else (if a0.toList = ([72, 69, 65, 68] : List UInt8) then (some true) else (if a0.toList = ([79, 80, 84, 73, 79, 78, 83] : List UInt8) then (some true) else (if a0.toList = ([84, 82, 65, 67, 69] : List UInt8) then (some true) else (some false))))
set_option maxHeartbeats 8000000 in
set_option maxRecDepth 100000 in
theorem fiberhelpers_IsMethodSafe.calls (a0 : ByteArray) (r : Bool) (w : World) (h : fiberhelpers_IsMethodSafe.f a0 = some r) :
    Calls Tryd.prog 62 #[.string a0] w fun e w' => e = .returned (.bool r) ∧ Drawn0 w w' := by
  have H : (if a0.toList = ([71, 69, 84] : List UInt8) then (some true) else (if a0.toList = ([72, 69, 65, 68] : List UInt8) then (some true) else (if a0.toList = ([79, 80, 84, 73, 79, 78, 83] : List UInt8) then (some true) else (if a0.toList = ([84, 82, 65, 67, 69] : List UInt8) then (some true) else (some false))))) = some r := h
  clear h
  by_cases c2 : a0.toList = ([71, 69, 84] : List UInt8)
  · rw [if_pos c2] at H
    have c2b0 : (a0.toList == ([71, 69, 84] : List UInt8)) = true := beq_iff_eq.mpr c2
    have c2b1 : (a0.toList != ([71, 69, 84] : List UInt8)) = false := bne_eq_false_iff_eq.mpr c2
    clear c2
    obtain rfl := Option.some.inj H
    go_enter Tryd.func62, Tryd.ntmps62
    go_wp2
    go_ret
    exact ⟨by first | rfl | (simp; done) | (rw [prx_ne]; first | done | rfl) | (simp [*]; done), by repeat (first | exact Drawn0.refl _ | apply Drawn0.step)⟩
  · rw [if_neg c2] at H
    have c2b0 : (a0.toList == ([71, 69, 84] : List UInt8)) = false := beq_eq_false_iff_ne.mpr c2
    have c2b1 : (a0.toList != ([71, 69, 84] : List UInt8)) = true := bne_iff_ne.mpr c2
    by_cases c3 : a0.toList = ([72, 69, 65, 68] : List UInt8)
    · rw [if_pos c3] at H
      have c3b0 : (a0.toList == ([72, 69, 65, 68] : List UInt8)) = true := beq_iff_eq.mpr c3
      have c3b1 : (a0.toList != ([72, 69, 65, 68] : List UInt8)) = false := bne_eq_false_iff_eq.mpr c3
      clear c3
      obtain rfl := Option.some.inj H
      go_enter Tryd.func62, Tryd.ntmps62
      go_wp2
      go_ret
      exact ⟨by first | rfl | (simp; done) | (rw [prx_ne]; first | done | rfl) | (simp [*]; done), by repeat (first | exact Drawn0.refl _ | apply Drawn0.step)⟩
    · rw [if_neg c3] at H
      have c3b0 : (a0.toList == ([72, 69, 65, 68] : List UInt8)) = false := beq_eq_false_iff_ne.mpr c3
      have c3b1 : (a0.toList != ([72, 69, 65, 68] : List UInt8)) = true := bne_iff_ne.mpr c3
      by_cases c4 : a0.toList = ([79, 80, 84, 73, 79, 78, 83] : List UInt8)
      · rw [if_pos c4] at H
        have c4b0 : (a0.toList == ([79, 80, 84, 73, 79, 78, 83] : List UInt8)) = true := beq_iff_eq.mpr c4
        have c4b1 : (a0.toList != ([79, 80, 84, 73, 79, 78, 83] : List UInt8)) = false := bne_eq_false_iff_eq.mpr c4
        clear c4
        obtain rfl := Option.some.inj H
        go_enter Tryd.func62, Tryd.ntmps62
        go_wp2
        go_ret
        exact ⟨by first | rfl | (simp; done) | (rw [prx_ne]; first | done | rfl) | (simp [*]; done), by repeat (first | exact Drawn0.refl _ | apply Drawn0.step)⟩
      · rw [if_neg c4] at H
        have c4b0 : (a0.toList == ([79, 80, 84, 73, 79, 78, 83] : List UInt8)) = false := beq_eq_false_iff_ne.mpr c4
        have c4b1 : (a0.toList != ([79, 80, 84, 73, 79, 78, 83] : List UInt8)) = true := bne_iff_ne.mpr c4
        by_cases c5 : a0.toList = ([84, 82, 65, 67, 69] : List UInt8)
        · rw [if_pos c5] at H
          have c5b0 : (a0.toList == ([84, 82, 65, 67, 69] : List UInt8)) = true := beq_iff_eq.mpr c5
          have c5b1 : (a0.toList != ([84, 82, 65, 67, 69] : List UInt8)) = false := bne_eq_false_iff_eq.mpr c5
          clear c5
          obtain rfl := Option.some.inj H
          go_enter Tryd.func62, Tryd.ntmps62
          go_wp2
          go_ret
          exact ⟨by first | rfl | (simp; done) | (rw [prx_ne]; first | done | rfl) | (simp [*]; done), by repeat (first | exact Drawn0.refl _ | apply Drawn0.step)⟩
        · rw [if_neg c5] at H
          have c5b0 : (a0.toList == ([84, 82, 65, 67, 69] : List UInt8)) = false := beq_eq_false_iff_ne.mpr c5
          have c5b1 : (a0.toList != ([84, 82, 65, 67, 69] : List UInt8)) = true := bne_iff_ne.mpr c5
          obtain rfl := Option.some.inj H
          go_enter Tryd.func62, Tryd.ntmps62
          go_wp2
          go_ret
          exact ⟨by first | rfl | (simp; done) | (rw [prx_ne]; first | done | rfl) | (simp [*]; done), by repeat (first | exact Drawn0.refl _ | apply Drawn0.step)⟩
def impl_Safe.f (a0 : ByteArray) : Option (Bool) := (fiberhelpers_IsMethodSafe.f a0).bind fun t138 => (some t138)
set_option maxHeartbeats 8000000 in
set_option maxRecDepth 100000 in
theorem impl_Safe.calls (a0 : ByteArray) (r : Bool) (w : World) (h : impl_Safe.f a0 = some r) :
    Calls Tryd.prog 29 #[.string a0] w fun e w' => e = .returned (.bool r) ∧ Drawn0 w w' := by
  have H : ((fiberhelpers_IsMethodSafe.f a0).bind fun t138 => (some t138)) = some r := h
  clear h
  replace H := Option.bind_eq_some_iff.mp H
  obtain ⟨t138, A20, H⟩ := H
  replace H : (some t138) = some r := H
  have A2 := Aside0.mk A20
  clear A20
  obtain rfl := Option.some.inj H
  go_enter Tryd.func29, Tryd.ntmps29
  go_wp2_with (first | ((with_reducible refine gate_callee (f := 62) rfl ?_); refine goesL_ (some 4) rfl rfl Tryd.func62 (by kernel_rfl) rfl #[.string a0] rfl (by (try simp only [List.map_toArray, List.map_cons, List.map_nil]); first | done | rfl | (simp only [List.length_drop, List.length_take]; rfl)) ?_; (with_reducible refine (fiberhelpers_IsMethodSafe.calls a0 t138 _ A2.out).mono ?_); rintro e w' ⟨rfl, ⟨nd, rfl⟩⟩; refine ⟨_, rfl, ?_⟩))
  go_ret
  exact ⟨by first | rfl | (simp; done) | (rw [prx_ne]; first | done | rfl) | (simp [*]; done), by repeat (first | exact Drawn0.refl _ | apply Drawn0.step)⟩
def spec_Safe.f (a0 : ByteArray) : Option (Bool) := if a0.toList = ([71, 69, 84] : List UInt8) then (some true) else (if a0.toList = ([72, 69, 65, 68] : List UInt8) then (some true) else (if a0.toList = ([79, 80, 84, 73, 79, 78, 83] : List UInt8) then (some true) else (some (a0.toList == ([84, 82, 65, 67, 69] : List UInt8)))))
set_option maxHeartbeats 8000000 in
set_option maxRecDepth 100000 in
theorem spec_Safe.calls (a0 : ByteArray) (r : Bool) (w : World) (h : spec_Safe.f a0 = some r) :
    Calls Tryd.prog 30 #[.string a0] w fun e w' => e = .returned (.bool r) ∧ Drawn0 w w' := by
  have H : (if a0.toList = ([71, 69, 84] : List UInt8) then (some true) else (if a0.toList = ([72, 69, 65, 68] : List UInt8) then (some true) else (if a0.toList = ([79, 80, 84, 73, 79, 78, 83] : List UInt8) then (some true) else (some (a0.toList == ([84, 82, 65, 67, 69] : List UInt8)))))) = some r := h
  clear h
  by_cases c2 : a0.toList = ([71, 69, 84] : List UInt8)
  · rw [if_pos c2] at H
    have c2b0 : (a0.toList == ([71, 69, 84] : List UInt8)) = true := beq_iff_eq.mpr c2
    have c2b1 : (a0.toList != ([71, 69, 84] : List UInt8)) = false := bne_eq_false_iff_eq.mpr c2
    clear c2
    obtain rfl := Option.some.inj H
    go_enter Tryd.func30, Tryd.ntmps30
    go_wp2
    go_ret
    exact ⟨by first | rfl | (simp; done) | (rw [prx_ne]; first | done | rfl) | (simp [*]; done), by repeat (first | exact Drawn0.refl _ | apply Drawn0.step)⟩
  · rw [if_neg c2] at H
    have c2b0 : (a0.toList == ([71, 69, 84] : List UInt8)) = false := beq_eq_false_iff_ne.mpr c2
    have c2b1 : (a0.toList != ([71, 69, 84] : List UInt8)) = true := bne_iff_ne.mpr c2
    by_cases c3 : a0.toList = ([72, 69, 65, 68] : List UInt8)
    · rw [if_pos c3] at H
      have c3b0 : (a0.toList == ([72, 69, 65, 68] : List UInt8)) = true := beq_iff_eq.mpr c3
      have c3b1 : (a0.toList != ([72, 69, 65, 68] : List UInt8)) = false := bne_eq_false_iff_eq.mpr c3
      clear c3
      obtain rfl := Option.some.inj H
      go_enter Tryd.func30, Tryd.ntmps30
      go_wp2
      go_ret
      exact ⟨by first | rfl | (simp; done) | (rw [prx_ne]; first | done | rfl) | (simp [*]; done), by repeat (first | exact Drawn0.refl _ | apply Drawn0.step)⟩
    · rw [if_neg c3] at H
      have c3b0 : (a0.toList == ([72, 69, 65, 68] : List UInt8)) = false := beq_eq_false_iff_ne.mpr c3
      have c3b1 : (a0.toList != ([72, 69, 65, 68] : List UInt8)) = true := bne_iff_ne.mpr c3
      by_cases c4 : a0.toList = ([79, 80, 84, 73, 79, 78, 83] : List UInt8)
      · rw [if_pos c4] at H
        have c4b0 : (a0.toList == ([79, 80, 84, 73, 79, 78, 83] : List UInt8)) = true := beq_iff_eq.mpr c4
        have c4b1 : (a0.toList != ([79, 80, 84, 73, 79, 78, 83] : List UInt8)) = false := bne_eq_false_iff_eq.mpr c4
        clear c4
        obtain rfl := Option.some.inj H
        go_enter Tryd.func30, Tryd.ntmps30
        go_wp2
        go_ret
        exact ⟨by first | rfl | (simp; done) | (rw [prx_ne]; first | done | rfl) | (simp [*]; done), by repeat (first | exact Drawn0.refl _ | apply Drawn0.step)⟩
      · rw [if_neg c4] at H
        have c4b0 : (a0.toList == ([79, 80, 84, 73, 79, 78, 83] : List UInt8)) = false := beq_eq_false_iff_ne.mpr c4
        have c4b1 : (a0.toList != ([79, 80, 84, 73, 79, 78, 83] : List UInt8)) = true := bne_iff_ne.mpr c4
        obtain rfl := Option.some.inj H
        go_enter Tryd.func30, Tryd.ntmps30
        go_wp2
        go_ret
        exact ⟨by first | rfl | (simp; done) | (rw [prx_ne]; first | done | rfl) | (simp [*]; done), by repeat (first | exact Drawn0.refl _ | apply Drawn0.step)⟩
def spec_place.l0 : Nat → ByteArray → Int → Int → Int → Option (Int)
  | 0, _, _, _, _ => none
  | k + 1, x0, x1, x7, x8 => if x8 < x7 then (if 0 ≤ x8 then (if x8 < (x0.size : Int) then (if (bt x0 x8) = x1 then (some x8) else (spec_place.l0 k x0 x1 x7 (wrap64 (x8 + 1)))) else (none)) else (none)) else (some (-1))
def spec_place.f (k : Nat) (a0 : ByteArray) (a1 : Int) : Option (Int) := spec_place.l0 k a0 a1 (a0.size : Int) 0
theorem spec_place.mono_l : ∀ k, (∀ y0 y1 y2 y3, LeO (spec_place.l0 k y0 y1 y2 y3) (spec_place.l0 (k + 1) y0 y1 y2 y3))
  | 0 => fun _ _ _ _ r h => by simp [spec_place.l0] at h
  | k + 1 => by
    have ih0 := spec_place.mono_l k
    · intro y0 y1 y2 y3
      unfold spec_place.l0
      repeat' first
      | (with_reducible exact ih0 _ _ _ _)
      | (with_reducible exact LeO.refl _)
      | (with_reducible exact LeO.none _)
      | (with_reducible refine LeO.ite ?_ ?_)
      | (with_reducible refine LeO.bind ?_ (fun _ => ?_))
      | exact ih0 _ _ _ _
      | exact LeO.none _
      | refine LeO.ite ?_ ?_
      | refine LeO.bind ?_ (fun _ => ?_)
theorem spec_place.mono : ∀ a0 a1 k, LeO (spec_place.f k a0 a1) (spec_place.f (k + 1) a0 a1) := by
  intro a0 a1 k
  have ih0 := spec_place.mono_l k
  unfold spec_place.f
  repeat' first
      | (with_reducible exact ih0 _ _ _ _)
      | (with_reducible exact LeO.refl _)
      | (with_reducible exact LeO.none _)
      | (with_reducible refine LeO.ite ?_ ?_)
      | (with_reducible refine LeO.bind ?_ (fun _ => ?_))
      | exact ih0 _ _ _ _
      | exact LeO.none _
      | refine LeO.ite ?_ ?_
      | refine LeO.bind ?_ (fun _ => ?_)
set_option maxHeartbeats 8000000 in
set_option maxRecDepth 100000 in
theorem spec_place.calls (k : Nat) (a0 : ByteArray) (a1 : Int) (r : Int) (w : World) (h : spec_place.f k a0 a1 = some r) :
    Calls Tryd.prog 66 #[.string a0, .int .u8 a1] w fun e w' => e = .returned (.int .i64 r) ∧ Drawn0 w w' := by
  have H : (spec_place.l0 k a0 a1 (a0.size : Int) 0) = some r := h
  clear h
  have H' := Aside0.mk H
  clear H
  go_enter Tryd.func66, Tryd.ntmps66
  go_wp2
  go_loopg [8] k (fun kq v8 w' => ∃ (x8_1 : Int), v8 = .int .i64 x8_1 ∧ Aside0 (spec_place.l0 kq a0 a1 (a0.size : Int) x8_1 = some r) ∧ Aside0 (kq ≤ k) ∧ Drawn0 w w')
  case atStart => exact ⟨(0), (by first | rfl | (simp; done) | (rw [prx_ne]; first | done | rfl) | (simp [*]; done)), H', ⟨Nat.le_refl _⟩, by repeat (first | exact Drawn0.refl _ | apply Drawn0.step)⟩
  case round =>
    clear H'
    try clear p2
    obtain ⟨x8_1, rfl, HA, HK1, ⟨m1, rfl⟩⟩ := hrel
    cases gk with
    | zero => exact absurd HA.out (by simp [spec_place.l0])
    | succ k1 =>
      have H := HA.out
      clear HA
      simp only [spec_place.l0] at H
      by_cases c3 : x8_1 < (a0.size : Int)
      · rw [if_pos c3] at H
        have c3b0 : decide (x8_1 < (a0.size : Int)) = true := decide_eq_true c3
        clear c3
        by_cases c4 : 0 ≤ x8_1
        · rw [if_pos c4] at H
          have c4b0 : decide (0 ≤ x8_1) = true := decide_eq_true c4
          clear c4
          by_cases c5 : x8_1 < (a0.size : Int)
          · rw [if_pos c5] at H
            have c5b0 : decide (x8_1 < (a0.size : Int)) = true := decide_eq_true c5
            clear c5
            by_cases c7 : (bt a0 x8_1) = a1
            · rw [if_pos c7] at H
              have c7b0 : ((bt a0 x8_1) == a1) = true := beq_iff_eq.mpr c7
              have c7b1 : ((bt a0 x8_1) != a1) = false := bne_eq_false_iff_eq.mpr c7
              clear c7
              obtain rfl := Option.some.inj H
              have p6 : 0 ≤ (x8_1 : Int) := of_decide_eq_true (by first | (with_reducible assumption) | assumption)
              have q6 : x8_1 < (a0.size : Int) := of_decide_eq_true (by first | (with_reducible assumption) | assumption)
              have hx6 := bt_at a0 x8_1
              replace p6 := eq_true p6
              replace q6 := eq_true q6
              go_wp2
              go_ret
              exact ⟨by first | rfl | (simp; done) | (rw [prx_ne]; first | done | rfl) | (simp [*]; done), by repeat (first | exact Drawn0.refl _ | apply Drawn0.step)⟩
            · rw [if_neg c7] at H
              have c7b0 : ((bt a0 x8_1) == a1) = false := beq_eq_false_iff_ne.mpr c7
              have c7b1 : ((bt a0 x8_1) != a1) = true := bne_iff_ne.mpr c7
              have H' := Aside0.mk H
              clear H
              have p6 : 0 ≤ (x8_1 : Int) := of_decide_eq_true (by first | (with_reducible assumption) | assumption)
              have q6 : x8_1 < (a0.size : Int) := of_decide_eq_true (by first | (with_reducible assumption) | assumption)
              have hx6 := bt_at a0 x8_1
              replace p6 := eq_true p6
              replace q6 := eq_true q6
              go_wp2
              go_roundg k1
              case measure => have := HK1.out; omega
              case rel => exact ⟨(wrap64 (x8_1 + 1)), (by first | rfl | (simp; done) | (rw [prx_ne]; first | done | rfl) | (simp [*]; done)), H', ⟨by have := HK1.out; omega⟩, by repeat (first | exact Drawn0.refl _ | apply Drawn0.step)⟩
          · rw [if_neg c5] at H
            exact absurd H (by simp)
        · rw [if_neg c4] at H
          exact absurd H (by simp)
      · rw [if_neg c3] at H
        have c3b0 : decide (x8_1 < (a0.size : Int)) = false := decide_eq_false c3
        clear c3
        obtain rfl := Option.some.inj H
        go_wp2
        go_ret
        exact ⟨by first | rfl | (simp; done) | (rw [prx_ne]; first | done | rfl) | (simp [*]; done), by repeat (first | exact Drawn0.refl _ | apply Drawn0.step)⟩
end Go.Proofs.YtgmjaggkiifdjaaDoor.QA
