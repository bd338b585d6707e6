/- Texts of this claim, one behind the other (merged by wip/prune.py of this repo, without what the proof does not use): QA0, QA40, QA26, QA39, QA48, QA41, QA43, QA44, QA45, QA47, QA46, QA1. -/
import Derived.Test.YtgmjaggkiifdjaaDoorZW1
import Derived.Test.YtgmjaggkiifdjaaDoorZW2
import Derived.ArgAppend
import Derived.Below
import Derived.BigQuiet
import Derived.Deep.AppendLies
import Derived.Deep.CutBlock
import Derived.Deep.DeepCutAuto
import Derived.Deep.Draws
import Derived.Deep.LoopGhost
import Derived.Deep.OwnRows
import Derived.Deep.QuietTactic
import Derived.Deep.RegionHeld3
import Derived.KernelRfl
import Derived.Laws.BitsLemmas
import Derived.Laws.BytesArg
import Derived.Laws.IdiomCopy
import Derived.Laws.MakeOwn
import Derived.Laws.OwnMore
import Derived.Laws.Rows
import Derived.Laws.Slices
import Derived.Laws.StructEq
import Derived.Lib.AppendStr
import Derived.Lib.ConvBytes
import Derived.Maps.AppendAt
import Derived.OrdersHeld
import Derived.OwnWalk
import Derived.RowKit
import Derived.RowKit3
import Derived.Tactics
import Derived.Test.YtgmjaggkiifdjaaDoorProg
import Derived.WalkKit
import Derived.WideLaws
set_option linter.unusedVariables false
set_option linter.unusedSimpArgs false
namespace Go.Proofs.YtgmjaggkiifdjaaDoor.QA
open Go.Proofs.YtgmjaggkiifdjaaDoor.Given
open Go.Proofs.YtgmjaggkiifdjaaDoor.PrX
open Go.RowKit Go.Proofs.YtgmjaggkiifdjaaDoorW.PrintWords Go.Proofs.YtgmjaggkiifdjaaDoorW.PrintLast Go.Proofs.YtgmjaggkiifdjaaDoorW.PrintMore
def errW : Option Int → Value
  | none => .nilIface
  | some c => .iface 0 (.int .i64 c)
theorem errW_none : errW none = .nilIface := rfl
theorem errW_some (c : Int) : errW (some c) = .iface 0 (.int .i64 c) := rfl
theorem info9 : (Tryd.prog.info? 9).map (fun i => (i.zero, i.size, i.bytes)) = some (some (.string ⟨#[]⟩), 1, 16) := by kernel_rfl
def hertzutils_CaseInsensitiveCompare.l0 : Nat → List Int → List Int → Int → Option (Bool)
  | 0, _, _, _ => none
  | k + 1, x0, x1, x5 => if x5 < (x0.length : Int) then (if 0 ≤ x5 then (if x5 < (x1.length : Int) then (if (Go.bits .or .u8 (rd x0 x5) 32) = (Go.bits .or .u8 (rd x1 x5) 32) then (hertzutils_CaseInsensitiveCompare.l0 k x0 x1 (wrap64 (x5 + 1))) else (some false)) else (none)) else (none)) else (some true)
def hertzutils_CaseInsensitiveCompare.f (k : Nat) (l0 : List Int) (l1 : List Int) : Option (Bool) := if (l0.length : Int) = (l1.length : Int) then (hertzutils_CaseInsensitiveCompare.l0 k l0 l1 0) else (some false)
set_option maxHeartbeats 8000000 in
set_option maxRecDepth 100000 in
theorem hertzutils_CaseInsensitiveCompare.calls (k : Nat) (A0 : Option Addr) (c0 : Nat) (l0 : List Int) (A1 : Option Addr) (c1 : Nat) (l1 : List Int) (r : Bool) (w : World) (hr0 : Kd.C (Kd.int .u8) w A0 l0.length l0) (hc0 : l0.length ≤ c0) (hr1 : Kd.C (Kd.int .u8) w A1 l1.length l1) (hc1 : l1.length ≤ c1) (h : hertzutils_CaseInsensitiveCompare.f k l0 l1 = some r) :
    Calls Tryd.prog 70 #[.slice A0 l0.length c0, .slice A1 l1.length c1] w fun e w' => e = .returned (.bool r) ∧ Drawn0 w w' := by
  have HR0 := Aside0.mk hr0
  have HC0 := Aside0.mk hc0
  clear hr0 hc0
  have HR1 := Aside0.mk hr1
  have HC1 := Aside0.mk hc1
  clear hr1 hc1
  have H : (if (l0.length : Int) = (l1.length : Int) then (hertzutils_CaseInsensitiveCompare.l0 k l0 l1 0) else (some false)) = some r := h
  clear h
  by_cases c3 : (l0.length : Int) = (l1.length : Int)
  · rw [if_pos c3] at H
    have c3b0 : ((l0.length : Int) == (l1.length : Int)) = true := beq_iff_eq.mpr c3
    have c3b1 : ((l0.length : Int) != (l1.length : Int)) = false := bne_eq_false_iff_eq.mpr c3
    have c3b2 : (l0.length == l1.length) = true := by first | simpa using c3 | (simp at c3 ⊢; omega)
    clear c3
    have H' := Aside0.mk H
    clear H
    go_enter Tryd.func70, Tryd.ntmps70
    go_wp2
    repeat (go_quiet (fail); try go_wp2)
    go_loopg [5] k (fun kq v5 w' => ∃ (x5_1 : Int), v5 = .int .i64 x5_1 ∧ Aside0 (hertzutils_CaseInsensitiveCompare.l0 kq l0 l1 x5_1 = some r) ∧ Aside0 (kq ≤ k) ∧ Drawn0 w w')
    case atStart => exact ⟨(0), (by first | rfl | (simp; done) | (rw [prx_ne]; first | done | rfl) | (simp [*]; done)), H', ⟨Nat.le_refl _⟩, by repeat (first | exact Drawn0.refl _ | apply Drawn0.step)⟩
    case round =>
      clear H'
      try clear c1
      try clear p2
      try clear c3
      try clear c3b0
      try clear c3b1
      try clear c3b2
      obtain ⟨x5_1, rfl, HA, HK1, ⟨m1, rfl⟩⟩ := hrel
      cases gk with
      | zero => exact absurd HA.out (by simp [hertzutils_CaseInsensitiveCompare.l0])
      | succ k1 =>
        have H := HA.out
        clear HA
        simp only [hertzutils_CaseInsensitiveCompare.l0] at H
        by_cases c4 : x5_1 < (l0.length : Int)
        · rw [if_pos c4] at H
          have c4b0 : decide (x5_1 < (l0.length : Int)) = true := decide_eq_true c4
          clear c4
          by_cases c5 : 0 ≤ x5_1
          · rw [if_pos c5] at H
            have c5b0 : decide (0 ≤ x5_1) = true := decide_eq_true c5
            clear c5
            by_cases c6 : x5_1 < (l1.length : Int)
            · rw [if_pos c6] at H
              have c6b0 : decide (x5_1 < (l1.length : Int)) = true := decide_eq_true c6
              clear c6
              by_cases c7 : (Go.bits .or .u8 (rd l0 x5_1) 32) = (Go.bits .or .u8 (rd l1 x5_1) 32)
              · rw [if_pos c7] at H
                have c7b0 : ((Go.bits .or .u8 (rd l0 x5_1) 32) == (Go.bits .or .u8 (rd l1 x5_1) 32)) = true := beq_iff_eq.mpr c7
                have c7b1 : ((Go.bits .or .u8 (rd l0 x5_1) 32) != (Go.bits .or .u8 (rd l1 x5_1) 32)) = false := bne_eq_false_iff_eq.mpr c7
                clear c7
                have H' := Aside0.mk H
                clear H
                have p273 : 0 ≤ (x5_1 : Int) := of_decide_eq_true (by first | (with_reducible assumption) | assumption)
                have q273 : x5_1 < (l0.length : Int) := of_decide_eq_true (by first | (with_reducible assumption) | assumption)
                obtain ⟨ad273, e273, hx273_0⟩ := Kd.at_int HR0.out x5_1 p273 q273
                cases e273
                replace p273 := eq_true p273
                replace q273 := eq_true q273
                have p274 : 0 ≤ (x5_1 : Int) := of_decide_eq_true (by first | (with_reducible assumption) | assumption)
                have q274 : x5_1 < (l1.length : Int) := of_decide_eq_true (by first | (with_reducible assumption) | assumption)
                obtain ⟨ad274, e274, hx274_0⟩ := Kd.at_int HR1.out x5_1 p274 q274
                cases e274
                replace p274 := eq_true p274
                replace q274 := eq_true q274
                go_wp2
                repeat (go_quiet (fail); try go_wp2)
                go_roundg k1
                case measure => have := HK1.out; omega
                case rel => exact ⟨(wrap64 (x5_1 + 1)), (by first | rfl | (simp; done) | (rw [prx_ne]; first | done | rfl) | (simp [*]; done)), H', ⟨by have := HK1.out; omega⟩, by repeat (first | exact Drawn0.refl _ | apply Drawn0.step)⟩
              · rw [if_neg c7] at H
                have c7b0 : ((Go.bits .or .u8 (rd l0 x5_1) 32) == (Go.bits .or .u8 (rd l1 x5_1) 32)) = false := beq_eq_false_iff_ne.mpr c7
                have c7b1 : ((Go.bits .or .u8 (rd l0 x5_1) 32) != (Go.bits .or .u8 (rd l1 x5_1) 32)) = true := bne_iff_ne.mpr c7
                obtain rfl := Option.some.inj H
                have p273 : 0 ≤ (x5_1 : Int) := of_decide_eq_true (by first | (with_reducible assumption) | assumption)
                have q273 : x5_1 < (l0.length : Int) := of_decide_eq_true (by first | (with_reducible assumption) | assumption)
                obtain ⟨ad273, e273, hx273_0⟩ := Kd.at_int HR0.out x5_1 p273 q273
                cases e273
                replace p273 := eq_true p273
                replace q273 := eq_true q273
                have p274 : 0 ≤ (x5_1 : Int) := of_decide_eq_true (by first | (with_reducible assumption) | assumption)
                have q274 : x5_1 < (l1.length : Int) := of_decide_eq_true (by first | (with_reducible assumption) | assumption)
                obtain ⟨ad274, e274, hx274_0⟩ := Kd.at_int HR1.out x5_1 p274 q274
                cases e274
                replace p274 := eq_true p274
                replace q274 := eq_true q274
                go_wp2
                repeat (go_quiet (fail); try go_wp2)
                go_ret
                exact ⟨by first | rfl | (simp; done) | (rw [prx_ne]; first | done | rfl) | (simp [*]; done), by repeat (first | exact Drawn0.refl _ | apply Drawn0.step)⟩
            · rw [if_neg c6] at H
              exact absurd H (by simp)
          · rw [if_neg c5] at H
            exact absurd H (by simp)
        · rw [if_neg c4] at H
          have c4b0 : decide (x5_1 < (l0.length : Int)) = false := decide_eq_false c4
          clear c4
          obtain rfl := Option.some.inj H
          go_wp2
          repeat (go_quiet (fail); try go_wp2)
          go_ret
          exact ⟨by first | rfl | (simp; done) | (rw [prx_ne]; first | done | rfl) | (simp [*]; done), by repeat (first | exact Drawn0.refl _ | apply Drawn0.step)⟩
  · rw [if_neg c3] at H
    have c3b0 : ((l0.length : Int) == (l1.length : Int)) = false := beq_eq_false_iff_ne.mpr c3
    have c3b1 : ((l0.length : Int) != (l1.length : Int)) = true := bne_iff_ne.mpr c3
    have c3b2 : (l0.length == l1.length) = false := by first | simpa using c3 | (simp at c3 ⊢; omega)
    obtain rfl := Option.some.inj H
    go_enter Tryd.func70, Tryd.ntmps70
    go_wp2
    repeat (go_quiet (fail); try go_wp2)
    go_ret
    exact ⟨by first | rfl | (simp; done) | (rw [prx_ne]; first | done | rfl) | (simp [*]; done), by repeat (first | exact Drawn0.refl _ | apply Drawn0.step)⟩
def fiberhelpers_validHeaderFieldByte.f (a0 : Int) : Option (Bool) := if 0 ≤ a0 then (some ((Go.bits .or .u64 (Go.bits .and .u64 (shl .u64 1 a0) 288068722172624896) (Go.bits .and .u64 (shl .u64 1 ((a0 - 64) % 256)) 6341068274398134270)) != 0)) else (none)
def fiberhelpers_ZzField.f (a0 : Int) : Option (Bool) := (fiberhelpers_validHeaderFieldByte.f a0).bind fun t142 => (some t142)
def impl_FieldByte.f (a0 : Int) : Option (Bool) := (fiberhelpers_ZzField.f a0).bind fun t143 => (some t143)
def spec_fold.f (a0 : Int) : Option (Int) := if a0 ≥ 65 then (if a0 ≤ 90 then (some ((a0 + 32) % 256)) else (some a0)) else (some a0)
set_option maxHeartbeats 8000000 in
set_option maxRecDepth 100000 in
theorem spec_fold.calls (a0 : Int) (r : Int) (w : World) (h : spec_fold.f a0 = some r) :
    Calls Tryd.prog 65 #[.int .u8 a0] w fun e w' => e = .returned (.int .u8 r) ∧ Drawn0 w w' := by
  have H : (if a0 ≥ 65 then (if a0 ≤ 90 then (some ((a0 + 32) % 256)) else (some a0)) else (some a0)) = some r := h
  clear h
  by_cases c2 : a0 ≥ 65
  · rw [if_pos c2] at H
    have c2b0 : decide (65 ≤ a0) = true := decide_eq_true c2
    clear c2
    by_cases c3 : a0 ≤ 90
    · rw [if_pos c3] at H
      have c3b0 : decide (a0 ≤ 90) = true := decide_eq_true c3
      clear c3
      obtain rfl := Option.some.inj H
      go_enter Tryd.func65, Tryd.ntmps65
      go_wp2
      go_ret
      exact ⟨by first | rfl | (simp; done) | (rw [prx_ne]; first | done | rfl) | (simp [*]; done), by repeat (first | exact Drawn0.refl _ | apply Drawn0.step)⟩
    · rw [if_neg c3] at H
      have c3b0 : decide (a0 ≤ 90) = false := decide_eq_false c3
      clear c3
      obtain rfl := Option.some.inj H
      go_enter Tryd.func65, Tryd.ntmps65
      go_wp2
      go_ret
      exact ⟨by first | rfl | (simp; done) | (rw [prx_ne]; first | done | rfl) | (simp [*]; done), by repeat (first | exact Drawn0.refl _ | apply Drawn0.step)⟩
  · rw [if_neg c2] at H
    have c2b0 : decide (65 ≤ a0) = false := decide_eq_false c2
    clear c2
    obtain rfl := Option.some.inj H
    go_enter Tryd.func65, Tryd.ntmps65
    go_wp2
    go_ret
    exact ⟨by first | rfl | (simp; done) | (rw [prx_ne]; first | done | rfl) | (simp [*]; done), by repeat (first | exact Drawn0.refl _ | apply Drawn0.step)⟩
def laws_decimal.f : Nat → Int → Option (ByteArray)
  | 0, _ => none
  | k + 1, a0 => if a0 < 0 then ((laws_decimal.f k (wrap64 (-a0))).bind fun t264 => (if 1 + t264.size ≤ 9223372036854775807 then (some ((⟨#[45]⟩ : ByteArray) ++ t264)) else (none))) else (if a0 < 10 then (some (strOfNums (([(wrap64 (48 + a0)) % 256] : List Int)))) else ((laws_decimal.f k (wrap64 (Int.tdiv a0 10))).bind fun t268 => ((laws_decimal.f k (Int.tmod a0 10)).bind fun t269 => (if t268.size + t269.size ≤ 9223372036854775807 then (some (t268 ++ t269)) else (none)))))
def spec_big.f (a0 : Int) : Option (Int) := if a0 ≥ 97 then (if a0 ≤ 122 then (some ((a0 - 32) % 256)) else (some a0)) else (some a0)
set_option maxHeartbeats 8000000 in
set_option maxRecDepth 100000 in
theorem spec_big.calls (a0 : Int) (r : Int) (w : World) (h : spec_big.f a0 = some r) :
    Calls Tryd.prog 69 #[.int .u8 a0] w fun e w' => e = .returned (.int .u8 r) ∧ Drawn0 w w' := by
  have H : (if a0 ≥ 97 then (if a0 ≤ 122 then (some ((a0 - 32) % 256)) else (some a0)) else (some a0)) = some r := h
  clear h
  by_cases c2 : a0 ≥ 97
  · rw [if_pos c2] at H
    have c2b0 : decide (97 ≤ a0) = true := decide_eq_true c2
    clear c2
    by_cases c3 : a0 ≤ 122
    · rw [if_pos c3] at H
      have c3b0 : decide (a0 ≤ 122) = true := decide_eq_true c3
      clear c3
      obtain rfl := Option.some.inj H
      go_enter Tryd.func69, Tryd.ntmps69
      go_wp2
      go_ret
      exact ⟨by first | rfl | (simp; done) | (rw [prx_ne]; first | done | rfl) | (simp [*]; done), by repeat (first | exact Drawn0.refl _ | apply Drawn0.step)⟩
    · rw [if_neg c3] at H
      have c3b0 : decide (a0 ≤ 122) = false := decide_eq_false c3
      clear c3
      obtain rfl := Option.some.inj H
      go_enter Tryd.func69, Tryd.ntmps69
      go_wp2
      go_ret
      exact ⟨by first | rfl | (simp; done) | (rw [prx_ne]; first | done | rfl) | (simp [*]; done), by repeat (first | exact Drawn0.refl _ | apply Drawn0.step)⟩
  · rw [if_neg c2] at H
    have c2b0 : decide (97 ≤ a0) = false := decide_eq_false c2
    clear c2
    obtain rfl := Option.some.inj H
    go_enter Tryd.func69, Tryd.ntmps69
    go_wp2
    go_ret
    exact ⟨by first | rfl | (simp; done) | (rw [prx_ne]; first | done | rfl) | (simp [*]; done), by repeat (first | exact Drawn0.refl _ | apply Drawn0.step)⟩
def spec_reason.f (a0 : Int) : Option (ByteArray) := if a0 = 100 then (some (⟨#[67, 111, 110, 116, 105, 110, 117, 101]⟩ : ByteArray)) else (if a0 = 101 then (some (⟨#[83, 119, 105, 116, 99, 104, 105, 110, 103, 32, 80, 114, 111, 116, 111, 99, 111, 108, 115]⟩ : ByteArray)) else (if a0 = 200 then (some (⟨#[79, 75]⟩ : ByteArray)) else (if a0 = 201 then (some (⟨#[67, 114, 101, 97, 116, 101, 100]⟩ : ByteArray)) else (if a0 = 202 then (some (⟨#[65, 99, 99, 101, 112, 116, 101, 100]⟩ : ByteArray)) else (if a0 = 204 then (some (⟨#[78, 111, 32, 67, 111, 110, 116, 101, 110, 116]⟩ : ByteArray)) else (if a0 = 205 then (some (⟨#[82, 101, 115, 101, 116, 32, 67, 111, 110, 116, 101, 110, 116]⟩ : ByteArray)) else (if a0 = 206 then (some (⟨#[80, 97, 114, 116, 105, 97, 108, 32, 67, 111, 110, 116, 101, 110, 116]⟩ : ByteArray)) else (if a0 = 300 then (some (⟨#[77, 117, 108, 116, 105, 112, 108, 101, 32, 67, 104, 111, 105, 99, 101, 115]⟩ : ByteArray)) else (if a0 = 301 then (some (⟨#[77, 111, 118, 101, 100, 32, 80, 101, 114, 109, 97, 110, 101, 110, 116, 108, 121]⟩ : ByteArray)) else (if a0 = 302 then (some (⟨#[70, 111, 117, 110, 100]⟩ : ByteArray)) else (if a0 = 303 then (some (⟨#[83, 101, 101, 32, 79, 116, 104, 101, 114]⟩ : ByteArray)) else (if a0 = 304 then (some (⟨#[78, 111, 116, 32, 77, 111, 100, 105, 102, 105, 101, 100]⟩ : ByteArray)) else (if a0 = 400 then (some (⟨#[66, 97, 100, 32, 82, 101, 113, 117, 101, 115, 116]⟩ : ByteArray)) else (if a0 = 401 then (some (⟨#[85, 110, 97, 117, 116, 104, 111, 114, 105, 122, 101, 100]⟩ : ByteArray)) else (if a0 = 403 then (some (⟨#[70, 111, 114, 98, 105, 100, 100, 101, 110]⟩ : ByteArray)) else (if a0 = 404 then (some (⟨#[78, 111, 116, 32, 70, 111, 117, 110, 100]⟩ : ByteArray)) else (if a0 = 405 then (some (⟨#[77, 101, 116, 104, 111, 100, 32, 78, 111, 116, 32, 65, 108, 108, 111, 119, 101, 100]⟩ : ByteArray)) else (if a0 = 406 then (some (⟨#[78, 111, 116, 32, 65, 99, 99, 101, 112, 116, 97, 98, 108, 101]⟩ : ByteArray)) else (if a0 = 409 then (some (⟨#[67, 111, 110, 102, 108, 105, 99, 116]⟩ : ByteArray)) else (if a0 = 410 then (some (⟨#[71, 111, 110, 101]⟩ : ByteArray)) else (if a0 = 411 then (some (⟨#[76, 101, 110, 103, 116, 104, 32, 82, 101, 113, 117, 105, 114, 101, 100]⟩ : ByteArray)) else (if a0 = 500 then (some (⟨#[73, 110, 116, 101, 114, 110, 97, 108, 32, 83, 101, 114, 118, 101, 114, 32, 69, 114, 114, 111, 114]⟩ : ByteArray)) else (if a0 = 501 then (some (⟨#[78, 111, 116, 32, 73, 109, 112, 108, 101, 109, 101, 110, 116, 101, 100]⟩ : ByteArray)) else (if a0 = 502 then (some (⟨#[66, 97, 100, 32, 71, 97, 116, 101, 119, 97, 121]⟩ : ByteArray)) else (if a0 = 503 then (some (⟨#[83, 101, 114, 118, 105, 99, 101, 32, 85, 110, 97, 118, 97, 105, 108, 97, 98, 108, 101]⟩ : ByteArray)) else (some (⟨#[]⟩ : ByteArray)))))))))))))))))))))))))))
set_option maxHeartbeats 8000000 in
set_option maxRecDepth 100000 in
theorem spec_reason.calls (a0 : Int) (r : ByteArray) (w : World) (h : spec_reason.f a0 = some r) :
  Calls Tryd.prog 75 #[.int .i64 a0] w fun e w' => e = .returned (.string r) ∧ Drawn0 w w' := by
 have H : (if a0 = 100 then (some (⟨#[67, 111, 110, 116, 105, 110, 117, 101]⟩ : ByteArray)) else (if a0 = 101 then (some (⟨#[83, 119, 105, 116, 99, 104, 105, 110, 103, 32, 80, 114, 111, 116, 111, 99, 111, 108, 115]⟩ : ByteArray)) else (if a0 = 200 then (some (⟨#[79, 75]⟩ : ByteArray)) else (if a0 = 201 then (some (⟨#[67, 114, 101, 97, 116, 101, 100]⟩ : ByteArray)) else (if a0 = 202 then (some (⟨#[65, 99, 99, 101, 112, 116, 101, 100]⟩ : ByteArray)) else (if a0 = 204 then (some (⟨#[78, 111, 32, 67, 111, 110, 116, 101, 110, 116]⟩ : ByteArray)) else (if a0 = 205 then (some (⟨#[82, 101, 115, 101, 116, 32, 67, 111, 110, 116, 101, 110, 116]⟩ : ByteArray)) else (if a0 = 206 then (some (⟨#[80, 97, 114, 116, 105, 97, 108, 32, 67, 111, 110, 116, 101, 110, 116]⟩ : ByteArray)) else (if a0 = 300 then (some (⟨#[77, 117, 108, 116, 105, 112, 108, 101, 32, 67, 104, 111, 105, 99, 101, 115]⟩ : ByteArray)) else (if a0 = 301 then (some (⟨#[77, 111, 118, 101, 100, 32, 80, 101, 114, 109, 97, 110, 101, 110, 116, 108, 121]⟩ : ByteArray)) else (if a0 = 302 then (some (⟨#[70, 111, 117, 110, 100]⟩ : ByteArray)) else (if a0 = 303 then (some (⟨#[83, 101, 101, 32, 79, 116, 104, 101, 114]⟩ : ByteArray)) else (if a0 = 304 then (some (⟨#[78, 111, 116, 32, 77, 111, 100, 105, 102, 105, 101, 100]⟩ : ByteArray)) else (if a0 = 400 then (some (⟨#[66, 97, 100, 32, 82, 101, 113, 117, 101, 115, 116]⟩ : ByteArray)) else (if a0 = 401 then (some (⟨#[85, 110, 97, 117, 116, 104, 111, 114, 105, 122, 101, 100]⟩ : ByteArray)) else (if a0 = 403 then (some (⟨#[70, 111, 114, 98, 105, 100, 100, 101, 110]⟩ : ByteArray)) else (if a0 = 404 then (some (⟨#[78, 111, 116, 32, 70, 111, 117, 110, 100]⟩ : ByteArray)) else (if a0 = 405 then (some (⟨#[77, 101, 116, 104, 111, 100, 32, 78, 111, 116, 32, 65, 108, 108, 111, 119, 101, 100]⟩ : ByteArray)) else (if a0 = 406 then (some (⟨#[78, 111, 116, 32, 65, 99, 99, 101, 112, 116, 97, 98, 108, 101]⟩ : ByteArray)) else (if a0 = 409 then (some (⟨#[67, 111, 110, 102, 108, 105, 99, 116]⟩ : ByteArray)) else (if a0 = 410 then (some (⟨#[71, 111, 110, 101]⟩ : ByteArray)) else (if a0 = 411 then (some (⟨#[76, 101, 110, 103, 116, 104, 32, 82, 101, 113, 117, 105, 114, 101, 100]⟩ : ByteArray)) else (if a0 = 500 then (some (⟨#[73, 110, 116, 101, 114, 110, 97, 108, 32, 83, 101, 114, 118, 101, 114, 32, 69, 114, 114, 111, 114]⟩ : ByteArray)) else (if a0 = 501 then (some (⟨#[78, 111, 116, 32, 73, 109, 112, 108, 101, 109, 101, 110, 116, 101, 100]⟩ : ByteArray)) else (if a0 = 502 then (some (⟨#[66, 97, 100, 32, 71, 97, 116, 101, 119, 97, 121]⟩ : ByteArray)) else (if a0 = 503 then (some (⟨#[83, 101, 114, 118, 105, 99, 101, 32, 85, 110, 97, 118, 97, 105, 108, 97, 98, 108, 101]⟩ : ByteArray)) else (some (⟨#[]⟩ : ByteArray)))))))))))))))))))))))))))) = some r := h
 clear h
 by_cases c2 : a0 = 100
 ·rw [if_pos c2] at H
  have c2b0 : (a0 == 100) = true := beq_iff_eq.mpr c2
  have c2b1 : (a0 != 100) = false := bne_eq_false_iff_eq.mpr c2
  clear c2
  obtain rfl := Option.some.inj H
  go_enter Tryd.func75, Tryd.ntmps75
  go_wp2
  go_ret
  exact ⟨by first | rfl | (simp; done) | (rw [prx_ne]; first | done | rfl) | (simp [*]; done), by repeat (first | exact Drawn0.refl _ | apply Drawn0.step)⟩
 ·rw [if_neg c2] at H
  have c2b0 : (a0 == 100) = false := beq_eq_false_iff_ne.mpr c2
  have c2b1 : (a0 != 100) = true := bne_iff_ne.mpr c2
  by_cases c3 : a0 = 101
  ·rw [if_pos c3] at H
   have c3b0 : (a0 == 101) = true := beq_iff_eq.mpr c3
   have c3b1 : (a0 != 101) = false := bne_eq_false_iff_eq.mpr c3
   clear c3
   obtain rfl := Option.some.inj H
   go_enter Tryd.func75, Tryd.ntmps75
   go_wp2
   go_ret
   exact ⟨by first | rfl | (simp; done) | (rw [prx_ne]; first | done | rfl) | (simp [*]; done), by repeat (first | exact Drawn0.refl _ | apply Drawn0.step)⟩
  ·rw [if_neg c3] at H
   have c3b0 : (a0 == 101) = false := beq_eq_false_iff_ne.mpr c3
   have c3b1 : (a0 != 101) = true := bne_iff_ne.mpr c3
   by_cases c4 : a0 = 200
   ·rw [if_pos c4] at H
    have c4b0 : (a0 == 200) = true := beq_iff_eq.mpr c4
    have c4b1 : (a0 != 200) = false := bne_eq_false_iff_eq.mpr c4
    clear c4
    obtain rfl := Option.some.inj H
    go_enter Tryd.func75, Tryd.ntmps75
    go_wp2
    go_ret
    exact ⟨by first | rfl | (simp; done) | (rw [prx_ne]; first | done | rfl) | (simp [*]; done), by repeat (first | exact Drawn0.refl _ | apply Drawn0.step)⟩
   ·rw [if_neg c4] at H
    have c4b0 : (a0 == 200) = false := beq_eq_false_iff_ne.mpr c4
    have c4b1 : (a0 != 200) = true := bne_iff_ne.mpr c4
    by_cases c5 : a0 = 201
    ·rw [if_pos c5] at H
     have c5b0 : (a0 == 201) = true := beq_iff_eq.mpr c5
     have c5b1 : (a0 != 201) = false := bne_eq_false_iff_eq.mpr c5
     clear c5
     obtain rfl := Option.some.inj H
     go_enter Tryd.func75, Tryd.ntmps75
     go_wp2
     go_ret
     exact ⟨by first | rfl | (simp; done) | (rw [prx_ne]; first | done | rfl) | (simp [*]; done), by repeat (first | exact Drawn0.refl _ | apply Drawn0.step)⟩
    ·rw [if_neg c5] at H
     have c5b0 : (a0 == 201) = false := beq_eq_false_iff_ne.mpr c5
     have c5b1 : (a0 != 201) = true := bne_iff_ne.mpr c5
     by_cases c6 : a0 = 202
     ·rw [if_pos c6] at H
      have c6b0 : (a0 == 202) = true := beq_iff_eq.mpr c6
      have c6b1 : (a0 != 202) = false := bne_eq_false_iff_eq.mpr c6
      clear c6
      obtain rfl := Option.some.inj H
      go_enter Tryd.func75, Tryd.ntmps75
      go_wp2
      go_ret
      exact ⟨by first | rfl | (simp; done) | (rw [prx_ne]; first | done | rfl) | (simp [*]; done), by repeat (first | exact Drawn0.refl _ | apply Drawn0.step)⟩
     ·rw [if_neg c6] at H
      have c6b0 : (a0 == 202) = false := beq_eq_false_iff_ne.mpr c6
      have c6b1 : (a0 != 202) = true := bne_iff_ne.mpr c6
      by_cases c7 : a0 = 204
      ·rw [if_pos c7] at H
       have c7b0 : (a0 == 204) = true := beq_iff_eq.mpr c7
       have c7b1 : (a0 != 204) = false := bne_eq_false_iff_eq.mpr c7
       clear c7
       obtain rfl := Option.some.inj H
       go_enter Tryd.func75, Tryd.ntmps75
       go_wp2
       go_ret
       exact ⟨by first | rfl | (simp; done) | (rw [prx_ne]; first | done | rfl) | (simp [*]; done), by repeat (first | exact Drawn0.refl _ | apply Drawn0.step)⟩
      ·rw [if_neg c7] at H
       have c7b0 : (a0 == 204) = false := beq_eq_false_iff_ne.mpr c7
       have c7b1 : (a0 != 204) = true := bne_iff_ne.mpr c7
       by_cases c8 : a0 = 205
       ·rw [if_pos c8] at H
        have c8b0 : (a0 == 205) = true := beq_iff_eq.mpr c8
        have c8b1 : (a0 != 205) = false := bne_eq_false_iff_eq.mpr c8
        clear c8
        obtain rfl := Option.some.inj H
        go_enter Tryd.func75, Tryd.ntmps75
        go_wp2
        go_ret
        exact ⟨by first | rfl | (simp; done) | (rw [prx_ne]; first | done | rfl) | (simp [*]; done), by repeat (first | exact Drawn0.refl _ | apply Drawn0.step)⟩
       ·rw [if_neg c8] at H
        have c8b0 : (a0 == 205) = false := beq_eq_false_iff_ne.mpr c8
        have c8b1 : (a0 != 205) = true := bne_iff_ne.mpr c8
        by_cases c9 : a0 = 206
        ·rw [if_pos c9] at H
         have c9b0 : (a0 == 206) = true := beq_iff_eq.mpr c9
         have c9b1 : (a0 != 206) = false := bne_eq_false_iff_eq.mpr c9
         clear c9
         obtain rfl := Option.some.inj H
         go_enter Tryd.func75, Tryd.ntmps75
         go_wp2
         go_ret
         exact ⟨by first | rfl | (simp; done) | (rw [prx_ne]; first | done | rfl) | (simp [*]; done), by repeat (first | exact Drawn0.refl _ | apply Drawn0.step)⟩
        ·rw [if_neg c9] at H
         have c9b0 : (a0 == 206) = false := beq_eq_false_iff_ne.mpr c9
         have c9b1 : (a0 != 206) = true := bne_iff_ne.mpr c9
         by_cases c10 : a0 = 300
         ·rw [if_pos c10] at H
          have c10b0 : (a0 == 300) = true := beq_iff_eq.mpr c10
          have c10b1 : (a0 != 300) = false := bne_eq_false_iff_eq.mpr c10
          clear c10
          obtain rfl := Option.some.inj H
          go_enter Tryd.func75, Tryd.ntmps75
          go_wp2
          go_ret
          exact ⟨by first | rfl | (simp; done) | (rw [prx_ne]; first | done | rfl) | (simp [*]; done), by repeat (first | exact Drawn0.refl _ | apply Drawn0.step)⟩
         ·rw [if_neg c10] at H
          have c10b0 : (a0 == 300) = false := beq_eq_false_iff_ne.mpr c10
          have c10b1 : (a0 != 300) = true := bne_iff_ne.mpr c10
          by_cases c11 : a0 = 301
          ·rw [if_pos c11] at H
           have c11b0 : (a0 == 301) = true := beq_iff_eq.mpr c11
           have c11b1 : (a0 != 301) = false := bne_eq_false_iff_eq.mpr c11
           clear c11
           obtain rfl := Option.some.inj H
           go_enter Tryd.func75, Tryd.ntmps75
           go_wp2
           go_ret
           exact ⟨by first | rfl | (simp; done) | (rw [prx_ne]; first | done | rfl) | (simp [*]; done), by repeat (first | exact Drawn0.refl _ | apply Drawn0.step)⟩
          ·rw [if_neg c11] at H
           have c11b0 : (a0 == 301) = false := beq_eq_false_iff_ne.mpr c11
           have c11b1 : (a0 != 301) = true := bne_iff_ne.mpr c11
           by_cases c12 : a0 = 302
           ·rw [if_pos c12] at H
            have c12b0 : (a0 == 302) = true := beq_iff_eq.mpr c12
            have c12b1 : (a0 != 302) = false := bne_eq_false_iff_eq.mpr c12
            clear c12
            obtain rfl := Option.some.inj H
            go_enter Tryd.func75, Tryd.ntmps75
            go_wp2
            go_ret
            exact ⟨by first | rfl | (simp; done) | (rw [prx_ne]; first | done | rfl) | (simp [*]; done), by repeat (first | exact Drawn0.refl _ | apply Drawn0.step)⟩
           ·rw [if_neg c12] at H
            have c12b0 : (a0 == 302) = false := beq_eq_false_iff_ne.mpr c12
            have c12b1 : (a0 != 302) = true := bne_iff_ne.mpr c12
            by_cases c13 : a0 = 303
            ·rw [if_pos c13] at H
             have c13b0 : (a0 == 303) = true := beq_iff_eq.mpr c13
             have c13b1 : (a0 != 303) = false := bne_eq_false_iff_eq.mpr c13
             clear c13
             obtain rfl := Option.some.inj H
             go_enter Tryd.func75, Tryd.ntmps75
             go_wp2
             go_ret
             exact ⟨by first | rfl | (simp; done) | (rw [prx_ne]; first | done | rfl) | (simp [*]; done), by repeat (first | exact Drawn0.refl _ | apply Drawn0.step)⟩
            ·rw [if_neg c13] at H
             have c13b0 : (a0 == 303) = false := beq_eq_false_iff_ne.mpr c13
             have c13b1 : (a0 != 303) = true := bne_iff_ne.mpr c13
             by_cases c14 : a0 = 304
             ·rw [if_pos c14] at H
              have c14b0 : (a0 == 304) = true := beq_iff_eq.mpr c14
              have c14b1 : (a0 != 304) = false := bne_eq_false_iff_eq.mpr c14
              clear c14
              obtain rfl := Option.some.inj H
              go_enter Tryd.func75, Tryd.ntmps75
              go_wp2
              go_ret
              exact ⟨by first | rfl | (simp; done) | (rw [prx_ne]; first | done | rfl) | (simp [*]; done), by repeat (first | exact Drawn0.refl _ | apply Drawn0.step)⟩
             ·rw [if_neg c14] at H
              have c14b0 : (a0 == 304) = false := beq_eq_false_iff_ne.mpr c14
              have c14b1 : (a0 != 304) = true := bne_iff_ne.mpr c14
              by_cases c15 : a0 = 400
              ·rw [if_pos c15] at H
               have c15b0 : (a0 == 400) = true := beq_iff_eq.mpr c15
               have c15b1 : (a0 != 400) = false := bne_eq_false_iff_eq.mpr c15
               clear c15
               obtain rfl := Option.some.inj H
               go_enter Tryd.func75, Tryd.ntmps75
               go_wp2
               go_ret
               exact ⟨by first | rfl | (simp; done) | (rw [prx_ne]; first | done | rfl) | (simp [*]; done), by repeat (first | exact Drawn0.refl _ | apply Drawn0.step)⟩
              ·rw [if_neg c15] at H
               have c15b0 : (a0 == 400) = false := beq_eq_false_iff_ne.mpr c15
               have c15b1 : (a0 != 400) = true := bne_iff_ne.mpr c15
               by_cases c16 : a0 = 401
               ·rw [if_pos c16] at H
                have c16b0 : (a0 == 401) = true := beq_iff_eq.mpr c16
                have c16b1 : (a0 != 401) = false := bne_eq_false_iff_eq.mpr c16
                clear c16
                obtain rfl := Option.some.inj H
                go_enter Tryd.func75, Tryd.ntmps75
                go_wp2
                go_ret
                exact ⟨by first | rfl | (simp; done) | (rw [prx_ne]; first | done | rfl) | (simp [*]; done), by repeat (first | exact Drawn0.refl _ | apply Drawn0.step)⟩
               ·rw [if_neg c16] at H
                have c16b0 : (a0 == 401) = false := beq_eq_false_iff_ne.mpr c16
                have c16b1 : (a0 != 401) = true := bne_iff_ne.mpr c16
                by_cases c17 : a0 = 403
                ·rw [if_pos c17] at H
                 have c17b0 : (a0 == 403) = true := beq_iff_eq.mpr c17
                 have c17b1 : (a0 != 403) = false := bne_eq_false_iff_eq.mpr c17
                 clear c17
                 obtain rfl := Option.some.inj H
                 go_enter Tryd.func75, Tryd.ntmps75
                 go_wp2
                 go_ret
                 exact ⟨by first | rfl | (simp; done) | (rw [prx_ne]; first | done | rfl) | (simp [*]; done), by repeat (first | exact Drawn0.refl _ | apply Drawn0.step)⟩
                ·rw [if_neg c17] at H
                 have c17b0 : (a0 == 403) = false := beq_eq_false_iff_ne.mpr c17
                 have c17b1 : (a0 != 403) = true := bne_iff_ne.mpr c17
                 by_cases c18 : a0 = 404
                 ·rw [if_pos c18] at H
                  have c18b0 : (a0 == 404) = true := beq_iff_eq.mpr c18
                  have c18b1 : (a0 != 404) = false := bne_eq_false_iff_eq.mpr c18
                  clear c18
                  obtain rfl := Option.some.inj H
                  go_enter Tryd.func75, Tryd.ntmps75
                  go_wp2
                  go_ret
                  exact ⟨by first | rfl | (simp; done) | (rw [prx_ne]; first | done | rfl) | (simp [*]; done), by repeat (first | exact Drawn0.refl _ | apply Drawn0.step)⟩
                 ·rw [if_neg c18] at H
                  have c18b0 : (a0 == 404) = false := beq_eq_false_iff_ne.mpr c18
                  have c18b1 : (a0 != 404) = true := bne_iff_ne.mpr c18
                  by_cases c19 : a0 = 405
                  ·rw [if_pos c19] at H
                   have c19b0 : (a0 == 405) = true := beq_iff_eq.mpr c19
                   have c19b1 : (a0 != 405) = false := bne_eq_false_iff_eq.mpr c19
                   clear c19
                   obtain rfl := Option.some.inj H
                   go_enter Tryd.func75, Tryd.ntmps75
                   go_wp2
                   go_ret
                   exact ⟨by first | rfl | (simp; done) | (rw [prx_ne]; first | done | rfl) | (simp [*]; done), by repeat (first | exact Drawn0.refl _ | apply Drawn0.step)⟩
                  ·rw [if_neg c19] at H
                   have c19b0 : (a0 == 405) = false := beq_eq_false_iff_ne.mpr c19
                   have c19b1 : (a0 != 405) = true := bne_iff_ne.mpr c19
                   by_cases c20 : a0 = 406
                   ·rw [if_pos c20] at H
                    have c20b0 : (a0 == 406) = true := beq_iff_eq.mpr c20
                    have c20b1 : (a0 != 406) = false := bne_eq_false_iff_eq.mpr c20
                    clear c20
                    obtain rfl := Option.some.inj H
                    go_enter Tryd.func75, Tryd.ntmps75
                    go_wp2
                    go_ret
                    exact ⟨by first | rfl | (simp; done) | (rw [prx_ne]; first | done | rfl) | (simp [*]; done), by repeat (first | exact Drawn0.refl _ | apply Drawn0.step)⟩
                   ·rw [if_neg c20] at H
                    have c20b0 : (a0 == 406) = false := beq_eq_false_iff_ne.mpr c20
                    have c20b1 : (a0 != 406) = true := bne_iff_ne.mpr c20
                    by_cases c21 : a0 = 409
                    ·rw [if_pos c21] at H
                     have c21b0 : (a0 == 409) = true := beq_iff_eq.mpr c21
                     have c21b1 : (a0 != 409) = false := bne_eq_false_iff_eq.mpr c21
                     clear c21
                     obtain rfl := Option.some.inj H
                     go_enter Tryd.func75, Tryd.ntmps75
                     go_wp2
                     go_ret
                     exact ⟨by first | rfl | (simp; done) | (rw [prx_ne]; first | done | rfl) | (simp [*]; done), by repeat (first | exact Drawn0.refl _ | apply Drawn0.step)⟩
                    ·rw [if_neg c21] at H
                     have c21b0 : (a0 == 409) = false := beq_eq_false_iff_ne.mpr c21
                     have c21b1 : (a0 != 409) = true := bne_iff_ne.mpr c21
                     by_cases c22 : a0 = 410
                     ·rw [if_pos c22] at H
                      have c22b0 : (a0 == 410) = true := beq_iff_eq.mpr c22
                      have c22b1 : (a0 != 410) = false := bne_eq_false_iff_eq.mpr c22
                      clear c22
                      obtain rfl := Option.some.inj H
                      go_enter Tryd.func75, Tryd.ntmps75
                      go_wp2
                      go_ret
                      exact ⟨by first | rfl | (simp; done) | (rw [prx_ne]; first | done | rfl) | (simp [*]; done), by repeat (first | exact Drawn0.refl _ | apply Drawn0.step)⟩
                     ·rw [if_neg c22] at H
                      have c22b0 : (a0 == 410) = false := beq_eq_false_iff_ne.mpr c22
                      have c22b1 : (a0 != 410) = true := bne_iff_ne.mpr c22
                      by_cases c23 : a0 = 411
                      ·rw [if_pos c23] at H
                       have c23b0 : (a0 == 411) = true := beq_iff_eq.mpr c23
                       have c23b1 : (a0 != 411) = false := bne_eq_false_iff_eq.mpr c23
                       clear c23
                       obtain rfl := Option.some.inj H
                       go_enter Tryd.func75, Tryd.ntmps75
                       go_wp2
                       go_ret
                       exact ⟨by first | rfl | (simp; done) | (rw [prx_ne]; first | done | rfl) | (simp [*]; done), by repeat (first | exact Drawn0.refl _ | apply Drawn0.step)⟩
                      ·rw [if_neg c23] at H
                       have c23b0 : (a0 == 411) = false := beq_eq_false_iff_ne.mpr c23
                       have c23b1 : (a0 != 411) = true := bne_iff_ne.mpr c23
                       by_cases c24 : a0 = 500
                       ·rw [if_pos c24] at H
                        have c24b0 : (a0 == 500) = true := beq_iff_eq.mpr c24
                        have c24b1 : (a0 != 500) = false := bne_eq_false_iff_eq.mpr c24
                        clear c24
                        obtain rfl := Option.some.inj H
                        go_enter Tryd.func75, Tryd.ntmps75
                        go_wp2
                        go_ret
                        exact ⟨by first | rfl | (simp; done) | (rw [prx_ne]; first | done | rfl) | (simp [*]; done), by repeat (first | exact Drawn0.refl _ | apply Drawn0.step)⟩
                       ·rw [if_neg c24] at H
                        have c24b0 : (a0 == 500) = false := beq_eq_false_iff_ne.mpr c24
                        have c24b1 : (a0 != 500) = true := bne_iff_ne.mpr c24
                        by_cases c25 : a0 = 501
                        ·rw [if_pos c25] at H
                         have c25b0 : (a0 == 501) = true := beq_iff_eq.mpr c25
                         have c25b1 : (a0 != 501) = false := bne_eq_false_iff_eq.mpr c25
                         clear c25
                         obtain rfl := Option.some.inj H
                         go_enter Tryd.func75, Tryd.ntmps75
                         go_wp2
                         go_ret
                         exact ⟨by first | rfl | (simp; done) | (rw [prx_ne]; first | done | rfl) | (simp [*]; done), by repeat (first | exact Drawn0.refl _ | apply Drawn0.step)⟩
                        ·rw [if_neg c25] at H
                         have c25b0 : (a0 == 501) = false := beq_eq_false_iff_ne.mpr c25
                         have c25b1 : (a0 != 501) = true := bne_iff_ne.mpr c25
                         by_cases c26 : a0 = 502
                         ·rw [if_pos c26] at H
                          have c26b0 : (a0 == 502) = true := beq_iff_eq.mpr c26
                          have c26b1 : (a0 != 502) = false := bne_eq_false_iff_eq.mpr c26
                          clear c26
                          obtain rfl := Option.some.inj H
                          go_enter Tryd.func75, Tryd.ntmps75
                          go_wp2
                          go_ret
                          exact ⟨by first | rfl | (simp; done) | (rw [prx_ne]; first | done | rfl) | (simp [*]; done), by repeat (first | exact Drawn0.refl _ | apply Drawn0.step)⟩
                         ·rw [if_neg c26] at H
                          have c26b0 : (a0 == 502) = false := beq_eq_false_iff_ne.mpr c26
                          have c26b1 : (a0 != 502) = true := bne_iff_ne.mpr c26
                          by_cases c27 : a0 = 503
                          ·rw [if_pos c27] at H
                           have c27b0 : (a0 == 503) = true := beq_iff_eq.mpr c27
                           have c27b1 : (a0 != 503) = false := bne_eq_false_iff_eq.mpr c27
                           clear c27
                           obtain rfl := Option.some.inj H
                           go_enter Tryd.func75, Tryd.ntmps75
                           go_wp2
                           go_ret
                           exact ⟨by first | rfl | (simp; done) | (rw [prx_ne]; first | done | rfl) | (simp [*]; done), by repeat (first | exact Drawn0.refl _ | apply Drawn0.step)⟩
                          ·rw [if_neg c27] at H
                           have c27b0 : (a0 == 503) = false := beq_eq_false_iff_ne.mpr c27
                           have c27b1 : (a0 != 503) = true := bne_iff_ne.mpr c27
                           obtain rfl := Option.some.inj H
                           go_enter Tryd.func75, Tryd.ntmps75
                           go_wp2
                           go_ret
                           exact ⟨by first | rfl | (simp; done) | (rw [prx_ne]; first | done | rfl) | (simp [*]; done), by repeat (first | exact Drawn0.refl _ | apply Drawn0.step)⟩
def spec_SameKey.l0 : Nat → ByteArray → ByteArray → Int → Int → Option (Bool)
  | 0, _, _, _, _ => none
  | k + 1, x0, x1, x12, x13 => if x13 < x12 then (if 0 ≤ x13 then (if x13 < (x0.size : Int) then (if x13 < (x1.size : Int) then (if (Go.bits .or .u8 (bt x0 x13) 32) = (Go.bits .or .u8 (bt x1 x13) 32) then (spec_SameKey.l0 k x0 x1 x12 (wrap64 (x13 + 1))) else (some false)) else (none)) else (none)) else (none)) else (some true)
def spec_SameKey.f (k : Nat) (a0 : ByteArray) (a1 : ByteArray) : Option (Bool) := if (a0.size : Int) = (a1.size : Int) then (spec_SameKey.l0 k a0 a1 (a0.size : Int) 0) else (some false)
set_option maxHeartbeats 8000000 in
set_option maxRecDepth 100000 in
theorem spec_SameKey.calls (k : Nat) (a0 : ByteArray) (a1 : ByteArray) (r : Bool) (w : World) (h : spec_SameKey.f k a0 a1 = some r) :
    Calls Tryd.prog 40 #[.string a0, .string a1] w fun e w' => e = .returned (.bool r) ∧ Drawn0 w w' := by
  have H : (if (a0.size : Int) = (a1.size : Int) then (spec_SameKey.l0 k a0 a1 (a0.size : Int) 0) else (some false)) = some r := h
  clear h
  by_cases c3 : (a0.size : Int) = (a1.size : Int)
  · rw [if_pos c3] at H
    have c3b0 : ((a0.size : Int) == (a1.size : Int)) = true := beq_iff_eq.mpr c3
    have c3b1 : ((a0.size : Int) != (a1.size : Int)) = false := bne_eq_false_iff_eq.mpr c3
    have c3b2 : (a0.size == a1.size) = true := by first | simpa using c3 | (simp at c3 ⊢; omega)
    clear c3
    have H' := Aside0.mk H
    clear H
    go_enter Tryd.func40, Tryd.ntmps40
    go_wp2
    repeat (go_quiet (fail); try go_wp2)
    go_loopg [13] k (fun kq v13 w' => ∃ (x13_1 : Int), v13 = .int .i64 x13_1 ∧ Aside0 (spec_SameKey.l0 kq a0 a1 (a0.size : Int) x13_1 = some r) ∧ Aside0 (kq ≤ k) ∧ Drawn0 w w')
    case atStart => exact ⟨(0), (by first | rfl | (simp; done) | (rw [prx_ne]; first | done | rfl) | (simp [*]; done)), H', ⟨Nat.le_refl _⟩, by repeat (first | exact Drawn0.refl _ | apply Drawn0.step)⟩
    case round =>
      clear H'
      try clear p2
      try clear c3
      try clear c3b0
      try clear c3b1
      try clear c3b2
      obtain ⟨x13_1, rfl, HA, HK1, ⟨m1, rfl⟩⟩ := hrel
      cases gk with
      | zero => exact absurd HA.out (by simp [spec_SameKey.l0])
      | succ k1 =>
        have H := HA.out
        clear HA
        simp only [spec_SameKey.l0] at H
        by_cases c4 : x13_1 < (a0.size : Int)
        · rw [if_pos c4] at H
          have c4b0 : decide (x13_1 < (a0.size : Int)) = true := decide_eq_true c4
          clear c4
          by_cases c5 : 0 ≤ x13_1
          · rw [if_pos c5] at H
            have c5b0 : decide (0 ≤ x13_1) = true := decide_eq_true c5
            clear c5
            by_cases c6 : x13_1 < (a0.size : Int)
            · rw [if_pos c6] at H
              have c6b0 : decide (x13_1 < (a0.size : Int)) = true := decide_eq_true c6
              clear c6
              by_cases c8 : x13_1 < (a1.size : Int)
              · rw [if_pos c8] at H
                have c8b0 : decide (x13_1 < (a1.size : Int)) = true := decide_eq_true c8
                clear c8
                by_cases c10 : (Go.bits .or .u8 (bt a0 x13_1) 32) = (Go.bits .or .u8 (bt a1 x13_1) 32)
                · rw [if_pos c10] at H
                  have c10b0 : ((Go.bits .or .u8 (bt a0 x13_1) 32) == (Go.bits .or .u8 (bt a1 x13_1) 32)) = true := beq_iff_eq.mpr c10
                  have c10b1 : ((Go.bits .or .u8 (bt a0 x13_1) 32) != (Go.bits .or .u8 (bt a1 x13_1) 32)) = false := bne_eq_false_iff_eq.mpr c10
                  clear c10
                  have H' := Aside0.mk H
                  clear H
                  have p7 : 0 ≤ (x13_1 : Int) := of_decide_eq_true (by first | (with_reducible assumption) | assumption)
                  have q7 : x13_1 < (a0.size : Int) := of_decide_eq_true (by first | (with_reducible assumption) | assumption)
                  have hx7 := bt_at a0 x13_1
                  replace p7 := eq_true p7
                  replace q7 := eq_true q7
                  have p9 : 0 ≤ (x13_1 : Int) := of_decide_eq_true (by first | (with_reducible assumption) | assumption)
                  have q9 : x13_1 < (a1.size : Int) := of_decide_eq_true (by first | (with_reducible assumption) | assumption)
                  have hx9 := bt_at a1 x13_1
                  replace p9 := eq_true p9
                  replace q9 := eq_true q9
                  go_wp2
                  repeat (go_quiet (fail); try go_wp2)
                  go_roundg k1
                  case measure => have := HK1.out; omega
                  case rel => exact ⟨(wrap64 (x13_1 + 1)), (by first | rfl | (simp; done) | (rw [prx_ne]; first | done | rfl) | (simp [*]; done)), H', ⟨by have := HK1.out; omega⟩, by repeat (first | exact Drawn0.refl _ | apply Drawn0.step)⟩
                · rw [if_neg c10] at H
                  have c10b0 : ((Go.bits .or .u8 (bt a0 x13_1) 32) == (Go.bits .or .u8 (bt a1 x13_1) 32)) = false := beq_eq_false_iff_ne.mpr c10
                  have c10b1 : ((Go.bits .or .u8 (bt a0 x13_1) 32) != (Go.bits .or .u8 (bt a1 x13_1) 32)) = true := bne_iff_ne.mpr c10
                  obtain rfl := Option.some.inj H
                  have p7 : 0 ≤ (x13_1 : Int) := of_decide_eq_true (by first | (with_reducible assumption) | assumption)
                  have q7 : x13_1 < (a0.size : Int) := of_decide_eq_true (by first | (with_reducible assumption) | assumption)
                  have hx7 := bt_at a0 x13_1
                  replace p7 := eq_true p7
                  replace q7 := eq_true q7
                  have p9 : 0 ≤ (x13_1 : Int) := of_decide_eq_true (by first | (with_reducible assumption) | assumption)
                  have q9 : x13_1 < (a1.size : Int) := of_decide_eq_true (by first | (with_reducible assumption) | assumption)
                  have hx9 := bt_at a1 x13_1
                  replace p9 := eq_true p9
                  replace q9 := eq_true q9
                  go_wp2
                  repeat (go_quiet (fail); try go_wp2)
                  go_ret
                  exact ⟨by first | rfl | (simp; done) | (rw [prx_ne]; first | done | rfl) | (simp [*]; done), by repeat (first | exact Drawn0.refl _ | apply Drawn0.step)⟩
              · rw [if_neg c8] at H
                exact absurd H (by simp)
            · rw [if_neg c6] at H
              exact absurd H (by simp)
          · rw [if_neg c5] at H
            exact absurd H (by simp)
        · rw [if_neg c4] at H
          have c4b0 : decide (x13_1 < (a0.size : Int)) = false := decide_eq_false c4
          clear c4
          obtain rfl := Option.some.inj H
          go_wp2
          repeat (go_quiet (fail); try go_wp2)
          go_ret
          exact ⟨by first | rfl | (simp; done) | (rw [prx_ne]; first | done | rfl) | (simp [*]; done), by repeat (first | exact Drawn0.refl _ | apply Drawn0.step)⟩
  · rw [if_neg c3] at H
    have c3b0 : ((a0.size : Int) == (a1.size : Int)) = false := beq_eq_false_iff_ne.mpr c3
    have c3b1 : ((a0.size : Int) != (a1.size : Int)) = true := bne_iff_ne.mpr c3
    have c3b2 : (a0.size == a1.size) = false := by first | simpa using c3 | (simp at c3 ⊢; omega)
    obtain rfl := Option.some.inj H
    go_enter Tryd.func40, Tryd.ntmps40
    go_wp2
    repeat (go_quiet (fail); try go_wp2)
    go_ret
    exact ⟨by first | rfl | (simp; done) | (rw [prx_ne]; first | done | rfl) | (simp [*]; done), by repeat (first | exact Drawn0.refl _ | apply Drawn0.step)⟩
def spec_TypeAhead.l0 : Nat → ByteArray → Int → Int → Option (ByteArray)
  | 0, _, _, _ => none
  | k + 1, x0, x5, x6 => if x6 < x5 then (if 0 ≤ x6 then (if x6 < (x0.size : Int) then (if (bt x0 x6) = 32 then (if x6 ≤ (x0.size : Int) then (some (x0.extract 0 (x6 : Int).toNat)) else (none)) else (if (bt x0 x6) = 59 then (if x6 ≤ (x0.size : Int) then (some (x0.extract 0 (x6 : Int).toNat)) else (none)) else (spec_TypeAhead.l0 k x0 x5 (wrap64 (x6 + 1))))) else (none)) else (none)) else (some x0)
def spec_TypeAhead.f (k : Nat) (a0 : ByteArray) : Option (ByteArray) := spec_TypeAhead.l0 k a0 (a0.size : Int) 0
set_option maxHeartbeats 8000000 in
set_option maxRecDepth 100000 in
theorem spec_TypeAhead.calls (k : Nat) (a0 : ByteArray) (r : ByteArray) (w : World) (h : spec_TypeAhead.f k a0 = some r) :
    Calls Tryd.prog 42 #[.string a0] w fun e w' => e = .returned (.string r) ∧ Drawn0 w w' := by
  have H : (spec_TypeAhead.l0 k a0 (a0.size : Int) 0) = some r := h
  clear h
  have H' := Aside0.mk H
  clear H
  go_enter Tryd.func42, Tryd.ntmps42
  go_wp2
  go_loopg [6] k (fun kq v6 w' => ∃ (x6_1 : Int), v6 = .int .i64 x6_1 ∧ Aside0 (spec_TypeAhead.l0 kq a0 (a0.size : Int) x6_1 = some r) ∧ Aside0 (kq ≤ k) ∧ Drawn0 w w')
  case atStart => exact ⟨(0), (by first | rfl | (simp; done) | (rw [prx_ne]; first | done | rfl) | (simp [*]; done)), H', ⟨Nat.le_refl _⟩, by repeat (first | exact Drawn0.refl _ | apply Drawn0.step)⟩
  case round =>
    clear H'
    obtain ⟨x6_1, rfl, HA, HK1, ⟨m1, rfl⟩⟩ := hrel
    cases gk with
    | zero => exact absurd HA.out (by simp [spec_TypeAhead.l0])
    | succ k1 =>
      have H := HA.out
      clear HA
      simp only [spec_TypeAhead.l0] at H
      by_cases c2 : x6_1 < (a0.size : Int)
      · rw [if_pos c2] at H
        have c2b0 : decide (x6_1 < (a0.size : Int)) = true := decide_eq_true c2
        clear c2
        by_cases c3 : 0 ≤ x6_1
        · rw [if_pos c3] at H
          have c3b0 : decide (0 ≤ x6_1) = true := decide_eq_true c3
          clear c3
          by_cases c4 : x6_1 < (a0.size : Int)
          · rw [if_pos c4] at H
            have c4b0 : decide (x6_1 < (a0.size : Int)) = true := decide_eq_true c4
            clear c4
            by_cases c6 : (bt a0 x6_1) = 32
            · rw [if_pos c6] at H
              have c6b0 : ((bt a0 x6_1) == 32) = true := beq_iff_eq.mpr c6
              have c6b1 : ((bt a0 x6_1) != 32) = false := bne_eq_false_iff_eq.mpr c6
              clear c6
              have c7b0 := eq_true (of_decide_eq_true (by first | (with_reducible assumption) | assumption) : 0 ≤ x6_1)
              by_cases c8 : x6_1 ≤ (a0.size : Int)
              · rw [if_pos c8] at H
                have c8b0 := eq_true c8
                have c8b1 : decide (x6_1 ≤ (a0.size : Int)) = true := decide_eq_true c8
                clear c8
                obtain rfl := Option.some.inj H
                have p5 : 0 ≤ (x6_1 : Int) := of_decide_eq_true (by first | (with_reducible assumption) | assumption)
                have q5 : x6_1 < (a0.size : Int) := of_decide_eq_true (by first | (with_reducible assumption) | assumption)
                have hx5 := bt_at a0 x6_1
                replace p5 := eq_true p5
                replace q5 := eq_true q5
                go_wp2
                go_ret
                exact ⟨by first | rfl | (simp; done) | (rw [prx_ne]; first | done | rfl) | (simp [*]; done), by repeat (first | exact Drawn0.refl _ | apply Drawn0.step)⟩
              · rw [if_neg c8] at H
                exact absurd H (by simp)
            · rw [if_neg c6] at H
              have c6b0 : ((bt a0 x6_1) == 32) = false := beq_eq_false_iff_ne.mpr c6
              have c6b1 : ((bt a0 x6_1) != 32) = true := bne_iff_ne.mpr c6
              by_cases c10 : (bt a0 x6_1) = 59
              · rw [if_pos c10] at H
                have c10b0 : ((bt a0 x6_1) == 59) = true := beq_iff_eq.mpr c10
                have c10b1 : ((bt a0 x6_1) != 59) = false := bne_eq_false_iff_eq.mpr c10
                clear c10
                have c11b0 := eq_true (of_decide_eq_true (by first | (with_reducible assumption) | assumption) : 0 ≤ x6_1)
                by_cases c12 : x6_1 ≤ (a0.size : Int)
                · rw [if_pos c12] at H
                  have c12b0 := eq_true c12
                  have c12b1 : decide (x6_1 ≤ (a0.size : Int)) = true := decide_eq_true c12
                  clear c12
                  obtain rfl := Option.some.inj H
                  have p5 : 0 ≤ (x6_1 : Int) := of_decide_eq_true (by first | (with_reducible assumption) | assumption)
                  have q5 : x6_1 < (a0.size : Int) := of_decide_eq_true (by first | (with_reducible assumption) | assumption)
                  have hx5 := bt_at a0 x6_1
                  replace p5 := eq_true p5
                  replace q5 := eq_true q5
                  have p9 : 0 ≤ (x6_1 : Int) := of_decide_eq_true (by first | (with_reducible assumption) | assumption)
                  have q9 : x6_1 < (a0.size : Int) := of_decide_eq_true (by first | (with_reducible assumption) | assumption)
                  have hx9 := bt_at a0 x6_1
                  replace p9 := eq_true p9
                  replace q9 := eq_true q9
                  go_wp2
                  go_ret
                  exact ⟨by first | rfl | (simp; done) | (rw [prx_ne]; first | done | rfl) | (simp [*]; done), by repeat (first | exact Drawn0.refl _ | apply Drawn0.step)⟩
                · rw [if_neg c12] at H
                  exact absurd H (by simp)
              · rw [if_neg c10] at H
                have c10b0 : ((bt a0 x6_1) == 59) = false := beq_eq_false_iff_ne.mpr c10
                have c10b1 : ((bt a0 x6_1) != 59) = true := bne_iff_ne.mpr c10
                have H' := Aside0.mk H
                clear H
                have p5 : 0 ≤ (x6_1 : Int) := of_decide_eq_true (by first | (with_reducible assumption) | assumption)
                have q5 : x6_1 < (a0.size : Int) := of_decide_eq_true (by first | (with_reducible assumption) | assumption)
                have hx5 := bt_at a0 x6_1
                replace p5 := eq_true p5
                replace q5 := eq_true q5
                have p9 : 0 ≤ (x6_1 : Int) := of_decide_eq_true (by first | (with_reducible assumption) | assumption)
                have q9 : x6_1 < (a0.size : Int) := of_decide_eq_true (by first | (with_reducible assumption) | assumption)
                have hx9 := bt_at a0 x6_1
                replace p9 := eq_true p9
                replace q9 := eq_true q9
                go_wp2
                go_roundg k1
                case measure => have := HK1.out; omega
                case rel => exact ⟨(wrap64 (x6_1 + 1)), (by first | rfl | (simp; done) | (rw [prx_ne]; first | done | rfl) | (simp [*]; done)), H', ⟨by have := HK1.out; omega⟩, by repeat (first | exact Drawn0.refl _ | apply Drawn0.step)⟩
          · rw [if_neg c4] at H
            exact absurd H (by simp)
        · rw [if_neg c3] at H
          exact absurd H (by simp)
      · rw [if_neg c2] at H
        have c2b0 : decide (x6_1 < (a0.size : Int)) = false := decide_eq_false c2
        clear c2
        obtain rfl := Option.some.inj H
        go_wp2
        go_ret
        exact ⟨by first | rfl | (simp; done) | (rw [prx_ne]; first | done | rfl) | (simp [*]; done), by repeat (first | exact Drawn0.refl _ | apply Drawn0.step)⟩
def spec_same.l0 : Nat → ByteArray → ByteArray → Int → Int → Option (Bool)
  | 0, _, _, _, _ => none
  | k + 1, x0, x1, x12, x13 => if x13 < x12 then (if 0 ≤ x13 then (if x13 < (x0.size : Int) then ((spec_fold.f (bt x0 x13)).bind fun t276 => (if x13 < (x1.size : Int) then ((spec_fold.f (bt x1 x13)).bind fun t277 => (if t276 = t277 then (spec_same.l0 k x0 x1 x12 (wrap64 (x13 + 1))) else (some false))) else (none))) else (none)) else (none)) else (some true)
def spec_same.f (k : Nat) (a0 : ByteArray) (a1 : ByteArray) : Option (Bool) := if (a0.size : Int) = (a1.size : Int) then (spec_same.l0 k a0 a1 (a0.size : Int) 0) else (some false)
set_option maxHeartbeats 8000000 in
set_option maxRecDepth 100000 in
theorem spec_same.calls (k : Nat) (a0 : ByteArray) (a1 : ByteArray) (r : Bool) (w : World) (h : spec_same.f k a0 a1 = some r) :
    Calls Tryd.prog 72 #[.string a0, .string a1] w fun e w' => e = .returned (.bool r) ∧ Drawn0 w w' := by
  have H : (if (a0.size : Int) = (a1.size : Int) then (spec_same.l0 k a0 a1 (a0.size : Int) 0) else (some false)) = some r := h
  clear h
  by_cases c3 : (a0.size : Int) = (a1.size : Int)
  · rw [if_pos c3] at H
    have c3b0 : ((a0.size : Int) == (a1.size : Int)) = true := beq_iff_eq.mpr c3
    have c3b1 : ((a0.size : Int) != (a1.size : Int)) = false := bne_eq_false_iff_eq.mpr c3
    have c3b2 : (a0.size == a1.size) = true := by first | simpa using c3 | (simp at c3 ⊢; omega)
    clear c3
    have H' := Aside0.mk H
    clear H
    go_enter Tryd.func72, Tryd.ntmps72
    go_wp2
    repeat (go_quiet (fail); try go_wp2)
    go_loopg [13] k (fun kq v13 w' => ∃ (x13_1 : Int), v13 = .int .i64 x13_1 ∧ Aside0 (spec_same.l0 kq a0 a1 (a0.size : Int) x13_1 = some r) ∧ Aside0 (kq ≤ k) ∧ Drawn0 w w')
    case atStart => exact ⟨(0), (by first | rfl | (simp; done) | (rw [prx_ne]; first | done | rfl) | (simp [*]; done)), H', ⟨Nat.le_refl _⟩, by repeat (first | exact Drawn0.refl _ | apply Drawn0.step)⟩
    case round =>
      clear H'
      try clear p2
      try clear c3
      try clear c3b0
      try clear c3b1
      try clear c3b2
      obtain ⟨x13_1, rfl, HA, HK1, ⟨m1, rfl⟩⟩ := hrel
      cases gk with
      | zero => exact absurd HA.out (by simp [spec_same.l0])
      | succ k1 =>
        have H := HA.out
        clear HA
        simp only [spec_same.l0] at H
        by_cases c4 : x13_1 < (a0.size : Int)
        · rw [if_pos c4] at H
          have c4b0 : decide (x13_1 < (a0.size : Int)) = true := decide_eq_true c4
          clear c4
          by_cases c5 : 0 ≤ x13_1
          · rw [if_pos c5] at H
            have c5b0 : decide (0 ≤ x13_1) = true := decide_eq_true c5
            clear c5
            by_cases c6 : x13_1 < (a0.size : Int)
            · rw [if_pos c6] at H
              have c6b0 : decide (x13_1 < (a0.size : Int)) = true := decide_eq_true c6
              clear c6
              replace H := Option.bind_eq_some_iff.mp H
              obtain ⟨t276, A80, H⟩ := H
              replace H : (if x13_1 < (a1.size : Int) then ((spec_fold.f (bt a1 x13_1)).bind fun t277 => (if t276 = t277 then (spec_same.l0 k1 a0 a1 (a0.size : Int) (wrap64 (x13_1 + 1))) else (some false))) else (none)) = some r := H
              have A8 := Aside0.mk A80
              clear A80
              by_cases c9 : x13_1 < (a1.size : Int)
              · rw [if_pos c9] at H
                have c9b0 : decide (x13_1 < (a1.size : Int)) = true := decide_eq_true c9
                clear c9
                replace H := Option.bind_eq_some_iff.mp H
                obtain ⟨t277, A110, H⟩ := H
                replace H : (if t276 = t277 then (spec_same.l0 k1 a0 a1 (a0.size : Int) (wrap64 (x13_1 + 1))) else (some false)) = some r := H
                have A11 := Aside0.mk A110
                clear A110
                by_cases c12 : t276 = t277
                · rw [if_pos c12] at H
                  have c12b0 : (t276 == t277) = true := beq_iff_eq.mpr c12
                  have c12b1 : (t276 != t277) = false := bne_eq_false_iff_eq.mpr c12
                  clear c12
                  have H' := Aside0.mk H
                  clear H
                  have p7 : 0 ≤ (x13_1 : Int) := of_decide_eq_true (by first | (with_reducible assumption) | assumption)
                  have q7 : x13_1 < (a0.size : Int) := of_decide_eq_true (by first | (with_reducible assumption) | assumption)
                  have hx7 := bt_at a0 x13_1
                  replace p7 := eq_true p7
                  replace q7 := eq_true q7
                  go_wp2_with (first | (go_at_call 65; (with_reducible refine (spec_fold.calls (bt a0 x13_1) t276 _ A8.out).mono ?_); rintro e w' ⟨rfl, ⟨nd, rfl⟩⟩; (try first | exact ⟨rfl, _, World.drewN_drewN _ _ _⟩ | exact ⟨rfl, _, Eq.trans (World.drewN_drewN _ _ _) (congrArg (World.drewN _) (Nat.add_assoc _ _ _))⟩); have p10 : 0 ≤ (x13_1 : Int) := of_decide_eq_true (by first | (with_reducible assumption) | assumption); have q10 : x13_1 < (a1.size : Int) := of_decide_eq_true (by first | (with_reducible assumption) | assumption); have hx10 := bt_at a1 x13_1; replace p10 := eq_true p10; replace q10 := eq_true q10) | (go_at_call 65; (with_reducible refine (spec_fold.calls (bt a1 x13_1) t277 _ A11.out).mono ?_); rintro e w' ⟨rfl, ⟨nd, rfl⟩⟩; (try first | exact ⟨rfl, _, World.drewN_drewN _ _ _⟩ | exact ⟨rfl, _, Eq.trans (World.drewN_drewN _ _ _) (congrArg (World.drewN _) (Nat.add_assoc _ _ _))⟩)))
                  repeat (go_quiet (first | (go_at_call 65; (with_reducible refine (spec_fold.calls (bt a0 x13_1) t276 _ A8.out).mono ?_); rintro e w' ⟨rfl, ⟨nd, rfl⟩⟩; (try first | exact ⟨rfl, _, World.drewN_drewN _ _ _⟩ | exact ⟨rfl, _, Eq.trans (World.drewN_drewN _ _ _) (congrArg (World.drewN _) (Nat.add_assoc _ _ _))⟩); have p10 : 0 ≤ (x13_1 : Int) := of_decide_eq_true (by first | (with_reducible assumption) | assumption); have q10 : x13_1 < (a1.size : Int) := of_decide_eq_true (by first | (with_reducible assumption) | assumption); have hx10 := bt_at a1 x13_1; replace p10 := eq_true p10; replace q10 := eq_true q10) | (go_at_call 65; (with_reducible refine (spec_fold.calls (bt a1 x13_1) t277 _ A11.out).mono ?_); rintro e w' ⟨rfl, ⟨nd, rfl⟩⟩; (try first | exact ⟨rfl, _, World.drewN_drewN _ _ _⟩ | exact ⟨rfl, _, Eq.trans (World.drewN_drewN _ _ _) (congrArg (World.drewN _) (Nat.add_assoc _ _ _))⟩))); try go_wp2_with (first | (go_at_call 65; (with_reducible refine (spec_fold.calls (bt a0 x13_1) t276 _ A8.out).mono ?_); rintro e w' ⟨rfl, ⟨nd, rfl⟩⟩; (try first | exact ⟨rfl, _, World.drewN_drewN _ _ _⟩ | exact ⟨rfl, _, Eq.trans (World.drewN_drewN _ _ _) (congrArg (World.drewN _) (Nat.add_assoc _ _ _))⟩); have p10 : 0 ≤ (x13_1 : Int) := of_decide_eq_true (by first | (with_reducible assumption) | assumption); have q10 : x13_1 < (a1.size : Int) := of_decide_eq_true (by first | (with_reducible assumption) | assumption); have hx10 := bt_at a1 x13_1; replace p10 := eq_true p10; replace q10 := eq_true q10) | (go_at_call 65; (with_reducible refine (spec_fold.calls (bt a1 x13_1) t277 _ A11.out).mono ?_); rintro e w' ⟨rfl, ⟨nd, rfl⟩⟩; (try first | exact ⟨rfl, _, World.drewN_drewN _ _ _⟩ | exact ⟨rfl, _, Eq.trans (World.drewN_drewN _ _ _) (congrArg (World.drewN _) (Nat.add_assoc _ _ _))⟩))))
                  go_roundg k1
                  case measure => have := HK1.out; omega
                  case rel => exact ⟨(wrap64 (x13_1 + 1)), (by first | rfl | (simp; done) | (rw [prx_ne]; first | done | rfl) | (simp [*]; done)), H', ⟨by have := HK1.out; omega⟩, by repeat (first | exact Drawn0.refl _ | apply Drawn0.step)⟩
                · rw [if_neg c12] at H
                  have c12b0 : (t276 == t277) = false := beq_eq_false_iff_ne.mpr c12
                  have c12b1 : (t276 != t277) = true := bne_iff_ne.mpr c12
                  obtain rfl := Option.some.inj H
                  have p7 : 0 ≤ (x13_1 : Int) := of_decide_eq_true (by first | (with_reducible assumption) | assumption)
                  have q7 : x13_1 < (a0.size : Int) := of_decide_eq_true (by first | (with_reducible assumption) | assumption)
                  have hx7 := bt_at a0 x13_1
                  replace p7 := eq_true p7
                  replace q7 := eq_true q7
                  go_wp2_with (first | (go_at_call 65; (with_reducible refine (spec_fold.calls (bt a0 x13_1) t276 _ A8.out).mono ?_); rintro e w' ⟨rfl, ⟨nd, rfl⟩⟩; (try first | exact ⟨rfl, _, World.drewN_drewN _ _ _⟩ | exact ⟨rfl, _, Eq.trans (World.drewN_drewN _ _ _) (congrArg (World.drewN _) (Nat.add_assoc _ _ _))⟩); have p10 : 0 ≤ (x13_1 : Int) := of_decide_eq_true (by first | (with_reducible assumption) | assumption); have q10 : x13_1 < (a1.size : Int) := of_decide_eq_true (by first | (with_reducible assumption) | assumption); have hx10 := bt_at a1 x13_1; replace p10 := eq_true p10; replace q10 := eq_true q10) | (go_at_call 65; (with_reducible refine (spec_fold.calls (bt a1 x13_1) t277 _ A11.out).mono ?_); rintro e w' ⟨rfl, ⟨nd, rfl⟩⟩; (try first | exact ⟨rfl, _, World.drewN_drewN _ _ _⟩ | exact ⟨rfl, _, Eq.trans (World.drewN_drewN _ _ _) (congrArg (World.drewN _) (Nat.add_assoc _ _ _))⟩)))
                  repeat (go_quiet (first | (go_at_call 65; (with_reducible refine (spec_fold.calls (bt a0 x13_1) t276 _ A8.out).mono ?_); rintro e w' ⟨rfl, ⟨nd, rfl⟩⟩; (try first | exact ⟨rfl, _, World.drewN_drewN _ _ _⟩ | exact ⟨rfl, _, Eq.trans (World.drewN_drewN _ _ _) (congrArg (World.drewN _) (Nat.add_assoc _ _ _))⟩); have p10 : 0 ≤ (x13_1 : Int) := of_decide_eq_true (by first | (with_reducible assumption) | assumption); have q10 : x13_1 < (a1.size : Int) := of_decide_eq_true (by first | (with_reducible assumption) | assumption); have hx10 := bt_at a1 x13_1; replace p10 := eq_true p10; replace q10 := eq_true q10) | (go_at_call 65; (with_reducible refine (spec_fold.calls (bt a1 x13_1) t277 _ A11.out).mono ?_); rintro e w' ⟨rfl, ⟨nd, rfl⟩⟩; (try first | exact ⟨rfl, _, World.drewN_drewN _ _ _⟩ | exact ⟨rfl, _, Eq.trans (World.drewN_drewN _ _ _) (congrArg (World.drewN _) (Nat.add_assoc _ _ _))⟩))); try go_wp2_with (first | (go_at_call 65; (with_reducible refine (spec_fold.calls (bt a0 x13_1) t276 _ A8.out).mono ?_); rintro e w' ⟨rfl, ⟨nd, rfl⟩⟩; (try first | exact ⟨rfl, _, World.drewN_drewN _ _ _⟩ | exact ⟨rfl, _, Eq.trans (World.drewN_drewN _ _ _) (congrArg (World.drewN _) (Nat.add_assoc _ _ _))⟩); have p10 : 0 ≤ (x13_1 : Int) := of_decide_eq_true (by first | (with_reducible assumption) | assumption); have q10 : x13_1 < (a1.size : Int) := of_decide_eq_true (by first | (with_reducible assumption) | assumption); have hx10 := bt_at a1 x13_1; replace p10 := eq_true p10; replace q10 := eq_true q10) | (go_at_call 65; (with_reducible refine (spec_fold.calls (bt a1 x13_1) t277 _ A11.out).mono ?_); rintro e w' ⟨rfl, ⟨nd, rfl⟩⟩; (try first | exact ⟨rfl, _, World.drewN_drewN _ _ _⟩ | exact ⟨rfl, _, Eq.trans (World.drewN_drewN _ _ _) (congrArg (World.drewN _) (Nat.add_assoc _ _ _))⟩))))
                  go_ret
                  exact ⟨by first | rfl | (simp; done) | (rw [prx_ne]; first | done | rfl) | (simp [*]; done), by repeat (first | exact Drawn0.refl _ | apply Drawn0.step)⟩
              · rw [if_neg c9] at H
                exact absurd H (by simp)
            · rw [if_neg c6] at H
              exact absurd H (by simp)
          · rw [if_neg c5] at H
            exact absurd H (by simp)
        · rw [if_neg c4] at H
          have c4b0 : decide (x13_1 < (a0.size : Int)) = false := decide_eq_false c4
          clear c4
          obtain rfl := Option.some.inj H
          go_wp2
          repeat (go_quiet (fail); try go_wp2)
          go_ret
          exact ⟨by first | rfl | (simp; done) | (rw [prx_ne]; first | done | rfl) | (simp [*]; done), by repeat (first | exact Drawn0.refl _ | apply Drawn0.step)⟩
  · rw [if_neg c3] at H
    have c3b0 : ((a0.size : Int) == (a1.size : Int)) = false := beq_eq_false_iff_ne.mpr c3
    have c3b1 : ((a0.size : Int) != (a1.size : Int)) = true := bne_iff_ne.mpr c3
    have c3b2 : (a0.size == a1.size) = false := by first | simpa using c3 | (simp at c3 ⊢; omega)
    obtain rfl := Option.some.inj H
    go_enter Tryd.func72, Tryd.ntmps72
    go_wp2
    repeat (go_quiet (fail); try go_wp2)
    go_ret
    exact ⟨by first | rfl | (simp; done) | (rw [prx_ne]; first | done | rfl) | (simp [*]; done), by repeat (first | exact Drawn0.refl _ | apply Drawn0.step)⟩
def spec_TrueText.f (k : Nat) (a0 : ByteArray) : Option (Bool) := (spec_same.f k a0 (⟨#[116, 114, 117, 101]⟩ : ByteArray)).bind fun t278 => (some t278)
set_option maxHeartbeats 8000000 in
set_option maxRecDepth 100000 in
theorem spec_TrueText.calls (k : Nat) (a0 : ByteArray) (r : Bool) (w : World) (h : spec_TrueText.f k a0 = some r) :
    Calls Tryd.prog 43 #[.string a0] w fun e w' => e = .returned (.bool r) ∧ Drawn0 w w' := by
  have H : ((spec_same.f k a0 (⟨#[116, 114, 117, 101]⟩ : ByteArray)).bind fun t278 => (some t278)) = some r := h
  clear h
  replace H := Option.bind_eq_some_iff.mp H
  obtain ⟨t278, A20, H⟩ := H
  replace H : (some t278) = some r := H
  have A2 := Aside0.mk A20
  clear A20
  obtain rfl := Option.some.inj H
  go_enter Tryd.func43, Tryd.ntmps43
  go_wp2_with (first | ((with_reducible refine gate_callee (f := 72) rfl ?_); refine goesL_ (some 4) rfl rfl Tryd.func72 (by kernel_rfl) rfl #[.string a0, .string (⟨#[116, 114, 117, 101]⟩ : ByteArray)] rfl (by (try simp only [List.map_toArray, List.map_cons, List.map_nil]); first | done | rfl | (simp only [List.length_drop, List.length_take]; rfl)) ?_; (with_reducible refine (spec_same.calls k a0 (⟨#[116, 114, 117, 101]⟩ : ByteArray) t278 _ A2.out).mono ?_); rintro e w' ⟨rfl, ⟨nd, rfl⟩⟩; refine ⟨_, rfl, ?_⟩))
  go_ret
  exact ⟨by first | rfl | (simp; done) | (rw [prx_ne]; first | done | rfl) | (simp [*]; done), by repeat (first | exact Drawn0.refl _ | apply Drawn0.step)⟩
end Go.Proofs.YtgmjaggkiifdjaaDoor.QA
namespace Go.Proofs.YtgmjaggkiifdjaaDoor.QA
open Go.Proofs.YtgmjaggkiifdjaaDoor.Given
open Go.Proofs.YtgmjaggkiifdjaaDoor.PrX
open Go.RowKit Go.Proofs.YtgmjaggkiifdjaaDoorW.PrintWords Go.Proofs.YtgmjaggkiifdjaaDoorW.PrintLast Go.Proofs.YtgmjaggkiifdjaaDoorW.PrintMore
mutual
def spec_WithPort.l0 : Nat → ByteArray → Bool → Int → Int → Int → Option (ByteArray × Int)
  | 0, _, _, _, _, _ => none
  | k + 1, x0, x1, x6, x9, x10 => if x10 < x9 then (if 0 ≤ x10 then (if x10 < (x0.size : Int) then (if (bt x0 x10) = 58 then (if (bt x0 x10) = 91 then (some ((⟨#[]⟩ : ByteArray), 2)) else (if (bt x0 x10) = 93 then (some ((⟨#[]⟩ : ByteArray), 2)) else (spec_WithPort.l0 k x0 x1 (wrap64 (x6 + 1)) x9 (wrap64 (x10 + 1))))) else (if (bt x0 x10) = 91 then (some ((⟨#[]⟩ : ByteArray), 2)) else (if (bt x0 x10) = 93 then (some ((⟨#[]⟩ : ByteArray), 2)) else (spec_WithPort.l0 k x0 x1 x6 x9 (wrap64 (x10 + 1)))))) else (none)) else (none)) else (if x0.toList = ([] : List UInt8) then (spec_WithPort.j1 k x0 x1 x6 true) else (if x6 > 1 then (spec_WithPort.j1 k x0 x1 x6 true) else (if x6 = 1 then (if 0 ≤ (wrap64 ((x0.size : Int) - 1)) then (if (wrap64 ((x0.size : Int) - 1)) < (x0.size : Int) then (spec_WithPort.j1 k x0 x1 x6 ((bt x0 (wrap64 ((x0.size : Int) - 1))) == 58)) else (none)) else (none)) else (spec_WithPort.j1 k x0 x1 x6 false))))
def spec_WithPort.j1 : Nat → ByteArray → Bool → Int → Bool → Option (ByteArray × Int)
  | 0, _, _, _, _ => none
  | k + 1, x0, x1, x6, x47 => if x47 = true then (some ((⟨#[]⟩ : ByteArray), 2)) else (if x6 = 1 then (some (x0, 1)) else (if x1 = true then (if x0.size + 4 ≤ 9223372036854775807 then (some (x0 ++ (⟨#[58, 52, 52, 51]⟩ : ByteArray), 1)) else (none)) else (if x0.size + 3 ≤ 9223372036854775807 then (some (x0 ++ (⟨#[58, 56, 48]⟩ : ByteArray), 1)) else (none))))
end
def spec_WithPort.f (k : Nat) (a0 : ByteArray) (a1 : Bool) : Option (ByteArray × Int) := spec_WithPort.l0 k a0 a1 0 (a0.size : Int) 0
set_option maxHeartbeats 8000000 in
set_option maxRecDepth 100000 in
theorem spec_WithPort.calls (k : Nat) (a0 : ByteArray) (a1 : Bool) (r1 : ByteArray) (r2 : Int) (w : World) (h : spec_WithPort.f k a0 a1 = some (r1, r2)) :
  Calls Tryd.prog 46 #[.string a0, .bool a1] w fun e w' => e = .returned (.tuple #[.string r1, .int .i64 r2]) ∧ Drawn0 w w' := by
 have H : (spec_WithPort.l0 k a0 a1 0 (a0.size : Int) 0) = some (r1, r2) := h
 clear h
 have H' := Aside0.mk H
 clear H
 go_enter Tryd.func46, Tryd.ntmps46
 go_wp2
 go_loopg [6, 10] k (fun kq v6 v10 w' => ∃ (x6_1 : Int) (x10_1 : Int), v6 = .int .i64 x6_1 ∧ v10 = .int .i64 x10_1 ∧ Aside0 (spec_WithPort.l0 kq a0 a1 x6_1 (a0.size : Int) x10_1 = some (r1, r2)) ∧ Aside0 (kq ≤ k) ∧ Drawn0 w w')
 case atStart => exact ⟨(0), (0), (by first | rfl | (simp; done) | (rw [prx_ne]; first | done | rfl) | (simp [*]; done)), (by first | rfl | (simp; done) | (rw [prx_ne]; first | done | rfl) | (simp [*]; done)), H', ⟨Nat.le_refl _⟩, by repeat (first | exact Drawn0.refl _ | apply Drawn0.step)⟩
 case round =>
  clear H'
  try clear p2
  obtain ⟨x6_1, x10_1, rfl, rfl, HA, HK1, ⟨m1, rfl⟩⟩ := hrel
  cases gk with
  | zero => exact absurd HA.out (by simp [spec_WithPort.l0])
  | succ k1 =>
   have H := HA.out
   clear HA
   simp only [spec_WithPort.l0] at H
   by_cases c3 : x10_1 < (a0.size : Int)
   ·rw [if_pos c3] at H
    have c3b0 : decide (x10_1 < (a0.size : Int)) = true := decide_eq_true c3
    clear c3
    by_cases c4 : 0 ≤ x10_1
    ·rw [if_pos c4] at H
     have c4b0 : decide (0 ≤ x10_1) = true := decide_eq_true c4
     clear c4
     by_cases c5 : x10_1 < (a0.size : Int)
     ·rw [if_pos c5] at H
      have c5b0 : decide (x10_1 < (a0.size : Int)) = true := decide_eq_true c5
      clear c5
      by_cases c7 : (bt a0 x10_1) = 58
      ·rw [if_pos c7] at H
       have c7b0 : ((bt a0 x10_1) == 58) = true := beq_iff_eq.mpr c7
       have c7b1 : ((bt a0 x10_1) != 58) = false := bne_eq_false_iff_eq.mpr c7
       clear c7
       by_cases c9 : (bt a0 x10_1) = 91
       ·rw [if_pos c9] at H
        have c9b0 : ((bt a0 x10_1) == 91) = true := beq_iff_eq.mpr c9
        have c9b1 : ((bt a0 x10_1) != 91) = false := bne_eq_false_iff_eq.mpr c9
        clear c9
        simp only [Option.some.injEq, Prod.mk.injEq] at H
        obtain ⟨rfl, rfl⟩ := H
        have p6 : 0 ≤ (x10_1 : Int) := of_decide_eq_true (by first | (with_reducible assumption) | assumption)
        have q6 : x10_1 < (a0.size : Int) := of_decide_eq_true (by first | (with_reducible assumption) | assumption)
        have hx6 := bt_at a0 x10_1
        replace p6 := eq_true p6
        replace q6 := eq_true q6
        have p8 : 0 ≤ (x10_1 : Int) := of_decide_eq_true (by first | (with_reducible assumption) | assumption)
        have q8 : x10_1 < (a0.size : Int) := of_decide_eq_true (by first | (with_reducible assumption) | assumption)
        have hx8 := bt_at a0 x10_1
        replace p8 := eq_true p8
        replace q8 := eq_true q8
        go_wp2
        go_ret2
        exact ⟨by first | rfl | (simp; done) | (rw [prx_ne]; first | done | rfl) | (simp [*]; done), by repeat (first | exact Drawn0.refl _ | apply Drawn0.step)⟩
       ·rw [if_neg c9] at H
        have c9b0 : ((bt a0 x10_1) == 91) = false := beq_eq_false_iff_ne.mpr c9
        have c9b1 : ((bt a0 x10_1) != 91) = true := bne_iff_ne.mpr c9
        by_cases c11 : (bt a0 x10_1) = 93
        ·rw [if_pos c11] at H
         have c11b0 : ((bt a0 x10_1) == 93) = true := beq_iff_eq.mpr c11
         have c11b1 : ((bt a0 x10_1) != 93) = false := bne_eq_false_iff_eq.mpr c11
         clear c11
         simp only [Option.some.injEq, Prod.mk.injEq] at H
         obtain ⟨rfl, rfl⟩ := H
         have p6 : 0 ≤ (x10_1 : Int) := of_decide_eq_true (by first | (with_reducible assumption) | assumption)
         have q6 : x10_1 < (a0.size : Int) := of_decide_eq_true (by first | (with_reducible assumption) | assumption)
         have hx6 := bt_at a0 x10_1
         replace p6 := eq_true p6
         replace q6 := eq_true q6
         have p8 : 0 ≤ (x10_1 : Int) := of_decide_eq_true (by first | (with_reducible assumption) | assumption)
         have q8 : x10_1 < (a0.size : Int) := of_decide_eq_true (by first | (with_reducible assumption) | assumption)
         have hx8 := bt_at a0 x10_1
         replace p8 := eq_true p8
         replace q8 := eq_true q8
         have p10 : 0 ≤ (x10_1 : Int) := of_decide_eq_true (by first | (with_reducible assumption) | assumption)
         have q10 : x10_1 < (a0.size : Int) := of_decide_eq_true (by first | (with_reducible assumption) | assumption)
         have hx10 := bt_at a0 x10_1
         replace p10 := eq_true p10
         replace q10 := eq_true q10
         go_wp2
         go_ret2
         exact ⟨by first | rfl | (simp; done) | (rw [prx_ne]; first | done | rfl) | (simp [*]; done), by repeat (first | exact Drawn0.refl _ | apply Drawn0.step)⟩
        ·rw [if_neg c11] at H
         have c11b0 : ((bt a0 x10_1) == 93) = false := beq_eq_false_iff_ne.mpr c11
         have c11b1 : ((bt a0 x10_1) != 93) = true := bne_iff_ne.mpr c11
         have H' := Aside0.mk H
         clear H
         have p6 : 0 ≤ (x10_1 : Int) := of_decide_eq_true (by first | (with_reducible assumption) | assumption)
         have q6 : x10_1 < (a0.size : Int) := of_decide_eq_true (by first | (with_reducible assumption) | assumption)
         have hx6 := bt_at a0 x10_1
         replace p6 := eq_true p6
         replace q6 := eq_true q6
         have p8 : 0 ≤ (x10_1 : Int) := of_decide_eq_true (by first | (with_reducible assumption) | assumption)
         have q8 : x10_1 < (a0.size : Int) := of_decide_eq_true (by first | (with_reducible assumption) | assumption)
         have hx8 := bt_at a0 x10_1
         replace p8 := eq_true p8
         replace q8 := eq_true q8
         have p10 : 0 ≤ (x10_1 : Int) := of_decide_eq_true (by first | (with_reducible assumption) | assumption)
         have q10 : x10_1 < (a0.size : Int) := of_decide_eq_true (by first | (with_reducible assumption) | assumption)
         have hx10 := bt_at a0 x10_1
         replace p10 := eq_true p10
         replace q10 := eq_true q10
         go_wp2
         go_roundg k1
         case measure => have := HK1.out; omega
         case rel => exact ⟨(wrap64 (x6_1 + 1)), (wrap64 (x10_1 + 1)), (by first | rfl | (simp; done) | (rw [prx_ne]; first | done | rfl) | (simp [*]; done)), (by first | rfl | (simp; done) | (rw [prx_ne]; first | done | rfl) | (simp [*]; done)), H', ⟨by have := HK1.out; omega⟩, by repeat (first | exact Drawn0.refl _ | apply Drawn0.step)⟩
      ·rw [if_neg c7] at H
       have c7b0 : ((bt a0 x10_1) == 58) = false := beq_eq_false_iff_ne.mpr c7
       have c7b1 : ((bt a0 x10_1) != 58) = true := bne_iff_ne.mpr c7
       by_cases c13 : (bt a0 x10_1) = 91
       ·rw [if_pos c13] at H
        have c13b0 : ((bt a0 x10_1) == 91) = true := beq_iff_eq.mpr c13
        have c13b1 : ((bt a0 x10_1) != 91) = false := bne_eq_false_iff_eq.mpr c13
        clear c13
        simp only [Option.some.injEq, Prod.mk.injEq] at H
        obtain ⟨rfl, rfl⟩ := H
        have p6 : 0 ≤ (x10_1 : Int) := of_decide_eq_true (by first | (with_reducible assumption) | assumption)
        have q6 : x10_1 < (a0.size : Int) := of_decide_eq_true (by first | (with_reducible assumption) | assumption)
        have hx6 := bt_at a0 x10_1
        replace p6 := eq_true p6
        replace q6 := eq_true q6
        have p12 : 0 ≤ (x10_1 : Int) := of_decide_eq_true (by first | (with_reducible assumption) | assumption)
        have q12 : x10_1 < (a0.size : Int) := of_decide_eq_true (by first | (with_reducible assumption) | assumption)
        have hx12 := bt_at a0 x10_1
        replace p12 := eq_true p12
        replace q12 := eq_true q12
        go_wp2
        go_ret2
        exact ⟨by first | rfl | (simp; done) | (rw [prx_ne]; first | done | rfl) | (simp [*]; done), by repeat (first | exact Drawn0.refl _ | apply Drawn0.step)⟩
       ·rw [if_neg c13] at H
        have c13b0 : ((bt a0 x10_1) == 91) = false := beq_eq_false_iff_ne.mpr c13
        have c13b1 : ((bt a0 x10_1) != 91) = true := bne_iff_ne.mpr c13
        by_cases c15 : (bt a0 x10_1) = 93
        ·rw [if_pos c15] at H
         have c15b0 : ((bt a0 x10_1) == 93) = true := beq_iff_eq.mpr c15
         have c15b1 : ((bt a0 x10_1) != 93) = false := bne_eq_false_iff_eq.mpr c15
         clear c15
         simp only [Option.some.injEq, Prod.mk.injEq] at H
         obtain ⟨rfl, rfl⟩ := H
         have p6 : 0 ≤ (x10_1 : Int) := of_decide_eq_true (by first | (with_reducible assumption) | assumption)
         have q6 : x10_1 < (a0.size : Int) := of_decide_eq_true (by first | (with_reducible assumption) | assumption)
         have hx6 := bt_at a0 x10_1
         replace p6 := eq_true p6
         replace q6 := eq_true q6
         have p12 : 0 ≤ (x10_1 : Int) := of_decide_eq_true (by first | (with_reducible assumption) | assumption)
         have q12 : x10_1 < (a0.size : Int) := of_decide_eq_true (by first | (with_reducible assumption) | assumption)
         have hx12 := bt_at a0 x10_1
         replace p12 := eq_true p12
         replace q12 := eq_true q12
         have p14 : 0 ≤ (x10_1 : Int) := of_decide_eq_true (by first | (with_reducible assumption) | assumption)
         have q14 : x10_1 < (a0.size : Int) := of_decide_eq_true (by first | (with_reducible assumption) | assumption)
         have hx14 := bt_at a0 x10_1
         replace p14 := eq_true p14
         replace q14 := eq_true q14
         go_wp2
         go_ret2
         exact ⟨by first | rfl | (simp; done) | (rw [prx_ne]; first | done | rfl) | (simp [*]; done), by repeat (first | exact Drawn0.refl _ | apply Drawn0.step)⟩
        ·rw [if_neg c15] at H
         have c15b0 : ((bt a0 x10_1) == 93) = false := beq_eq_false_iff_ne.mpr c15
         have c15b1 : ((bt a0 x10_1) != 93) = true := bne_iff_ne.mpr c15
         have H' := Aside0.mk H
         clear H
         have p6 : 0 ≤ (x10_1 : Int) := of_decide_eq_true (by first | (with_reducible assumption) | assumption)
         have q6 : x10_1 < (a0.size : Int) := of_decide_eq_true (by first | (with_reducible assumption) | assumption)
         have hx6 := bt_at a0 x10_1
         replace p6 := eq_true p6
         replace q6 := eq_true q6
         have p12 : 0 ≤ (x10_1 : Int) := of_decide_eq_true (by first | (with_reducible assumption) | assumption)
         have q12 : x10_1 < (a0.size : Int) := of_decide_eq_true (by first | (with_reducible assumption) | assumption)
         have hx12 := bt_at a0 x10_1
         replace p12 := eq_true p12
         replace q12 := eq_true q12
         have p14 : 0 ≤ (x10_1 : Int) := of_decide_eq_true (by first | (with_reducible assumption) | assumption)
         have q14 : x10_1 < (a0.size : Int) := of_decide_eq_true (by first | (with_reducible assumption) | assumption)
         have hx14 := bt_at a0 x10_1
         replace p14 := eq_true p14
         replace q14 := eq_true q14
         go_wp2
         go_roundg k1
         case measure => have := HK1.out; omega
         case rel => exact ⟨(x6_1), (wrap64 (x10_1 + 1)), (by first | rfl | (simp; done) | (rw [prx_ne]; first | done | rfl) | (simp [*]; done)), (by first | rfl | (simp; done) | (rw [prx_ne]; first | done | rfl) | (simp [*]; done)), H', ⟨by have := HK1.out; omega⟩, by repeat (first | exact Drawn0.refl _ | apply Drawn0.step)⟩
     ·rw [if_neg c5] at H
      exact absurd H (by simp)
    ·rw [if_neg c4] at H
     exact absurd H (by simp)
   ·rw [if_neg c3] at H
    have c3b0 : decide (x10_1 < (a0.size : Int)) = false := decide_eq_false c3
    clear c3
    have HC16 := Aside0.mk H
    clear H
    go_upto_region 10 with (fail)
    go_cut [47] (fun v47 wc => ∃ (kq : Nat) (x47_15 : Bool), v47 = .bool x47_15 ∧ Aside0 (spec_WithPort.j1 kq a0 a1 x6_1 x47_15 = some (r1, r2)) ∧ Aside0 (kq ≤ k1) ∧ Drawn0 w wc)
    case first =>
     have H := HC16.out
     clear HC16
     by_cases c17 : a0.toList = ([] : List UInt8)
     ·rw [if_pos c17] at H
      have c17b0 : (a0.toList == ([] : List UInt8)) = true := beq_iff_eq.mpr c17
      have c17b1 : (a0.toList != ([] : List UInt8)) = false := bne_eq_false_iff_eq.mpr c17
      clear c17
      (first | rw [c17b0] | (simp only [i64_w, i32_w]; rw [c17b0]) | skip)
      have H' := Aside0.mk H
      clear H
      go_wp2
      go_meet
      case rel => exact ⟨_, (true), (by first | rfl | (simp; done) | (rw [prx_ne]; first | done | rfl) | (simp [*]; done)), H', ⟨by have := HK1.out; first | omega | exact Nat.le_refl _⟩, by repeat (first | exact Drawn0.refl _ | apply Drawn0.step)⟩
     ·rw [if_neg c17] at H
      have c17b0 : (a0.toList == ([] : List UInt8)) = false := beq_eq_false_iff_ne.mpr c17
      have c17b1 : (a0.toList != ([] : List UInt8)) = true := bne_iff_ne.mpr c17
      (first | rw [c17b0] | (simp only [i64_w, i32_w]; rw [c17b0]) | skip)
      by_cases c18 : x6_1 > 1
      ·rw [if_pos c18] at H
       have c18b0 : decide (1 < x6_1) = true := decide_eq_true c18
       clear c18
       have H' := Aside0.mk H
       clear H
       go_wp2
       go_meet
       case rel => exact ⟨_, (true), (by first | rfl | (simp; done) | (rw [prx_ne]; first | done | rfl) | (simp [*]; done)), H', ⟨by have := HK1.out; first | omega | exact Nat.le_refl _⟩, by repeat (first | exact Drawn0.refl _ | apply Drawn0.step)⟩
      ·rw [if_neg c18] at H
       have c18b0 : decide (1 < x6_1) = false := decide_eq_false c18
       clear c18
       by_cases c19 : x6_1 = 1
       ·rw [if_pos c19] at H
        have c19b0 : (x6_1 == 1) = true := beq_iff_eq.mpr c19
        have c19b1 : (x6_1 != 1) = false := bne_eq_false_iff_eq.mpr c19
        clear c19
        obtain ⟨ji20, hji20⟩ : ∃ j_ : Int, (wrap64 ((a0.size : Int) - 1)) = j_ := ⟨_, rfl⟩
        replace H : (if 0 ≤ (ji20) then (if (ji20) < (a0.size : Int) then (spec_WithPort.j1 k1 a0 a1 x6_1 ((bt a0 (ji20)) == 58)) else (none)) else (none)) = some (r1, r2) := by first | (rw [hji20] at H; exact H) | (simp only [hji20] at H ⊢; exact H)
        have hji20w : (IntKind.i64.wrap ((a0.size : Int) - 1)) = ji20 := (i64_w _).trans hji20
        by_cases c21 : 0 ≤ (ji20)
        ·rw [if_pos c21] at H
         have c21b0 : decide (0 ≤ (ji20)) = true := decide_eq_true c21
         clear c21
         by_cases c22 : (ji20) < (a0.size : Int)
         ·rw [if_pos c22] at H
          have c22b0 : decide ((ji20) < (a0.size : Int)) = true := decide_eq_true c22
          clear c22
          have H' := Aside0.mk H
          clear H
          have p23 : 0 ≤ ((ji20) : Int) := of_decide_eq_true (by first | (with_reducible assumption) | assumption)
          have q23 : (ji20) < (a0.size : Int) := of_decide_eq_true (by first | (with_reducible assumption) | assumption)
          have hx23 := bt_at a0 (ji20)
          replace p23 := eq_true p23
          replace q23 := eq_true q23
          go_wp2
          go_meet
          case rel => exact ⟨_, (((bt a0 (ji20)) == 58)), (by first | rfl | (simp; done) | (simp only [← hji20] <;> (first | rfl | simp)) | (rw [prx_ne]; first | done | rfl) | (simp [*]; done)), H', ⟨by have := HK1.out; first | omega | exact Nat.le_refl _⟩, by repeat (first | exact Drawn0.refl _ | apply Drawn0.step)⟩
         ·rw [if_neg c22] at H
          exact absurd H (by simp)
        ·rw [if_neg c21] at H
         exact absurd H (by simp)
       ·rw [if_neg c19] at H
        have c19b0 : (x6_1 == 1) = false := beq_eq_false_iff_ne.mpr c19
        have c19b1 : (x6_1 != 1) = true := bne_iff_ne.mpr c19
        have H' := Aside0.mk H
        clear H
        go_wp2
        go_meet
        case rel => exact ⟨_, (false), (by first | rfl | (simp; done) | (rw [prx_ne]; first | done | rfl) | (simp [*]; done)), H', ⟨by have := HK1.out; first | omega | exact Nat.le_refl _⟩, by repeat (first | exact Drawn0.refl _ | apply Drawn0.step)⟩
    case rest =>
     clear HC16
     try clear c1
     try clear p1
     try clear q1
     try clear hx1
     try clear c2
     try clear p2
     try clear q2
     try clear hx2
     try clear c3
     try clear c3b0
     try clear c4
     try clear c4b0
     try clear c5
     try clear c5b0
     try clear p6
     try clear q6
     try clear hx6
     try clear c7
     try clear c7b0
     try clear c7b1
     try clear p8
     try clear q8
     try clear hx8
     try clear c9
     try clear c9b0
     try clear c9b1
     try clear p10
     try clear q10
     try clear hx10
     try clear c11
     try clear c11b0
     try clear c11b1
     try clear p12
     try clear q12
     try clear hx12
     try clear c13
     try clear c13b0
     try clear c13b1
     try clear p14
     try clear q14
     try clear hx14
     try clear c15
     try clear c15b0
     try clear c15b1
     try clear c17
     try clear c17b0
     try clear c17b1
     try clear c18
     try clear c18b0
     try clear c19
     try clear c19b0
     try clear c19b1
     try clear c21
     try clear c21b0
     try clear c22
     try clear c22b0
     try clear p23
     try clear q23
     try clear hx23
     try clear p10
     try clear p12
     try clear p14
     try clear p2
     try clear p23
     try clear p6
     try clear p8
     try clear q10
     try clear q12
     try clear q14
     try clear q23
     try clear q6
     try clear q8
     obtain ⟨kq, x47_15, rfl, HA, HJ15, ⟨mc15, rfl⟩⟩ := hcut
     cases kq with
     | zero => exact absurd HA.out (by simp [spec_WithPort.j1])
     | succ kj15 =>
      have H := HA.out
      clear HA
      simp only [spec_WithPort.j1] at H
      by_cases c24 : x47_15 = true
      ·subst c24
       have H1 : (some ((⟨#[]⟩ : ByteArray), 2)) = some (r1, r2) := by rw [if_pos rfl] at H; exact H
       clear H
       have H := H1
       clear H1
       simp only [Option.some.injEq, Prod.mk.injEq] at H
       obtain ⟨rfl, rfl⟩ := H
       go_wp2
       go_ret2
       exact ⟨by first | rfl | (simp; done) | (rw [prx_ne]; first | done | rfl) | (simp [*]; done), by repeat (first | exact Drawn0.refl _ | apply Drawn0.step)⟩
      ·replace c24 := Bool.eq_false_iff.mpr c24
       subst c24
       have H1 : (if x6_1 = 1 then (some (a0, 1)) else (if a1 = true then (if a0.size + 4 ≤ 9223372036854775807 then (some (a0 ++ (⟨#[58, 52, 52, 51]⟩ : ByteArray), 1)) else (none)) else (if a0.size + 3 ≤ 9223372036854775807 then (some (a0 ++ (⟨#[58, 56, 48]⟩ : ByteArray), 1)) else (none)))) = some (r1, r2) := by rw [if_neg (show ¬ (false = true) by decide)] at H; exact H
       clear H
       have H := H1
       clear H1
       by_cases c25 : x6_1 = 1
       ·rw [if_pos c25] at H
        have c25b0 : (x6_1 == 1) = true := beq_iff_eq.mpr c25
        have c25b1 : (x6_1 != 1) = false := bne_eq_false_iff_eq.mpr c25
        clear c25
        simp only [Option.some.injEq, Prod.mk.injEq] at H
        obtain ⟨rfl, rfl⟩ := H
        go_wp2
        go_ret2
        exact ⟨by first | rfl | (simp; done) | (rw [prx_ne]; first | done | rfl) | (simp [*]; done), by repeat (first | exact Drawn0.refl _ | apply Drawn0.step)⟩
       ·rw [if_neg c25] at H
        have c25b0 : (x6_1 == 1) = false := beq_eq_false_iff_ne.mpr c25
        have c25b1 : (x6_1 != 1) = true := bne_iff_ne.mpr c25
        by_cases c26 : a1 = true
        ·subst c26
         have H1 : (if a0.size + 4 ≤ 9223372036854775807 then (some (a0 ++ (⟨#[58, 52, 52, 51]⟩ : ByteArray), 1)) else (none)) = some (r1, r2) := by rw [if_pos rfl] at H; exact H
         clear H
         have H := H1
         clear H1
         by_cases c27 : a0.size + 4 ≤ 9223372036854775807
         ·rw [if_pos c27] at H
          have c27b0 := eq_true c27
          have c27b1 : decide (a0.size + 4 ≤ 9223372036854775807) = true := decide_eq_true c27
          try have c27b2 : (9223372036854775807 < a0.size + 4) = False := eq_false (Nat.not_lt.2 c27)
          try (have c27b3 := c27; simp only [ByteArray.size_append, prx_sz, List.length_cons, List.length_nil] at c27b3)
          simp only [Option.some.injEq, Prod.mk.injEq] at H
          obtain ⟨rfl, rfl⟩ := H
          go_wp2
          go_ret2
          exact ⟨by first | rfl | (simp; done) | (rw [prx_ne]; first | done | rfl) | (simp [*]; done), by repeat (first | exact Drawn0.refl _ | apply Drawn0.step)⟩
         ·rw [if_neg c27] at H
          exact absurd H (by simp)
        ·replace c26 := Bool.eq_false_iff.mpr c26
         subst c26
         have H1 : (if a0.size + 3 ≤ 9223372036854775807 then (some (a0 ++ (⟨#[58, 56, 48]⟩ : ByteArray), 1)) else (none)) = some (r1, r2) := by rw [if_neg (show ¬ (false = true) by decide)] at H; exact H
         clear H
         have H := H1
         clear H1
         by_cases c28 : a0.size + 3 ≤ 9223372036854775807
         ·rw [if_pos c28] at H
          have c28b0 := eq_true c28
          have c28b1 : decide (a0.size + 3 ≤ 9223372036854775807) = true := decide_eq_true c28
          try have c28b2 : (9223372036854775807 < a0.size + 3) = False := eq_false (Nat.not_lt.2 c28)
          try (have c28b3 := c28; simp only [ByteArray.size_append, prx_sz, List.length_cons, List.length_nil] at c28b3)
          simp only [Option.some.injEq, Prod.mk.injEq] at H
          obtain ⟨rfl, rfl⟩ := H
          go_wp2
          go_ret2
          exact ⟨by first | rfl | (simp; done) | (rw [prx_ne]; first | done | rfl) | (simp [*]; done), by repeat (first | exact Drawn0.refl _ | apply Drawn0.step)⟩
         ·rw [if_neg c28] at H
          exact absurd H (by simp)
end Go.Proofs.YtgmjaggkiifdjaaDoor.QA
namespace Go.Proofs.YtgmjaggkiifdjaaDoor.QA
open Go.Proofs.YtgmjaggkiifdjaaDoor.Given
open Go.Proofs.YtgmjaggkiifdjaaDoor.PrX
open Go.RowKit Go.Proofs.YtgmjaggkiifdjaaDoorW.PrintWords Go.Proofs.YtgmjaggkiifdjaaDoorW.PrintLast Go.Proofs.YtgmjaggkiifdjaaDoorW.PrintMore
mutual
def spec_CleanPath.l0 : Nat → ByteArray → List ByteArray → Int → Int → Option (ByteArray)
  | 0, _, _, _, _ => none
  | k + 1, x0, x3, x4, x5 => if x5 ≤ (x0.size : Int) then (if x5 < (x0.size : Int) then (if 0 ≤ x5 then (spec_CleanPath.j1 k x0 x3 x4 x5 ((bt x0 x5) != 47)) else (none)) else (spec_CleanPath.j1 k x0 x3 x4 x5 false)) else (spec_CleanPath.l1 k x0 (⟨#[]⟩ : ByteArray) x3 (x3.length : Int) 0)
def spec_CleanPath.j1 : Nat → ByteArray → List ByteArray → Int → Int → Bool → Option (ByteArray)
  | 0, _, _, _, _, _ => none
  | k + 1, x0, x3, x4, x5, x26 => if x26 = true then (spec_CleanPath.l0 k x0 x3 x4 (wrap64 (x5 + 1))) else (if 0 ≤ x4 then (if x4 ≤ x5 then (if x5 ≤ (x0.size : Int) then (if (x0.extract (x4 : Int).toNat (x5 : Int).toNat).toList = ([] : List UInt8) then (spec_CleanPath.j2 k x0 x3 x5 (x0.extract (x4 : Int).toNat (x5 : Int).toNat) true) else (spec_CleanPath.j2 k x0 x3 x5 (x0.extract (x4 : Int).toNat (x5 : Int).toNat) ((x0.extract (x4 : Int).toNat (x5 : Int).toNat).toList == ([46] : List UInt8)))) else (none)) else (none)) else (none))
def spec_CleanPath.j2 : Nat → ByteArray → List ByteArray → Int → ByteArray → Bool → Option (ByteArray)
  | 0, _, _, _, _, _ => none
  | k + 1, x0, x3, x5, x6, x35 => if x35 = true then (spec_CleanPath.l0 k x0 x3 (wrap64 (x5 + 1)) (wrap64 (x5 + 1))) else (if x6.toList = ([46, 46] : List UInt8) then (if (x3.length : Int) > 0 then (if 0 ≤ (wrap64 ((x3.length : Int) - 1)) then (if (wrap64 ((x3.length : Int) - 1)) ≤ (x3.length : Int) then (spec_CleanPath.l0 k x0 (x3.take ((wrap64 ((x3.length : Int) - 1)) : Int).toNat) (wrap64 (x5 + 1)) (wrap64 (x5 + 1))) else (none)) else (none)) else (spec_CleanPath.l0 k x0 x3 (wrap64 (x5 + 1)) (wrap64 (x5 + 1)))) else (if x3.length < 8796093022208 then (spec_CleanPath.l0 k x0 (x3 ++ [x6]) (wrap64 (x5 + 1)) (wrap64 (x5 + 1))) else (none)))
def spec_CleanPath.l1 : Nat → ByteArray → ByteArray → List ByteArray → Int → Int → Option (ByteArray)
  | 0, _, _, _, _, _ => none
  | k + 1, x0, x7, x55, x56, x57 => if x57 < x56 then (if 0 ≤ x57 then (if x57 < (x55.length : Int) then (if 1 + (rdOf ByteArray.empty x55 x57).size ≤ 9223372036854775807 then (if x7.size + ((⟨#[47]⟩ : ByteArray) ++ (rdOf ByteArray.empty x55 x57)).size ≤ 9223372036854775807 then (spec_CleanPath.l1 k x0 (x7 ++ ((⟨#[47]⟩ : ByteArray) ++ (rdOf ByteArray.empty x55 x57))) x55 x56 (wrap64 (x57 + 1))) else (none)) else (none)) else (none)) else (none)) else (if x7.toList = ([] : List UInt8) then (if x7.size + 1 ≤ 9223372036854775807 then (some (x7 ++ (⟨#[47]⟩ : ByteArray))) else (none)) else (if (x0.size : Int) > 1 then (if 0 ≤ (wrap64 ((x0.size : Int) - 1)) then (if (wrap64 ((x0.size : Int) - 1)) < (x0.size : Int) then (if (bt x0 (wrap64 ((x0.size : Int) - 1))) = 47 then (if x7.size + 1 ≤ 9223372036854775807 then (some (x7 ++ (⟨#[47]⟩ : ByteArray))) else (none)) else (if (bt x0 (wrap64 ((x0.size : Int) - 1))) = 46 then (if 0 ≤ (wrap64 ((x0.size : Int) - 2)) then (if (wrap64 ((x0.size : Int) - 2)) < (x0.size : Int) then (if (bt x0 (wrap64 ((x0.size : Int) - 2))) = 47 then (if x7.size + 1 ≤ 9223372036854775807 then (some (x7 ++ (⟨#[47]⟩ : ByteArray))) else (none)) else (some x7)) else (none)) else (none)) else (some x7))) else (none)) else (none)) else (some x7)))
end
def spec_CleanPath.f (k : Nat) (a0 : ByteArray) : Option (ByteArray) := spec_CleanPath.l0 k a0 ([] : List ByteArray) 0 0
set_option maxHeartbeats 8000000 in
set_option maxRecDepth 100000 in
theorem spec_CleanPath.calls (k : Nat) (a0 : ByteArray) (r : ByteArray) (w : World) (h : spec_CleanPath.f k a0 = some r) :
  Calls Tryd.prog 45 #[.string a0] w fun e w' => e = .returned (.string r) ∧ Below w.heap.size w w' := by
 have HB := Aside0.mk (Below.refl w.heap.size w)
 have H : (spec_CleanPath.l0 k a0 ([] : List ByteArray) 0 0) = some r := h
 clear h
 have H' := Aside0.mk H
 clear H
 go_enter Tryd.func45, Tryd.ntmps45
 go_wp2
 go_loopg [3, 4, 5] k (fun kq v3 v4 v5 w' => ∃ (x3_1 : List ByteArray) (x4_1 : Int) (x5_1 : Int), v4 = .int .i64 x4_1 ∧ v5 = .int .i64 x5_1 ∧ Aside0 (spec_CleanPath.l0 kq a0 x3_1 x4_1 x5_1 = some r) ∧ Aside0 (kq ≤ k) ∧ Aside0 (Kd.R Kd.string 9 w' w.heap.size (fun _ => True) v3 x3_1) ∧ Aside0 (Below w.heap.size w w'))
 case atStart => exact ⟨(([] : List ByteArray)), (0), (0), (by first | rfl | (simp; done) | (rw [prx_ne]; first | done | rfl) | (simp [*]; done)), (by first | rfl | (simp; done) | (rw [prx_ne]; first | done | rfl) | (simp [*]; done)), H', ⟨Nat.le_refl _⟩, ⟨by first | exact Kd.R_nil _ _ _ _ _ | exact Kd.N_nil _ _ _ _ _ | exact Kd.V_nil _ _ _ _ _ | exact Kd.Q_nil _ _ _ _ _ | exact Kd.S_nil _ _ _ _ _⟩, ⟨by repeat (first | (with_reducible first | exact HB.out | apply below_alloc | apply pw_below_drewN | apply below_drew1) | exact HB.out)⟩⟩
 case round =>
  clear H'
  obtain ⟨x3_1, x4_1, x5_1, rfl, rfl, HA, HK1, HO_3, HB⟩ := hrel
  cases gk with
  | zero => exact absurd HA.out (by simp [spec_CleanPath.l0])
  | succ k1 =>
   have H := HA.out
   clear HA
   simp only [spec_CleanPath.l0] at H
   by_cases c2 : x5_1 ≤ (a0.size : Int)
   ·rw [if_pos c2] at H
    have c2b0 : decide (x5_1 ≤ (a0.size : Int)) = true := decide_eq_true c2
    clear c2
    have HC3 := Aside0.mk H
    clear H
    go_upto_region 6 with (fail)
    go_cut [26] (fun v26 wc => ∃ (kq : Nat) (x26_2 : Bool), v26 = .bool x26_2 ∧ Aside0 (spec_CleanPath.j1 kq a0 x3_1 x4_1 x5_1 x26_2 = some r) ∧ Aside0 (kq ≤ k1) ∧ Aside0 (Kd.R Kd.string 9 wc w.heap.size (fun _ => True) u3 x3_1) ∧ Aside0 (Below w.heap.size w wc))
    case first =>
     have H := HC3.out
     clear HC3
     by_cases c4 : x5_1 < (a0.size : Int)
     ·rw [if_pos c4] at H
      have c4b0 : decide (x5_1 < (a0.size : Int)) = true := decide_eq_true c4
      clear c4
      (first | rw [c4b0] | (simp only [i64_w, i32_w]; rw [c4b0]) | skip)
      by_cases c5 : 0 ≤ x5_1
      ·rw [if_pos c5] at H
       have c5b0 : decide (0 ≤ x5_1) = true := decide_eq_true c5
       clear c5
       have H' := Aside0.mk H
       clear H
       have p6 : 0 ≤ (x5_1 : Int) := of_decide_eq_true (by first | (with_reducible assumption) | assumption)
       have q6 : x5_1 < (a0.size : Int) := of_decide_eq_true (by first | (with_reducible assumption) | assumption)
       have hx6 := bt_at a0 x5_1
       replace p6 := eq_true p6
       replace q6 := eq_true q6
       go_wp2
       go_meet
       case rel => exact ⟨_, (((bt a0 x5_1) != 47)), (by first | rfl | (simp; done) | (rw [prx_ne]; first | done | rfl) | (simp [*]; done)), H', ⟨by have := HK1.out; first | omega | exact Nat.le_refl _⟩, ⟨by (with_reducible repeat (first | apply Kd.R_alloc | apply Kd.R_drewN | apply Kd.R_drew)); exact HO_3.out⟩, ⟨by repeat (first | (with_reducible first | exact HB.out | apply below_alloc | apply pw_below_drewN | apply below_drew1) | exact HB.out)⟩⟩
      ·rw [if_neg c5] at H
       exact absurd H (by simp)
     ·rw [if_neg c4] at H
      have c4b0 : decide (x5_1 < (a0.size : Int)) = false := decide_eq_false c4
      clear c4
      (first | rw [c4b0] | (simp only [i64_w, i32_w]; rw [c4b0]) | skip)
      have H' := Aside0.mk H
      clear H
      go_wp2
      go_meet
      case rel => exact ⟨_, (false), (by first | rfl | (simp; done) | (rw [prx_ne]; first | done | rfl) | (simp [*]; done)), H', ⟨by have := HK1.out; first | omega | exact Nat.le_refl _⟩, ⟨by (with_reducible repeat (first | apply Kd.R_alloc | apply Kd.R_drewN | apply Kd.R_drew)); exact HO_3.out⟩, ⟨by repeat (first | (with_reducible first | exact HB.out | apply below_alloc | apply pw_below_drewN | apply below_drew1) | exact HB.out)⟩⟩
    case rest =>
     clear HC3
     try clear c2
     try clear c2b0
     try clear p2
     try clear c4
     try clear c4b0
     try clear c5
     try clear c5b0
     try clear p6
     try clear q6
     try clear hx6
     try clear p6
     try clear q6
     obtain ⟨kq, x26_2, rfl, HA, HJ2, HO_3, HB⟩ := hcut
     cases kq with
     | zero => exact absurd HA.out (by simp [spec_CleanPath.j1])
     | succ kj2 =>
      have H := HA.out
      clear HA
      simp only [spec_CleanPath.j1] at H
      by_cases c7 : x26_2 = true
      ·subst c7
       have H1 : (spec_CleanPath.l0 kj2 a0 x3_1 x4_1 (wrap64 (x5_1 + 1))) = some r := by rw [if_pos rfl] at H; exact H
       clear H
       have H := H1
       clear H1
       have H' := Aside0.mk H
       clear H
       go_wp2
       go_roundg kj2
       case measure => have := HK1.out; have := HJ2.out; omega
       case rel => exact ⟨(x3_1), (x4_1), (wrap64 (x5_1 + 1)), (by first | rfl | (simp; done) | (rw [prx_ne]; first | done | rfl) | (simp [*]; done)), (by first | rfl | (simp; done) | (rw [prx_ne]; first | done | rfl) | (simp [*]; done)), H', ⟨by have := HK1.out; have := HJ2.out; omega⟩, ⟨by (with_reducible repeat (first | apply Kd.R_alloc | apply Kd.R_drewN | apply Kd.R_drew)); exact HO_3.out⟩, ⟨by repeat (first | (with_reducible first | exact HB.out | apply below_alloc | apply pw_below_drewN | apply below_drew1) | exact HB.out)⟩⟩
      ·replace c7 := Bool.eq_false_iff.mpr c7
       subst c7
       have H1 : (if 0 ≤ x4_1 then (if x4_1 ≤ x5_1 then (if x5_1 ≤ (a0.size : Int) then (if (a0.extract (x4_1 : Int).toNat (x5_1 : Int).toNat).toList = ([] : List UInt8) then (spec_CleanPath.j2 kj2 a0 x3_1 x5_1 (a0.extract (x4_1 : Int).toNat (x5_1 : Int).toNat) true) else (spec_CleanPath.j2 kj2 a0 x3_1 x5_1 (a0.extract (x4_1 : Int).toNat (x5_1 : Int).toNat) ((a0.extract (x4_1 : Int).toNat (x5_1 : Int).toNat).toList == ([46] : List UInt8)))) else (none)) else (none)) else (none)) = some r := by rw [if_neg (show ¬ (false = true) by decide)] at H; exact H
       clear H
       have H := H1
       clear H1
       by_cases c8 : 0 ≤ x4_1
       ·rw [if_pos c8] at H
        have c8b0 := eq_true c8
        have c8b1 : decide (0 ≤ x4_1) = true := decide_eq_true c8
        clear c8
        by_cases c9 : x4_1 ≤ x5_1
        ·rw [if_pos c9] at H
         have c9b0 := eq_true c9
         have c9b1 : decide (x4_1 ≤ x5_1) = true := decide_eq_true c9
         clear c9
         by_cases c10 : x5_1 ≤ (a0.size : Int)
         ·rw [if_pos c10] at H
          have c10b0 := eq_true c10
          have c10b1 : decide (x5_1 ≤ (a0.size : Int)) = true := decide_eq_true c10
          clear c10
          have HC11 := Aside0.mk H
          clear H
          go_upto_region 9 with (fail)
          go_cut [35] (fun v35 wc => ∃ (kq : Nat) (x35_10 : Bool), v35 = .bool x35_10 ∧ Aside0 (spec_CleanPath.j2 kq a0 x3_1 x5_1 (a0.extract (x4_1 : Int).toNat (x5_1 : Int).toNat) x35_10 = some r) ∧ Aside0 (kq ≤ kj2) ∧ Aside0 (Kd.R Kd.string 9 wc w.heap.size (fun _ => True) u3 x3_1) ∧ Aside0 (Below w.heap.size w wc))
          case first =>
           have H := HC11.out
           clear HC11
           by_cases c12 : (a0.extract (x4_1 : Int).toNat (x5_1 : Int).toNat).toList = ([] : List UInt8)
           ·rw [if_pos c12] at H
            have c12b0 : ((a0.extract (x4_1 : Int).toNat (x5_1 : Int).toNat).toList == ([] : List UInt8)) = true := beq_iff_eq.mpr c12
            have c12b1 : ((a0.extract (x4_1 : Int).toNat (x5_1 : Int).toNat).toList != ([] : List UInt8)) = false := bne_eq_false_iff_eq.mpr c12
            clear c12
            (first | rw [c12b0] | (simp only [i64_w, i32_w]; rw [c12b0]) | skip)
            have H' := Aside0.mk H
            clear H
            go_wp2
            go_meet
            case rel => exact ⟨_, (true), (by first | rfl | (simp; done) | (rw [prx_ne]; first | done | rfl) | (simp [*]; done)), H', ⟨by have := HK1.out; have := HJ2.out; first | omega | exact Nat.le_refl _⟩, ⟨by (with_reducible repeat (first | apply Kd.R_alloc | apply Kd.R_drewN | apply Kd.R_drew)); exact HO_3.out⟩, ⟨by repeat (first | (with_reducible first | exact HB.out | apply below_alloc | apply pw_below_drewN | apply below_drew1) | exact HB.out)⟩⟩
           ·rw [if_neg c12] at H
            have c12b0 : ((a0.extract (x4_1 : Int).toNat (x5_1 : Int).toNat).toList == ([] : List UInt8)) = false := beq_eq_false_iff_ne.mpr c12
            have c12b1 : ((a0.extract (x4_1 : Int).toNat (x5_1 : Int).toNat).toList != ([] : List UInt8)) = true := bne_iff_ne.mpr c12
            (first | rw [c12b0] | (simp only [i64_w, i32_w]; rw [c12b0]) | skip)
            have H' := Aside0.mk H
            clear H
            go_wp2
            go_meet
            case rel => exact ⟨_, (((a0.extract (x4_1 : Int).toNat (x5_1 : Int).toNat).toList == ([46] : List UInt8))), (by first | rfl | (simp; done) | (rw [prx_ne]; first | done | rfl) | (simp [*]; done)), H', ⟨by have := HK1.out; have := HJ2.out; first | omega | exact Nat.le_refl _⟩, ⟨by (with_reducible repeat (first | apply Kd.R_alloc | apply Kd.R_drewN | apply Kd.R_drew)); exact HO_3.out⟩, ⟨by repeat (first | (with_reducible first | exact HB.out | apply below_alloc | apply pw_below_drewN | apply below_drew1) | exact HB.out)⟩⟩
          case rest =>
           clear HC11
           try clear c1
           try clear c2
           try clear c2b0
           try clear p2
           try clear c4
           try clear c4b0
           try clear c5
           try clear c5b0
           try clear p6
           try clear q6
           try clear hx6
           try clear c7
           try clear c8
           try clear c8b0
           try clear c8b1
           try clear c9
           try clear c9b0
           try clear c9b1
           try clear c10
           try clear c10b0
           try clear c10b1
           try clear c12
           try clear c12b0
           try clear c12b1
           try clear p2
           try clear p6
           try clear q6
           obtain ⟨kq, x35_10, rfl, HA, HJ10, HO_3, HB⟩ := hcut
           cases kq with
           | zero => exact absurd HA.out (by simp [spec_CleanPath.j2])
           | succ kj10 =>
            have H := HA.out
            clear HA
            simp only [spec_CleanPath.j2] at H
            by_cases c13 : x35_10 = true
            ·subst c13
             have H1 : (spec_CleanPath.l0 kj10 a0 x3_1 (wrap64 (x5_1 + 1)) (wrap64 (x5_1 + 1))) = some r := by rw [if_pos rfl] at H; exact H
             clear H
             have H := H1
             clear H1
             have H' := Aside0.mk H
             clear H
             go_wp2
             go_roundg kj10
             case measure => have := HK1.out; have := HJ2.out; have := HJ10.out; omega
             case rel => exact ⟨(x3_1), (wrap64 (x5_1 + 1)), (wrap64 (x5_1 + 1)), (by first | rfl | (simp; done) | (rw [prx_ne]; first | done | rfl) | (simp [*]; done)), (by first | rfl | (simp; done) | (rw [prx_ne]; first | done | rfl) | (simp [*]; done)), H', ⟨by have := HK1.out; have := HJ2.out; have := HJ10.out; omega⟩, ⟨by (with_reducible repeat (first | apply Kd.R_alloc | apply Kd.R_drewN | apply Kd.R_drew)); exact HO_3.out⟩, ⟨by repeat (first | (with_reducible first | exact HB.out | apply below_alloc | apply pw_below_drewN | apply below_drew1) | exact HB.out)⟩⟩
            ·replace c13 := Bool.eq_false_iff.mpr c13
             subst c13
             have H1 : (if (a0.extract (x4_1 : Int).toNat (x5_1 : Int).toNat).toList = ([46, 46] : List UInt8) then (if (x3_1.length : Int) > 0 then (if 0 ≤ (wrap64 ((x3_1.length : Int) - 1)) then (if (wrap64 ((x3_1.length : Int) - 1)) ≤ (x3_1.length : Int) then (spec_CleanPath.l0 kj10 a0 (x3_1.take ((wrap64 ((x3_1.length : Int) - 1)) : Int).toNat) (wrap64 (x5_1 + 1)) (wrap64 (x5_1 + 1))) else (none)) else (none)) else (spec_CleanPath.l0 kj10 a0 x3_1 (wrap64 (x5_1 + 1)) (wrap64 (x5_1 + 1)))) else (if x3_1.length < 8796093022208 then (spec_CleanPath.l0 kj10 a0 (x3_1 ++ [(a0.extract (x4_1 : Int).toNat (x5_1 : Int).toNat)]) (wrap64 (x5_1 + 1)) (wrap64 (x5_1 + 1))) else (none))) = some r := by rw [if_neg (show ¬ (false = true) by decide)] at H; exact H
             clear H
             have H := H1
             clear H1
             by_cases c14 : (a0.extract (x4_1 : Int).toNat (x5_1 : Int).toNat).toList = ([46, 46] : List UInt8)
             ·rw [if_pos c14] at H
              have c14b0 : ((a0.extract (x4_1 : Int).toNat (x5_1 : Int).toNat).toList == ([46, 46] : List UInt8)) = true := beq_iff_eq.mpr c14
              have c14b1 : ((a0.extract (x4_1 : Int).toNat (x5_1 : Int).toNat).toList != ([46, 46] : List UInt8)) = false := bne_eq_false_iff_eq.mpr c14
              clear c14
              by_cases c15 : (x3_1.length : Int) > 0
              ·rw [if_pos c15] at H
               have c15b0 : decide (0 < (x3_1.length : Int)) = true := decide_eq_true c15
               have c15b1 : decide (0 < x3_1.length) = true := decide_eq_true (by omega)
               clear c15
               obtain ⟨ji16, hji16⟩ : ∃ j_ : Int, (wrap64 ((x3_1.length : Int) - 1)) = j_ := ⟨_, rfl⟩
               replace H : (if 0 ≤ (ji16) then (if (ji16) ≤ (x3_1.length : Int) then (spec_CleanPath.l0 kj10 a0 (x3_1.take ((ji16) : Int).toNat) (wrap64 (x5_1 + 1)) (wrap64 (x5_1 + 1))) else (none)) else (none)) = some r := by first | (rw [hji16] at H; exact H) | (simp only [hji16] at H ⊢; exact H)
               have hji16w : (IntKind.i64.wrap ((x3_1.length : Int) - 1)) = ji16 := (i64_w _).trans hji16
               by_cases c17 : 0 ≤ (ji16)
               ·rw [if_pos c17] at H
                have c17b0 := eq_true c17
                have c17b1 : decide (0 ≤ (ji16)) = true := decide_eq_true c17
                clear c17
                by_cases c18 : (ji16) ≤ (x3_1.length : Int)
                ·rw [if_pos c18] at H
                 have c18b0 := eq_true c18
                 have c18b1 : decide ((ji16) ≤ (x3_1.length : Int)) = true := decide_eq_true c18
                 clear c18
                 obtain ⟨y279, hy279⟩ : ∃ y_ : List ByteArray, y_ = (x3_1.take ((ji16) : Int).toNat) := ⟨_, rfl⟩
                 replace H : (spec_CleanPath.l0 kj10 a0 y279 (wrap64 (x5_1 + 1)) (wrap64 (x5_1 + 1))) = some r := by first | (rw [hy279]; with_reducible exact H) | (have H2_ := (Option.bind_some _ _).symm.trans H; rw [hy279]; with_reducible exact H2_) | (have H2_ := (Option.bind_some _ _).symm.trans H; with_reducible exact H2_) | with_reducible exact H | (rw [hy279]; exact H) | exact H
                 have Ny279 := Aside0.mk hy279
                 clear hy279
                 have H' := Aside0.mk H
                 clear H
                 obtain ⟨Ao19, co19, eo19⟩ := Kd.R_slice HO_3.out
                 subst eo19
                 have q20 : ((ji16) : Int) ≤ ((x3_1.length : Int) : Int) := of_decide_eq_true (by first | (with_reducible assumption) | assumption)
                 obtain ⟨i020, hi020, _, hsz20, _⟩ := info_parts info9
                 have hcut20 := cut_to (P := Tryd.prog) 35 9 .i64 Tryd.underlying35 hi020 Ao19 x3_1.length co19 (ji16) (of_decide_eq_true (by first | (with_reducible assumption) | assumption)) q20 (Kd.R_reads' HO_3.out).2.1
                 have hr20 := Kd.R_take (m := ((ji16) : Int).toNat) HO_3.out (by omega)
                 have hy20 : y279.length = ((ji16) : Int).toNat := (by rw [Ny279.out, List.length_take]; omega)
                 rw [← Ny279.out] at hr20
                 rw [← hy20] at hr20 hcut20
                 clear hy20 hi020 hsz20 HO_3
                 have HO281 := Aside0.mk hr20
                 clear hr20
                 replace q20 := eq_true q20
                 go_wp2
                 go_roundg kj10
                 case measure => have := HK1.out; have := HJ2.out; have := HJ10.out; omega
                 case rel => exact ⟨(y279), (wrap64 (x5_1 + 1)), (wrap64 (x5_1 + 1)), (by first | rfl | (simp; done) | (rw [prx_ne]; first | done | rfl) | (simp [*]; done)), (by first | rfl | (simp; done) | (rw [prx_ne]; first | done | rfl) | (simp [*]; done)), H', ⟨by have := HK1.out; have := HJ2.out; have := HJ10.out; omega⟩, ⟨by (with_reducible repeat (first | apply Kd.R_alloc | apply Kd.R_drewN | apply Kd.R_drew)); exact HO281.out⟩, ⟨by repeat (first | (with_reducible first | exact HB.out | apply below_alloc | apply pw_below_drewN | apply below_drew1) | exact HB.out)⟩⟩
                ·rw [if_neg c18] at H
                 exact absurd H (by simp)
               ·rw [if_neg c17] at H
                exact absurd H (by simp)
              ·rw [if_neg c15] at H
               have c15b0 : decide (0 < (x3_1.length : Int)) = false := decide_eq_false c15
               have c15b1 : decide (0 < x3_1.length) = false := decide_eq_false (by omega)
               clear c15
               have H' := Aside0.mk H
               clear H
               obtain ⟨Ao21, co21, eo21⟩ := Kd.R_slice HO_3.out
               subst eo21
               go_wp2
               go_roundg kj10
               case measure => have := HK1.out; have := HJ2.out; have := HJ10.out; omega
               case rel => exact ⟨(x3_1), (wrap64 (x5_1 + 1)), (wrap64 (x5_1 + 1)), (by first | rfl | (simp; done) | (rw [prx_ne]; first | done | rfl) | (simp [*]; done)), (by first | rfl | (simp; done) | (rw [prx_ne]; first | done | rfl) | (simp [*]; done)), H', ⟨by have := HK1.out; have := HJ2.out; have := HJ10.out; omega⟩, ⟨by (with_reducible repeat (first | apply Kd.R_alloc | apply Kd.R_drewN | apply Kd.R_drew)); exact HO_3.out⟩, ⟨by repeat (first | (with_reducible first | exact HB.out | apply below_alloc | apply pw_below_drewN | apply below_drew1) | exact HB.out)⟩⟩
             ·rw [if_neg c14] at H
              have c14b0 : ((a0.extract (x4_1 : Int).toNat (x5_1 : Int).toNat).toList == ([46, 46] : List UInt8)) = false := beq_eq_false_iff_ne.mpr c14
              have c14b1 : ((a0.extract (x4_1 : Int).toNat (x5_1 : Int).toNat).toList != ([46, 46] : List UInt8)) = true := bne_iff_ne.mpr c14
              by_cases c22 : x3_1.length < 8796093022208
              ·rw [if_pos c22] at H
               have LMc22 := Aside0.mk c22
               clear c22
               obtain ⟨y282, hy282⟩ : ∃ y_ : List ByteArray, y_ = (x3_1 ++ [(a0.extract (x4_1 : Int).toNat (x5_1 : Int).toNat)]) := ⟨_, rfl⟩
               replace H : (spec_CleanPath.l0 kj10 a0 y282 (wrap64 (x5_1 + 1)) (wrap64 (x5_1 + 1))) = some r := by first | (rw [hy282]; with_reducible exact H) | (have H2_ := (Option.bind_some _ _).symm.trans H; rw [hy282]; with_reducible exact H2_) | (have H2_ := (Option.bind_some _ _).symm.trans H; with_reducible exact H2_) | with_reducible exact H | (rw [hy282]; exact H) | exact H
               have Ny282 := Aside0.mk hy282
               clear hy282
               have H' := Aside0.mk H
               clear H
               go_wp2_with (first | ((with_reducible refine gate_builtin (b := .append) (xs := #[.tmp 31, .tmp 33]) rfl ?_); at_builtin; refine Kd.R_append Kd.string (w0 := w) w.heap.size rfl (.tmp 31) (.tmp 33) 35 9 (.string ⟨#[]⟩) 16 rfl Tryd.underlying35 info9 rfl (by decide) (by omega) u3 x3_1 (a0.extract (x4_1 : Int).toNat (x5_1 : Int).toNat) [.string (a0.extract (x4_1 : Int).toNat (x5_1 : Int).toNat)] (fun _ => True) (fun _ => False) rfl rfl ?aP (fun _ hk => hk.elim) ?aF ?aO ?aB ?aS ?aL ?_; (case aP => exact rfl); (case aB => exact (by repeat (first | (with_reducible first | exact HB.out | apply below_alloc | apply pw_below_drewN | apply below_drew1) | exact HB.out))); (case aF => exact (fun _ _ => trivial)); (case aO => exact (by (with_reducible repeat (first | apply Kd.R_alloc | apply Kd.R_drewN | apply Kd.R_drew)); exact HO_3.out)); (case aS => exact (below_size (by repeat (first | (with_reducible first | exact HB.out | apply below_alloc | apply pw_below_drewN | apply below_drew1) | exact HB.out)))); (case aL => have := LMc22.out; omega); intro v283 w23 ho hb hg hat; rw [← Ny282.out] at ho; have n0_ := Aside0.mk (hb); have n1_ := Aside0.mk (ho); clear HB; clear HO_3; have HB := n0_; have HO284 := n1_; clear n0_ n1_; clear ho hb hg hat))
               go_roundg kj10
               case measure => have := HK1.out; have := HJ2.out; have := HJ10.out; omega
               case rel => exact ⟨(y282), (wrap64 (x5_1 + 1)), (wrap64 (x5_1 + 1)), (by first | rfl | (simp; done) | (rw [prx_ne]; first | done | rfl) | (simp [*]; done)), (by first | rfl | (simp; done) | (rw [prx_ne]; first | done | rfl) | (simp [*]; done)), H', ⟨by have := HK1.out; have := HJ2.out; have := HJ10.out; omega⟩, ⟨by (with_reducible repeat (first | apply Kd.R_alloc | apply Kd.R_drewN | apply Kd.R_drew)); exact HO284.out⟩, ⟨by repeat (first | (with_reducible first | exact HB.out | apply below_alloc | apply pw_below_drewN | apply below_drew1) | exact HB.out)⟩⟩
              ·rw [if_neg c22] at H
               exact absurd H (by simp)
         ·rw [if_neg c10] at H
          exact absurd H (by simp)
        ·rw [if_neg c9] at H
         exact absurd H (by simp)
       ·rw [if_neg c8] at H
        exact absurd H (by simp)
   ·rw [if_neg c2] at H
    have c2b0 : decide (x5_1 ≤ (a0.size : Int)) = false := decide_eq_false c2
    clear c2
    have H' := Aside0.mk H
    clear H
    obtain ⟨Ao24, co24, eo24⟩ := Kd.R_slice HO_3.out
    subst eo24
    go_wp2
    go_loopg [7, 57] k1 (fun kq v7 v57 w' => ∃ (x7_2 : ByteArray) (x57_2 : Int), v7 = .string x7_2 ∧ v57 = .int .i64 x57_2 ∧ Aside0 (spec_CleanPath.l1 kq a0 x7_2 x3_1 (x3_1.length : Int) x57_2 = some r) ∧ Aside0 (kq ≤ k1) ∧ Aside0 (Kd.R Kd.string 9 w' w.heap.size (fun _ => True) (.slice Ao24 x3_1.length co24) x3_1) ∧ Aside0 (Below w.heap.size w w'))
    case atStart => exact ⟨((⟨#[]⟩ : ByteArray)), (0), (by first | rfl | (simp; done) | (rw [prx_ne]; first | done | rfl) | (simp [*]; done)), (by first | rfl | (simp; done) | (rw [prx_ne]; first | done | rfl) | (simp [*]; done)), H', ⟨Nat.le_refl _⟩, ⟨by (with_reducible repeat (first | apply Kd.R_alloc | apply Kd.R_drewN | apply Kd.R_drew)); exact HO_3.out⟩, ⟨by repeat (first | (with_reducible first | exact HB.out | apply below_alloc | apply pw_below_drewN | apply below_drew1) | exact HB.out)⟩⟩
    case round =>
     clear H'
     try clear c1
     try clear c2
     try clear c2b0
     try clear p2
     try clear q2
     try clear c4
     try clear c4b0
     try clear c5
     try clear c5b0
     try clear p6
     try clear q6
     try clear hx6
     try clear c7
     try clear c8
     try clear c8b0
     try clear c8b1
     try clear c9
     try clear c9b0
     try clear c9b1
     try clear c10
     try clear c10b0
     try clear c10b1
     try clear c12
     try clear c12b0
     try clear c12b1
     try clear c13
     try clear c14
     try clear c14b0
     try clear c14b1
     try clear c15
     try clear c15b0
     try clear c15b1
     try clear c17
     try clear c17b0
     try clear c17b1
     try clear c18
     try clear c18b0
     try clear c18b1
     try clear q20
     try clear c22
     try clear p2
     try clear p6
     try clear q20
     try clear q6
     obtain ⟨x7_2, x57_2, rfl, rfl, HA, HK2, HO_55, HB⟩ := hrel
     cases gk with
     | zero => exact absurd HA.out (by simp [spec_CleanPath.l1])
     | succ k2 =>
      have H := HA.out
      clear HA
      simp only [spec_CleanPath.l1] at H
      by_cases c25 : x57_2 < (x3_1.length : Int)
      ·rw [if_pos c25] at H
       have c25b0 : decide (x57_2 < (x3_1.length : Int)) = true := decide_eq_true c25
       clear c25
       by_cases c26 : 0 ≤ x57_2
       ·rw [if_pos c26] at H
        have c26b0 : decide (0 ≤ x57_2) = true := decide_eq_true c26
        clear c26
        by_cases c27 : x57_2 < (x3_1.length : Int)
        ·rw [if_pos c27] at H
         have c27b0 : decide (x57_2 < (x3_1.length : Int)) = true := decide_eq_true c27
         clear c27
         by_cases c28 : 1 + (rdOf ByteArray.empty x3_1 x57_2).size ≤ 9223372036854775807
         ·rw [if_pos c28] at H
          have c28b0 := eq_true c28
          have c28b1 : decide (1 + (rdOf ByteArray.empty x3_1 x57_2).size ≤ 9223372036854775807) = true := decide_eq_true c28
          try have c28b2 : (9223372036854775807 < 1 + (rdOf ByteArray.empty x3_1 x57_2).size) = False := eq_false (Nat.not_lt.2 c28)
          try (have c28b3 := c28; simp only [ByteArray.size_append, prx_sz, List.length_cons, List.length_nil] at c28b3)
          by_cases c29 : x7_2.size + ((⟨#[47]⟩ : ByteArray) ++ (rdOf ByteArray.empty x3_1 x57_2)).size ≤ 9223372036854775807
          ·rw [if_pos c29] at H
           have c29b0 := eq_true c29
           have c29b1 : decide (x7_2.size + ((⟨#[47]⟩ : ByteArray) ++ (rdOf ByteArray.empty x3_1 x57_2)).size ≤ 9223372036854775807) = true := decide_eq_true c29
           try have c29b2 : (9223372036854775807 < x7_2.size + ((⟨#[47]⟩ : ByteArray) ++ (rdOf ByteArray.empty x3_1 x57_2)).size) = False := eq_false (Nat.not_lt.2 c29)
           try (have c29b3 := c29; simp only [ByteArray.size_append, prx_sz, List.length_cons, List.length_nil] at c29b3)
           have H' := Aside0.mk H
           clear H
           have p285 : 0 ≤ (x57_2 : Int) := of_decide_eq_true (by first | (with_reducible assumption) | assumption)
           have q285 : x57_2 < (x3_1.length : Int) := of_decide_eq_true (by first | (with_reducible assumption) | assumption)
           obtain ⟨ad285, e285, hx285_0⟩ := Kd.at_string (Kd.R_reads' HO_55.out).2.2 x57_2 p285 q285
           cases e285
           replace p285 := eq_true p285
           replace q285 := eq_true q285
           go_wp2
           go_roundg k2
           case measure => have := HK1.out; have := HK2.out; omega
           case rel => exact ⟨(x7_2 ++ ((⟨#[47]⟩ : ByteArray) ++ (rdOf ByteArray.empty x3_1 x57_2))), (wrap64 (x57_2 + 1)), (by first | rfl | (simp; done) | (rw [prx_ne]; first | done | rfl) | (simp [*]; done)), (by first | rfl | (simp; done) | (rw [prx_ne]; first | done | rfl) | (simp [*]; done)), H', ⟨by have := HK1.out; have := HK2.out; omega⟩, ⟨by (with_reducible repeat (first | apply Kd.R_alloc | apply Kd.R_drewN | apply Kd.R_drew)); exact HO_55.out⟩, ⟨by repeat (first | (with_reducible first | exact HB.out | apply below_alloc | apply pw_below_drewN | apply below_drew1) | exact HB.out)⟩⟩
          ·rw [if_neg c29] at H
           exact absurd H (by simp)
         ·rw [if_neg c28] at H
          exact absurd H (by simp)
        ·rw [if_neg c27] at H
         exact absurd H (by simp)
       ·rw [if_neg c26] at H
        exact absurd H (by simp)
      ·rw [if_neg c25] at H
       have c25b0 : decide (x57_2 < (x3_1.length : Int)) = false := decide_eq_false c25
       clear c25
       by_cases c30 : x7_2.toList = ([] : List UInt8)
       ·rw [if_pos c30] at H
        have c30b0 : (x7_2.toList == ([] : List UInt8)) = true := beq_iff_eq.mpr c30
        have c30b1 : (x7_2.toList != ([] : List UInt8)) = false := bne_eq_false_iff_eq.mpr c30
        clear c30
        by_cases c31 : x7_2.size + 1 ≤ 9223372036854775807
        ·rw [if_pos c31] at H
         have c31b0 := eq_true c31
         have c31b1 : decide (x7_2.size + 1 ≤ 9223372036854775807) = true := decide_eq_true c31
         try have c31b2 : (9223372036854775807 < x7_2.size + 1) = False := eq_false (Nat.not_lt.2 c31)
         try (have c31b3 := c31; simp only [ByteArray.size_append, prx_sz, List.length_cons, List.length_nil] at c31b3)
         obtain rfl := Option.some.inj H
         go_wp2
         go_ret
         exact ⟨by first | rfl | (simp [errW_none, errW_some] <;> rfl) | (simp [*, errW_none, errW_some] <;> rfl), by repeat (first | (with_reducible first | exact HB.out | apply below_alloc | apply pw_below_drewN | apply below_drew1) | exact HB.out)⟩
        ·rw [if_neg c31] at H
         exact absurd H (by simp)
       ·rw [if_neg c30] at H
        have c30b0 : (x7_2.toList == ([] : List UInt8)) = false := beq_eq_false_iff_ne.mpr c30
        have c30b1 : (x7_2.toList != ([] : List UInt8)) = true := bne_iff_ne.mpr c30
        by_cases c32 : (a0.size : Int) > 1
        ·rw [if_pos c32] at H
         have c32b0 : decide (1 < (a0.size : Int)) = true := decide_eq_true c32
         have c32b1 : decide (1 < a0.size) = true := decide_eq_true (by omega)
         clear c32
         obtain ⟨ji33, hji33⟩ : ∃ j_ : Int, (wrap64 ((a0.size : Int) - 1)) = j_ := ⟨_, rfl⟩
         replace H : (if 0 ≤ (ji33) then (if (ji33) < (a0.size : Int) then (if (bt a0 (ji33)) = 47 then (if x7_2.size + 1 ≤ 9223372036854775807 then (some (x7_2 ++ (⟨#[47]⟩ : ByteArray))) else (none)) else (if (bt a0 (ji33)) = 46 then (if 0 ≤ (wrap64 ((a0.size : Int) - 2)) then (if (wrap64 ((a0.size : Int) - 2)) < (a0.size : Int) then (if (bt a0 (wrap64 ((a0.size : Int) - 2))) = 47 then (if x7_2.size + 1 ≤ 9223372036854775807 then (some (x7_2 ++ (⟨#[47]⟩ : ByteArray))) else (none)) else (some x7_2)) else (none)) else (none)) else (some x7_2))) else (none)) else (none)) = some r := by first | (rw [hji33] at H; exact H) | (simp only [hji33] at H ⊢; exact H)
         have hji33w : (IntKind.i64.wrap ((a0.size : Int) - 1)) = ji33 := (i64_w _).trans hji33
         by_cases c34 : 0 ≤ (ji33)
         ·rw [if_pos c34] at H
          have c34b0 : decide (0 ≤ (ji33)) = true := decide_eq_true c34
          clear c34
          by_cases c35 : (ji33) < (a0.size : Int)
          ·rw [if_pos c35] at H
           have c35b0 : decide ((ji33) < (a0.size : Int)) = true := decide_eq_true c35
           clear c35
           by_cases c37 : (bt a0 (ji33)) = 47
           ·rw [if_pos c37] at H
            have c37b0 : ((bt a0 (ji33)) == 47) = true := beq_iff_eq.mpr c37
            have c37b1 : ((bt a0 (ji33)) != 47) = false := bne_eq_false_iff_eq.mpr c37
            clear c37
            by_cases c38 : x7_2.size + 1 ≤ 9223372036854775807
            ·rw [if_pos c38] at H
             have c38b0 := eq_true c38
             have c38b1 : decide (x7_2.size + 1 ≤ 9223372036854775807) = true := decide_eq_true c38
             try have c38b2 : (9223372036854775807 < x7_2.size + 1) = False := eq_false (Nat.not_lt.2 c38)
             try (have c38b3 := c38; simp only [ByteArray.size_append, prx_sz, List.length_cons, List.length_nil] at c38b3)
             obtain rfl := Option.some.inj H
             have p36 : 0 ≤ ((ji33) : Int) := of_decide_eq_true (by first | (with_reducible assumption) | assumption)
             have q36 : (ji33) < (a0.size : Int) := of_decide_eq_true (by first | (with_reducible assumption) | assumption)
             have hx36 := bt_at a0 (ji33)
             replace p36 := eq_true p36
             replace q36 := eq_true q36
             go_wp2
             go_ret
             exact ⟨by first | rfl | (simp [errW_none, errW_some] <;> rfl) | (simp only [← hji33]; first | rfl | (simp [errW_none, errW_some] <;> rfl)) | (simp [*, errW_none, errW_some] <;> rfl), by repeat (first | (with_reducible first | exact HB.out | apply below_alloc | apply pw_below_drewN | apply below_drew1) | exact HB.out)⟩
            ·rw [if_neg c38] at H
             exact absurd H (by simp)
           ·rw [if_neg c37] at H
            have c37b0 : ((bt a0 (ji33)) == 47) = false := beq_eq_false_iff_ne.mpr c37
            have c37b1 : ((bt a0 (ji33)) != 47) = true := bne_iff_ne.mpr c37
            by_cases c40 : (bt a0 (ji33)) = 46
            ·rw [if_pos c40] at H
             have c40b0 : ((bt a0 (ji33)) == 46) = true := beq_iff_eq.mpr c40
             have c40b1 : ((bt a0 (ji33)) != 46) = false := bne_eq_false_iff_eq.mpr c40
             clear c40
             obtain ⟨ji41, hji41⟩ : ∃ j_ : Int, (wrap64 ((a0.size : Int) - 2)) = j_ := ⟨_, rfl⟩
             replace H : (if 0 ≤ (ji41) then (if (ji41) < (a0.size : Int) then (if (bt a0 (ji41)) = 47 then (if x7_2.size + 1 ≤ 9223372036854775807 then (some (x7_2 ++ (⟨#[47]⟩ : ByteArray))) else (none)) else (some x7_2)) else (none)) else (none)) = some r := by first | (rw [hji41] at H; exact H) | (simp only [hji41] at H ⊢; exact H)
             have hji41w : (IntKind.i64.wrap ((a0.size : Int) - 2)) = ji41 := (i64_w _).trans hji41
             by_cases c42 : 0 ≤ (ji41)
             ·rw [if_pos c42] at H
              have c42b0 : decide (0 ≤ (ji41)) = true := decide_eq_true c42
              clear c42
              by_cases c43 : (ji41) < (a0.size : Int)
              ·rw [if_pos c43] at H
               have c43b0 : decide ((ji41) < (a0.size : Int)) = true := decide_eq_true c43
               clear c43
               by_cases c45 : (bt a0 (ji41)) = 47
               ·rw [if_pos c45] at H
                have c45b0 : ((bt a0 (ji41)) == 47) = true := beq_iff_eq.mpr c45
                have c45b1 : ((bt a0 (ji41)) != 47) = false := bne_eq_false_iff_eq.mpr c45
                clear c45
                by_cases c46 : x7_2.size + 1 ≤ 9223372036854775807
                ·rw [if_pos c46] at H
                 have c46b0 := eq_true c46
                 have c46b1 : decide (x7_2.size + 1 ≤ 9223372036854775807) = true := decide_eq_true c46
                 try have c46b2 : (9223372036854775807 < x7_2.size + 1) = False := eq_false (Nat.not_lt.2 c46)
                 try (have c46b3 := c46; simp only [ByteArray.size_append, prx_sz, List.length_cons, List.length_nil] at c46b3)
                 obtain rfl := Option.some.inj H
                 have p36 : 0 ≤ ((ji33) : Int) := of_decide_eq_true (by first | (with_reducible assumption) | assumption)
                 have q36 : (ji33) < (a0.size : Int) := of_decide_eq_true (by first | (with_reducible assumption) | assumption)
                 have hx36 := bt_at a0 (ji33)
                 replace p36 := eq_true p36
                 replace q36 := eq_true q36
                 have p39 : 0 ≤ ((ji33) : Int) := of_decide_eq_true (by first | (with_reducible assumption) | assumption)
                 have q39 : (ji33) < (a0.size : Int) := of_decide_eq_true (by first | (with_reducible assumption) | assumption)
                 have hx39 := bt_at a0 (ji33)
                 replace p39 := eq_true p39
                 replace q39 := eq_true q39
                 have p44 : 0 ≤ ((ji41) : Int) := of_decide_eq_true (by first | (with_reducible assumption) | assumption)
                 have q44 : (ji41) < (a0.size : Int) := of_decide_eq_true (by first | (with_reducible assumption) | assumption)
                 have hx44 := bt_at a0 (ji41)
                 replace p44 := eq_true p44
                 replace q44 := eq_true q44
                 go_wp2
                 go_ret
                 exact ⟨by first | rfl | (simp [errW_none, errW_some] <;> rfl) | (simp only [← hji33, ← hji41]; first | rfl | (simp [errW_none, errW_some] <;> rfl)) | (simp [*, errW_none, errW_some] <;> rfl), by repeat (first | (with_reducible first | exact HB.out | apply below_alloc | apply pw_below_drewN | apply below_drew1) | exact HB.out)⟩
                ·rw [if_neg c46] at H
                 exact absurd H (by simp)
               ·rw [if_neg c45] at H
                have c45b0 : ((bt a0 (ji41)) == 47) = false := beq_eq_false_iff_ne.mpr c45
                have c45b1 : ((bt a0 (ji41)) != 47) = true := bne_iff_ne.mpr c45
                obtain rfl := Option.some.inj H
                have p36 : 0 ≤ ((ji33) : Int) := of_decide_eq_true (by first | (with_reducible assumption) | assumption)
                have q36 : (ji33) < (a0.size : Int) := of_decide_eq_true (by first | (with_reducible assumption) | assumption)
                have hx36 := bt_at a0 (ji33)
                replace p36 := eq_true p36
                replace q36 := eq_true q36
                have p39 : 0 ≤ ((ji33) : Int) := of_decide_eq_true (by first | (with_reducible assumption) | assumption)
                have q39 : (ji33) < (a0.size : Int) := of_decide_eq_true (by first | (with_reducible assumption) | assumption)
                have hx39 := bt_at a0 (ji33)
                replace p39 := eq_true p39
                replace q39 := eq_true q39
                have p44 : 0 ≤ ((ji41) : Int) := of_decide_eq_true (by first | (with_reducible assumption) | assumption)
                have q44 : (ji41) < (a0.size : Int) := of_decide_eq_true (by first | (with_reducible assumption) | assumption)
                have hx44 := bt_at a0 (ji41)
                replace p44 := eq_true p44
                replace q44 := eq_true q44
                go_wp2
                go_ret
                exact ⟨by first | rfl | (simp [errW_none, errW_some] <;> rfl) | (simp only [← hji33, ← hji41]; first | rfl | (simp [errW_none, errW_some] <;> rfl)) | (simp [*, errW_none, errW_some] <;> rfl), by repeat (first | (with_reducible first | exact HB.out | apply below_alloc | apply pw_below_drewN | apply below_drew1) | exact HB.out)⟩
              ·rw [if_neg c43] at H
               exact absurd H (by simp)
             ·rw [if_neg c42] at H
              exact absurd H (by simp)
            ·rw [if_neg c40] at H
             have c40b0 : ((bt a0 (ji33)) == 46) = false := beq_eq_false_iff_ne.mpr c40
             have c40b1 : ((bt a0 (ji33)) != 46) = true := bne_iff_ne.mpr c40
             obtain rfl := Option.some.inj H
             have p36 : 0 ≤ ((ji33) : Int) := of_decide_eq_true (by first | (with_reducible assumption) | assumption)
             have q36 : (ji33) < (a0.size : Int) := of_decide_eq_true (by first | (with_reducible assumption) | assumption)
             have hx36 := bt_at a0 (ji33)
             replace p36 := eq_true p36
             replace q36 := eq_true q36
             have p39 : 0 ≤ ((ji33) : Int) := of_decide_eq_true (by first | (with_reducible assumption) | assumption)
             have q39 : (ji33) < (a0.size : Int) := of_decide_eq_true (by first | (with_reducible assumption) | assumption)
             have hx39 := bt_at a0 (ji33)
             replace p39 := eq_true p39
             replace q39 := eq_true q39
             go_wp2
             go_ret
             exact ⟨by first | rfl | (simp [errW_none, errW_some] <;> rfl) | (simp only [← hji33]; first | rfl | (simp [errW_none, errW_some] <;> rfl)) | (simp [*, errW_none, errW_some] <;> rfl), by repeat (first | (with_reducible first | exact HB.out | apply below_alloc | apply pw_below_drewN | apply below_drew1) | exact HB.out)⟩
          ·rw [if_neg c35] at H
           exact absurd H (by simp)
         ·rw [if_neg c34] at H
          exact absurd H (by simp)
        ·rw [if_neg c32] at H
         have c32b0 : decide (1 < (a0.size : Int)) = false := decide_eq_false c32
         have c32b1 : decide (1 < a0.size) = false := decide_eq_false (by omega)
         clear c32
         obtain rfl := Option.some.inj H
         go_wp2
         go_ret
         exact ⟨by first | rfl | (simp [errW_none, errW_some] <;> rfl) | (simp [*, errW_none, errW_some] <;> rfl), by repeat (first | (with_reducible first | exact HB.out | apply below_alloc | apply pw_below_drewN | apply below_drew1) | exact HB.out)⟩
end Go.Proofs.YtgmjaggkiifdjaaDoor.QA
namespace Go.Proofs.YtgmjaggkiifdjaaDoor.QA
open Go.Proofs.YtgmjaggkiifdjaaDoor.Given
open Go.Proofs.YtgmjaggkiifdjaaDoor.PrX
open Go.RowKit Go.Proofs.YtgmjaggkiifdjaaDoorW.PrintWords Go.Proofs.YtgmjaggkiifdjaaDoorW.PrintLast Go.Proofs.YtgmjaggkiifdjaaDoorW.PrintMore
def laws_short.l0 : Nat → List ByteArray → List ByteArray → Int → Int → Option (Bool)
  | 0, _, _, _, _ => none
  | k + 1, x0, x5, x6, x7 => if x7 < x6 then (if 0 ≤ x7 then (if x7 < (x5.length : Int) then (if ((rdOf ByteArray.empty x5 x7).size : Int) > 200 then (some false) else (laws_short.l0 k x0 x5 x6 (wrap64 (x7 + 1)))) else (none)) else (none)) else (some (decide ((x0.length : Int) ≤ 60)))
def laws_short.f (k : Nat) (l0 : List ByteArray) : Option (Bool) := laws_short.l0 k l0 l0 (l0.length : Int) 0
set_option maxHeartbeats 8000000 in
set_option maxRecDepth 100000 in
theorem laws_short.calls (k : Nat) (A0 : Option Addr) (c0 : Nat) (l0 : List ByteArray) (r : Bool) (w : World) (hr0 : Kd.C Kd.string w A0 l0.length l0) (hc0 : l0.length ≤ c0) (h : laws_short.f k l0 = some r) :
    Calls Tryd.prog 11 #[.slice A0 l0.length c0] w fun e w' => e = .returned (.bool r) ∧ Drawn0 w w' := by
  have HR0 := Aside0.mk hr0
  have HC0 := Aside0.mk hc0
  clear hr0 hc0
  have H : (laws_short.l0 k l0 l0 (l0.length : Int) 0) = some r := h
  clear h
  have H' := Aside0.mk H
  clear H
  go_enter Tryd.func11, Tryd.ntmps11
  go_wp2
  go_loopg [7] k (fun kq v7 w' => ∃ (x7_1 : Int), v7 = .int .i64 x7_1 ∧ Aside0 (laws_short.l0 kq l0 l0 (l0.length : Int) x7_1 = some r) ∧ Aside0 (kq ≤ k) ∧ Drawn0 w w')
  case atStart => exact ⟨(0), (by first | rfl | (simp; done) | (rw [prx_ne]; first | done | rfl) | (simp [*]; done)), H', ⟨Nat.le_refl _⟩, by repeat (first | exact Drawn0.refl _ | apply Drawn0.step)⟩
  case round =>
    clear H'
    try clear c1
    obtain ⟨x7_1, rfl, HA, HK1, ⟨m1, rfl⟩⟩ := hrel
    cases gk with
    | zero => exact absurd HA.out (by simp [laws_short.l0])
    | succ k1 =>
      have H := HA.out
      clear HA
      simp only [laws_short.l0] at H
      by_cases c2 : x7_1 < (l0.length : Int)
      · rw [if_pos c2] at H
        have c2b0 : decide (x7_1 < (l0.length : Int)) = true := decide_eq_true c2
        clear c2
        by_cases c3 : 0 ≤ x7_1
        · rw [if_pos c3] at H
          have c3b0 : decide (0 ≤ x7_1) = true := decide_eq_true c3
          clear c3
          by_cases c4 : x7_1 < (l0.length : Int)
          · rw [if_pos c4] at H
            have c4b0 : decide (x7_1 < (l0.length : Int)) = true := decide_eq_true c4
            clear c4
            by_cases c5 : ((rdOf ByteArray.empty l0 x7_1).size : Int) > 200
            · rw [if_pos c5] at H
              have c5b0 : decide (200 < ((rdOf ByteArray.empty l0 x7_1).size : Int)) = true := decide_eq_true c5
              have c5b1 : decide (200 < (rdOf ByteArray.empty l0 x7_1).size) = true := decide_eq_true (by omega)
              clear c5
              obtain rfl := Option.some.inj H
              have p101 : 0 ≤ (x7_1 : Int) := of_decide_eq_true (by first | (with_reducible assumption) | assumption)
              have q101 : x7_1 < (l0.length : Int) := of_decide_eq_true (by first | (with_reducible assumption) | assumption)
              obtain ⟨ad101, e101, hx101_0⟩ := Kd.at_string HR0.out x7_1 p101 q101
              cases e101
              replace p101 := eq_true p101
              replace q101 := eq_true q101
              go_wp2
              go_ret
              exact ⟨by first | rfl | (simp; done) | (rw [prx_ne]; first | done | rfl) | (simp [*]; done), by repeat (first | exact Drawn0.refl _ | apply Drawn0.step)⟩
            · rw [if_neg c5] at H
              have c5b0 : decide (200 < ((rdOf ByteArray.empty l0 x7_1).size : Int)) = false := decide_eq_false c5
              have c5b1 : decide (200 < (rdOf ByteArray.empty l0 x7_1).size) = false := decide_eq_false (by omega)
              clear c5
              have H' := Aside0.mk H
              clear H
              have p101 : 0 ≤ (x7_1 : Int) := of_decide_eq_true (by first | (with_reducible assumption) | assumption)
              have q101 : x7_1 < (l0.length : Int) := of_decide_eq_true (by first | (with_reducible assumption) | assumption)
              obtain ⟨ad101, e101, hx101_0⟩ := Kd.at_string HR0.out x7_1 p101 q101
              cases e101
              replace p101 := eq_true p101
              replace q101 := eq_true q101
              go_wp2
              go_roundg k1
              case measure => have := HK1.out; omega
              case rel => exact ⟨(wrap64 (x7_1 + 1)), (by first | rfl | (simp; done) | (rw [prx_ne]; first | done | rfl) | (simp [*]; done)), H', ⟨by have := HK1.out; omega⟩, by repeat (first | exact Drawn0.refl _ | apply Drawn0.step)⟩
          · rw [if_neg c4] at H
            exact absurd H (by simp)
        · rw [if_neg c3] at H
          exact absurd H (by simp)
      · rw [if_neg c2] at H
        have c2b0 : decide (x7_1 < (l0.length : Int)) = false := decide_eq_false c2
        clear c2
        obtain rfl := Option.some.inj H
        go_wp2
        go_ret
        exact ⟨by first | rfl | (simp; done) | (rw [prx_ne]; first | done | rfl) | (simp [*]; done), by repeat (first | exact Drawn0.refl _ | apply Drawn0.step)⟩
end Go.Proofs.YtgmjaggkiifdjaaDoor.QA
