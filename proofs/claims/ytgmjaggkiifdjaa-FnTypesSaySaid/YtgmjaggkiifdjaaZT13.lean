/- Texts of this claim, one behind the other (merged by wip/prune.py of this repo, without what the proof does not use): QA29, QA4, QA5, GAccepts, LSpecType. -/
import Derived.Test.YtgmjaggkiifdjaaZT2
import Derived.Test.YtgmjaggkiifdjaaZT3
import Derived.Test.YtgmjaggkiifdjaaZT4
import Derived.Test.YtgmjaggkiifdjaaZT5
import Derived.Test.YtgmjaggkiifdjaaZT10
import Derived.Test.YtgmjaggkiifdjaaZT12
import Derived.Below
import Derived.BigQuiet
import Derived.Deep.LoopGhost
import Derived.Deep.QuietTactic
import Derived.Defers
import Derived.KernelRfl
import Derived.Laws.BytesArg
import Derived.Laws.OwnMore
import Derived.Laws.RangeAny
import Derived.Laws.RangeString
import Derived.Laws.Slices
import Derived.Lib.ConvBytes
import Derived.Lib.Hide
import Derived.Lib.TrimU
import Derived.Outline
import Derived.OwnWalk
import Derived.Recover
import Derived.RowKit3
import Derived.Tactics
import Derived.Test.YtgmjaggkiifdjaaProg
import Derived.WalkKit
import Derived.WalkLawsBesides
import Derived.WalkSpells
import Derived.WideLaws
set_option linter.unusedVariables false
set_option linter.unusedSimpArgs false
namespace Go.Proofs.Ytgmjaggkiifdjaa.QA
open Go.Proofs.Ytgmjaggkiifdjaa.Given
open Go.Proofs.Ytgmjaggkiifdjaa.PrX
open Go.RowKit Go.Proofs.YtgmjaggkiifdjaaW.PrintWords Go.Proofs.YtgmjaggkiifdjaaW.PrintLast Go.Proofs.YtgmjaggkiifdjaaW.PrintMore
mutual
def spec_AcceptsType.j0 : Nat → ByteArray → ByteArray → ByteArray → ByteArray → Option (Int)
  | 0, _, _, _, _ => none
  | k + 1, x0, x2, x7, x8 => (spec_place.f k x7 47).bind fun t224 => (if t224 < 0 then (spec_AcceptsType.j1 k x0 x2 x7 x8 t224 true) else (if 0 ≤ t224 then (if t224 ≤ (x7.size : Int) then ((spec_starts.f (x7.extract (t224 : Int).toNat x7.size) (⟨#[47, 42]⟩ : ByteArray)).bind fun t225 => (if t225 = true then (spec_AcceptsType.j1 k x0 x2 x7 x8 t224 true) else (if 0 ≤ (wrap64 (t224 + 1)) then (if (wrap64 (t224 + 1)) ≤ (x7.size : Int) then ((spec_place.f k (x7.extract ((wrap64 (t224 + 1)) : Int).toNat x7.size) 47).bind fun t226 => (spec_AcceptsType.j1 k x0 x2 x7 x8 t224 (decide (t226 ≥ 0)))) else (none)) else (none)))) else (none)) else (none)))
def spec_AcceptsType.j1 : Nat → ByteArray → ByteArray → ByteArray → ByteArray → Int → Bool → Option (Int)
  | 0, _, _, _, _, _, _ => none
  | k + 1, x0, x2, x7, x8, x10, x39 => if x39 = true then (some 2) else (if x0.toList = ([42, 47, 42] : List UInt8) then ((spec_ParamsMatch.f k x2 x8).bind fun t227 => (some t227)) else (if x0.toList = x7.toList then ((spec_ParamsMatch.f k x2 x8).bind fun t228 => (some t228)) else (if 0 ≤ x10 then (if x10 ≤ (x7.size : Int) then (if (x7.extract 0 (x10 : Int).toNat).size + 2 ≤ 9223372036854775807 then (if x0.toList = ((x7.extract 0 (x10 : Int).toNat) ++ (⟨#[47, 42]⟩ : ByteArray)).toList then ((spec_ParamsMatch.f k x2 x8).bind fun t229 => (some t229)) else (some 0)) else (none)) else (none)) else (none))))
end
def spec_AcceptsType.f (k : Nat) (a0 : ByteArray) (a1 : ByteArray) (a2 : ByteArray) : Option (Int) := (spec_place.f k a1 59).bind fun t223 => (if t223 ≥ 0 then (if 0 ≤ t223 then (if t223 ≤ (a1.size : Int) then (spec_AcceptsType.j0 k a0 a2 (a1.extract 0 (t223 : Int).toNat) (a1.extract (t223 : Int).toNat a1.size)) else (none)) else (none)) else (spec_AcceptsType.j0 k a0 a2 a1 (⟨#[]⟩ : ByteArray)))
set_option maxHeartbeats 8000000 in
set_option maxRecDepth 100000 in
theorem spec_AcceptsType.calls (k : Nat) (a0 : ByteArray) (a1 : ByteArray) (a2 : ByteArray) (r : Int) (w : World) (h : spec_AcceptsType.f k a0 a1 a2 = some r) :
  Calls Try.prog 19 #[.string a0, .string a1, .string a2] w fun e w' => e = .returned (.int .i64 r) ∧ Below w.heap.size w w' := by
 have HB := Aside0.mk (Below.refl w.heap.size w)
 have H : ((spec_place.f k a1 59).bind fun t223 => (if t223 ≥ 0 then (if 0 ≤ t223 then (if t223 ≤ (a1.size : Int) then (spec_AcceptsType.j0 k a0 a2 (a1.extract 0 (t223 : Int).toNat) (a1.extract (t223 : Int).toNat a1.size)) else (none)) else (none)) else (spec_AcceptsType.j0 k a0 a2 a1 (⟨#[]⟩ : ByteArray)))) = some r := h
 clear h
 replace H := Option.bind_eq_some_iff.mp H
 obtain ⟨t223, A40, H⟩ := H
 replace H : (if t223 ≥ 0 then (if 0 ≤ t223 then (if t223 ≤ (a1.size : Int) then (spec_AcceptsType.j0 k a0 a2 (a1.extract 0 (t223 : Int).toNat) (a1.extract (t223 : Int).toNat a1.size)) else (none)) else (none)) else (spec_AcceptsType.j0 k a0 a2 a1 (⟨#[]⟩ : ByteArray))) = some r := H
 have A4 := Aside0.mk A40
 clear A40
 have HC5 := Aside0.mk H
 clear H
 go_enter Try.func19, Try.ntmps19
 go_upto_if 15 with (first | (go_at_call 24; (with_reducible refine (spec_place.calls k a1 59 t223 _ A4.out).mono ?_); rintro e w' ⟨rfl, ⟨nd, rfl⟩⟩; (try first | exact ⟨rfl, _, World.drewN_drewN _ _ _⟩ | exact ⟨rfl, _, Eq.trans (World.drewN_drewN _ _ _) (congrArg (World.drewN _) (Nat.add_assoc _ _ _))⟩)))
 repeat (go_quiet (first | (go_at_call 24; (with_reducible refine (spec_place.calls k a1 59 t223 _ A4.out).mono ?_); rintro e w' ⟨rfl, ⟨nd, rfl⟩⟩; (try first | exact ⟨rfl, _, World.drewN_drewN _ _ _⟩ | exact ⟨rfl, _, Eq.trans (World.drewN_drewN _ _ _) (congrArg (World.drewN _) (Nat.add_assoc _ _ _))⟩))); go_upto_if 15 with (first | (go_at_call 24; (with_reducible refine (spec_place.calls k a1 59 t223 _ A4.out).mono ?_); rintro e w' ⟨rfl, ⟨nd, rfl⟩⟩; (try first | exact ⟨rfl, _, World.drewN_drewN _ _ _⟩ | exact ⟨rfl, _, Eq.trans (World.drewN_drewN _ _ _) (congrArg (World.drewN _) (Nat.add_assoc _ _ _))⟩))))
 (try simp only [Act.put, List.setIfInBounds_toArray, List.set_cons_zero, List.set_cons_succ])
 go_cut [7, 8] (fun v7 v8 wc => ∃ (kq : Nat) (x7_4 : ByteArray) (x8_4 : ByteArray), v7 = .string x7_4 ∧ v8 = .string x8_4 ∧ Aside0 (spec_AcceptsType.j0 kq a0 a2 x7_4 x8_4 = some r) ∧ Aside0 (kq ≤ k) ∧ Aside0 (Below w.heap.size w wc))
 case first =>
  have H := HC5.out
  clear HC5
  by_cases c6 : t223 ≥ 0
  ·rw [if_pos c6] at H
   have c6b0 : decide (0 ≤ t223) = true := decide_eq_true c6
   clear c6
   (first | rw [c6b0] | (simp only [i64_w, i32_w]; rw [c6b0]) | skip)
   by_cases c7 : 0 ≤ t223
   ·rw [if_pos c7] at H
    have c7b0 := eq_true c7
    have c7b1 : decide (0 ≤ t223) = true := decide_eq_true c7
    clear c7
    by_cases c8 : t223 ≤ (a1.size : Int)
    ·rw [if_pos c8] at H
     have c8b0 := eq_true c8
     have c8b1 : decide (t223 ≤ (a1.size : Int)) = true := decide_eq_true c8
     clear c8
     have c9b0 := eq_true (of_decide_eq_true (by first | (with_reducible assumption) | assumption) : 0 ≤ t223)
     have c10b0 := eq_true (of_decide_eq_true (by first | (with_reducible assumption) | assumption) : t223 ≤ (a1.size : Int))
     have H' := Aside0.mk H
     clear H
     go_wp2
     repeat (go_quiet (fail); try go_wp2)
     go_meet
     case rel => exact ⟨_, (a1.extract 0 (t223 : Int).toNat), (a1.extract (t223 : Int).toNat a1.size), (by first | rfl | (simp; done) | (rw [prx_ne]; first | done | rfl) | (simp [*]; done)), (by first | rfl | (simp; done) | (rw [prx_ne]; first | done | rfl) | (simp [*]; done)), H', ⟨by first | omega | exact Nat.le_refl _⟩, ⟨by repeat (first | (with_reducible first | exact HB.out | apply below_alloc | apply pw_below_drewN | apply below_drew1) | exact HB.out)⟩⟩
    ·rw [if_neg c8] at H
     exact absurd H (by simp)
   ·rw [if_neg c7] at H
    exact absurd H (by simp)
  ·rw [if_neg c6] at H
   have c6b0 : decide (0 ≤ t223) = false := decide_eq_false c6
   clear c6
   (first | rw [c6b0] | (simp only [i64_w, i32_w]; rw [c6b0]) | skip)
   have H' := Aside0.mk H
   clear H
   go_wp2
   repeat (go_quiet (fail); try go_wp2)
   go_meet
   case rel => exact ⟨_, (a1), ((⟨#[]⟩ : ByteArray)), (by first | rfl | (simp; done) | (rw [prx_ne]; first | done | rfl) | (simp [*]; done)), (by first | rfl | (simp; done) | (rw [prx_ne]; first | done | rfl) | (simp [*]; done)), H', ⟨by first | omega | exact Nat.le_refl _⟩, ⟨by repeat (first | (with_reducible first | exact HB.out | apply below_alloc | apply pw_below_drewN | apply below_drew1) | exact HB.out)⟩⟩
 case rest =>
  clear HC5
  try clear c1
  try clear p2
  try clear c6
  try clear c6b0
  try clear c7
  try clear c7b0
  try clear c7b1
  try clear c8
  try clear c8b0
  try clear c8b1
  try clear c9
  try clear c9b0
  try clear c10
  try clear c10b0
  obtain ⟨kq, x7_4, x8_4, rfl, rfl, HA, HJ4, HB⟩ := hcut
  cases kq with
  | zero => exact absurd HA.out (by simp [spec_AcceptsType.j0])
  | succ kj4 =>
   have H := HA.out
   clear HA
   simp only [spec_AcceptsType.j0] at H
   replace H := Option.bind_eq_some_iff.mp H
   obtain ⟨t224, A110, H⟩ := H
   replace H : (if t224 < 0 then (spec_AcceptsType.j1 kj4 a0 a2 x7_4 x8_4 t224 true) else (if 0 ≤ t224 then (if t224 ≤ (x7_4.size : Int) then ((spec_starts.f (x7_4.extract (t224 : Int).toNat x7_4.size) (⟨#[47, 42]⟩ : ByteArray)).bind fun t225 => (if t225 = true then (spec_AcceptsType.j1 kj4 a0 a2 x7_4 x8_4 t224 true) else (if 0 ≤ (wrap64 (t224 + 1)) then (if (wrap64 (t224 + 1)) ≤ (x7_4.size : Int) then ((spec_place.f kj4 (x7_4.extract ((wrap64 (t224 + 1)) : Int).toNat x7_4.size) 47).bind fun t226 => (spec_AcceptsType.j1 kj4 a0 a2 x7_4 x8_4 t224 (decide (t226 ≥ 0)))) else (none)) else (none)))) else (none)) else (none))) = some r := H
   have A11 := Aside0.mk A110
   clear A110
   have HC12 := Aside0.mk H
   clear H
   go_upto_region 6 with (first | (go_at_call 24; (with_reducible refine (spec_place.calls kj4 x7_4 47 t224 _ A11.out).mono ?_); rintro e w' ⟨rfl, ⟨nd, rfl⟩⟩; (try first | exact ⟨rfl, _, World.drewN_drewN _ _ _⟩ | exact ⟨rfl, _, Eq.trans (World.drewN_drewN _ _ _) (congrArg (World.drewN _) (Nat.add_assoc _ _ _))⟩)))
   repeat (go_quiet (first | (go_at_call 24; (with_reducible refine (spec_place.calls kj4 x7_4 47 t224 _ A11.out).mono ?_); rintro e w' ⟨rfl, ⟨nd, rfl⟩⟩; (try first | exact ⟨rfl, _, World.drewN_drewN _ _ _⟩ | exact ⟨rfl, _, Eq.trans (World.drewN_drewN _ _ _) (congrArg (World.drewN _) (Nat.add_assoc _ _ _))⟩))); go_upto_region 6 with (first | (go_at_call 24; (with_reducible refine (spec_place.calls kj4 x7_4 47 t224 _ A11.out).mono ?_); rintro e w' ⟨rfl, ⟨nd, rfl⟩⟩; (try first | exact ⟨rfl, _, World.drewN_drewN _ _ _⟩ | exact ⟨rfl, _, Eq.trans (World.drewN_drewN _ _ _) (congrArg (World.drewN _) (Nat.add_assoc _ _ _))⟩))))
   (try simp only [Act.put, List.setIfInBounds_toArray, List.set_cons_zero, List.set_cons_succ])
   go_cut [39] (fun v39 wc => ∃ (kq : Nat) (x39_11 : Bool), v39 = .bool x39_11 ∧ Aside0 (spec_AcceptsType.j1 kq a0 a2 x7_4 x8_4 t224 x39_11 = some r) ∧ Aside0 (kq ≤ kj4) ∧ Aside0 (Below w.heap.size w wc))
   case first =>
    have H := HC12.out
    clear HC12
    by_cases c13 : t224 < 0
    ·rw [if_pos c13] at H
     have c13b0 : decide (t224 < 0) = true := decide_eq_true c13
     clear c13
     (first | rw [c13b0] | (simp only [i64_w, i32_w]; rw [c13b0]) | skip)
     have H' := Aside0.mk H
     clear H
     go_wp2
     repeat (go_quiet (fail); try go_wp2)
     go_meet
     case rel => exact ⟨_, (true), (by first | rfl | (simp; done) | (rw [prx_ne]; first | done | rfl) | (simp [*]; done)), H', ⟨by have := HJ4.out; first | omega | exact Nat.le_refl _⟩, ⟨by repeat (first | (with_reducible first | exact HB.out | apply below_alloc | apply pw_below_drewN | apply below_drew1) | exact HB.out)⟩⟩
    ·rw [if_neg c13] at H
     have c13b0 : decide (t224 < 0) = false := decide_eq_false c13
     clear c13
     (first | rw [c13b0] | (simp only [i64_w, i32_w]; rw [c13b0]) | skip)
     by_cases c14 : 0 ≤ t224
     ·rw [if_pos c14] at H
      have c14b0 := eq_true c14
      have c14b1 : decide (0 ≤ t224) = true := decide_eq_true c14
      clear c14
      by_cases c15 : t224 ≤ (x7_4.size : Int)
      ·rw [if_pos c15] at H
       have c15b0 := eq_true c15
       have c15b1 : decide (t224 ≤ (x7_4.size : Int)) = true := decide_eq_true c15
       clear c15
       replace H := Option.bind_eq_some_iff.mp H
       obtain ⟨t225, A160, H⟩ := H
       replace H : (if t225 = true then (spec_AcceptsType.j1 kj4 a0 a2 x7_4 x8_4 t224 true) else (if 0 ≤ (wrap64 (t224 + 1)) then (if (wrap64 (t224 + 1)) ≤ (x7_4.size : Int) then ((spec_place.f kj4 (x7_4.extract ((wrap64 (t224 + 1)) : Int).toNat x7_4.size) 47).bind fun t226 => (spec_AcceptsType.j1 kj4 a0 a2 x7_4 x8_4 t224 (decide (t226 ≥ 0)))) else (none)) else (none))) = some r := H
       have A16 := Aside0.mk A160
       clear A160
       by_cases c17 : t225 = true
       ·subst c17
        have H1 : (spec_AcceptsType.j1 kj4 a0 a2 x7_4 x8_4 t224 true) = some r := by rw [if_pos rfl] at H; exact H
        clear H
        have H := H1
        clear H1
        have H' := Aside0.mk H
        clear H
        go_wp2_with (first | (go_at_call 33; (with_reducible refine (spec_starts.calls (x7_4.extract (t224 : Int).toNat x7_4.size) (⟨#[47, 42]⟩ : ByteArray) true _ A16.out).mono ?_); rintro e w' ⟨rfl, ⟨nd, rfl⟩⟩; (try first | exact ⟨rfl, _, World.drewN_drewN _ _ _⟩ | exact ⟨rfl, _, Eq.trans (World.drewN_drewN _ _ _) (congrArg (World.drewN _) (Nat.add_assoc _ _ _))⟩)))
        repeat (go_quiet (first | (go_at_call 33; (with_reducible refine (spec_starts.calls (x7_4.extract (t224 : Int).toNat x7_4.size) (⟨#[47, 42]⟩ : ByteArray) true _ A16.out).mono ?_); rintro e w' ⟨rfl, ⟨nd, rfl⟩⟩; (try first | exact ⟨rfl, _, World.drewN_drewN _ _ _⟩ | exact ⟨rfl, _, Eq.trans (World.drewN_drewN _ _ _) (congrArg (World.drewN _) (Nat.add_assoc _ _ _))⟩))); try go_wp2_with (first | (go_at_call 33; (with_reducible refine (spec_starts.calls (x7_4.extract (t224 : Int).toNat x7_4.size) (⟨#[47, 42]⟩ : ByteArray) true _ A16.out).mono ?_); rintro e w' ⟨rfl, ⟨nd, rfl⟩⟩; (try first | exact ⟨rfl, _, World.drewN_drewN _ _ _⟩ | exact ⟨rfl, _, Eq.trans (World.drewN_drewN _ _ _) (congrArg (World.drewN _) (Nat.add_assoc _ _ _))⟩))))
        go_meet
        case rel => exact ⟨_, (true), (by first | rfl | (simp; done) | (rw [prx_ne]; first | done | rfl) | (simp [*]; done)), H', ⟨by have := HJ4.out; first | omega | exact Nat.le_refl _⟩, ⟨by repeat (first | (with_reducible first | exact HB.out | apply below_alloc | apply pw_below_drewN | apply below_drew1) | exact HB.out)⟩⟩
       ·replace c17 := Bool.eq_false_iff.mpr c17
        subst c17
        have H1 : (if 0 ≤ (wrap64 (t224 + 1)) then (if (wrap64 (t224 + 1)) ≤ (x7_4.size : Int) then ((spec_place.f kj4 (x7_4.extract ((wrap64 (t224 + 1)) : Int).toNat x7_4.size) 47).bind fun t226 => (spec_AcceptsType.j1 kj4 a0 a2 x7_4 x8_4 t224 (decide (t226 ≥ 0)))) else (none)) else (none)) = some r := by rw [if_neg (show ¬ (false = true) by decide)] at H; exact H
        clear H
        have H := H1
        clear H1
        obtain ⟨ji18, hji18⟩ : ∃ j_ : Int, (wrap64 (t224 + 1)) = j_ := ⟨_, rfl⟩
        replace H : (if 0 ≤ (ji18) then (if (ji18) ≤ (x7_4.size : Int) then ((spec_place.f kj4 (x7_4.extract ((ji18) : Int).toNat x7_4.size) 47).bind fun t226 => (spec_AcceptsType.j1 kj4 a0 a2 x7_4 x8_4 t224 (decide (t226 ≥ 0)))) else (none)) else (none)) = some r := by first | (rw [hji18] at H; exact H) | (simp only [hji18] at H ⊢; exact H)
        (try rw [hji18] at A16)
        have hji18w : (IntKind.i64.wrap (t224 + 1)) = ji18 := (i64_w _).trans hji18
        by_cases c19 : 0 ≤ (ji18)
        ·rw [if_pos c19] at H
         have c19b0 := eq_true c19
         have c19b1 : decide (0 ≤ (ji18)) = true := decide_eq_true c19
         clear c19
         by_cases c20 : (ji18) ≤ (x7_4.size : Int)
         ·rw [if_pos c20] at H
          have c20b0 := eq_true c20
          have c20b1 : decide ((ji18) ≤ (x7_4.size : Int)) = true := decide_eq_true c20
          clear c20
          replace H := Option.bind_eq_some_iff.mp H
          obtain ⟨t226, A210, H⟩ := H
          replace H : (spec_AcceptsType.j1 kj4 a0 a2 x7_4 x8_4 t224 (decide (t226 ≥ 0))) = some r := H
          have A21 := Aside0.mk A210
          clear A210
          have H' := Aside0.mk H
          clear H
          go_wp2_with (first | (go_at_call 33; (with_reducible refine (spec_starts.calls (x7_4.extract (t224 : Int).toNat x7_4.size) (⟨#[47, 42]⟩ : ByteArray) false _ A16.out).mono ?_); rintro e w' ⟨rfl, ⟨nd, rfl⟩⟩; (try first | exact ⟨rfl, _, World.drewN_drewN _ _ _⟩ | exact ⟨rfl, _, Eq.trans (World.drewN_drewN _ _ _) (congrArg (World.drewN _) (Nat.add_assoc _ _ _))⟩)) | (go_at_call 24; (with_reducible refine (spec_place.calls kj4 (x7_4.extract ((ji18) : Int).toNat x7_4.size) 47 t226 _ A21.out).mono ?_); rintro e w' ⟨rfl, ⟨nd, rfl⟩⟩; (try first | exact ⟨rfl, _, World.drewN_drewN _ _ _⟩ | exact ⟨rfl, _, Eq.trans (World.drewN_drewN _ _ _) (congrArg (World.drewN _) (Nat.add_assoc _ _ _))⟩)))
          repeat (go_quiet (first | (go_at_call 33; (with_reducible refine (spec_starts.calls (x7_4.extract (t224 : Int).toNat x7_4.size) (⟨#[47, 42]⟩ : ByteArray) false _ A16.out).mono ?_); rintro e w' ⟨rfl, ⟨nd, rfl⟩⟩; (try first | exact ⟨rfl, _, World.drewN_drewN _ _ _⟩ | exact ⟨rfl, _, Eq.trans (World.drewN_drewN _ _ _) (congrArg (World.drewN _) (Nat.add_assoc _ _ _))⟩)) | (go_at_call 24; (with_reducible refine (spec_place.calls kj4 (x7_4.extract ((ji18) : Int).toNat x7_4.size) 47 t226 _ A21.out).mono ?_); rintro e w' ⟨rfl, ⟨nd, rfl⟩⟩; (try first | exact ⟨rfl, _, World.drewN_drewN _ _ _⟩ | exact ⟨rfl, _, Eq.trans (World.drewN_drewN _ _ _) (congrArg (World.drewN _) (Nat.add_assoc _ _ _))⟩))); try go_wp2_with (first | (go_at_call 33; (with_reducible refine (spec_starts.calls (x7_4.extract (t224 : Int).toNat x7_4.size) (⟨#[47, 42]⟩ : ByteArray) false _ A16.out).mono ?_); rintro e w' ⟨rfl, ⟨nd, rfl⟩⟩; (try first | exact ⟨rfl, _, World.drewN_drewN _ _ _⟩ | exact ⟨rfl, _, Eq.trans (World.drewN_drewN _ _ _) (congrArg (World.drewN _) (Nat.add_assoc _ _ _))⟩)) | (go_at_call 24; (with_reducible refine (spec_place.calls kj4 (x7_4.extract ((ji18) : Int).toNat x7_4.size) 47 t226 _ A21.out).mono ?_); rintro e w' ⟨rfl, ⟨nd, rfl⟩⟩; (try first | exact ⟨rfl, _, World.drewN_drewN _ _ _⟩ | exact ⟨rfl, _, Eq.trans (World.drewN_drewN _ _ _) (congrArg (World.drewN _) (Nat.add_assoc _ _ _))⟩))))
          go_meet
          case rel => exact ⟨_, (decide (t226 ≥ 0)), (by first | rfl | (simp; done) | (rw [prx_ne]; first | done | rfl) | (simp [*]; done)), H', ⟨by have := HJ4.out; first | omega | exact Nat.le_refl _⟩, ⟨by repeat (first | (with_reducible first | exact HB.out | apply below_alloc | apply pw_below_drewN | apply below_drew1) | exact HB.out)⟩⟩
         ·rw [if_neg c20] at H
          exact absurd H (by simp)
        ·rw [if_neg c19] at H
         exact absurd H (by simp)
      ·rw [if_neg c15] at H
       exact absurd H (by simp)
     ·rw [if_neg c14] at H
      exact absurd H (by simp)
   case rest =>
    clear HC12
    try clear c1
    try clear c2
    try clear p2
    try clear c6
    try clear c6b0
    try clear p6
    try clear c7
    try clear c7b0
    try clear c7b1
    try clear c8
    try clear c8b0
    try clear c8b1
    try clear c9
    try clear c9b0
    try clear c10
    try clear c10b0
    try clear c13
    try clear c13b0
    try clear c14
    try clear c14b0
    try clear c14b1
    try clear c15
    try clear c15b0
    try clear c15b1
    try clear c17
    try clear c19
    try clear c19b0
    try clear c19b1
    try clear c20
    try clear c20b0
    try clear c20b1
    try clear p2
    obtain ⟨kq, x39_11, rfl, HA, HJ11, HB⟩ := hcut
    cases kq with
    | zero => exact absurd HA.out (by simp [spec_AcceptsType.j1])
    | succ kj11 =>
     have H := HA.out
     clear HA
     simp only [spec_AcceptsType.j1] at H
     by_cases c22 : x39_11 = true
     ·subst c22
      have H1 : (some 2) = some r := by rw [if_pos rfl] at H; exact H
      clear H
      have H := H1
      clear H1
      obtain rfl := Option.some.inj H
      go_wp2
      repeat (go_quiet (fail); try go_wp2)
      go_ret
      exact ⟨by first | rfl | (simp [errW_none, errW_some] <;> rfl) | (simp [*, errW_none, errW_some] <;> rfl), by repeat (first | (with_reducible first | exact HB.out | apply below_alloc | apply pw_below_drewN | apply below_drew1) | exact HB.out)⟩
     ·replace c22 := Bool.eq_false_iff.mpr c22
      subst c22
      have H1 : (if a0.toList = ([42, 47, 42] : List UInt8) then ((spec_ParamsMatch.f kj11 a2 x8_4).bind fun t227 => (some t227)) else (if a0.toList = x7_4.toList then ((spec_ParamsMatch.f kj11 a2 x8_4).bind fun t228 => (some t228)) else (if 0 ≤ t224 then (if t224 ≤ (x7_4.size : Int) then (if (x7_4.extract 0 (t224 : Int).toNat).size + 2 ≤ 9223372036854775807 then (if a0.toList = ((x7_4.extract 0 (t224 : Int).toNat) ++ (⟨#[47, 42]⟩ : ByteArray)).toList then ((spec_ParamsMatch.f kj11 a2 x8_4).bind fun t229 => (some t229)) else (some 0)) else (none)) else (none)) else (none)))) = some r := by rw [if_neg (show ¬ (false = true) by decide)] at H; exact H
      clear H
      have H := H1
      clear H1
      by_cases c23 : a0.toList = ([42, 47, 42] : List UInt8)
      ·rw [if_pos c23] at H
       have c23b0 : (a0.toList == ([42, 47, 42] : List UInt8)) = true := beq_iff_eq.mpr c23
       have c23b1 : (a0.toList != ([42, 47, 42] : List UInt8)) = false := bne_eq_false_iff_eq.mpr c23
       clear c23
       replace H := Option.bind_eq_some_iff.mp H
       obtain ⟨t227, A240, H⟩ := H
       replace H : (some t227) = some r := H
       have A24 := Aside0.mk A240
       clear A240
       obtain rfl := Option.some.inj H
       go_wp2_with (first | (go_at_call 15; (with_reducible refine (spec_ParamsMatch.calls kj11 a2 x8_4 t227 _ A24.out).mono ?_); rintro e w25 ⟨rfl, hb⟩; have n0_ := Aside0.mk (below_step (by repeat (first | (with_reducible first | exact HB.out | apply below_alloc | apply pw_below_drewN | apply below_drew1) | exact HB.out)) hb); clear HB; have HB := n0_; clear n0_; (try clear hb); (try clear hb2); (try clear hk); (try clear hi)))
       repeat (go_quiet (first | (go_at_call 15; (with_reducible refine (spec_ParamsMatch.calls kj11 a2 x8_4 t227 _ A24.out).mono ?_); rintro e w25 ⟨rfl, hb⟩; have n0_ := Aside0.mk (below_step (by repeat (first | (with_reducible first | exact HB.out | apply below_alloc | apply pw_below_drewN | apply below_drew1) | exact HB.out)) hb); clear HB; have HB := n0_; clear n0_; (try clear hb); (try clear hb2); (try clear hk); (try clear hi))); try go_wp2_with (first | (go_at_call 15; (with_reducible refine (spec_ParamsMatch.calls kj11 a2 x8_4 t227 _ A24.out).mono ?_); rintro e w25 ⟨rfl, hb⟩; have n0_ := Aside0.mk (below_step (by repeat (first | (with_reducible first | exact HB.out | apply below_alloc | apply pw_below_drewN | apply below_drew1) | exact HB.out)) hb); clear HB; have HB := n0_; clear n0_; (try clear hb); (try clear hb2); (try clear hk); (try clear hi))))
       go_ret
       exact ⟨by first | rfl | (simp [errW_none, errW_some] <;> rfl) | (simp [*, errW_none, errW_some] <;> rfl), by repeat (first | (with_reducible first | exact HB.out | apply below_alloc | apply pw_below_drewN | apply below_drew1) | exact HB.out)⟩
      ·rw [if_neg c23] at H
       have c23b0 : (a0.toList == ([42, 47, 42] : List UInt8)) = false := beq_eq_false_iff_ne.mpr c23
       have c23b1 : (a0.toList != ([42, 47, 42] : List UInt8)) = true := bne_iff_ne.mpr c23
       by_cases c26 : a0.toList = x7_4.toList
       ·rw [if_pos c26] at H
        have c26b0 : (a0.toList == x7_4.toList) = true := beq_iff_eq.mpr c26
        have c26b1 : (a0.toList != x7_4.toList) = false := bne_eq_false_iff_eq.mpr c26
        clear c26
        replace H := Option.bind_eq_some_iff.mp H
        obtain ⟨t228, A270, H⟩ := H
        replace H : (some t228) = some r := H
        have A27 := Aside0.mk A270
        clear A270
        obtain rfl := Option.some.inj H
        go_wp2_with (first | (go_at_call 15; (with_reducible refine (spec_ParamsMatch.calls kj11 a2 x8_4 t228 _ A27.out).mono ?_); rintro e w28 ⟨rfl, hb⟩; have n0_ := Aside0.mk (below_step (by repeat (first | (with_reducible first | exact HB.out | apply below_alloc | apply pw_below_drewN | apply below_drew1) | exact HB.out)) hb); clear HB; have HB := n0_; clear n0_; (try clear hb); (try clear hb2); (try clear hk); (try clear hi)))
        repeat (go_quiet (first | (go_at_call 15; (with_reducible refine (spec_ParamsMatch.calls kj11 a2 x8_4 t228 _ A27.out).mono ?_); rintro e w28 ⟨rfl, hb⟩; have n0_ := Aside0.mk (below_step (by repeat (first | (with_reducible first | exact HB.out | apply below_alloc | apply pw_below_drewN | apply below_drew1) | exact HB.out)) hb); clear HB; have HB := n0_; clear n0_; (try clear hb); (try clear hb2); (try clear hk); (try clear hi))); try go_wp2_with (first | (go_at_call 15; (with_reducible refine (spec_ParamsMatch.calls kj11 a2 x8_4 t228 _ A27.out).mono ?_); rintro e w28 ⟨rfl, hb⟩; have n0_ := Aside0.mk (below_step (by repeat (first | (with_reducible first | exact HB.out | apply below_alloc | apply pw_below_drewN | apply below_drew1) | exact HB.out)) hb); clear HB; have HB := n0_; clear n0_; (try clear hb); (try clear hb2); (try clear hk); (try clear hi))))
        go_ret
        exact ⟨by first | rfl | (simp [errW_none, errW_some] <;> rfl) | (simp [*, errW_none, errW_some] <;> rfl), by repeat (first | (with_reducible first | exact HB.out | apply below_alloc | apply pw_below_drewN | apply below_drew1) | exact HB.out)⟩
       ·rw [if_neg c26] at H
        have c26b0 : (a0.toList == x7_4.toList) = false := beq_eq_false_iff_ne.mpr c26
        have c26b1 : (a0.toList != x7_4.toList) = true := bne_iff_ne.mpr c26
        by_cases c29 : 0 ≤ t224
        ·rw [if_pos c29] at H
         have c29b0 := eq_true c29
         have c29b1 : decide (0 ≤ t224) = true := decide_eq_true c29
         clear c29
         by_cases c30 : t224 ≤ (x7_4.size : Int)
         ·rw [if_pos c30] at H
          have c30b0 := eq_true c30
          have c30b1 : decide (t224 ≤ (x7_4.size : Int)) = true := decide_eq_true c30
          clear c30
          by_cases c31 : (x7_4.extract 0 (t224 : Int).toNat).size + 2 ≤ 9223372036854775807
          ·rw [if_pos c31] at H
           have c31b0 := eq_true c31
           have c31b1 : decide ((x7_4.extract 0 (t224 : Int).toNat).size + 2 ≤ 9223372036854775807) = true := decide_eq_true c31
           try have c31b2 : (9223372036854775807 < (x7_4.extract 0 (t224 : Int).toNat).size + 2) = False := eq_false (Nat.not_lt.2 c31)
           try (have c31b3 := c31; simp only [ByteArray.size_append, prx_sz, List.length_cons, List.length_nil] at c31b3)
           try (have c31b4 : (9223372036854775807 < t224.toNat + 2) = False := eq_false (by have h_ := c31; rw [ByteArray.size_extract] at h_; have hh_ := of_decide_eq_true (by assumption : decide (t224 ≤ (x7_4.size : Int)) = true); omega))
           by_cases c32 : a0.toList = ((x7_4.extract 0 (t224 : Int).toNat) ++ (⟨#[47, 42]⟩ : ByteArray)).toList
           ·rw [if_pos c32] at H
            have c32b0 : (a0.toList == ((x7_4.extract 0 (t224 : Int).toNat) ++ (⟨#[47, 42]⟩ : ByteArray)).toList) = true := beq_iff_eq.mpr c32
            have c32b1 : (a0.toList != ((x7_4.extract 0 (t224 : Int).toNat) ++ (⟨#[47, 42]⟩ : ByteArray)).toList) = false := bne_eq_false_iff_eq.mpr c32
            clear c32
            replace H := Option.bind_eq_some_iff.mp H
            obtain ⟨t229, A330, H⟩ := H
            replace H : (some t229) = some r := H
            have A33 := Aside0.mk A330
            clear A330
            obtain rfl := Option.some.inj H
            go_wp2_with (first | (go_at_call 15; (with_reducible refine (spec_ParamsMatch.calls kj11 a2 x8_4 t229 _ A33.out).mono ?_); rintro e w34 ⟨rfl, hb⟩; have n0_ := Aside0.mk (below_step (by repeat (first | (with_reducible first | exact HB.out | apply below_alloc | apply pw_below_drewN | apply below_drew1) | exact HB.out)) hb); clear HB; have HB := n0_; clear n0_; (try clear hb); (try clear hb2); (try clear hk); (try clear hi)))
            repeat (go_quiet (first | (go_at_call 15; (with_reducible refine (spec_ParamsMatch.calls kj11 a2 x8_4 t229 _ A33.out).mono ?_); rintro e w34 ⟨rfl, hb⟩; have n0_ := Aside0.mk (below_step (by repeat (first | (with_reducible first | exact HB.out | apply below_alloc | apply pw_below_drewN | apply below_drew1) | exact HB.out)) hb); clear HB; have HB := n0_; clear n0_; (try clear hb); (try clear hb2); (try clear hk); (try clear hi))); try go_wp2_with (first | (go_at_call 15; (with_reducible refine (spec_ParamsMatch.calls kj11 a2 x8_4 t229 _ A33.out).mono ?_); rintro e w34 ⟨rfl, hb⟩; have n0_ := Aside0.mk (below_step (by repeat (first | (with_reducible first | exact HB.out | apply below_alloc | apply pw_below_drewN | apply below_drew1) | exact HB.out)) hb); clear HB; have HB := n0_; clear n0_; (try clear hb); (try clear hb2); (try clear hk); (try clear hi))))
            go_ret
            exact ⟨by first | rfl | (simp [errW_none, errW_some] <;> rfl) | (simp [*, errW_none, errW_some] <;> rfl), by repeat (first | (with_reducible first | exact HB.out | apply below_alloc | apply pw_below_drewN | apply below_drew1) | exact HB.out)⟩
           ·rw [if_neg c32] at H
            have c32b0 : (a0.toList == ((x7_4.extract 0 (t224 : Int).toNat) ++ (⟨#[47, 42]⟩ : ByteArray)).toList) = false := beq_eq_false_iff_ne.mpr c32
            have c32b1 : (a0.toList != ((x7_4.extract 0 (t224 : Int).toNat) ++ (⟨#[47, 42]⟩ : ByteArray)).toList) = true := bne_iff_ne.mpr c32
            obtain rfl := Option.some.inj H
            go_wp2
            repeat (go_quiet (fail); try go_wp2)
            go_ret
            exact ⟨by first | rfl | (simp [errW_none, errW_some] <;> rfl) | (simp [*, errW_none, errW_some] <;> rfl), by repeat (first | (with_reducible first | exact HB.out | apply below_alloc | apply pw_below_drewN | apply below_drew1) | exact HB.out)⟩
          ·rw [if_neg c31] at H
           exact absurd H (by simp)
         ·rw [if_neg c30] at H
          exact absurd H (by simp)
        ·rw [if_neg c29] at H
         exact absurd H (by simp)
end Go.Proofs.Ytgmjaggkiifdjaa.QA
namespace Go.Proofs.Ytgmjaggkiifdjaa.QA
open Go.Proofs.Ytgmjaggkiifdjaa.Given
open Go.Proofs.Ytgmjaggkiifdjaa.PrX
open Go.RowKit Go.Proofs.YtgmjaggkiifdjaaW.PrintWords Go.Proofs.YtgmjaggkiifdjaaW.PrintLast Go.Proofs.YtgmjaggkiifdjaaW.PrintMore
def fiberhelpers_acceptsOfferType.j0 : Nat → ByteArray → ByteArray → ByteArray → ByteArray → Option (Bool)
  | 0, _, _, _, _ => none
  | k + 1, x0, x2, x7, x8 => if x0.toList = ([42, 47, 42] : List UInt8) then ((fiberhelpers_paramsMatch.f x2 x8).bind fun t103 => (some t103)) else ((strings_IndexByte.f x7 47).bind fun t104 => (if t104 = (-1) then (some false) else (if x0.toList = x7.toList then ((fiberhelpers_paramsMatch.f x2 x8).bind fun t105 => (some t105)) else ((strings_IndexByte.f x7 47).bind fun t106 => (if 0 ≤ t106 then (if t106 ≤ (x7.size : Int) then ((strings_HasPrefix.f x0 (x7.extract 0 (t106 : Int).toNat)).bind fun t107 => (if t107 = true then (if t106 ≤ (x0.size : Int) then (if (x0.extract (t106 : Int).toNat x0.size).toList = ([47, 42] : List UInt8) then ((fiberhelpers_paramsMatch.f x2 x8).bind fun t108 => (some t108)) else (if (x7.extract (t106 : Int).toNat x7.size).toList = ([47, 42] : List UInt8) then ((fiberhelpers_paramsMatch.f x2 x8).bind fun t109 => (some t109)) else (some false))) else (none)) else (some false))) else (none)) else (none))))))
def fiberhelpers_acceptsOfferType.f (k : Nat) (a0 : ByteArray) (a1 : ByteArray) (a2 : ByteArray) : Option (Bool) := (strings_IndexByte.f a1 59).bind fun t102 => (if t102 = (-1) then (fiberhelpers_acceptsOfferType.j0 k a0 a2 a1 (⟨#[]⟩ : ByteArray)) else (if 0 ≤ t102 then (if t102 ≤ (a1.size : Int) then (fiberhelpers_acceptsOfferType.j0 k a0 a2 (a1.extract 0 (t102 : Int).toNat) (a1.extract (t102 : Int).toNat a1.size)) else (none)) else (none)))
theorem fiberhelpers_acceptsOfferType.mono_l : ∀ k, (∀ y0 y1 y2 y3, LeO (fiberhelpers_acceptsOfferType.j0 k y0 y1 y2 y3) (fiberhelpers_acceptsOfferType.j0 (k + 1) y0 y1 y2 y3))
  | 0 => fun _ _ _ _ r h => by simp [fiberhelpers_acceptsOfferType.j0] at h
  | k + 1 => by
    have ih0 := fiberhelpers_acceptsOfferType.mono_l k
    · intro y0 y1 y2 y3
      unfold fiberhelpers_acceptsOfferType.j0
      repeat' first
      | (with_reducible exact ih0 _ _ _ _)
      | (with_reducible exact LeO.refl _)
      | (with_reducible exact LeO.none _)
      | (with_reducible refine LeO.ite ?_ ?_)
      | (with_reducible refine LeO.bind ?_ (fun _ => ?_))
      | exact ih0 _ _ _ _
      | exact LeO.none _
      | refine LeO.ite ?_ ?_
      | refine LeO.bind ?_ (fun _ => ?_)
theorem fiberhelpers_acceptsOfferType.mono : ∀ a0 a1 a2 k, LeO (fiberhelpers_acceptsOfferType.f k a0 a1 a2) (fiberhelpers_acceptsOfferType.f (k + 1) a0 a1 a2) := by
  intro a0 a1 a2 k
  have ih0 := fiberhelpers_acceptsOfferType.mono_l k
  unfold fiberhelpers_acceptsOfferType.f
  repeat' first
      | (with_reducible exact ih0 _ _ _ _)
      | (with_reducible exact LeO.refl _)
      | (with_reducible exact LeO.none _)
      | (with_reducible refine LeO.ite ?_ ?_)
      | (with_reducible refine LeO.bind ?_ (fun _ => ?_))
      | exact ih0 _ _ _ _
      | exact LeO.none _
      | refine LeO.ite ?_ ?_
      | refine LeO.bind ?_ (fun _ => ?_)
set_option maxHeartbeats 8000000 in
set_option maxRecDepth 100000 in
theorem fiberhelpers_acceptsOfferType.calls (k : Nat) (a0 : ByteArray) (a1 : ByteArray) (a2 : ByteArray) (r : Bool) (w : World) (h : fiberhelpers_acceptsOfferType.f k a0 a1 a2 = some r) :
  Calls Try.prog 46 #[.string a0, .string a1, .string a2] w fun e w' => e = .returned (.bool r) ∧ Below w.heap.size w w' := by
 have HB := Aside0.mk (Below.refl w.heap.size w)
 have H : ((strings_IndexByte.f a1 59).bind fun t102 => (if t102 = (-1) then (fiberhelpers_acceptsOfferType.j0 k a0 a2 a1 (⟨#[]⟩ : ByteArray)) else (if 0 ≤ t102 then (if t102 ≤ (a1.size : Int) then (fiberhelpers_acceptsOfferType.j0 k a0 a2 (a1.extract 0 (t102 : Int).toNat) (a1.extract (t102 : Int).toNat a1.size)) else (none)) else (none)))) = some r := h
 clear h
 replace H := Option.bind_eq_some_iff.mp H
 obtain ⟨t102, A40, H⟩ := H
 replace H : (if t102 = (-1) then (fiberhelpers_acceptsOfferType.j0 k a0 a2 a1 (⟨#[]⟩ : ByteArray)) else (if 0 ≤ t102 then (if t102 ≤ (a1.size : Int) then (fiberhelpers_acceptsOfferType.j0 k a0 a2 (a1.extract 0 (t102 : Int).toNat) (a1.extract (t102 : Int).toNat a1.size)) else (none)) else (none))) = some r := H
 have A4 := Aside0.mk A40
 clear A40
 have HC5 := Aside0.mk H
 clear H
 go_enter Try.func46, Try.ntmps46
 go_upto_if 15 with (first | ((with_reducible refine gate_callee (f := 48) rfl ?_); refine goesL_ (some 13) rfl rfl Try.func48 (by kernel_rfl) rfl #[.string a1, .int .u8 59] rfl (by (try simp only [List.map_toArray, List.map_cons, List.map_nil]); first | done | rfl | (simp only [List.length_drop, List.length_take]; rfl)) ?_; (with_reducible refine (strings_IndexByte.calls a1 59 t102 _ A4.out).mono ?_); rintro e w' ⟨rfl, ⟨nd, rfl⟩⟩; refine ⟨_, rfl, ?_⟩))
 (try simp only [Act.put, List.setIfInBounds_toArray, List.set_cons_zero, List.set_cons_succ])
 go_cut [7, 8] (fun v7 v8 wc => ∃ (kq : Nat) (x7_4 : ByteArray) (x8_4 : ByteArray), v7 = .string x7_4 ∧ v8 = .string x8_4 ∧ Aside0 (fiberhelpers_acceptsOfferType.j0 kq a0 a2 x7_4 x8_4 = some r) ∧ Aside0 (kq ≤ k) ∧ Aside0 (Below w.heap.size w wc))
 case first =>
  have H := HC5.out
  clear HC5
  by_cases c6 : t102 = (-1)
  ·rw [if_pos c6] at H
   have c6b0 : (t102 == (-1)) = true := beq_iff_eq.mpr c6
   have c6b1 : (t102 != (-1)) = false := bne_eq_false_iff_eq.mpr c6
   clear c6
   (first | rw [c6b0] | (simp only [i64_w, i32_w]; rw [c6b0]) | skip)
   have H' := Aside0.mk H
   clear H
   go_wp2
   go_meet
   case rel => exact ⟨_, (a1), ((⟨#[]⟩ : ByteArray)), (by first | rfl | (simp; done) | (rw [prx_ne]; first | done | rfl) | (simp [*]; done)), (by first | rfl | (simp; done) | (rw [prx_ne]; first | done | rfl) | (simp [*]; done)), H', ⟨by first | omega | exact Nat.le_refl _⟩, ⟨by repeat (first | (with_reducible first | exact HB.out | apply below_alloc | apply pw_below_drewN | apply below_drew1) | exact HB.out)⟩⟩
  ·rw [if_neg c6] at H
   have c6b0 : (t102 == (-1)) = false := beq_eq_false_iff_ne.mpr c6
   have c6b1 : (t102 != (-1)) = true := bne_iff_ne.mpr c6
   (first | rw [c6b0] | (simp only [i64_w, i32_w]; rw [c6b0]) | skip)
   by_cases c7 : 0 ≤ t102
   ·rw [if_pos c7] at H
    have c7b0 := eq_true c7
    have c7b1 : decide (0 ≤ t102) = true := decide_eq_true c7
    clear c7
    by_cases c8 : t102 ≤ (a1.size : Int)
    ·rw [if_pos c8] at H
     have c8b0 := eq_true c8
     have c8b1 : decide (t102 ≤ (a1.size : Int)) = true := decide_eq_true c8
     clear c8
     have c9b0 := eq_true (of_decide_eq_true (by first | (with_reducible assumption) | assumption) : 0 ≤ t102)
     have c10b0 := eq_true (of_decide_eq_true (by first | (with_reducible assumption) | assumption) : t102 ≤ (a1.size : Int))
     have H' := Aside0.mk H
     clear H
     go_wp2
     go_meet
     case rel => exact ⟨_, (a1.extract 0 (t102 : Int).toNat), (a1.extract (t102 : Int).toNat a1.size), (by first | rfl | (simp; done) | (rw [prx_ne]; first | done | rfl) | (simp [*]; done)), (by first | rfl | (simp; done) | (rw [prx_ne]; first | done | rfl) | (simp [*]; done)), H', ⟨by first | omega | exact Nat.le_refl _⟩, ⟨by repeat (first | (with_reducible first | exact HB.out | apply below_alloc | apply pw_below_drewN | apply below_drew1) | exact HB.out)⟩⟩
    ·rw [if_neg c8] at H
     exact absurd H (by simp)
   ·rw [if_neg c7] at H
    exact absurd H (by simp)
 case rest =>
  clear HC5
  try clear c1
  try clear p2
  try clear c4
  try clear c6
  try clear c6b0
  try clear c6b1
  try clear c7
  try clear c7b0
  try clear c7b1
  try clear c8
  try clear c8b0
  try clear c8b1
  try clear c9
  try clear c9b0
  try clear c10
  try clear c10b0
  obtain ⟨kq, x7_4, x8_4, rfl, rfl, HA, HJ4, HB⟩ := hcut
  cases kq with
  | zero => exact absurd HA.out (by simp [fiberhelpers_acceptsOfferType.j0])
  | succ kj4 =>
   have H := HA.out
   clear HA
   simp only [fiberhelpers_acceptsOfferType.j0] at H
   by_cases c11 : a0.toList = ([42, 47, 42] : List UInt8)
   ·rw [if_pos c11] at H
    have c11b0 : (a0.toList == ([42, 47, 42] : List UInt8)) = true := beq_iff_eq.mpr c11
    have c11b1 : (a0.toList != ([42, 47, 42] : List UInt8)) = false := bne_eq_false_iff_eq.mpr c11
    clear c11
    replace H := Option.bind_eq_some_iff.mp H
    obtain ⟨t103, A120, H⟩ := H
    replace H : (some t103) = some r := H
    have A12 := Aside0.mk A120
    clear A120
    obtain rfl := Option.some.inj H
    go_wp2_with (first | ((with_reducible refine gate_callee (f := 45) rfl ?_); refine goesL_ (some 27) rfl rfl Try.func45 (by kernel_rfl) rfl #[.string a2, .string x8_4] rfl (by (try simp only [List.map_toArray, List.map_cons, List.map_nil]); first | done | rfl | (simp only [List.length_drop, List.length_take]; rfl)) ?_; (with_reducible refine (fiberhelpers_paramsMatch.calls a2 x8_4 t103 _ A12.out).mono ?_); rintro e w13 ⟨rfl, hb⟩; refine ⟨_, rfl, ?_⟩; have n0_ := Aside0.mk (below_step (by repeat (first | (with_reducible first | exact HB.out | apply below_alloc | apply pw_below_drewN | apply below_drew1) | exact HB.out)) hb); clear HB; have HB := n0_; clear n0_; (try clear hb); (try clear hb2); (try clear hk); (try clear hi)))
    go_ret
    exact ⟨by first | rfl | (simp [errW_none, errW_some] <;> rfl) | (simp [*, errW_none, errW_some] <;> rfl), by repeat (first | (with_reducible first | exact HB.out | apply below_alloc | apply pw_below_drewN | apply below_drew1) | exact HB.out)⟩
   ·rw [if_neg c11] at H
    have c11b0 : (a0.toList == ([42, 47, 42] : List UInt8)) = false := beq_eq_false_iff_ne.mpr c11
    have c11b1 : (a0.toList != ([42, 47, 42] : List UInt8)) = true := bne_iff_ne.mpr c11
    replace H := Option.bind_eq_some_iff.mp H
    obtain ⟨t104, A140, H⟩ := H
    replace H : (if t104 = (-1) then (some false) else (if a0.toList = x7_4.toList then ((fiberhelpers_paramsMatch.f a2 x8_4).bind fun t105 => (some t105)) else ((strings_IndexByte.f x7_4 47).bind fun t106 => (if 0 ≤ t106 then (if t106 ≤ (x7_4.size : Int) then ((strings_HasPrefix.f a0 (x7_4.extract 0 (t106 : Int).toNat)).bind fun t107 => (if t107 = true then (if t106 ≤ (a0.size : Int) then (if (a0.extract (t106 : Int).toNat a0.size).toList = ([47, 42] : List UInt8) then ((fiberhelpers_paramsMatch.f a2 x8_4).bind fun t108 => (some t108)) else (if (x7_4.extract (t106 : Int).toNat x7_4.size).toList = ([47, 42] : List UInt8) then ((fiberhelpers_paramsMatch.f a2 x8_4).bind fun t109 => (some t109)) else (some false))) else (none)) else (some false))) else (none)) else (none))))) = some r := H
    have A14 := Aside0.mk A140
    clear A140
    by_cases c15 : t104 = (-1)
    ·rw [if_pos c15] at H
     have c15b0 : (t104 == (-1)) = true := beq_iff_eq.mpr c15
     have c15b1 : (t104 != (-1)) = false := bne_eq_false_iff_eq.mpr c15
     clear c15
     obtain rfl := Option.some.inj H
     go_wp2_with (first | ((with_reducible refine gate_callee (f := 48) rfl ?_); refine goesL_ (some 29) rfl rfl Try.func48 (by kernel_rfl) rfl #[.string x7_4, .int .u8 47] rfl (by (try simp only [List.map_toArray, List.map_cons, List.map_nil]); first | done | rfl | (simp only [List.length_drop, List.length_take]; rfl)) ?_; (with_reducible refine (strings_IndexByte.calls x7_4 47 t104 _ A14.out).mono ?_); rintro e w' ⟨rfl, ⟨nd, rfl⟩⟩; refine ⟨_, rfl, ?_⟩))
     go_ret
     exact ⟨by first | rfl | (simp [errW_none, errW_some] <;> rfl) | (simp [*, errW_none, errW_some] <;> rfl), by repeat (first | (with_reducible first | exact HB.out | apply below_alloc | apply pw_below_drewN | apply below_drew1) | exact HB.out)⟩
    ·rw [if_neg c15] at H
     have c15b0 : (t104 == (-1)) = false := beq_eq_false_iff_ne.mpr c15
     have c15b1 : (t104 != (-1)) = true := bne_iff_ne.mpr c15
     by_cases c16 : a0.toList = x7_4.toList
     ·rw [if_pos c16] at H
      have c16b0 : (a0.toList == x7_4.toList) = true := beq_iff_eq.mpr c16
      have c16b1 : (a0.toList != x7_4.toList) = false := bne_eq_false_iff_eq.mpr c16
      clear c16
      replace H := Option.bind_eq_some_iff.mp H
      obtain ⟨t105, A170, H⟩ := H
      replace H : (some t105) = some r := H
      have A17 := Aside0.mk A170
      clear A170
      obtain rfl := Option.some.inj H
      go_wp2_with (first | ((with_reducible refine gate_callee (f := 48) rfl ?_); refine goesL_ (some 29) rfl rfl Try.func48 (by kernel_rfl) rfl #[.string x7_4, .int .u8 47] rfl (by (try simp only [List.map_toArray, List.map_cons, List.map_nil]); first | done | rfl | (simp only [List.length_drop, List.length_take]; rfl)) ?_; (with_reducible refine (strings_IndexByte.calls x7_4 47 t104 _ A14.out).mono ?_); rintro e w' ⟨rfl, ⟨nd, rfl⟩⟩; refine ⟨_, rfl, ?_⟩) | ((with_reducible refine gate_callee (f := 45) rfl ?_); refine goesL_ (some 37) rfl rfl Try.func45 (by kernel_rfl) rfl #[.string a2, .string x8_4] rfl (by (try simp only [List.map_toArray, List.map_cons, List.map_nil]); first | done | rfl | (simp only [List.length_drop, List.length_take]; rfl)) ?_; (with_reducible refine (fiberhelpers_paramsMatch.calls a2 x8_4 t105 _ A17.out).mono ?_); rintro e w18 ⟨rfl, hb⟩; refine ⟨_, rfl, ?_⟩; have n0_ := Aside0.mk (below_step (by repeat (first | (with_reducible first | exact HB.out | apply below_alloc | apply pw_below_drewN | apply below_drew1) | exact HB.out)) hb); clear HB; have HB := n0_; clear n0_; (try clear hb); (try clear hb2); (try clear hk); (try clear hi)))
      go_ret
      exact ⟨by first | rfl | (simp [errW_none, errW_some] <;> rfl) | (simp [*, errW_none, errW_some] <;> rfl), by repeat (first | (with_reducible first | exact HB.out | apply below_alloc | apply pw_below_drewN | apply below_drew1) | exact HB.out)⟩
     ·rw [if_neg c16] at H
      have c16b0 : (a0.toList == x7_4.toList) = false := beq_eq_false_iff_ne.mpr c16
      have c16b1 : (a0.toList != x7_4.toList) = true := bne_iff_ne.mpr c16
      replace H := Option.bind_eq_some_iff.mp H
      obtain ⟨t106, A190, H⟩ := H
      replace H : (if 0 ≤ t106 then (if t106 ≤ (x7_4.size : Int) then ((strings_HasPrefix.f a0 (x7_4.extract 0 (t106 : Int).toNat)).bind fun t107 => (if t107 = true then (if t106 ≤ (a0.size : Int) then (if (a0.extract (t106 : Int).toNat a0.size).toList = ([47, 42] : List UInt8) then ((fiberhelpers_paramsMatch.f a2 x8_4).bind fun t108 => (some t108)) else (if (x7_4.extract (t106 : Int).toNat x7_4.size).toList = ([47, 42] : List UInt8) then ((fiberhelpers_paramsMatch.f a2 x8_4).bind fun t109 => (some t109)) else (some false))) else (none)) else (some false))) else (none)) else (none)) = some r := H
      have A19 := Aside0.mk A190
      clear A190
      by_cases c20 : 0 ≤ t106
      ·rw [if_pos c20] at H
       have c20b0 := eq_true c20
       have c20b1 : decide (0 ≤ t106) = true := decide_eq_true c20
       clear c20
       by_cases c21 : t106 ≤ (x7_4.size : Int)
       ·rw [if_pos c21] at H
        have c21b0 := eq_true c21
        have c21b1 : decide (t106 ≤ (x7_4.size : Int)) = true := decide_eq_true c21
        clear c21
        replace H := Option.bind_eq_some_iff.mp H
        obtain ⟨t107, A220, H⟩ := H
        replace H : (if t107 = true then (if t106 ≤ (a0.size : Int) then (if (a0.extract (t106 : Int).toNat a0.size).toList = ([47, 42] : List UInt8) then ((fiberhelpers_paramsMatch.f a2 x8_4).bind fun t108 => (some t108)) else (if (x7_4.extract (t106 : Int).toNat x7_4.size).toList = ([47, 42] : List UInt8) then ((fiberhelpers_paramsMatch.f a2 x8_4).bind fun t109 => (some t109)) else (some false))) else (none)) else (some false)) = some r := H
        have A22 := Aside0.mk A220
        clear A220
        by_cases c23 : t107 = true
        ·subst c23
         have H1 : (if t106 ≤ (a0.size : Int) then (if (a0.extract (t106 : Int).toNat a0.size).toList = ([47, 42] : List UInt8) then ((fiberhelpers_paramsMatch.f a2 x8_4).bind fun t108 => (some t108)) else (if (x7_4.extract (t106 : Int).toNat x7_4.size).toList = ([47, 42] : List UInt8) then ((fiberhelpers_paramsMatch.f a2 x8_4).bind fun t109 => (some t109)) else (some false))) else (none)) = some r := by rw [if_pos rfl] at H; exact H
         clear H
         have H := H1
         clear H1
         have c24b0 := eq_true (of_decide_eq_true (by first | (with_reducible assumption) | assumption) : 0 ≤ t106)
         by_cases c25 : t106 ≤ (a0.size : Int)
         ·rw [if_pos c25] at H
          have c25b0 := eq_true c25
          have c25b1 : decide (t106 ≤ (a0.size : Int)) = true := decide_eq_true c25
          clear c25
          by_cases c26 : (a0.extract (t106 : Int).toNat a0.size).toList = ([47, 42] : List UInt8)
          ·rw [if_pos c26] at H
           have c26b0 : ((a0.extract (t106 : Int).toNat a0.size).toList == ([47, 42] : List UInt8)) = true := beq_iff_eq.mpr c26
           have c26b1 : ((a0.extract (t106 : Int).toNat a0.size).toList != ([47, 42] : List UInt8)) = false := bne_eq_false_iff_eq.mpr c26
           clear c26
           replace H := Option.bind_eq_some_iff.mp H
           obtain ⟨t108, A270, H⟩ := H
           replace H : (some t108) = some r := H
           have A27 := Aside0.mk A270
           clear A270
           try (obtain rfl : t106 = t104 := Option.some.inj (A19.out.symm.trans A14.out))
           obtain rfl := Option.some.inj H
           go_wp2_with (first | ((with_reducible refine gate_callee (f := 48) rfl ?_); refine goesL_ (some 29) rfl rfl Try.func48 (by kernel_rfl) rfl #[.string x7_4, .int .u8 47] rfl (by (try simp only [List.map_toArray, List.map_cons, List.map_nil]); first | done | rfl | (simp only [List.length_drop, List.length_take]; rfl)) ?_; (with_reducible refine (strings_IndexByte.calls x7_4 47 t106 _ A14.out).mono ?_); rintro e w' ⟨rfl, ⟨nd, rfl⟩⟩; refine ⟨_, rfl, ?_⟩) | ((with_reducible refine gate_callee (f := 48) rfl ?_); refine goesL_ (some 39) rfl rfl Try.func48 (by kernel_rfl) rfl #[.string x7_4, .int .u8 47] rfl (by (try simp only [List.map_toArray, List.map_cons, List.map_nil]); first | done | rfl | (simp only [List.length_drop, List.length_take]; rfl)) ?_; (with_reducible refine (strings_IndexByte.calls x7_4 47 t106 _ A19.out).mono ?_); rintro e w' ⟨rfl, ⟨nd, rfl⟩⟩; refine ⟨_, rfl, ?_⟩) | ((with_reducible refine gate_callee (f := 50) rfl ?_); refine goesL_ (some 44) rfl rfl Try.func50 (by kernel_rfl) rfl #[.string a0, .string (x7_4.extract 0 (t106 : Int).toNat)] rfl (by (try simp only [List.map_toArray, List.map_cons, List.map_nil]); first | done | rfl | (simp only [List.length_drop, List.length_take]; rfl)) ?_; (with_reducible refine (strings_HasPrefix.calls a0 (x7_4.extract 0 (t106 : Int).toNat) true _ A22.out).mono ?_); rintro e w' ⟨rfl, ⟨nd, rfl⟩⟩; refine ⟨_, rfl, ?_⟩) | ((with_reducible refine gate_callee (f := 45) rfl ?_); refine goesL_ (some 59) rfl rfl Try.func45 (by kernel_rfl) rfl #[.string a2, .string x8_4] rfl (by (try simp only [List.map_toArray, List.map_cons, List.map_nil]); first | done | rfl | (simp only [List.length_drop, List.length_take]; rfl)) ?_; (with_reducible refine (fiberhelpers_paramsMatch.calls a2 x8_4 t108 _ A27.out).mono ?_); rintro e w28 ⟨rfl, hb⟩; refine ⟨_, rfl, ?_⟩; have n0_ := Aside0.mk (below_step (by repeat (first | (with_reducible first | exact HB.out | apply below_alloc | apply pw_below_drewN | apply below_drew1) | exact HB.out)) hb); clear HB; have HB := n0_; clear n0_; (try clear hb); (try clear hb2); (try clear hk); (try clear hi)))
           go_ret
           exact ⟨by first | rfl | (simp [errW_none, errW_some] <;> rfl) | (simp [*, errW_none, errW_some] <;> rfl), by repeat (first | (with_reducible first | exact HB.out | apply below_alloc | apply pw_below_drewN | apply below_drew1) | exact HB.out)⟩
          ·rw [if_neg c26] at H
           have c26b0 : ((a0.extract (t106 : Int).toNat a0.size).toList == ([47, 42] : List UInt8)) = false := beq_eq_false_iff_ne.mpr c26
           have c26b1 : ((a0.extract (t106 : Int).toNat a0.size).toList != ([47, 42] : List UInt8)) = true := bne_iff_ne.mpr c26
           have c29b0 := eq_true (of_decide_eq_true (by first | (with_reducible assumption) | assumption) : 0 ≤ t106)
           have c30b0 := eq_true (of_decide_eq_true (by first | (with_reducible assumption) | assumption) : t106 ≤ (x7_4.size : Int))
           by_cases c31 : (x7_4.extract (t106 : Int).toNat x7_4.size).toList = ([47, 42] : List UInt8)
           ·rw [if_pos c31] at H
            have c31b0 : ((x7_4.extract (t106 : Int).toNat x7_4.size).toList == ([47, 42] : List UInt8)) = true := beq_iff_eq.mpr c31
            have c31b1 : ((x7_4.extract (t106 : Int).toNat x7_4.size).toList != ([47, 42] : List UInt8)) = false := bne_eq_false_iff_eq.mpr c31
            clear c31
            replace H := Option.bind_eq_some_iff.mp H
            obtain ⟨t109, A320, H⟩ := H
            replace H : (some t109) = some r := H
            have A32 := Aside0.mk A320
            clear A320
            try (obtain rfl : t106 = t104 := Option.some.inj (A19.out.symm.trans A14.out))
            obtain rfl := Option.some.inj H
            go_wp2_with (first | ((with_reducible refine gate_callee (f := 48) rfl ?_); refine goesL_ (some 29) rfl rfl Try.func48 (by kernel_rfl) rfl #[.string x7_4, .int .u8 47] rfl (by (try simp only [List.map_toArray, List.map_cons, List.map_nil]); first | done | rfl | (simp only [List.length_drop, List.length_take]; rfl)) ?_; (with_reducible refine (strings_IndexByte.calls x7_4 47 t106 _ A14.out).mono ?_); rintro e w' ⟨rfl, ⟨nd, rfl⟩⟩; refine ⟨_, rfl, ?_⟩) | ((with_reducible refine gate_callee (f := 48) rfl ?_); refine goesL_ (some 39) rfl rfl Try.func48 (by kernel_rfl) rfl #[.string x7_4, .int .u8 47] rfl (by (try simp only [List.map_toArray, List.map_cons, List.map_nil]); first | done | rfl | (simp only [List.length_drop, List.length_take]; rfl)) ?_; (with_reducible refine (strings_IndexByte.calls x7_4 47 t106 _ A19.out).mono ?_); rintro e w' ⟨rfl, ⟨nd, rfl⟩⟩; refine ⟨_, rfl, ?_⟩) | ((with_reducible refine gate_callee (f := 50) rfl ?_); refine goesL_ (some 44) rfl rfl Try.func50 (by kernel_rfl) rfl #[.string a0, .string (x7_4.extract 0 (t106 : Int).toNat)] rfl (by (try simp only [List.map_toArray, List.map_cons, List.map_nil]); first | done | rfl | (simp only [List.length_drop, List.length_take]; rfl)) ?_; (with_reducible refine (strings_HasPrefix.calls a0 (x7_4.extract 0 (t106 : Int).toNat) true _ A22.out).mono ?_); rintro e w' ⟨rfl, ⟨nd, rfl⟩⟩; refine ⟨_, rfl, ?_⟩) | ((with_reducible refine gate_callee (f := 45) rfl ?_); refine goesL_ (some 59) rfl rfl Try.func45 (by kernel_rfl) rfl #[.string a2, .string x8_4] rfl (by (try simp only [List.map_toArray, List.map_cons, List.map_nil]); first | done | rfl | (simp only [List.length_drop, List.length_take]; rfl)) ?_; (with_reducible refine (fiberhelpers_paramsMatch.calls a2 x8_4 t109 _ A32.out).mono ?_); rintro e w33 ⟨rfl, hb⟩; refine ⟨_, rfl, ?_⟩; have n0_ := Aside0.mk (below_step (by repeat (first | (with_reducible first | exact HB.out | apply below_alloc | apply pw_below_drewN | apply below_drew1) | exact HB.out)) hb); clear HB; have HB := n0_; clear n0_; (try clear hb); (try clear hb2); (try clear hk); (try clear hi)))
            go_ret
            exact ⟨by first | rfl | (simp [errW_none, errW_some] <;> rfl) | (simp [*, errW_none, errW_some] <;> rfl), by repeat (first | (with_reducible first | exact HB.out | apply below_alloc | apply pw_below_drewN | apply below_drew1) | exact HB.out)⟩
           ·rw [if_neg c31] at H
            have c31b0 : ((x7_4.extract (t106 : Int).toNat x7_4.size).toList == ([47, 42] : List UInt8)) = false := beq_eq_false_iff_ne.mpr c31
            have c31b1 : ((x7_4.extract (t106 : Int).toNat x7_4.size).toList != ([47, 42] : List UInt8)) = true := bne_iff_ne.mpr c31
            try (obtain rfl : t106 = t104 := Option.some.inj (A19.out.symm.trans A14.out))
            obtain rfl := Option.some.inj H
            go_wp2_with (first | ((with_reducible refine gate_callee (f := 48) rfl ?_); refine goesL_ (some 29) rfl rfl Try.func48 (by kernel_rfl) rfl #[.string x7_4, .int .u8 47] rfl (by (try simp only [List.map_toArray, List.map_cons, List.map_nil]); first | done | rfl | (simp only [List.length_drop, List.length_take]; rfl)) ?_; (with_reducible refine (strings_IndexByte.calls x7_4 47 t106 _ A14.out).mono ?_); rintro e w' ⟨rfl, ⟨nd, rfl⟩⟩; refine ⟨_, rfl, ?_⟩) | ((with_reducible refine gate_callee (f := 48) rfl ?_); refine goesL_ (some 39) rfl rfl Try.func48 (by kernel_rfl) rfl #[.string x7_4, .int .u8 47] rfl (by (try simp only [List.map_toArray, List.map_cons, List.map_nil]); first | done | rfl | (simp only [List.length_drop, List.length_take]; rfl)) ?_; (with_reducible refine (strings_IndexByte.calls x7_4 47 t106 _ A19.out).mono ?_); rintro e w' ⟨rfl, ⟨nd, rfl⟩⟩; refine ⟨_, rfl, ?_⟩) | ((with_reducible refine gate_callee (f := 50) rfl ?_); refine goesL_ (some 44) rfl rfl Try.func50 (by kernel_rfl) rfl #[.string a0, .string (x7_4.extract 0 (t106 : Int).toNat)] rfl (by (try simp only [List.map_toArray, List.map_cons, List.map_nil]); first | done | rfl | (simp only [List.length_drop, List.length_take]; rfl)) ?_; (with_reducible refine (strings_HasPrefix.calls a0 (x7_4.extract 0 (t106 : Int).toNat) true _ A22.out).mono ?_); rintro e w' ⟨rfl, ⟨nd, rfl⟩⟩; refine ⟨_, rfl, ?_⟩))
            go_ret
            exact ⟨by first | rfl | (simp [errW_none, errW_some] <;> rfl) | (simp [*, errW_none, errW_some] <;> rfl), by repeat (first | (with_reducible first | exact HB.out | apply below_alloc | apply pw_below_drewN | apply below_drew1) | exact HB.out)⟩
         ·rw [if_neg c25] at H
          exact absurd H (by simp)
        ·replace c23 := Bool.eq_false_iff.mpr c23
         subst c23
         have H1 : (some false) = some r := by rw [if_neg (show ¬ (false = true) by decide)] at H; exact H
         clear H
         have H := H1
         clear H1
         try (obtain rfl : t106 = t104 := Option.some.inj (A19.out.symm.trans A14.out))
         obtain rfl := Option.some.inj H
         go_wp2_with (first | ((with_reducible refine gate_callee (f := 48) rfl ?_); refine goesL_ (some 29) rfl rfl Try.func48 (by kernel_rfl) rfl #[.string x7_4, .int .u8 47] rfl (by (try simp only [List.map_toArray, List.map_cons, List.map_nil]); first | done | rfl | (simp only [List.length_drop, List.length_take]; rfl)) ?_; (with_reducible refine (strings_IndexByte.calls x7_4 47 t106 _ A14.out).mono ?_); rintro e w' ⟨rfl, ⟨nd, rfl⟩⟩; refine ⟨_, rfl, ?_⟩) | ((with_reducible refine gate_callee (f := 48) rfl ?_); refine goesL_ (some 39) rfl rfl Try.func48 (by kernel_rfl) rfl #[.string x7_4, .int .u8 47] rfl (by (try simp only [List.map_toArray, List.map_cons, List.map_nil]); first | done | rfl | (simp only [List.length_drop, List.length_take]; rfl)) ?_; (with_reducible refine (strings_IndexByte.calls x7_4 47 t106 _ A19.out).mono ?_); rintro e w' ⟨rfl, ⟨nd, rfl⟩⟩; refine ⟨_, rfl, ?_⟩) | ((with_reducible refine gate_callee (f := 50) rfl ?_); refine goesL_ (some 44) rfl rfl Try.func50 (by kernel_rfl) rfl #[.string a0, .string (x7_4.extract 0 (t106 : Int).toNat)] rfl (by (try simp only [List.map_toArray, List.map_cons, List.map_nil]); first | done | rfl | (simp only [List.length_drop, List.length_take]; rfl)) ?_; (with_reducible refine (strings_HasPrefix.calls a0 (x7_4.extract 0 (t106 : Int).toNat) false _ A22.out).mono ?_); rintro e w' ⟨rfl, ⟨nd, rfl⟩⟩; refine ⟨_, rfl, ?_⟩))
         go_ret
         exact ⟨by first | rfl | (simp [errW_none, errW_some] <;> rfl) | (simp [*, errW_none, errW_some] <;> rfl), by repeat (first | (with_reducible first | exact HB.out | apply below_alloc | apply pw_below_drewN | apply below_drew1) | exact HB.out)⟩
       ·rw [if_neg c21] at H
        exact absurd H (by simp)
      ·rw [if_neg c20] at H
       exact absurd H (by simp)
def fiberhelpers_ZzType.f (k : Nat) (a0 : ByteArray) (a1 : ByteArray) (a2 : ByteArray) : Option (Bool) := (fiberhelpers_acceptsOfferType.f k a0 a1 a2).bind fun t110 => (some t110)
theorem fiberhelpers_ZzType.mono : ∀ a0 a1 a2 k, LeO (fiberhelpers_ZzType.f k a0 a1 a2) (fiberhelpers_ZzType.f (k + 1) a0 a1 a2) := by
  intro a0 a1 a2 k
  unfold fiberhelpers_ZzType.f
  repeat' first
      | (with_reducible exact fiberhelpers_acceptsOfferType.mono _ _ _ _)
      | (with_reducible exact LeO.refl _)
      | (with_reducible exact LeO.none _)
      | (with_reducible refine LeO.ite ?_ ?_)
      | (with_reducible refine LeO.bind ?_ (fun _ => ?_))
      | exact fiberhelpers_acceptsOfferType.mono _ _ _ _
      | exact LeO.none _
      | refine LeO.ite ?_ ?_
      | refine LeO.bind ?_ (fun _ => ?_)
set_option maxHeartbeats 8000000 in
set_option maxRecDepth 100000 in
theorem fiberhelpers_ZzType.calls (k : Nat) (a0 : ByteArray) (a1 : ByteArray) (a2 : ByteArray) (r : Bool) (w : World) (h : fiberhelpers_ZzType.f k a0 a1 a2 = some r) :
    Calls Try.prog 36 #[.string a0, .string a1, .string a2] w fun e w' => e = .returned (.bool r) ∧ Below w.heap.size w w' := by
  have HB := Aside0.mk (Below.refl w.heap.size w)
  have H : ((fiberhelpers_acceptsOfferType.f k a0 a1 a2).bind fun t110 => (some t110)) = some r := h
  clear h
  replace H := Option.bind_eq_some_iff.mp H
  obtain ⟨t110, A40, H⟩ := H
  replace H : (some t110) = some r := H
  have A4 := Aside0.mk A40
  clear A40
  obtain rfl := Option.some.inj H
  go_enter Try.func36, Try.ntmps36
  go_wp2_with (first | ((with_reducible refine gate_callee (f := 46) rfl ?_); refine goesL_ (some 10) rfl rfl Try.func46 (by kernel_rfl) rfl #[.string a0, .string a1, .string a2] rfl (by (try simp only [List.map_toArray, List.map_cons, List.map_nil]); first | done | rfl | (simp only [List.length_drop, List.length_take]; rfl)) ?_; (with_reducible refine (fiberhelpers_acceptsOfferType.calls k a0 a1 a2 t110 _ A4.out).mono ?_); rintro e w5 ⟨rfl, hb⟩; refine ⟨_, rfl, ?_⟩; have n0_ := Aside0.mk (below_step (by repeat (first | (with_reducible first | exact HB.out | apply below_alloc | apply pw_below_drewN | apply below_drew1) | exact HB.out)) hb); clear HB; have HB := n0_; clear n0_; (try clear hb); (try clear hb2); (try clear hk); (try clear hi)))
  go_ret
  exact ⟨by first | rfl | (simp [errW_none, errW_some] <;> rfl) | (simp [*, errW_none, errW_some] <;> rfl), by repeat (first | (with_reducible first | exact HB.out | apply below_alloc | apply pw_below_drewN | apply below_drew1) | exact HB.out)⟩
end Go.Proofs.Ytgmjaggkiifdjaa.QA
namespace Go.Proofs.Ytgmjaggkiifdjaa.Given
open Go.RowKit Go.Proofs.YtgmjaggkiifdjaaW.PrintWords Go.Proofs.YtgmjaggkiifdjaaW.PrintLast Go.Proofs.YtgmjaggkiifdjaaW.PrintMore Go.Proofs.Ytgmjaggkiifdjaa.Base Go.Proofs.Ytgmjaggkiifdjaa.Gv Go.Proofs.Ytgmjaggkiifdjaa.QA
def impl_AcceptsType.f (k : Nat) (a0 a1 a2 : ByteArray) : Option (Bool × Bool) := (fiberhelpers_ZzType.f k a0 a1 a2).bind fun t => some (t, true)
theorem impl_AcceptsType.mono : ∀ a0 a1 a2 k, LeO (impl_AcceptsType.f k a0 a1 a2) (impl_AcceptsType.f (k + 1) a0 a1 a2) := by
  intro a0 a1 a2 k
  unfold impl_AcceptsType.f
  exact LeO.bind (fiberhelpers_ZzType.mono _ _ _ _) (fun _ => LeO.refl _)
theorem below_weaken_a {B C : Nat} {a b : World} (h : B ≤ C) (k : Below C a b) : Below B a b := ⟨k.os, k.tape, k.output, k.size, fun i hi => k.block i (by omega)⟩
theorem two_cells_b {w w' : World} {n : Nat} {T1 T2 : TypeId} {v1 v2 : Value} (hn : w.heap.size = n) (hb : Below ((w.alloc (.cells #[v1] T1)).alloc (.cells #[v2] T2)).heap.size ((w.alloc (.cells #[v1] T1)).alloc (.cells #[v2] T2)) w') :
    ((w'.cell? ⟨n, 0, none⟩ = some v1 ∧ w'.frozen? ⟨n, 0, none⟩ = false) ∧ (w'.cell? ⟨n + 1, 0, none⟩ = some v2 ∧ w'.frozen? ⟨n + 1, 0, none⟩ = false)) ∧
    (∀ u1 u2, Below w.heap.size w ((w'.setCell ⟨n, 0, none⟩ u1).setCell ⟨n + 1, 0, none⟩ u2)) := by
  subst hn
  have hs : ((w.alloc (.cells #[v1] T1)).alloc (.cells #[v2] T2)).heap.size = w.heap.size + 2 := by simp
  rw [hs] at hb
  have h1 : w'.heap[w.heap.size]? = some (.cells #[v1] T1 (0, 0)) := by
    rw [hb.block _ (by omega)]
    exact blk_alloc (heap_alloc_new w _) _
  have h2 : w'.heap[w.heap.size + 1]? = some (.cells #[v2] T2 (0, 0)) := by
    rw [hb.block _ (by omega)]
    have := heap_alloc_new (w.alloc (.cells #[v1] T1)) (.cells #[v2] T2)
    simpa using this
  refine ⟨⟨⟨?_, frozen_of_row _ _ 0 _ _ h1⟩, ⟨?_, frozen_of_row _ _ 0 _ _ h2⟩⟩, fun u1 u2 => ?_⟩
  · rw [cell_of_row _ _ 0 _ _ (0, 0) h1]; rfl
  · rw [cell_of_row _ _ 0 _ _ (0, 0) h2]; rfl
  · refine Below.setCell (Below.setCell ?_ (show w.heap.size ≤ w.heap.size from Nat.le_refl _) _) (show w.heap.size ≤ w.heap.size + 1 by omega) _
    have h0 : Below w.heap.size w ((w.alloc (.cells #[v1] T1)).alloc (.cells #[v2] T2)) := ((Below.refl _ _).alloc (Nat.le_refl _) _).alloc (by simp) _
    exact h0.trans (below_weaken_a (by omega) hb)
theorem acc_idle (p q : Addr) (w : World) :
    CallsD Try.prog 35 #[.pointer (some p), .pointer (some q)] .returning w fun e u' w' => e = .returned (.tuple #[]) ∧ u' = .returning ∧ w' = w := by
  refine callsD_of_wpS Try.func35 rfl fun c₀ cs hu => ?_
  apply wpS_seq
  apply wpS_region
  simp [wpOpsS, go_sem, recoverD, hu, Try.ntmps35, Exit.thenS]
  refine wpS_cond (t := false) (by simp [Act.eval, Array.replicate]) ?_
  simp only [Bool.false_eq_true, if_false]
  refine wpS_of_wp (wp_skip ?_)
  cases c₀
  simp_all [bodyPostS, results, Try.results35]
set_option maxHeartbeats 4000000 in
theorem impl_AcceptsType.calls (k : Nat) (a0 a1 a2 : ByteArray) (r1 : Bool) (r2 : Bool) (w : World) (h : impl_AcceptsType.f k a0 a1 a2 = some (r1, r2)) :
    Calls Try.prog 18 #[.string a0, .string a1, .string a2] w fun e w' => e = .returned (.tuple #[.bool r1, .bool r2]) ∧ Below w.heap.size w w' := by
  unfold impl_AcceptsType.f at h
  cases hz : fiberhelpers_ZzType.f k a0 a1 a2 with
  | none => rw [hz] at h; cases h
  | some t =>
    rw [hz] at h
    obtain ⟨rfl, rfl⟩ := Prod.mk.inj (Option.some.inj h)
    have HZ := Lib.hid hz
    clear h hz
    have hmf : ∀ (fn : Fn) (first cap : Array Value) (w : World), (Instr.makeFunc fn first cap).run Try.prog w = .ok (.func fn first cap) w := fun _ _ _ _ => rfl
    go_enter_defers Try.func18, Try.ntmps18
    go_wp2_with (
      go_at_call 36
      refine (fiberhelpers_ZzType.calls k a0 a1 a2 t _ HZ.out).mono ?_
      rintro e w' ⟨rfl, hb⟩
      obtain ⟨⟨b1, b2⟩, hbl⟩ := two_cells_b (w := w) rfl hb
      have HBL := Lib.hid hbl
      obtain ⟨c1, z1⟩ := b1
      obtain ⟨c2, z2⟩ := b2
      clear hb hbl)
    refine leaves_cons (f := 35) (args := #[.pointer (some ⟨w.heap.size, 0, none⟩), .pointer (some ⟨w.heap.size + 1, 0, none⟩)]) (by simp) (by simp [go_sem]) ?_
    refine (acc_idle ⟨w.heap.size, 0, none⟩ ⟨w.heap.size + 1, 0, none⟩ _).mono ?_
    rintro e u' w'' ⟨rfl, rfl, rfl⟩
    have hfinb := HBL.out (.bool t) (.bool true)
    simp [Leaves, settle, results, Try.results18, go_sem, c1, c2]
    exact hfinb
def beg2 (a b : ByteArray) : Bool := decide (b.size ≤ a.size) && ((a.extract 0 b.size).toList == b.toList)
theorem hasPrefix_is2 (a b : ByteArray) : strings_HasPrefix.f a b = some (beg2 a b) := by
  unfold strings_HasPrefix.f stringslite_HasPrefix.f beg2
  by_cases h : b.size ≤ a.size
  · rw [if_pos (by omega), if_pos (by omega), if_pos (by omega), decide_eq_true h, Int.toNat_natCast]; rfl
  · rw [if_neg (by omega), decide_eq_false h]; rfl
theorem starts_is2 (a b : ByteArray) : spec_starts.f a b = some (beg2 a b) := by
  unfold spec_starts.f beg2
  by_cases h : b.size ≤ a.size
  · rw [if_pos (by omega), if_pos (by omega), decide_eq_true h, Int.toNat_natCast]; rfl
  · rw [if_neg (by omega), decide_eq_false h]; rfl
theorem tl_lit (s : ByteArray) (l : List UInt8) : s.toList = l ↔ s = ⟨l.toArray⟩ := by
  have e : l = (⟨l.toArray⟩ : ByteArray).toList := by rw [Lib.toList_data]
  conv => lhs; rw [e]
  exact toList_eq_iff _ _
theorem beg2_iff (a b : ByteArray) : beg2 a b = true ↔ ∃ r, ns a = ns b ++ r := by
  unfold beg2
  rw [Bool.and_eq_true, decide_eq_true_eq, beq_iff_eq, toList_eq_iff]
  constructor
  · rintro ⟨h, e⟩
    refine ⟨(ns a).drop b.size, ?_⟩
    have := congrArg ns e
    rw [ex_zero] at this
    rw [← this, List.take_append_drop]
  · rintro ⟨r, e⟩
    have hl := congrArg List.length e
    rw [List.length_append, ns_length, ns_length] at hl
    refine ⟨by omega, ns_inj ?_⟩
    rw [ex_zero, e, ← ns_length, List.take_left']
    rfl
theorem any_below (s m : ByteArray) (n : Nat) (hn : n ≤ m.size) : s = m.extract 0 n ++ (⟨#[47, 42]⟩ : ByteArray) ↔ beg2 s (m.extract 0 n) = true ∧ s.extract n s.size = (⟨#[47, 42]⟩ : ByteArray) := by
  have hl : (ns (m.extract 0 n)).length = n := by rw [ex_zero, List.length_take, ns_length]; omega
  constructor
  · rintro rfl
    have e : ns (m.extract 0 n ++ (⟨#[47, 42]⟩ : ByteArray)) = ns (m.extract 0 n) ++ [47, 42] := by rw [ns_append]; rfl
    refine ⟨(beg2_iff _ _).2 ⟨_, e⟩, ns_inj ?_⟩
    rw [ns_from, e, List.drop_left' hl]; rfl
  · rintro ⟨h1, h2⟩
    obtain ⟨r, e⟩ := (beg2_iff _ _).1 h1
    have h3 := congrArg ns h2
    rw [ns_from, e, List.drop_left' hl] at h3
    refine ns_inj ?_
    rw [e, h3, ns_append]
theorem pm_ends (a2 rest : ByteArray) (h2 : a2.size ≤ 1099511627776) (hr : rest.size ≤ 1099511627776) : fiberhelpers_paramsMatch.f a2 rest = some (matchOf a2 rest) := by
  unfold fiberhelpers_paramsMatch.f
  rw [if_pos ⟨h2, hr⟩]
theorem type_core (s a2 m rest : ByteArray) (hs : s.size ≤ 1099511627776) (h2 : a2.size ≤ 1099511627776) (hm : m.size ≤ 1099511627776) (hr : rest.size ≤ 1099511627776) :
    ∃ r, Ev (fun k => spec_AcceptsType.j0 k s a2 m rest) r ∧ (r = 2 ∨ ∃ b, Ev (fun k => fiberhelpers_acceptsOfferType.j0 k s a2 m rest) b ∧ b = (r == 1)) := by
  obtain ⟨rp, hp, hc⟩ := specPM_ends a2 rest h2 hr
  have hpm := pm_ends a2 rest h2 hr
  have hi := strings_IndexByte.is m 47 (by decide) (by decide)
  have hpl := place_ends m 47 (by omega)
  have hrg := idx_rng (ns m) 47
  rw [ns_length] at hrg
  have open2 : ∀ x10 : Int, Ev (fun k => spec_AcceptsType.j1 k s a2 m rest x10 true) 2 := fun x10 => Ev.step (f := fun _ => some 2) (fun k => by rw [spec_AcceptsType.j1, if_pos rfl]) (Ev.now _)
  have sj : ∀ r, Ev (fun k => (if idx (ns m) 47 < 0 then (spec_AcceptsType.j1 k s a2 m rest (idx (ns m) 47) true) else (if 0 ≤ idx (ns m) 47 then (if idx (ns m) 47 ≤ (m.size : Int) then ((spec_starts.f (m.extract (idx (ns m) 47 : Int).toNat m.size) (⟨#[47, 42]⟩ : ByteArray)).bind fun t225 => (if t225 = true then (spec_AcceptsType.j1 k s a2 m rest (idx (ns m) 47) true) else (if 0 ≤ (wrap64 (idx (ns m) 47 + 1)) then (if (wrap64 (idx (ns m) 47 + 1)) ≤ (m.size : Int) then ((spec_place.f k (m.extract ((wrap64 (idx (ns m) 47 + 1)) : Int).toNat m.size) 47).bind fun t226 => (spec_AcceptsType.j1 k s a2 m rest (idx (ns m) 47) (decide (t226 ≥ 0)))) else (none)) else (none)))) else (none)) else (none)))) r → Ev (fun k => spec_AcceptsType.j0 k s a2 m rest) r := fun r h =>
    Ev.step (f := fun k => (spec_place.f k m 47).bind fun t224 => (if t224 < 0 then (spec_AcceptsType.j1 k s a2 m rest t224 true) else (if 0 ≤ t224 then (if t224 ≤ (m.size : Int) then ((spec_starts.f (m.extract (t224 : Int).toNat m.size) (⟨#[47, 42]⟩ : ByteArray)).bind fun t225 => (if t225 = true then (spec_AcceptsType.j1 k s a2 m rest t224 true) else (if 0 ≤ (wrap64 (t224 + 1)) then (if (wrap64 (t224 + 1)) ≤ (m.size : Int) then ((spec_place.f k (m.extract ((wrap64 (t224 + 1)) : Int).toNat m.size) 47).bind fun t226 => (spec_AcceptsType.j1 k s a2 m rest t224 (decide (t226 ≥ 0)))) else (none)) else (none)))) else (none)) else (none)))) (fun k => by rw [spec_AcceptsType.j0]) (Ev.bind hpl h)
  by_cases hn : idx (ns m) 47 = -1
  · exact ⟨2, sj 2 (Ev.if_true (by omega) (open2 _)), .inl rfl⟩
  · obtain ⟨n, hnn⟩ : ∃ n : Nat, idx (ns m) 47 = (n : Int) := ⟨(idx (ns m) 47).toNat, by omega⟩
    rw [hnn] at hi hrg sj
    have z1 : ¬ (n : Int) < 0 := by omega
    have z2 : (0 : Int) ≤ (n : Int) := by omega
    have z3 : (n : Int) ≤ (m.size : Int) := by omega
    have z4 : (0 : Int) ≤ ((n + 1 : Nat) : Int) := by omega
    have z5 : ((n + 1 : Nat) : Int) ≤ (m.size : Int) := by omega
    have z6 : ¬ (n : Int) = -1 := by omega
    have z7 : (m.extract 0 n).size + 2 ≤ 9223372036854775807 := by rw [ByteArray.size_extract]; omega
    have hnm : n ≤ m.size := by omega
    have hw := Lib.hid (show wrap64 ((n : Int) + 1) = ((n + 1 : Nat) : Int) by rw [wrap_add (by omega) (by omega)]; rfl)
    by_cases hst : beg2 (m.extract n m.size) (⟨#[47, 42]⟩ : ByteArray) = true
    · refine ⟨2, sj 2 (Ev.if_false z1 (Ev.if_true z2 (Ev.if_true z3 (Ev.call (starts_is2 _ _) ?_)))), .inl rfl⟩
      rw [Int.toNat_natCast]
      exact Ev.if_true hst (open2 _)
    · have hpl2 := place_ends (m.extract (n + 1) m.size) 47 (by rw [ByteArray.size_extract]; omega)
      have sj2 : ∀ r, Ev (fun k => spec_AcceptsType.j1 k s a2 m rest (n : Int) (decide (idx (ns (m.extract (n + 1) m.size)) 47 ≥ 0))) r → Ev (fun k => spec_AcceptsType.j0 k s a2 m rest) r := by
        intro r h
        refine sj r (Ev.if_false z1 (Ev.if_true z2 (Ev.if_true z3 (Ev.call (starts_is2 _ _) ?_))))
        rw [Int.toNat_natCast, hw.out, Int.toNat_natCast]
        exact Ev.if_false hst (Ev.if_true z4 (Ev.if_true z5 (Ev.bind hpl2 h)))
      by_cases hsl : idx (ns (m.extract (n + 1) m.size)) 47 ≥ 0
      · rw [decide_eq_true hsl] at sj2
        exact ⟨2, sj2 2 (open2 _), .inl rfl⟩
      · rw [decide_eq_false hsl] at sj2
        have hmn : m.extract n m.size ≠ (⟨#[47, 42]⟩ : ByteArray) := fun e => hst (by rw [e]; decide +kernel)
        -- what both tell where the parameters are asked
        have hpmS : ∀ (c : Nat → Option Int), (∀ k, c k = (spec_ParamsMatch.f k a2 rest).bind fun t => some t) → Ev c rp := fun c h => Ev.congr h (Ev.bind hp (Ev.now _))
        have fin : ∀ r b, Ev (fun k => (if s.toList = ([42, 47, 42] : List UInt8) then ((spec_ParamsMatch.f k a2 rest).bind fun t227 => (some t227)) else (if s.toList = m.toList then ((spec_ParamsMatch.f k a2 rest).bind fun t228 => (some t228)) else (if 0 ≤ (n : Int) then (if (n : Int) ≤ (m.size : Int) then (if (m.extract 0 n).size + 2 ≤ 9223372036854775807 then (if s.toList = ((m.extract 0 n) ++ (⟨#[47, 42]⟩ : ByteArray)).toList then ((spec_ParamsMatch.f k a2 rest).bind fun t229 => (some t229)) else (some 0)) else (none)) else (none)) else (none))))) r →
            Ev (fun k => (if s.toList = ([42, 47, 42] : List UInt8) then ((fiberhelpers_paramsMatch.f a2 rest).bind fun t103 => (some t103)) else (if (n : Int) = (-1) then (some false) else (if s.toList = m.toList then ((fiberhelpers_paramsMatch.f a2 rest).bind fun t105 => (some t105)) else (if 0 ≤ (n : Int) then (if (n : Int) ≤ (m.size : Int) then ((strings_HasPrefix.f s (m.extract 0 n)).bind fun t107 => (if t107 = true then (if (n : Int) ≤ (s.size : Int) then (if (s.extract n s.size).toList = ([47, 42] : List UInt8) then ((fiberhelpers_paramsMatch.f a2 rest).bind fun t108 => (some t108)) else (if (m.extract n m.size).toList = ([47, 42] : List UInt8) then ((fiberhelpers_paramsMatch.f a2 rest).bind fun t109 => (some t109)) else (some false))) else (none)) else (some false))) else (none)) else (none)))))) b → (r = 2 ∨ b = (r == 1)) →
            ∃ r, Ev (fun k => spec_AcceptsType.j0 k s a2 m rest) r ∧ (r = 2 ∨ ∃ b, Ev (fun k => fiberhelpers_acceptsOfferType.j0 k s a2 m rest) b ∧ b = (r == 1)) := by
          intro r b h1 h2 h3
          refine ⟨r, sj2 r (Ev.step (fun k => ?_) h1), h3.imp id (fun h => ⟨b, Ev.step (fun k => ?_) h2, h⟩)⟩
          · rw [spec_AcceptsType.j1, if_neg (by simp), Int.toNat_natCast]
          · rw [fiberhelpers_acceptsOfferType.j0, hi]
            simp only [Option.bind_some, Int.toNat_natCast]
        have pS : Ev (fun k => (spec_ParamsMatch.f k a2 rest).bind fun t => some t) rp := Ev.bind hp (Ev.now _)
        have pI : Ev (fun _ : Nat => (fiberhelpers_paramsMatch.f a2 rest).bind fun t => some t) (matchOf a2 rest) := Ev.call hpm (Ev.now _)
        by_cases c1 : s.toList = ([42, 47, 42] : List UInt8)
        · exact fin rp (matchOf a2 rest) (Ev.if_true c1 pS) (Ev.if_true c1 pI) hc
        · by_cases c2 : s.toList = m.toList
          · exact fin rp (matchOf a2 rest) (Ev.if_false c1 (Ev.if_true c2 pS)) (Ev.if_false c1 (Ev.if_false z6 (Ev.if_true c2 pI))) hc
          · by_cases c3 : s = m.extract 0 n ++ (⟨#[47, 42]⟩ : ByteArray)
            · obtain ⟨d1, d2⟩ := (any_below s m n hnm).1 c3
              have z8 : (n : Int) ≤ (s.size : Int) := by
                have := congrArg ByteArray.size c3
                rw [ByteArray.size_append, ByteArray.size_extract] at this
                have e : (⟨#[47, 42]⟩ : ByteArray).size = 2 := rfl
                omega
              exact fin rp (matchOf a2 rest) (Ev.if_false c1 (Ev.if_false c2 (Ev.if_true z2 (Ev.if_true z3 (Ev.if_true z7 (Ev.if_true (by rw [c3]) pS))))))
                (Ev.if_false c1 (Ev.if_false z6 (Ev.if_false c2 (Ev.if_true z2 (Ev.if_true z3 (Ev.call (hasPrefix_is2 _ _) (Ev.if_true d1 (Ev.if_true z8 (Ev.if_true ((tl_lit _ _).2 d2) pI))))))))) hc
            · have hmt : ¬ (m.extract n m.size).toList = ([47, 42] : List UInt8) := fun e => hmn ((tl_lit _ _).1 e)
              refine fin 0 false (Ev.if_false c1 (Ev.if_false c2 (Ev.if_true z2 (Ev.if_true z3 (Ev.if_true z7 (Ev.if_false (fun e => c3 ((toList_eq_iff _ _).1 e)) (Ev.now _)))))))
                (Ev.if_false c1 (Ev.if_false z6 (Ev.if_false c2 (Ev.if_true z2 (Ev.if_true z3 (Ev.call (hasPrefix_is2 _ _) ?_)))))) (.inr rfl)
              refine Ev.ite (fun d1 => ?_) (fun _ => Ev.now _)
              have z8 : (n : Int) ≤ (s.size : Int) := by
                unfold beg2 at d1
                rw [Bool.and_eq_true, decide_eq_true_eq, ByteArray.size_extract] at d1
                have := d1.1
                omega
              exact Ev.if_true z8 (Ev.if_false (fun e => c3 ((any_below s m n hnm).2 ⟨d1, (tl_lit _ _).1 e⟩)) (Ev.if_false hmt (Ev.now _)))
theorem type_ends (s a1 a2 : ByteArray) (hs : s.size ≤ 1099511627776) (h1 : a1.size ≤ 1099511627776) (h2 : a2.size ≤ 1099511627776) :
    ∃ r, Ev (fun k => spec_AcceptsType.f k s a1 a2) r ∧ (r = 2 ∨ ∃ b, Ev (fun k => impl_AcceptsType.f k s a1 a2) (b, true) ∧ b = (r == 1)) := by
  have hi := strings_IndexByte.is a1 59 (by decide) (by decide)
  have hpl := place_ends a1 59 (by omega)
  have hrg := idx_rng (ns a1) 59
  rw [ns_length] at hrg
  have wrap : ∀ b, Ev (fun k => fiberhelpers_acceptsOfferType.f k s a1 a2) b → Ev (fun k => impl_AcceptsType.f k s a1 a2) (b, true) := fun b h => by
    simp only [impl_AcceptsType.f, fiberhelpers_ZzType.f]
    exact Ev.bind (Ev.bind h (Ev.now _)) (Ev.now _)
  by_cases hn : idx (ns a1) 59 = -1
  · obtain ⟨r, hr, hc⟩ := type_core s a2 a1 (⟨#[]⟩ : ByteArray) hs h2 h1 (by decide)
    refine ⟨r, Ev.bind hpl (Ev.if_false (by omega) hr), hc.imp id (fun ⟨b, hb, e⟩ => ⟨b, wrap b (Ev.call hi (Ev.if_true hn hb)), e⟩)⟩
  · obtain ⟨n, hnn⟩ : ∃ n : Nat, idx (ns a1) 59 = (n : Int) := ⟨(idx (ns a1) 59).toNat, by omega⟩
    rw [hnn] at hi hrg hpl
    have z1 : (n : Int) ≥ 0 := by omega
    have z3 : (n : Int) ≤ (a1.size : Int) := by omega
    have z6 : ¬ (n : Int) = -1 := by omega
    obtain ⟨r, hr, hc⟩ := type_core s a2 (a1.extract 0 n) (a1.extract n a1.size) hs h2 (by rw [ByteArray.size_extract]; omega) (by rw [ByteArray.size_extract]; omega)
    refine ⟨r, Ev.bind hpl (Ev.if_true z1 (Ev.if_true z1 (Ev.if_true z3 ?_))), hc.imp id (fun ⟨b, hb, e⟩ => ⟨b, wrap b (Ev.call hi (Ev.if_false z6 (Ev.if_true z1 (Ev.if_true z3 ?_)))), e⟩)⟩
    · rw [Int.toNat_natCast]; exact hr
    · rw [Int.toNat_natCast]; exact hb
end Go.Proofs.Ytgmjaggkiifdjaa.Given
