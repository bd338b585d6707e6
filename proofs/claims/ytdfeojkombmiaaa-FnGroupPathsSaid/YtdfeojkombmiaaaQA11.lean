/- Printed by wip/pr.py (a program of this repo over the print program of the kit). Not trusted: Lean checks it. -/
import Derived.Test.YtdfeojkombmiaaaQA0
import Derived.Test.YtdfeojkombmiaaaQA2
import Derived.Test.YtdfeojkombmiaaaQA10
namespace Go.Proofs.Ytdfeojkombmiaaa.QA
open Go.Proofs.Ytdfeojkombmiaaa.PrX
open Go.RowKit Go.Proofs.YtdfeojkombmiaaaW.PrintWords Go.Proofs.YtdfeojkombmiaaaW.PrintLast Go.Proofs.YtdfeojkombmiaaaW.PrintMore
attribute [local go_sem] max2_int min2_int max_two min_two max_three min_three max_four min_four   -- for this text's walks alone
set_option linter.unusedVariables false
set_option linter.unusedSimpArgs false

/-! ### laws_FnGroupPaths: function 5 -/
mutual
def laws_FnGroupPaths.j0 : Nat → ByteArray → ByteArray → ByteArray → Bool → Bool → Bool → Option (Bool)
  | 0, _, _, _, _, _, _ => none
  | k + 1, x0, x1, x2, x3, x4, x26 => if x26 = true then (some true) else ((impl_GroupPath.f k (⟨#[47, 97]⟩ : ByteArray) (⟨#[47, 98]⟩ : ByteArray)).bind fun t119 => (if t119.toList = ([47, 97, 47, 98] : List UInt8) then ((laws_words.f k (([x0, x1, x2] : List ByteArray))).bind fun t123 => (if t123 = true then (if 1 + x0.size ≤ 9223372036854775807 then (if 1 + x1.size ≤ 9223372036854775807 then (if 1 + x2.size ≤ 9223372036854775807 then (if x3 = true then (if ((⟨#[47]⟩ : ByteArray) ++ x0).size + 1 ≤ 9223372036854775807 then (laws_FnGroupPaths.j1 k x0 x1 x2 x4 (((⟨#[47]⟩ : ByteArray) ++ x0) ++ (⟨#[47]⟩ : ByteArray)) ((⟨#[47]⟩ : ByteArray) ++ x1) ((⟨#[47]⟩ : ByteArray) ++ x2)) else (none)) else (laws_FnGroupPaths.j1 k x0 x1 x2 x4 ((⟨#[47]⟩ : ByteArray) ++ x0) ((⟨#[47]⟩ : ByteArray) ++ x1) ((⟨#[47]⟩ : ByteArray) ++ x2))) else (none)) else (none)) else (none)) else (some true))) else (some false)))
def laws_FnGroupPaths.j1 : Nat → ByteArray → ByteArray → ByteArray → Bool → ByteArray → ByteArray → ByteArray → Option (Bool)
  | 0, _, _, _, _, _, _, _ => none
  | k + 1, x0, x1, x2, x4, x11, x12, x13 => if x4 = true then (laws_FnGroupPaths.j2 k x0 x1 x2 x11 x1 x13) else (laws_FnGroupPaths.j2 k x0 x1 x2 x11 x12 x13)
def laws_FnGroupPaths.j2 : Nat → ByteArray → ByteArray → ByteArray → ByteArray → ByteArray → ByteArray → Option (Bool)
  | 0, _, _, _, _, _, _ => none
  | k + 1, x0, x1, x2, x11, x12, x13 => (impl_GroupPath.f k x11 x12).bind fun t124 => ((impl_GroupPath.f k t124 x13).bind fun t125 => (if 1 + x0.size ≤ 9223372036854775807 then (if ((⟨#[47]⟩ : ByteArray) ++ x0).size + 1 ≤ 9223372036854775807 then (if (((⟨#[47]⟩ : ByteArray) ++ x0) ++ (⟨#[47]⟩ : ByteArray)).size + x1.size ≤ 9223372036854775807 then (if ((((⟨#[47]⟩ : ByteArray) ++ x0) ++ (⟨#[47]⟩ : ByteArray)) ++ x1).size + 1 ≤ 9223372036854775807 then (if (((((⟨#[47]⟩ : ByteArray) ++ x0) ++ (⟨#[47]⟩ : ByteArray)) ++ x1) ++ (⟨#[47]⟩ : ByteArray)).size + x2.size ≤ 9223372036854775807 then (if t125.toList = ((((((⟨#[47]⟩ : ByteArray) ++ x0) ++ (⟨#[47]⟩ : ByteArray)) ++ x1) ++ (⟨#[47]⟩ : ByteArray)) ++ x2).toList then (if 1 + x1.size ≤ 9223372036854775807 then ((impl_GroupPath.f k ((⟨#[47]⟩ : ByteArray) ++ x1) x13).bind fun t126 => ((impl_GroupPath.f k x11 t126).bind fun t127 => (if t127.toList = ((((((⟨#[47]⟩ : ByteArray) ++ x0) ++ (⟨#[47]⟩ : ByteArray)) ++ x1) ++ (⟨#[47]⟩ : ByteArray)) ++ x2).toList then ((impl_GroupPath.f k ((⟨#[47]⟩ : ByteArray) ++ x0) (⟨#[]⟩ : ByteArray)).bind fun t128 => (some (t128.toList == ((⟨#[47]⟩ : ByteArray) ++ x0).toList))) else (some false)))) else (none)) else (some false)) else (none)) else (none)) else (none)) else (none)) else (none)))
end
def laws_FnGroupPaths.f (k : Nat) (a0 : ByteArray) (a1 : ByteArray) (a2 : ByteArray) (a3 : Bool) (a4 : Bool) : Option (Bool) := if (a0.size : Int) > 2147483647 then (laws_FnGroupPaths.j0 k a0 a1 a2 a3 a4 true) else (if (a1.size : Int) > 2147483647 then (laws_FnGroupPaths.j0 k a0 a1 a2 a3 a4 true) else (laws_FnGroupPaths.j0 k a0 a1 a2 a3 a4 (decide ((a2.size : Int) > 2147483647))))
theorem laws_FnGroupPaths.mono_l : ∀ k, (∀ y0 y1 y2 y3 y4 y5, LeO (laws_FnGroupPaths.j0 k y0 y1 y2 y3 y4 y5) (laws_FnGroupPaths.j0 (k + 1) y0 y1 y2 y3 y4 y5)) ∧ (∀ y0 y1 y2 y3 y4 y5 y6, LeO (laws_FnGroupPaths.j1 k y0 y1 y2 y3 y4 y5 y6) (laws_FnGroupPaths.j1 (k + 1) y0 y1 y2 y3 y4 y5 y6)) ∧ (∀ y0 y1 y2 y3 y4 y5, LeO (laws_FnGroupPaths.j2 k y0 y1 y2 y3 y4 y5) (laws_FnGroupPaths.j2 (k + 1) y0 y1 y2 y3 y4 y5))
  | 0 => ⟨fun _ _ _ _ _ _ r h => by simp [laws_FnGroupPaths.j0] at h, fun _ _ _ _ _ _ _ r h => by simp [laws_FnGroupPaths.j1] at h, fun _ _ _ _ _ _ r h => by simp [laws_FnGroupPaths.j2] at h⟩
  | k + 1 => by
    obtain ⟨ih0, ih1, ih2⟩ := laws_FnGroupPaths.mono_l k
    refine ⟨?_, ?_, ?_⟩
    · intro y0 y1 y2 y3 y4 y5
      unfold laws_FnGroupPaths.j0
      repeat' first
      | (with_reducible exact ih0 _ _ _ _ _ _)
      | (with_reducible exact ih1 _ _ _ _ _ _ _)
      | (with_reducible exact ih2 _ _ _ _ _ _)
      | (with_reducible exact impl_GroupPath.mono _ _ _)
      | (with_reducible exact laws_words.mono _ _)
      | (with_reducible exact LeO.refl _)
      | (with_reducible exact LeO.none _)
      | (with_reducible refine LeO.ite ?_ ?_)
      | (with_reducible refine LeO.bind ?_ (fun _ => ?_))
      | exact ih0 _ _ _ _ _ _
      | exact ih1 _ _ _ _ _ _ _
      | exact ih2 _ _ _ _ _ _
      | exact impl_GroupPath.mono _ _ _
      | exact laws_words.mono _ _
      | exact LeO.none _
      | refine LeO.ite ?_ ?_
      | refine LeO.bind ?_ (fun _ => ?_)
    · intro y0 y1 y2 y3 y4 y5 y6
      unfold laws_FnGroupPaths.j1
      repeat' first
      | (with_reducible exact ih0 _ _ _ _ _ _)
      | (with_reducible exact ih1 _ _ _ _ _ _ _)
      | (with_reducible exact ih2 _ _ _ _ _ _)
      | (with_reducible exact impl_GroupPath.mono _ _ _)
      | (with_reducible exact laws_words.mono _ _)
      | (with_reducible exact LeO.refl _)
      | (with_reducible exact LeO.none _)
      | (with_reducible refine LeO.ite ?_ ?_)
      | (with_reducible refine LeO.bind ?_ (fun _ => ?_))
      | exact ih0 _ _ _ _ _ _
      | exact ih1 _ _ _ _ _ _ _
      | exact ih2 _ _ _ _ _ _
      | exact impl_GroupPath.mono _ _ _
      | exact laws_words.mono _ _
      | exact LeO.none _
      | refine LeO.ite ?_ ?_
      | refine LeO.bind ?_ (fun _ => ?_)
    · intro y0 y1 y2 y3 y4 y5
      unfold laws_FnGroupPaths.j2
      repeat' first
      | (with_reducible exact ih0 _ _ _ _ _ _)
      | (with_reducible exact ih1 _ _ _ _ _ _ _)
      | (with_reducible exact ih2 _ _ _ _ _ _)
      | (with_reducible exact impl_GroupPath.mono _ _ _)
      | (with_reducible exact laws_words.mono _ _)
      | (with_reducible exact LeO.refl _)
      | (with_reducible exact LeO.none _)
      | (with_reducible refine LeO.ite ?_ ?_)
      | (with_reducible refine LeO.bind ?_ (fun _ => ?_))
      | exact ih0 _ _ _ _ _ _
      | exact ih1 _ _ _ _ _ _ _
      | exact ih2 _ _ _ _ _ _
      | exact impl_GroupPath.mono _ _ _
      | exact laws_words.mono _ _
      | exact LeO.none _
      | refine LeO.ite ?_ ?_
      | refine LeO.bind ?_ (fun _ => ?_)
theorem laws_FnGroupPaths.mono : ∀ a0 a1 a2 a3 a4 k, LeO (laws_FnGroupPaths.f k a0 a1 a2 a3 a4) (laws_FnGroupPaths.f (k + 1) a0 a1 a2 a3 a4) := by
  intro a0 a1 a2 a3 a4 k
  obtain ⟨ih0, ih1, ih2⟩ := laws_FnGroupPaths.mono_l k
  unfold laws_FnGroupPaths.f
  repeat' first
      | (with_reducible exact ih0 _ _ _ _ _ _)
      | (with_reducible exact ih1 _ _ _ _ _ _ _)
      | (with_reducible exact ih2 _ _ _ _ _ _)
      | (with_reducible exact impl_GroupPath.mono _ _ _)
      | (with_reducible exact laws_words.mono _ _)
      | (with_reducible exact LeO.refl _)
      | (with_reducible exact LeO.none _)
      | (with_reducible refine LeO.ite ?_ ?_)
      | (with_reducible refine LeO.bind ?_ (fun _ => ?_))
      | exact ih0 _ _ _ _ _ _
      | exact ih1 _ _ _ _ _ _ _
      | exact ih2 _ _ _ _ _ _
      | exact impl_GroupPath.mono _ _ _
      | exact laws_words.mono _ _
      | exact LeO.none _
      | refine LeO.ite ?_ ?_
      | refine LeO.bind ?_ (fun _ => ?_)
set_option maxHeartbeats 8000000 in
set_option maxRecDepth 100000 in
theorem laws_FnGroupPaths.calls (k : Nat) (a0 : ByteArray) (a1 : ByteArray) (a2 : ByteArray) (a3 : Bool) (a4 : Bool) (r : Bool) (w : World) (h : laws_FnGroupPaths.f k a0 a1 a2 a3 a4 = some r) :
    Calls Try.prog 5 #[.string a0, .string a1, .string a2, .bool a3, .bool a4] w fun e w' => e = .returned (.bool r) ∧ Below w.heap.size w w' := by
  have HB := Aside0.mk (Below.refl w.heap.size w)
  have H : (if (a0.size : Int) > 2147483647 then (laws_FnGroupPaths.j0 k a0 a1 a2 a3 a4 true) else (if (a1.size : Int) > 2147483647 then (laws_FnGroupPaths.j0 k a0 a1 a2 a3 a4 true) else (laws_FnGroupPaths.j0 k a0 a1 a2 a3 a4 (decide ((a2.size : Int) > 2147483647))))) = some r := h
  clear h
  have HC6 := Aside0.mk H
  clear H
  go_enter Try.func5, Try.ntmps5
  go_upto_region 1 with (fail)
  go_cut [26] (fun v26 wc => ∃ (kq : Nat) (x26_5 : Bool), v26 = .bool x26_5 ∧ Aside0 (laws_FnGroupPaths.j0 kq a0 a1 a2 a3 a4 x26_5 = some r) ∧ Aside0 (kq ≤ k) ∧ Aside0 (Below w.heap.size w wc))
  case first =>
    have H := HC6.out
    clear HC6
    by_cases c7 : (a0.size : Int) > 2147483647
    · rw [if_pos c7] at H
      have c7b0 : decide (2147483647 < (a0.size : Int)) = true := decide_eq_true c7
      have c7b1 : decide (2147483647 < a0.size) = true := decide_eq_true (by omega)
      clear c7
      (first | rw [c7b0] | (simp only [i64_w, i32_w]; rw [c7b0]) | skip)
      have H' := Aside0.mk H
      clear H
      go_wp2
      go_meet
      case rel => exact ⟨_, (true), (by first | rfl | (simp; done) | (rw [prx_ne]; first | done | rfl) | (simp [*]; done)), H', ⟨by first | omega | exact Nat.le_refl _⟩, ⟨by repeat (first | (with_reducible first | exact HB.out | apply below_alloc | apply pw_below_drewN | apply below_drew1) | exact HB.out)⟩⟩
    · rw [if_neg c7] at H
      have c7b0 : decide (2147483647 < (a0.size : Int)) = false := decide_eq_false c7
      have c7b1 : decide (2147483647 < a0.size) = false := decide_eq_false (by omega)
      clear c7
      (first | rw [c7b0] | (simp only [i64_w, i32_w]; rw [c7b0]) | skip)
      by_cases c8 : (a1.size : Int) > 2147483647
      · rw [if_pos c8] at H
        have c8b0 : decide (2147483647 < (a1.size : Int)) = true := decide_eq_true c8
        have c8b1 : decide (2147483647 < a1.size) = true := decide_eq_true (by omega)
        clear c8
        have H' := Aside0.mk H
        clear H
        go_wp2
        go_meet
        case rel => exact ⟨_, (true), (by first | rfl | (simp; done) | (rw [prx_ne]; first | done | rfl) | (simp [*]; done)), H', ⟨by first | omega | exact Nat.le_refl _⟩, ⟨by repeat (first | (with_reducible first | exact HB.out | apply below_alloc | apply pw_below_drewN | apply below_drew1) | exact HB.out)⟩⟩
      · rw [if_neg c8] at H
        have c8b0 : decide (2147483647 < (a1.size : Int)) = false := decide_eq_false c8
        have c8b1 : decide (2147483647 < a1.size) = false := decide_eq_false (by omega)
        clear c8
        have H' := Aside0.mk H
        clear H
        go_wp2
        go_meet
        case rel => exact ⟨_, (decide ((a2.size : Int) > 2147483647)), (by first | rfl | (simp; done) | (rw [prx_ne]; first | done | rfl) | (simp [*]; done)), H', ⟨by first | omega | exact Nat.le_refl _⟩, ⟨by repeat (first | (with_reducible first | exact HB.out | apply below_alloc | apply pw_below_drewN | apply below_drew1) | exact HB.out)⟩⟩
  case rest =>
    clear HC6
    try clear p2
    try clear c5
    try clear c7
    try clear c7b0
    try clear c7b1
    try clear c8
    try clear c8b0
    try clear c8b1
    obtain ⟨kq, x26_5, rfl, HA, HJ5, HB⟩ := hcut
    cases kq with
    | zero => exact absurd HA.out (by simp [laws_FnGroupPaths.j0])
    | succ kj5 =>
      have H := HA.out
      clear HA
      simp only [laws_FnGroupPaths.j0] at H
      by_cases c9 : x26_5 = true
      · subst c9
        have H1 : (some true) = some r := by rw [if_pos rfl] at H; exact H
        clear H
        have H := H1
        clear H1
        obtain rfl := Option.some.inj H
        go_wp2
        go_ret
        exact ⟨by first | rfl | (simp [errW_none, errW_some] <;> rfl) | (simp [*, errW_none, errW_some] <;> rfl), by repeat (first | (with_reducible first | exact HB.out | apply below_alloc | apply pw_below_drewN | apply below_drew1) | exact HB.out)⟩
      · replace c9 := Bool.eq_false_iff.mpr c9
        subst c9
        have H1 : ((impl_GroupPath.f kj5 (⟨#[47, 97]⟩ : ByteArray) (⟨#[47, 98]⟩ : ByteArray)).bind fun t119 => (if t119.toList = ([47, 97, 47, 98] : List UInt8) then ((laws_words.f kj5 (([a0, a1, a2] : List ByteArray))).bind fun t123 => (if t123 = true then (if 1 + a0.size ≤ 9223372036854775807 then (if 1 + a1.size ≤ 9223372036854775807 then (if 1 + a2.size ≤ 9223372036854775807 then (if a3 = true then (if ((⟨#[47]⟩ : ByteArray) ++ a0).size + 1 ≤ 9223372036854775807 then (laws_FnGroupPaths.j1 kj5 a0 a1 a2 a4 (((⟨#[47]⟩ : ByteArray) ++ a0) ++ (⟨#[47]⟩ : ByteArray)) ((⟨#[47]⟩ : ByteArray) ++ a1) ((⟨#[47]⟩ : ByteArray) ++ a2)) else (none)) else (laws_FnGroupPaths.j1 kj5 a0 a1 a2 a4 ((⟨#[47]⟩ : ByteArray) ++ a0) ((⟨#[47]⟩ : ByteArray) ++ a1) ((⟨#[47]⟩ : ByteArray) ++ a2))) else (none)) else (none)) else (none)) else (some true))) else (some false))) = some r := by rw [if_neg (show ¬ (false = true) by decide)] at H; exact H
        clear H
        have H := H1
        clear H1
        replace H := Option.bind_eq_some_iff.mp H
        obtain ⟨t119, A100, H⟩ := H
        replace H : (if t119.toList = ([47, 97, 47, 98] : List UInt8) then ((laws_words.f kj5 (([a0, a1, a2] : List ByteArray))).bind fun t123 => (if t123 = true then (if 1 + a0.size ≤ 9223372036854775807 then (if 1 + a1.size ≤ 9223372036854775807 then (if 1 + a2.size ≤ 9223372036854775807 then (if a3 = true then (if ((⟨#[47]⟩ : ByteArray) ++ a0).size + 1 ≤ 9223372036854775807 then (laws_FnGroupPaths.j1 kj5 a0 a1 a2 a4 (((⟨#[47]⟩ : ByteArray) ++ a0) ++ (⟨#[47]⟩ : ByteArray)) ((⟨#[47]⟩ : ByteArray) ++ a1) ((⟨#[47]⟩ : ByteArray) ++ a2)) else (none)) else (laws_FnGroupPaths.j1 kj5 a0 a1 a2 a4 ((⟨#[47]⟩ : ByteArray) ++ a0) ((⟨#[47]⟩ : ByteArray) ++ a1) ((⟨#[47]⟩ : ByteArray) ++ a2))) else (none)) else (none)) else (none)) else (some true))) else (some false)) = some r := H
        have A10 := Aside0.mk A100
        clear A100
        by_cases c11 : t119.toList = ([47, 97, 47, 98] : List UInt8)
        · rw [if_pos c11] at H
          have c11b0 : (t119.toList == ([47, 97, 47, 98] : List UInt8)) = true := beq_iff_eq.mpr c11
          have c11b1 : (t119.toList != ([47, 97, 47, 98] : List UInt8)) = false := bne_eq_false_iff_eq.mpr c11
          clear c11
          obtain ⟨y120, hy120⟩ : ∃ y_ : List ByteArray, y_ = (([a0, a1, a2] : List ByteArray)) := ⟨_, rfl⟩
          replace H : ((laws_words.f kj5 y120).bind fun t123 => (if t123 = true then (if 1 + a0.size ≤ 9223372036854775807 then (if 1 + a1.size ≤ 9223372036854775807 then (if 1 + a2.size ≤ 9223372036854775807 then (if a3 = true then (if ((⟨#[47]⟩ : ByteArray) ++ a0).size + 1 ≤ 9223372036854775807 then (laws_FnGroupPaths.j1 kj5 a0 a1 a2 a4 (((⟨#[47]⟩ : ByteArray) ++ a0) ++ (⟨#[47]⟩ : ByteArray)) ((⟨#[47]⟩ : ByteArray) ++ a1) ((⟨#[47]⟩ : ByteArray) ++ a2)) else (none)) else (laws_FnGroupPaths.j1 kj5 a0 a1 a2 a4 ((⟨#[47]⟩ : ByteArray) ++ a0) ((⟨#[47]⟩ : ByteArray) ++ a1) ((⟨#[47]⟩ : ByteArray) ++ a2))) else (none)) else (none)) else (none)) else (some true))) = some r := by first | (rw [hy120]; with_reducible exact H) | (have H2_ := (Option.bind_some _ _).symm.trans H; rw [hy120]; with_reducible exact H2_) | (have H2_ := (Option.bind_some _ _).symm.trans H; with_reducible exact H2_) | with_reducible exact H | (rw [hy120]; exact H) | exact H
          have Ny120 := Aside0.mk hy120
          clear hy120
          replace H := Option.bind_eq_some_iff.mp H
          obtain ⟨t123, A120, H⟩ := H
          replace H : (if t123 = true then (if 1 + a0.size ≤ 9223372036854775807 then (if 1 + a1.size ≤ 9223372036854775807 then (if 1 + a2.size ≤ 9223372036854775807 then (if a3 = true then (if ((⟨#[47]⟩ : ByteArray) ++ a0).size + 1 ≤ 9223372036854775807 then (laws_FnGroupPaths.j1 kj5 a0 a1 a2 a4 (((⟨#[47]⟩ : ByteArray) ++ a0) ++ (⟨#[47]⟩ : ByteArray)) ((⟨#[47]⟩ : ByteArray) ++ a1) ((⟨#[47]⟩ : ByteArray) ++ a2)) else (none)) else (laws_FnGroupPaths.j1 kj5 a0 a1 a2 a4 ((⟨#[47]⟩ : ByteArray) ++ a0) ((⟨#[47]⟩ : ByteArray) ++ a1) ((⟨#[47]⟩ : ByteArray) ++ a2))) else (none)) else (none)) else (none)) else (some true)) = some r := H
          have A12 := Aside0.mk A120
          clear A120
          by_cases c13 : t123 = true
          · subst c13
            have H1 : (if 1 + a0.size ≤ 9223372036854775807 then (if 1 + a1.size ≤ 9223372036854775807 then (if 1 + a2.size ≤ 9223372036854775807 then (if a3 = true then (if ((⟨#[47]⟩ : ByteArray) ++ a0).size + 1 ≤ 9223372036854775807 then (laws_FnGroupPaths.j1 kj5 a0 a1 a2 a4 (((⟨#[47]⟩ : ByteArray) ++ a0) ++ (⟨#[47]⟩ : ByteArray)) ((⟨#[47]⟩ : ByteArray) ++ a1) ((⟨#[47]⟩ : ByteArray) ++ a2)) else (none)) else (laws_FnGroupPaths.j1 kj5 a0 a1 a2 a4 ((⟨#[47]⟩ : ByteArray) ++ a0) ((⟨#[47]⟩ : ByteArray) ++ a1) ((⟨#[47]⟩ : ByteArray) ++ a2))) else (none)) else (none)) else (none)) = some r := by rw [if_pos rfl] at H; exact H
            clear H
            have H := H1
            clear H1
            by_cases c14 : 1 + a0.size ≤ 9223372036854775807
            · rw [if_pos c14] at H
              have c14b0 := eq_true c14
              have c14b1 : decide (1 + a0.size ≤ 9223372036854775807) = true := decide_eq_true c14
              try have c14b2 : (9223372036854775807 < 1 + a0.size) = False := eq_false (Nat.not_lt.2 c14)
              try (have c14b3 := c14; simp only [ByteArray.size_append, prx_sz, List.length_cons, List.length_nil] at c14b3)
              by_cases c15 : 1 + a1.size ≤ 9223372036854775807
              · rw [if_pos c15] at H
                have c15b0 := eq_true c15
                have c15b1 : decide (1 + a1.size ≤ 9223372036854775807) = true := decide_eq_true c15
                try have c15b2 : (9223372036854775807 < 1 + a1.size) = False := eq_false (Nat.not_lt.2 c15)
                try (have c15b3 := c15; simp only [ByteArray.size_append, prx_sz, List.length_cons, List.length_nil] at c15b3)
                by_cases c16 : 1 + a2.size ≤ 9223372036854775807
                · rw [if_pos c16] at H
                  have c16b0 := eq_true c16
                  have c16b1 : decide (1 + a2.size ≤ 9223372036854775807) = true := decide_eq_true c16
                  try have c16b2 : (9223372036854775807 < 1 + a2.size) = False := eq_false (Nat.not_lt.2 c16)
                  try (have c16b3 := c16; simp only [ByteArray.size_append, prx_sz, List.length_cons, List.length_nil] at c16b3)
                  have HC17 := Aside0.mk H
                  clear H
                  go_upto_if 41 with (first | ((with_reducible refine gate_callee (f := 18) rfl ?_); refine goesL_ (some 27) rfl rfl Try.func18 (by kernel_rfl) rfl #[.string (⟨#[47, 97]⟩ : ByteArray), .string (⟨#[47, 98]⟩ : ByteArray)] rfl (by (try simp only [List.map_toArray, List.map_cons, List.map_nil]); first | done | rfl | (simp only [List.length_drop, List.length_take]; rfl)) ?_; (with_reducible refine (impl_GroupPath.calls kj5 (⟨#[47, 97]⟩ : ByteArray) (⟨#[47, 98]⟩ : ByteArray) t119 _ A10.out).mono ?_); rintro e w' ⟨rfl, ⟨nd, rfl⟩⟩; refine ⟨_, rfl, ?_⟩) | ((with_reducible refine gate_dst (N := 32) rfl ?_); (try (refine gate_guard (by rfl) ?_; dsimp only)); refine Kd.R_lit Kd.string _ 9 ?hg (N := 32) ?hd (xs := ([a0, a1, a2] : List ByteArray)) (inner := [.string a0, .string a1, .string a2]) (ok := fun _ => True) (okp := fun _ => True) ?hr ?hp (fun _ hk => hk) trivial (Below.refl _ _) (Nat.le_refl _) (by simp) ?_; (case hd => rfl); (case hg => rfl); (case hr => first | (go_simp; done) | (go_simp; rfl)); (case hp => exact (Reps.one (show Kd.M Kd.string _ _ _ a0 [.string a0] from rfl) (Reps.one (show Kd.M Kd.string _ _ _ a1 [.string a1] from rfl) (Reps.one (show Kd.M Kd.string _ _ _ a2 [.string a2] from rfl) (Reps.none _ _))))); intro v121 w18 ho19 hb hg_ hnew_; clear hg_ hnew_; (first | rw [← Ny120.out] at ho19 | (simp only [Int.reduceToNat] at ho19; rw [← Ny120.out] at ho19)); have n0_ := Aside0.mk (Kd.R_lower ho19 (below_size (by repeat (first | (with_reducible first | exact HB.out | apply below_alloc | apply pw_below_drewN | apply below_drew1) | exact HB.out)))); have n1_ := Aside0.mk (below_step (by repeat (first | (with_reducible first | exact HB.out | apply below_alloc | apply pw_below_drewN | apply below_drew1) | exact HB.out)) hb); clear HB; have HO122 := n0_; have HB := n1_; clear n0_ n1_; clear hb ho19; obtain ⟨Ao20, co20, eo20⟩ := Kd.R_slice HO122.out; subst eo20) | ((with_reducible refine gate_callee (f := 14) rfl ?_); refine goesL_ (some 33) rfl rfl Try.func14 (by kernel_rfl) rfl #[.slice Ao20 y120.length co20] rfl (by (try simp only [List.map_toArray, List.map_cons, List.map_nil]); first | done | rfl | (simp only [List.length_drop, List.length_take]; rfl)) ?_; (with_reducible refine (laws_words.calls kj5 _ _ y120 true _ ?side1 ?side2 A12.out).mono ?_); (case side1 => repeat (first | exact (Kd.R_reads' HO122.out).2.2 | (with_reducible refine Kd.C_alloc ?_ _) | (with_reducible refine Kd.C_drewN ?_ _) | (with_reducible refine Kd.C_drew ?_))); (case side2 => exact (Kd.R_reads' HO122.out).2.1); rintro e w' ⟨rfl, ⟨nd, rfl⟩⟩; refine ⟨_, rfl, ?_⟩))
                  (try simp only [Act.put, List.setIfInBounds_toArray, List.set_cons_zero, List.set_cons_succ])
                  go_cut [11] (fun v11 wc => ∃ (kq : Nat) (x11_16 : ByteArray), v11 = .string x11_16 ∧ Aside0 (laws_FnGroupPaths.j1 kq a0 a1 a2 a4 x11_16 ((⟨#[47]⟩ : ByteArray) ++ a1) ((⟨#[47]⟩ : ByteArray) ++ a2) = some r) ∧ Aside0 (kq ≤ kj5) ∧ Aside0 (Below w.heap.size w wc))
                  case first =>
                    have H := HC17.out
                    clear HC17
                    by_cases c21 : a3 = true
                    · subst c21
                      have H1 : (if ((⟨#[47]⟩ : ByteArray) ++ a0).size + 1 ≤ 9223372036854775807 then (laws_FnGroupPaths.j1 kj5 a0 a1 a2 a4 (((⟨#[47]⟩ : ByteArray) ++ a0) ++ (⟨#[47]⟩ : ByteArray)) ((⟨#[47]⟩ : ByteArray) ++ a1) ((⟨#[47]⟩ : ByteArray) ++ a2)) else (none)) = some r := by rw [if_pos rfl] at H; exact H
                      clear H
                      have H := H1
                      clear H1
                      by_cases c22 : ((⟨#[47]⟩ : ByteArray) ++ a0).size + 1 ≤ 9223372036854775807
                      · rw [if_pos c22] at H
                        have c22b0 := eq_true c22
                        have c22b1 : decide (((⟨#[47]⟩ : ByteArray) ++ a0).size + 1 ≤ 9223372036854775807) = true := decide_eq_true c22
                        try have c22b2 : (9223372036854775807 < ((⟨#[47]⟩ : ByteArray) ++ a0).size + 1) = False := eq_false (Nat.not_lt.2 c22)
                        try (have c22b3 := c22; simp only [ByteArray.size_append, prx_sz, List.length_cons, List.length_nil] at c22b3)
                        have H' := Aside0.mk H
                        clear H
                        go_wp2
                        go_meet
                        case rel => exact ⟨_, (((⟨#[47]⟩ : ByteArray) ++ a0) ++ (⟨#[47]⟩ : ByteArray)), (by first | rfl | (simp; done) | (rw [prx_ne]; first | done | rfl) | (simp [*]; done)), H', ⟨by have := HJ5.out; first | omega | exact Nat.le_refl _⟩, ⟨by repeat (first | (with_reducible first | exact HB.out | apply below_alloc | apply pw_below_drewN | apply below_drew1) | exact HB.out)⟩⟩
                      · rw [if_neg c22] at H
                        exact absurd H (by simp)
                    · replace c21 := Bool.eq_false_iff.mpr c21
                      subst c21
                      have H1 : (laws_FnGroupPaths.j1 kj5 a0 a1 a2 a4 ((⟨#[47]⟩ : ByteArray) ++ a0) ((⟨#[47]⟩ : ByteArray) ++ a1) ((⟨#[47]⟩ : ByteArray) ++ a2)) = some r := by rw [if_neg (show ¬ (false = true) by decide)] at H; exact H
                      clear H
                      have H := H1
                      clear H1
                      have H' := Aside0.mk H
                      clear H
                      go_wp2
                      go_meet
                      case rel => exact ⟨_, ((⟨#[47]⟩ : ByteArray) ++ a0), (by first | rfl | (simp; done) | (rw [prx_ne]; first | done | rfl) | (simp [*]; done)), H', ⟨by have := HJ5.out; first | omega | exact Nat.le_refl _⟩, ⟨by repeat (first | (with_reducible first | exact HB.out | apply below_alloc | apply pw_below_drewN | apply below_drew1) | exact HB.out)⟩⟩
                  case rest =>
                    clear HC17
                    try clear c1
                    try clear c2
                    try clear p2
                    try clear c5
                    try clear c7
                    try clear c7b0
                    try clear c7b1
                    try clear c8
                    try clear c8b0
                    try clear c8b1
                    try clear c9
                    try clear c11
                    try clear c11b0
                    try clear c11b1
                    try clear c13
                    try clear c14
                    try clear c14b0
                    try clear c14b1
                    try clear c14b2
                    try clear c15
                    try clear c15b0
                    try clear c15b1
                    try clear c15b2
                    try clear c16
                    try clear c16b0
                    try clear c16b1
                    try clear c16b2
                    try clear c18
                    try clear c21
                    try clear c22
                    try clear c22b0
                    try clear c22b1
                    try clear c22b2
                    try clear p2
                    obtain ⟨kq, x11_16, rfl, HA, HJ16, HB⟩ := hcut
                    cases kq with
                    | zero => exact absurd HA.out (by simp [laws_FnGroupPaths.j1])
                    | succ kj16 =>
                      have H := HA.out
                      clear HA
                      simp only [laws_FnGroupPaths.j1] at H
                      have HC23 := Aside0.mk H
                      clear H
                      go_upto_if 44 with (fail)
                      go_cut [12] (fun v12 wc => ∃ (kq : Nat) (x12_22 : ByteArray), v12 = .string x12_22 ∧ Aside0 (laws_FnGroupPaths.j2 kq a0 a1 a2 x11_16 x12_22 ((⟨#[47]⟩ : ByteArray) ++ a2) = some r) ∧ Aside0 (kq ≤ kj16) ∧ Aside0 (Below w.heap.size w wc))
                      case first =>
                        have H := HC23.out
                        clear HC23
                        by_cases c24 : a4 = true
                        · subst c24
                          have H1 : (laws_FnGroupPaths.j2 kj16 a0 a1 a2 x11_16 a1 ((⟨#[47]⟩ : ByteArray) ++ a2)) = some r := by rw [if_pos rfl] at H; exact H
                          clear H
                          have H := H1
                          clear H1
                          have H' := Aside0.mk H
                          clear H
                          go_wp2
                          go_meet
                          case rel => exact ⟨_, (a1), (by first | rfl | (simp; done) | (rw [prx_ne]; first | done | rfl) | (simp [*]; done)), H', ⟨by have := HJ5.out; have := HJ16.out; first | omega | exact Nat.le_refl _⟩, ⟨by repeat (first | (with_reducible first | exact HB.out | apply below_alloc | apply pw_below_drewN | apply below_drew1) | exact HB.out)⟩⟩
                        · replace c24 := Bool.eq_false_iff.mpr c24
                          subst c24
                          have H1 : (laws_FnGroupPaths.j2 kj16 a0 a1 a2 x11_16 ((⟨#[47]⟩ : ByteArray) ++ a1) ((⟨#[47]⟩ : ByteArray) ++ a2)) = some r := by rw [if_neg (show ¬ (false = true) by decide)] at H; exact H
                          clear H
                          have H := H1
                          clear H1
                          have H' := Aside0.mk H
                          clear H
                          go_wp2
                          go_meet
                          case rel => exact ⟨_, (((⟨#[47]⟩ : ByteArray) ++ a1)), (by first | rfl | (simp; done) | (rw [prx_ne]; first | done | rfl) | (simp [*]; done)), H', ⟨by have := HJ5.out; have := HJ16.out; first | omega | exact Nat.le_refl _⟩, ⟨by repeat (first | (with_reducible first | exact HB.out | apply below_alloc | apply pw_below_drewN | apply below_drew1) | exact HB.out)⟩⟩
                      case rest =>
                        clear HC23
                        try clear c1
                        try clear c2
                        try clear p2
                        try clear c5
                        try clear c7
                        try clear c7b0
                        try clear c7b1
                        try clear c8
                        try clear c8b0
                        try clear c8b1
                        try clear c9
                        try clear c11
                        try clear c11b0
                        try clear c11b1
                        try clear c13
                        try clear c14
                        try clear c14b0
                        try clear c14b1
                        try clear c14b2
                        try clear c15
                        try clear c15b0
                        try clear c15b1
                        try clear c15b2
                        try clear c16
                        try clear c16b0
                        try clear c16b1
                        try clear c16b2
                        try clear c18
                        try clear c21
                        try clear c22
                        try clear c22b0
                        try clear c22b1
                        try clear c22b2
                        try clear c24
                        try clear p2
                        obtain ⟨kq, x12_22, rfl, HA, HJ22, HB⟩ := hcut
                        cases kq with
                        | zero => exact absurd HA.out (by simp [laws_FnGroupPaths.j2])
                        | succ kj22 =>
                          have H := HA.out
                          clear HA
                          simp only [laws_FnGroupPaths.j2] at H
                          replace H := Option.bind_eq_some_iff.mp H
                          obtain ⟨t124, A250, H⟩ := H
                          replace H : ((impl_GroupPath.f kj22 t124 ((⟨#[47]⟩ : ByteArray) ++ a2)).bind fun t125 => (if 1 + a0.size ≤ 9223372036854775807 then (if ((⟨#[47]⟩ : ByteArray) ++ a0).size + 1 ≤ 9223372036854775807 then (if (((⟨#[47]⟩ : ByteArray) ++ a0) ++ (⟨#[47]⟩ : ByteArray)).size + a1.size ≤ 9223372036854775807 then (if ((((⟨#[47]⟩ : ByteArray) ++ a0) ++ (⟨#[47]⟩ : ByteArray)) ++ a1).size + 1 ≤ 9223372036854775807 then (if (((((⟨#[47]⟩ : ByteArray) ++ a0) ++ (⟨#[47]⟩ : ByteArray)) ++ a1) ++ (⟨#[47]⟩ : ByteArray)).size + a2.size ≤ 9223372036854775807 then (if t125.toList = ((((((⟨#[47]⟩ : ByteArray) ++ a0) ++ (⟨#[47]⟩ : ByteArray)) ++ a1) ++ (⟨#[47]⟩ : ByteArray)) ++ a2).toList then (if 1 + a1.size ≤ 9223372036854775807 then ((impl_GroupPath.f kj22 ((⟨#[47]⟩ : ByteArray) ++ a1) ((⟨#[47]⟩ : ByteArray) ++ a2)).bind fun t126 => ((impl_GroupPath.f kj22 x11_16 t126).bind fun t127 => (if t127.toList = ((((((⟨#[47]⟩ : ByteArray) ++ a0) ++ (⟨#[47]⟩ : ByteArray)) ++ a1) ++ (⟨#[47]⟩ : ByteArray)) ++ a2).toList then ((impl_GroupPath.f kj22 ((⟨#[47]⟩ : ByteArray) ++ a0) (⟨#[]⟩ : ByteArray)).bind fun t128 => (some (t128.toList == ((⟨#[47]⟩ : ByteArray) ++ a0).toList))) else (some false)))) else (none)) else (some false)) else (none)) else (none)) else (none)) else (none)) else (none))) = some r := H
                          have A25 := Aside0.mk A250
                          clear A250
                          replace H := Option.bind_eq_some_iff.mp H
                          obtain ⟨t125, A260, H⟩ := H
                          replace H : (if 1 + a0.size ≤ 9223372036854775807 then (if ((⟨#[47]⟩ : ByteArray) ++ a0).size + 1 ≤ 9223372036854775807 then (if (((⟨#[47]⟩ : ByteArray) ++ a0) ++ (⟨#[47]⟩ : ByteArray)).size + a1.size ≤ 9223372036854775807 then (if ((((⟨#[47]⟩ : ByteArray) ++ a0) ++ (⟨#[47]⟩ : ByteArray)) ++ a1).size + 1 ≤ 9223372036854775807 then (if (((((⟨#[47]⟩ : ByteArray) ++ a0) ++ (⟨#[47]⟩ : ByteArray)) ++ a1) ++ (⟨#[47]⟩ : ByteArray)).size + a2.size ≤ 9223372036854775807 then (if t125.toList = ((((((⟨#[47]⟩ : ByteArray) ++ a0) ++ (⟨#[47]⟩ : ByteArray)) ++ a1) ++ (⟨#[47]⟩ : ByteArray)) ++ a2).toList then (if 1 + a1.size ≤ 9223372036854775807 then ((impl_GroupPath.f kj22 ((⟨#[47]⟩ : ByteArray) ++ a1) ((⟨#[47]⟩ : ByteArray) ++ a2)).bind fun t126 => ((impl_GroupPath.f kj22 x11_16 t126).bind fun t127 => (if t127.toList = ((((((⟨#[47]⟩ : ByteArray) ++ a0) ++ (⟨#[47]⟩ : ByteArray)) ++ a1) ++ (⟨#[47]⟩ : ByteArray)) ++ a2).toList then ((impl_GroupPath.f kj22 ((⟨#[47]⟩ : ByteArray) ++ a0) (⟨#[]⟩ : ByteArray)).bind fun t128 => (some (t128.toList == ((⟨#[47]⟩ : ByteArray) ++ a0).toList))) else (some false)))) else (none)) else (some false)) else (none)) else (none)) else (none)) else (none)) else (none)) = some r := H
                          have A26 := Aside0.mk A260
                          clear A260
                          by_cases c27 : 1 + a0.size ≤ 9223372036854775807
                          · rw [if_pos c27] at H
                            have c27b0 := eq_true c27
                            have c27b1 : decide (1 + a0.size ≤ 9223372036854775807) = true := decide_eq_true c27
                            try have c27b2 : (9223372036854775807 < 1 + a0.size) = False := eq_false (Nat.not_lt.2 c27)
                            try (have c27b3 := c27; simp only [ByteArray.size_append, prx_sz, List.length_cons, List.length_nil] at c27b3)
                            by_cases c28 : ((⟨#[47]⟩ : ByteArray) ++ a0).size + 1 ≤ 9223372036854775807
                            · rw [if_pos c28] at H
                              have c28b0 := eq_true c28
                              have c28b1 : decide (((⟨#[47]⟩ : ByteArray) ++ a0).size + 1 ≤ 9223372036854775807) = true := decide_eq_true c28
                              try have c28b2 : (9223372036854775807 < ((⟨#[47]⟩ : ByteArray) ++ a0).size + 1) = False := eq_false (Nat.not_lt.2 c28)
                              try (have c28b3 := c28; simp only [ByteArray.size_append, prx_sz, List.length_cons, List.length_nil] at c28b3)
                              by_cases c29 : (((⟨#[47]⟩ : ByteArray) ++ a0) ++ (⟨#[47]⟩ : ByteArray)).size + a1.size ≤ 9223372036854775807
                              · rw [if_pos c29] at H
                                have c29b0 := eq_true c29
                                have c29b1 : decide ((((⟨#[47]⟩ : ByteArray) ++ a0) ++ (⟨#[47]⟩ : ByteArray)).size + a1.size ≤ 9223372036854775807) = true := decide_eq_true c29
                                try have c29b2 : (9223372036854775807 < (((⟨#[47]⟩ : ByteArray) ++ a0) ++ (⟨#[47]⟩ : ByteArray)).size + a1.size) = False := eq_false (Nat.not_lt.2 c29)
                                try (have c29b3 := c29; simp only [ByteArray.size_append, prx_sz, List.length_cons, List.length_nil] at c29b3)
                                by_cases c30 : ((((⟨#[47]⟩ : ByteArray) ++ a0) ++ (⟨#[47]⟩ : ByteArray)) ++ a1).size + 1 ≤ 9223372036854775807
                                · rw [if_pos c30] at H
                                  have c30b0 := eq_true c30
                                  have c30b1 : decide (((((⟨#[47]⟩ : ByteArray) ++ a0) ++ (⟨#[47]⟩ : ByteArray)) ++ a1).size + 1 ≤ 9223372036854775807) = true := decide_eq_true c30
                                  try have c30b2 : (9223372036854775807 < ((((⟨#[47]⟩ : ByteArray) ++ a0) ++ (⟨#[47]⟩ : ByteArray)) ++ a1).size + 1) = False := eq_false (Nat.not_lt.2 c30)
                                  try (have c30b3 := c30; simp only [ByteArray.size_append, prx_sz, List.length_cons, List.length_nil] at c30b3)
                                  by_cases c31 : (((((⟨#[47]⟩ : ByteArray) ++ a0) ++ (⟨#[47]⟩ : ByteArray)) ++ a1) ++ (⟨#[47]⟩ : ByteArray)).size + a2.size ≤ 9223372036854775807
                                  · rw [if_pos c31] at H
                                    have c31b0 := eq_true c31
                                    have c31b1 : decide ((((((⟨#[47]⟩ : ByteArray) ++ a0) ++ (⟨#[47]⟩ : ByteArray)) ++ a1) ++ (⟨#[47]⟩ : ByteArray)).size + a2.size ≤ 9223372036854775807) = true := decide_eq_true c31
                                    try have c31b2 : (9223372036854775807 < (((((⟨#[47]⟩ : ByteArray) ++ a0) ++ (⟨#[47]⟩ : ByteArray)) ++ a1) ++ (⟨#[47]⟩ : ByteArray)).size + a2.size) = False := eq_false (Nat.not_lt.2 c31)
                                    try (have c31b3 := c31; simp only [ByteArray.size_append, prx_sz, List.length_cons, List.length_nil] at c31b3)
                                    by_cases c32 : t125.toList = ((((((⟨#[47]⟩ : ByteArray) ++ a0) ++ (⟨#[47]⟩ : ByteArray)) ++ a1) ++ (⟨#[47]⟩ : ByteArray)) ++ a2).toList
                                    · rw [if_pos c32] at H
                                      have c32b0 : (t125.toList == ((((((⟨#[47]⟩ : ByteArray) ++ a0) ++ (⟨#[47]⟩ : ByteArray)) ++ a1) ++ (⟨#[47]⟩ : ByteArray)) ++ a2).toList) = true := beq_iff_eq.mpr c32
                                      have c32b1 : (t125.toList != ((((((⟨#[47]⟩ : ByteArray) ++ a0) ++ (⟨#[47]⟩ : ByteArray)) ++ a1) ++ (⟨#[47]⟩ : ByteArray)) ++ a2).toList) = false := bne_eq_false_iff_eq.mpr c32
                                      clear c32
                                      by_cases c33 : 1 + a1.size ≤ 9223372036854775807
                                      · rw [if_pos c33] at H
                                        have c33b0 := eq_true c33
                                        have c33b1 : decide (1 + a1.size ≤ 9223372036854775807) = true := decide_eq_true c33
                                        try have c33b2 : (9223372036854775807 < 1 + a1.size) = False := eq_false (Nat.not_lt.2 c33)
                                        try (have c33b3 := c33; simp only [ByteArray.size_append, prx_sz, List.length_cons, List.length_nil] at c33b3)
                                        replace H := Option.bind_eq_some_iff.mp H
                                        obtain ⟨t126, A340, H⟩ := H
                                        replace H : ((impl_GroupPath.f kj22 x11_16 t126).bind fun t127 => (if t127.toList = ((((((⟨#[47]⟩ : ByteArray) ++ a0) ++ (⟨#[47]⟩ : ByteArray)) ++ a1) ++ (⟨#[47]⟩ : ByteArray)) ++ a2).toList then ((impl_GroupPath.f kj22 ((⟨#[47]⟩ : ByteArray) ++ a0) (⟨#[]⟩ : ByteArray)).bind fun t128 => (some (t128.toList == ((⟨#[47]⟩ : ByteArray) ++ a0).toList))) else (some false))) = some r := H
                                        have A34 := Aside0.mk A340
                                        clear A340
                                        replace H := Option.bind_eq_some_iff.mp H
                                        obtain ⟨t127, A350, H⟩ := H
                                        replace H : (if t127.toList = ((((((⟨#[47]⟩ : ByteArray) ++ a0) ++ (⟨#[47]⟩ : ByteArray)) ++ a1) ++ (⟨#[47]⟩ : ByteArray)) ++ a2).toList then ((impl_GroupPath.f kj22 ((⟨#[47]⟩ : ByteArray) ++ a0) (⟨#[]⟩ : ByteArray)).bind fun t128 => (some (t128.toList == ((⟨#[47]⟩ : ByteArray) ++ a0).toList))) else (some false)) = some r := H
                                        have A35 := Aside0.mk A350
                                        clear A350
                                        by_cases c36 : t127.toList = ((((((⟨#[47]⟩ : ByteArray) ++ a0) ++ (⟨#[47]⟩ : ByteArray)) ++ a1) ++ (⟨#[47]⟩ : ByteArray)) ++ a2).toList
                                        · rw [if_pos c36] at H
                                          have c36b0 : (t127.toList == ((((((⟨#[47]⟩ : ByteArray) ++ a0) ++ (⟨#[47]⟩ : ByteArray)) ++ a1) ++ (⟨#[47]⟩ : ByteArray)) ++ a2).toList) = true := beq_iff_eq.mpr c36
                                          have c36b1 : (t127.toList != ((((((⟨#[47]⟩ : ByteArray) ++ a0) ++ (⟨#[47]⟩ : ByteArray)) ++ a1) ++ (⟨#[47]⟩ : ByteArray)) ++ a2).toList) = false := bne_eq_false_iff_eq.mpr c36
                                          clear c36
                                          replace H := Option.bind_eq_some_iff.mp H
                                          obtain ⟨t128, A370, H⟩ := H
                                          replace H : (some (t128.toList == ((⟨#[47]⟩ : ByteArray) ++ a0).toList)) = some r := H
                                          have A37 := Aside0.mk A370
                                          clear A370
                                          obtain rfl := Option.some.inj H
                                          go_wp2_with (first | ((with_reducible refine gate_callee (f := 18) rfl ?_); refine goesL_ (some 48) rfl rfl Try.func18 (by kernel_rfl) rfl #[.string x11_16, .string x12_22] rfl (by (try simp only [List.map_toArray, List.map_cons, List.map_nil]); first | done | rfl | (simp only [List.length_drop, List.length_take]; rfl)) ?_; (with_reducible refine (impl_GroupPath.calls kj22 x11_16 x12_22 t124 _ A25.out).mono ?_); rintro e w' ⟨rfl, ⟨nd, rfl⟩⟩; refine ⟨_, rfl, ?_⟩) | ((with_reducible refine gate_callee (f := 18) rfl ?_); refine goesL_ (some 50) rfl rfl Try.func18 (by kernel_rfl) rfl #[.string t124, .string ((⟨#[47]⟩ : ByteArray) ++ a2)] rfl (by (try simp only [List.map_toArray, List.map_cons, List.map_nil]); first | done | rfl | (simp only [List.length_drop, List.length_take]; rfl)) ?_; (with_reducible refine (impl_GroupPath.calls kj22 t124 ((⟨#[47]⟩ : ByteArray) ++ a2) t125 _ A26.out).mono ?_); rintro e w' ⟨rfl, ⟨nd, rfl⟩⟩; refine ⟨_, rfl, ?_⟩) | (go_at_call 18; (with_reducible refine (impl_GroupPath.calls kj22 ((⟨#[47]⟩ : ByteArray) ++ a1) ((⟨#[47]⟩ : ByteArray) ++ a2) t126 _ A34.out).mono ?_); rintro e w' ⟨rfl, ⟨nd, rfl⟩⟩) | (go_at_call 18; (with_reducible refine (impl_GroupPath.calls kj22 x11_16 t126 t127 _ A35.out).mono ?_); rintro e w' ⟨rfl, ⟨nd, rfl⟩⟩) | (go_at_call 18; (with_reducible refine (impl_GroupPath.calls kj22 ((⟨#[47]⟩ : ByteArray) ++ a0) (⟨#[]⟩ : ByteArray) t128 _ A37.out).mono ?_); rintro e w' ⟨rfl, ⟨nd, rfl⟩⟩))
                                          go_ret
                                          exact ⟨by first | rfl | (simp [errW_none, errW_some] <;> rfl) | (simp [*, errW_none, errW_some] <;> rfl), by repeat (first | (with_reducible first | exact HB.out | apply below_alloc | apply pw_below_drewN | apply below_drew1) | exact HB.out)⟩
                                        · rw [if_neg c36] at H
                                          have c36b0 : (t127.toList == ((((((⟨#[47]⟩ : ByteArray) ++ a0) ++ (⟨#[47]⟩ : ByteArray)) ++ a1) ++ (⟨#[47]⟩ : ByteArray)) ++ a2).toList) = false := beq_eq_false_iff_ne.mpr c36
                                          have c36b1 : (t127.toList != ((((((⟨#[47]⟩ : ByteArray) ++ a0) ++ (⟨#[47]⟩ : ByteArray)) ++ a1) ++ (⟨#[47]⟩ : ByteArray)) ++ a2).toList) = true := bne_iff_ne.mpr c36
                                          obtain rfl := Option.some.inj H
                                          go_wp2_with (first | ((with_reducible refine gate_callee (f := 18) rfl ?_); refine goesL_ (some 48) rfl rfl Try.func18 (by kernel_rfl) rfl #[.string x11_16, .string x12_22] rfl (by (try simp only [List.map_toArray, List.map_cons, List.map_nil]); first | done | rfl | (simp only [List.length_drop, List.length_take]; rfl)) ?_; (with_reducible refine (impl_GroupPath.calls kj22 x11_16 x12_22 t124 _ A25.out).mono ?_); rintro e w' ⟨rfl, ⟨nd, rfl⟩⟩; refine ⟨_, rfl, ?_⟩) | ((with_reducible refine gate_callee (f := 18) rfl ?_); refine goesL_ (some 50) rfl rfl Try.func18 (by kernel_rfl) rfl #[.string t124, .string ((⟨#[47]⟩ : ByteArray) ++ a2)] rfl (by (try simp only [List.map_toArray, List.map_cons, List.map_nil]); first | done | rfl | (simp only [List.length_drop, List.length_take]; rfl)) ?_; (with_reducible refine (impl_GroupPath.calls kj22 t124 ((⟨#[47]⟩ : ByteArray) ++ a2) t125 _ A26.out).mono ?_); rintro e w' ⟨rfl, ⟨nd, rfl⟩⟩; refine ⟨_, rfl, ?_⟩) | (go_at_call 18; (with_reducible refine (impl_GroupPath.calls kj22 ((⟨#[47]⟩ : ByteArray) ++ a1) ((⟨#[47]⟩ : ByteArray) ++ a2) t126 _ A34.out).mono ?_); rintro e w' ⟨rfl, ⟨nd, rfl⟩⟩) | (go_at_call 18; (with_reducible refine (impl_GroupPath.calls kj22 x11_16 t126 t127 _ A35.out).mono ?_); rintro e w' ⟨rfl, ⟨nd, rfl⟩⟩))
                                          go_ret
                                          exact ⟨by first | rfl | (simp [errW_none, errW_some] <;> rfl) | (simp [*, errW_none, errW_some] <;> rfl), by repeat (first | (with_reducible first | exact HB.out | apply below_alloc | apply pw_below_drewN | apply below_drew1) | exact HB.out)⟩
                                      · rw [if_neg c33] at H
                                        exact absurd H (by simp)
                                    · rw [if_neg c32] at H
                                      have c32b0 : (t125.toList == ((((((⟨#[47]⟩ : ByteArray) ++ a0) ++ (⟨#[47]⟩ : ByteArray)) ++ a1) ++ (⟨#[47]⟩ : ByteArray)) ++ a2).toList) = false := beq_eq_false_iff_ne.mpr c32
                                      have c32b1 : (t125.toList != ((((((⟨#[47]⟩ : ByteArray) ++ a0) ++ (⟨#[47]⟩ : ByteArray)) ++ a1) ++ (⟨#[47]⟩ : ByteArray)) ++ a2).toList) = true := bne_iff_ne.mpr c32
                                      obtain rfl := Option.some.inj H
                                      go_wp2_with (first | ((with_reducible refine gate_callee (f := 18) rfl ?_); refine goesL_ (some 48) rfl rfl Try.func18 (by kernel_rfl) rfl #[.string x11_16, .string x12_22] rfl (by (try simp only [List.map_toArray, List.map_cons, List.map_nil]); first | done | rfl | (simp only [List.length_drop, List.length_take]; rfl)) ?_; (with_reducible refine (impl_GroupPath.calls kj22 x11_16 x12_22 t124 _ A25.out).mono ?_); rintro e w' ⟨rfl, ⟨nd, rfl⟩⟩; refine ⟨_, rfl, ?_⟩) | ((with_reducible refine gate_callee (f := 18) rfl ?_); refine goesL_ (some 50) rfl rfl Try.func18 (by kernel_rfl) rfl #[.string t124, .string ((⟨#[47]⟩ : ByteArray) ++ a2)] rfl (by (try simp only [List.map_toArray, List.map_cons, List.map_nil]); first | done | rfl | (simp only [List.length_drop, List.length_take]; rfl)) ?_; (with_reducible refine (impl_GroupPath.calls kj22 t124 ((⟨#[47]⟩ : ByteArray) ++ a2) t125 _ A26.out).mono ?_); rintro e w' ⟨rfl, ⟨nd, rfl⟩⟩; refine ⟨_, rfl, ?_⟩))
                                      go_ret
                                      exact ⟨by first | rfl | (simp [errW_none, errW_some] <;> rfl) | (simp [*, errW_none, errW_some] <;> rfl), by repeat (first | (with_reducible first | exact HB.out | apply below_alloc | apply pw_below_drewN | apply below_drew1) | exact HB.out)⟩
                                  · rw [if_neg c31] at H
                                    exact absurd H (by simp)
                                · rw [if_neg c30] at H
                                  exact absurd H (by simp)
                              · rw [if_neg c29] at H
                                exact absurd H (by simp)
                            · rw [if_neg c28] at H
                              exact absurd H (by simp)
                          · rw [if_neg c27] at H
                            exact absurd H (by simp)
                · rw [if_neg c16] at H
                  exact absurd H (by simp)
              · rw [if_neg c15] at H
                exact absurd H (by simp)
            · rw [if_neg c14] at H
              exact absurd H (by simp)
          · replace c13 := Bool.eq_false_iff.mpr c13
            subst c13
            have H1 : (some true) = some r := by rw [if_neg (show ¬ (false = true) by decide)] at H; exact H
            clear H
            have H := H1
            clear H1
            obtain rfl := Option.some.inj H
            go_wp2_with (first | ((with_reducible refine gate_callee (f := 18) rfl ?_); refine goesL_ (some 27) rfl rfl Try.func18 (by kernel_rfl) rfl #[.string (⟨#[47, 97]⟩ : ByteArray), .string (⟨#[47, 98]⟩ : ByteArray)] rfl (by (try simp only [List.map_toArray, List.map_cons, List.map_nil]); first | done | rfl | (simp only [List.length_drop, List.length_take]; rfl)) ?_; (with_reducible refine (impl_GroupPath.calls kj5 (⟨#[47, 97]⟩ : ByteArray) (⟨#[47, 98]⟩ : ByteArray) t119 _ A10.out).mono ?_); rintro e w' ⟨rfl, ⟨nd, rfl⟩⟩; refine ⟨_, rfl, ?_⟩) | ((with_reducible refine gate_dst (N := 32) rfl ?_); (try (refine gate_guard (by rfl) ?_; dsimp only)); refine Kd.R_lit Kd.string _ 9 ?hg (N := 32) ?hd (xs := ([a0, a1, a2] : List ByteArray)) (inner := [.string a0, .string a1, .string a2]) (ok := fun _ => True) (okp := fun _ => True) ?hr ?hp (fun _ hk => hk) trivial (Below.refl _ _) (Nat.le_refl _) (by simp) ?_; (case hd => rfl); (case hg => rfl); (case hr => first | (go_simp; done) | (go_simp; rfl)); (case hp => exact (Reps.one (show Kd.M Kd.string _ _ _ a0 [.string a0] from rfl) (Reps.one (show Kd.M Kd.string _ _ _ a1 [.string a1] from rfl) (Reps.one (show Kd.M Kd.string _ _ _ a2 [.string a2] from rfl) (Reps.none _ _))))); intro v121 w38 ho39 hb hg_ hnew_; clear hg_ hnew_; (first | rw [← Ny120.out] at ho39 | (simp only [Int.reduceToNat] at ho39; rw [← Ny120.out] at ho39)); have n0_ := Aside0.mk (Kd.R_lower ho39 (below_size (by repeat (first | (with_reducible first | exact HB.out | apply below_alloc | apply pw_below_drewN | apply below_drew1) | exact HB.out)))); have n1_ := Aside0.mk (below_step (by repeat (first | (with_reducible first | exact HB.out | apply below_alloc | apply pw_below_drewN | apply below_drew1) | exact HB.out)) hb); clear HB; have HO122 := n0_; have HB := n1_; clear n0_ n1_; clear hb ho39; obtain ⟨Ao40, co40, eo40⟩ := Kd.R_slice HO122.out; subst eo40) | ((with_reducible refine gate_callee (f := 14) rfl ?_); refine goesL_ (some 33) rfl rfl Try.func14 (by kernel_rfl) rfl #[.slice Ao40 y120.length co40] rfl (by (try simp only [List.map_toArray, List.map_cons, List.map_nil]); first | done | rfl | (simp only [List.length_drop, List.length_take]; rfl)) ?_; (with_reducible refine (laws_words.calls kj5 _ _ y120 false _ ?side1 ?side2 A12.out).mono ?_); (case side1 => repeat (first | exact (Kd.R_reads' HO122.out).2.2 | (with_reducible refine Kd.C_alloc ?_ _) | (with_reducible refine Kd.C_drewN ?_ _) | (with_reducible refine Kd.C_drew ?_))); (case side2 => exact (Kd.R_reads' HO122.out).2.1); rintro e w' ⟨rfl, ⟨nd, rfl⟩⟩; refine ⟨_, rfl, ?_⟩))
            go_ret
            exact ⟨by first | rfl | (simp [errW_none, errW_some] <;> rfl) | (simp [*, errW_none, errW_some] <;> rfl), by repeat (first | (with_reducible first | exact HB.out | apply below_alloc | apply pw_below_drewN | apply below_drew1) | exact HB.out)⟩
        · rw [if_neg c11] at H
          have c11b0 : (t119.toList == ([47, 97, 47, 98] : List UInt8)) = false := beq_eq_false_iff_ne.mpr c11
          have c11b1 : (t119.toList != ([47, 97, 47, 98] : List UInt8)) = true := bne_iff_ne.mpr c11
          obtain rfl := Option.some.inj H
          go_wp2_with (first | ((with_reducible refine gate_callee (f := 18) rfl ?_); refine goesL_ (some 27) rfl rfl Try.func18 (by kernel_rfl) rfl #[.string (⟨#[47, 97]⟩ : ByteArray), .string (⟨#[47, 98]⟩ : ByteArray)] rfl (by (try simp only [List.map_toArray, List.map_cons, List.map_nil]); first | done | rfl | (simp only [List.length_drop, List.length_take]; rfl)) ?_; (with_reducible refine (impl_GroupPath.calls kj5 (⟨#[47, 97]⟩ : ByteArray) (⟨#[47, 98]⟩ : ByteArray) t119 _ A10.out).mono ?_); rintro e w' ⟨rfl, ⟨nd, rfl⟩⟩; refine ⟨_, rfl, ?_⟩))
          go_ret
          exact ⟨by first | rfl | (simp [errW_none, errW_some] <;> rfl) | (simp [*, errW_none, errW_some] <;> rfl), by repeat (first | (with_reducible first | exact HB.out | apply below_alloc | apply pw_below_drewN | apply below_drew1) | exact HB.out)⟩

/-- THE ONE PURE STATEMENT of laws_FnGroupPaths: yours. -/
def laws_FnGroupPaths.Pure : Prop := ∀ (a0 : ByteArray) (a1 : ByteArray) (a2 : ByteArray) (a3 : Bool) (a4 : Bool), a0.size ≤ 140737488351232 → a1.size ≤ 140737488351232 → a2.size ≤ 140737488351232 → ∃ k, laws_FnGroupPaths.f k a0 a1 a2 a3 a4 = some true
theorem laws_FnGroupPaths.walk (P : laws_FnGroupPaths.Pure) (a0 : ByteArray) (a1 : ByteArray) (a2 : ByteArray) (a3 : Bool) (a4 : Bool) (w : World) (w0 : a0.size ≤ 140737488351232) (w1 : a1.size ≤ 140737488351232) (w2 : a2.size ≤ 140737488351232) :
    Calls Try.prog 5 #[.string a0, .string a1, .string a2, .bool a3, .bool a4] w fun e w' => e = .returned (.bool true) ∧ Below w.heap.size w w' := by
  obtain ⟨k, h⟩ := P a0 a1 a2 a3 a4 w0 w1 w2
  refine (laws_FnGroupPaths.calls k a0 a1 a2 a3 a4 true w h).mono ?_
  rintro e w' ⟨rfl, hd⟩
  exact ⟨rfl, hd⟩

end Go.Proofs.Ytdfeojkombmiaaa.QA
