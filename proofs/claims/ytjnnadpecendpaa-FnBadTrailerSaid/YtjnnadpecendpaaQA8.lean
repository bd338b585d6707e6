/- Printed by wip/pr.py (a program of this repo over the print program of the kit). Not trusted: Lean checks it. -/
import Derived.Test.YtjnnadpecendpaaQA0
import Derived.Test.YtjnnadpecendpaaQA7
namespace Go.Proofs.Ytjnnadpecendpaa.QA
open Go.Proofs.Ytjnnadpecendpaa.Given
open Go.Proofs.Ytjnnadpecendpaa.PrX
open Go.RowKit Go.Proofs.YtjnnadpecendpaaW.PrintWords Go.Proofs.YtjnnadpecendpaaW.PrintLast Go.Proofs.YtjnnadpecendpaaW.PrintMore
attribute [local go_sem] max2_int min2_int max_two min_two max_three min_three max_four min_four   -- for this text's walks alone
set_option linter.unusedVariables false
set_option linter.unusedSimpArgs false

/-! ### laws_name: function 12 -/
mutual
def laws_name.j0 : Nat → ByteArray → Bool → Option (Bool)
  | 0, _, _ => none
  | k + 1, x0, x17 => if x17 = true then (some false) else (laws_name.l0 k x0 (x0.size : Int) 0)
def laws_name.l0 : Nat → ByteArray → Int → Int → Option (Bool)
  | 0, _, _, _ => none
  | k + 1, x0, x19, x20 => if x20 < x19 then (if 0 ≤ x20 then (if x20 < (x0.size : Int) then (if (bt x0 x20) = 45 then (laws_name.l0 k x0 x19 (wrap64 (x20 + 1))) else (if x20 ≤ (wrap64 (x20 + 1)) then (if (wrap64 (x20 + 1)) ≤ (x0.size : Int) then ((laws_word.f k (x0.extract (x20 : Int).toNat ((wrap64 (x20 + 1)) : Int).toNat)).bind fun t230 => (if t230 = true then (laws_name.l0 k x0 x19 (wrap64 (x20 + 1))) else (some false))) else (none)) else (none))) else (none)) else (none)) else (some true)
end
def laws_name.f (k : Nat) (a0 : ByteArray) : Option (Bool) := if (a0.size : Int) < 2 then (laws_name.j0 k a0 true) else (if 0 < (a0.size : Int) then (if (Go.bits .or .u8 (bt a0 0) 32) = 120 then (laws_name.j0 k a0 (decide ((a0.size : Int) > 60))) else (laws_name.j0 k a0 true)) else (none))
theorem laws_name.mono_l : ∀ k, (∀ y0 y1, LeO (laws_name.j0 k y0 y1) (laws_name.j0 (k + 1) y0 y1)) ∧ (∀ y0 y1 y2, LeO (laws_name.l0 k y0 y1 y2) (laws_name.l0 (k + 1) y0 y1 y2))
  | 0 => ⟨fun _ _ r h => by simp [laws_name.j0] at h, fun _ _ _ r h => by simp [laws_name.l0] at h⟩
  | k + 1 => by
    obtain ⟨ih0, ih1⟩ := laws_name.mono_l k
    refine ⟨?_, ?_⟩
    · intro y0 y1
      unfold laws_name.j0
      repeat' first
      | (with_reducible exact ih0 _ _)
      | (with_reducible exact ih1 _ _ _)
      | (with_reducible exact laws_word.mono _ _)
      | (with_reducible exact LeO.refl _)
      | (with_reducible exact LeO.none _)
      | (with_reducible refine LeO.ite ?_ ?_)
      | (with_reducible refine LeO.bind ?_ (fun _ => ?_))
      | exact ih0 _ _
      | exact ih1 _ _ _
      | exact laws_word.mono _ _
      | exact LeO.none _
      | refine LeO.ite ?_ ?_
      | refine LeO.bind ?_ (fun _ => ?_)
    · intro y0 y1 y2
      unfold laws_name.l0
      repeat' first
      | (with_reducible exact ih0 _ _)
      | (with_reducible exact ih1 _ _ _)
      | (with_reducible exact laws_word.mono _ _)
      | (with_reducible exact LeO.refl _)
      | (with_reducible exact LeO.none _)
      | (with_reducible refine LeO.ite ?_ ?_)
      | (with_reducible refine LeO.bind ?_ (fun _ => ?_))
      | exact ih0 _ _
      | exact ih1 _ _ _
      | exact laws_word.mono _ _
      | exact LeO.none _
      | refine LeO.ite ?_ ?_
      | refine LeO.bind ?_ (fun _ => ?_)
theorem laws_name.mono : ∀ a0 k, LeO (laws_name.f k a0) (laws_name.f (k + 1) a0) := by
  intro a0 k
  obtain ⟨ih0, ih1⟩ := laws_name.mono_l k
  unfold laws_name.f
  repeat' first
      | (with_reducible exact ih0 _ _)
      | (with_reducible exact ih1 _ _ _)
      | (with_reducible exact laws_word.mono _ _)
      | (with_reducible exact LeO.refl _)
      | (with_reducible exact LeO.none _)
      | (with_reducible refine LeO.ite ?_ ?_)
      | (with_reducible refine LeO.bind ?_ (fun _ => ?_))
      | exact ih0 _ _
      | exact ih1 _ _ _
      | exact laws_word.mono _ _
      | exact LeO.none _
      | refine LeO.ite ?_ ?_
      | refine LeO.bind ?_ (fun _ => ?_)
set_option maxHeartbeats 8000000 in
set_option maxRecDepth 100000 in
theorem laws_name.calls (k : Nat) (a0 : ByteArray) (r : Bool) (w : World) (h : laws_name.f k a0 = some r) :
    Calls Try.prog 12 #[.string a0] w fun e w' => e = .returned (.bool r) ∧ Drawn0 w w' := by
  have H : (if (a0.size : Int) < 2 then (laws_name.j0 k a0 true) else (if 0 < (a0.size : Int) then (if (Go.bits .or .u8 (bt a0 0) 32) = 120 then (laws_name.j0 k a0 (decide ((a0.size : Int) > 60))) else (laws_name.j0 k a0 true)) else (none))) = some r := h
  clear h
  have HC2 := Aside0.mk H
  clear H
  go_enter Try.func12, Try.ntmps12
  go_upto_region 1 with (fail)
  go_cut [17] (fun v17 wc => ∃ (kq : Nat) (x17_1 : Bool), v17 = .bool x17_1 ∧ Aside0 (laws_name.j0 kq a0 x17_1 = some r) ∧ Aside0 (kq ≤ k) ∧ Drawn0 w wc)
  case first =>
    have H := HC2.out
    clear HC2
    by_cases c3 : (a0.size : Int) < 2
    · rw [if_pos c3] at H
      have c3b0 : decide ((a0.size : Int) < 2) = true := decide_eq_true c3
      have c3b1 : decide (a0.size < 2) = true := decide_eq_true (by omega)
      clear c3
      (first | rw [c3b0] | (simp only [i64_w, i32_w]; rw [c3b0]) | skip)
      have H' := Aside0.mk H
      clear H
      go_wp2
      go_meet
      case rel => exact ⟨_, (true), (by first | rfl | (simp; done) | (rw [prx_ne]; first | done | rfl) | (simp [*]; done)), H', ⟨by first | omega | exact Nat.le_refl _⟩, by repeat (first | exact Drawn0.refl _ | apply Drawn0.step)⟩
    · rw [if_neg c3] at H
      have c3b0 : decide ((a0.size : Int) < 2) = false := decide_eq_false c3
      have c3b1 : decide (a0.size < 2) = false := decide_eq_false (by omega)
      clear c3
      (first | rw [c3b0] | (simp only [i64_w, i32_w]; rw [c3b0]) | skip)
      by_cases c4 : 0 < (a0.size : Int)
      · rw [if_pos c4] at H
        have c4b0 : decide (0 < (a0.size : Int)) = true := decide_eq_true c4
        have c4b1 : decide (0 < a0.size) = true := decide_eq_true (by omega)
        clear c4
        by_cases c6 : (Go.bits .or .u8 (bt a0 0) 32) = 120
        · rw [if_pos c6] at H
          have c6b0 : ((Go.bits .or .u8 (bt a0 0) 32) == 120) = true := beq_iff_eq.mpr c6
          have c6b1 : ((Go.bits .or .u8 (bt a0 0) 32) != 120) = false := bne_eq_false_iff_eq.mpr c6
          clear c6
          have H' := Aside0.mk H
          clear H
          have p5 : 0 ≤ (0 : Int) := (by omega)
          have q5 : 0 < a0.size := (by have : (0 : Int) < (a0.size : Int) := of_decide_eq_true (by first | (with_reducible assumption) | assumption); omega)
          have hx5 : ∀ h : 0 < a0.size, ((a0[0]'h).toNat : Int) = bt a0 0 := bt_at a0 0
          clear p5
          have qi5 : (0 < (a0.size : Int)) = True := eq_true (of_decide_eq_true (by first | (with_reducible assumption) | assumption))
          replace q5 := eq_true q5
          go_wp2
          go_meet
          case rel => exact ⟨_, (decide ((a0.size : Int) > 60)), (by first | rfl | (simp; done) | (rw [prx_ne]; first | done | rfl) | (simp [*]; done)), H', ⟨by first | omega | exact Nat.le_refl _⟩, by repeat (first | exact Drawn0.refl _ | apply Drawn0.step)⟩
        · rw [if_neg c6] at H
          have c6b0 : ((Go.bits .or .u8 (bt a0 0) 32) == 120) = false := beq_eq_false_iff_ne.mpr c6
          have c6b1 : ((Go.bits .or .u8 (bt a0 0) 32) != 120) = true := bne_iff_ne.mpr c6
          have H' := Aside0.mk H
          clear H
          have p5 : 0 ≤ (0 : Int) := (by omega)
          have q5 : 0 < a0.size := (by have : (0 : Int) < (a0.size : Int) := of_decide_eq_true (by first | (with_reducible assumption) | assumption); omega)
          have hx5 : ∀ h : 0 < a0.size, ((a0[0]'h).toNat : Int) = bt a0 0 := bt_at a0 0
          clear p5
          have qi5 : (0 < (a0.size : Int)) = True := eq_true (of_decide_eq_true (by first | (with_reducible assumption) | assumption))
          replace q5 := eq_true q5
          go_wp2
          go_meet
          case rel => exact ⟨_, (true), (by first | rfl | (simp; done) | (rw [prx_ne]; first | done | rfl) | (simp [*]; done)), H', ⟨by first | omega | exact Nat.le_refl _⟩, by repeat (first | exact Drawn0.refl _ | apply Drawn0.step)⟩
      · rw [if_neg c4] at H
        exact absurd H (by simp)
  case rest =>
    clear HC2
    try clear c1
    try clear p2
    try clear c3
    try clear c3b0
    try clear c3b1
    try clear c4
    try clear c4b0
    try clear c4b1
    try clear p5
    try clear q5
    try clear hx5
    try clear qi5
    try clear c6
    try clear c6b0
    try clear c6b1
    try clear p5
    try clear q5
    obtain ⟨kq, x17_1, rfl, HA, HJ1, ⟨mc1, rfl⟩⟩ := hcut
    cases kq with
    | zero => exact absurd HA.out (by simp [laws_name.j0])
    | succ kj1 =>
      have H := HA.out
      clear HA
      simp only [laws_name.j0] at H
      by_cases c7 : x17_1 = true
      · subst c7
        have H1 : (some false) = some r := by rw [if_pos rfl] at H; exact H
        clear H
        have H := H1
        clear H1
        obtain rfl := Option.some.inj H
        go_wp2
        go_ret
        exact ⟨by first | rfl | (simp; done) | (rw [prx_ne]; first | done | rfl) | (simp [*]; done), by repeat (first | exact Drawn0.refl _ | apply Drawn0.step)⟩
      · replace c7 := Bool.eq_false_iff.mpr c7
        subst c7
        have H1 : (laws_name.l0 kj1 a0 (a0.size : Int) 0) = some r := by rw [if_neg (show ¬ (false = true) by decide)] at H; exact H
        clear H
        have H := H1
        clear H1
        have H' := Aside0.mk H
        clear H
        go_wp2
        go_loopg [20] kj1 (fun kq v20 w' => ∃ (x20_2 : Int), v20 = .int .i64 x20_2 ∧ Aside0 (laws_name.l0 kq a0 (a0.size : Int) x20_2 = some r) ∧ Aside0 (kq ≤ kj1) ∧ Drawn0 w w')
        case atStart => exact ⟨(0), (by first | rfl | (simp; done) | (rw [prx_ne]; first | done | rfl) | (simp [*]; done)), H', ⟨Nat.le_refl _⟩, by repeat (first | exact Drawn0.refl _ | apply Drawn0.step)⟩
        case round =>
          clear H'
          try clear c1
          try clear p2
          try clear c3
          try clear c3b0
          try clear c3b1
          try clear c4
          try clear c4b0
          try clear c4b1
          try clear p5
          try clear q5
          try clear hx5
          try clear qi5
          try clear c6
          try clear c6b0
          try clear c6b1
          try clear c7
          try clear p2
          try clear p5
          try clear q5
          obtain ⟨x20_2, rfl, HA, HK2, ⟨m2, rfl⟩⟩ := hrel
          cases gk with
          | zero => exact absurd HA.out (by simp [laws_name.l0])
          | succ k2 =>
            have H := HA.out
            clear HA
            simp only [laws_name.l0] at H
            by_cases c8 : x20_2 < (a0.size : Int)
            · rw [if_pos c8] at H
              have c8b0 : decide (x20_2 < (a0.size : Int)) = true := decide_eq_true c8
              clear c8
              by_cases c9 : 0 ≤ x20_2
              · rw [if_pos c9] at H
                have c9b0 : decide (0 ≤ x20_2) = true := decide_eq_true c9
                clear c9
                by_cases c10 : x20_2 < (a0.size : Int)
                · rw [if_pos c10] at H
                  have c10b0 : decide (x20_2 < (a0.size : Int)) = true := decide_eq_true c10
                  clear c10
                  by_cases c12 : (bt a0 x20_2) = 45
                  · rw [if_pos c12] at H
                    have c12b0 : ((bt a0 x20_2) == 45) = true := beq_iff_eq.mpr c12
                    have c12b1 : ((bt a0 x20_2) != 45) = false := bne_eq_false_iff_eq.mpr c12
                    clear c12
                    have H' := Aside0.mk H
                    clear H
                    have p11 : 0 ≤ (x20_2 : Int) := of_decide_eq_true (by first | (with_reducible assumption) | assumption)
                    have q11 : x20_2 < (a0.size : Int) := of_decide_eq_true (by first | (with_reducible assumption) | assumption)
                    have hx11 := bt_at a0 x20_2
                    replace p11 := eq_true p11
                    replace q11 := eq_true q11
                    go_wp2
                    go_roundg k2
                    case measure => have := HJ1.out; have := HK2.out; omega
                    case rel => exact ⟨(wrap64 (x20_2 + 1)), (by first | rfl | (simp; done) | (rw [prx_ne]; first | done | rfl) | (simp [*]; done)), H', ⟨by have := HJ1.out; have := HK2.out; omega⟩, by repeat (first | exact Drawn0.refl _ | apply Drawn0.step)⟩
                  · rw [if_neg c12] at H
                    have c12b0 : ((bt a0 x20_2) == 45) = false := beq_eq_false_iff_ne.mpr c12
                    have c12b1 : ((bt a0 x20_2) != 45) = true := bne_iff_ne.mpr c12
                    have c13b0 := eq_true (of_decide_eq_true (by first | (with_reducible assumption) | assumption) : 0 ≤ x20_2)
                    by_cases c14 : x20_2 ≤ (wrap64 (x20_2 + 1))
                    · rw [if_pos c14] at H
                      have c14b0 := eq_true c14
                      have c14b1 : decide (x20_2 ≤ (wrap64 (x20_2 + 1))) = true := decide_eq_true c14
                      by_cases c15 : (wrap64 (x20_2 + 1)) ≤ (a0.size : Int)
                      · rw [if_pos c15] at H
                        have c15b0 := eq_true c15
                        have c15b1 : decide ((wrap64 (x20_2 + 1)) ≤ (a0.size : Int)) = true := decide_eq_true c15
                        replace H := Option.bind_eq_some_iff.mp H
                        obtain ⟨t230, A160, H⟩ := H
                        replace H : (if t230 = true then (laws_name.l0 k2 a0 (a0.size : Int) (wrap64 (x20_2 + 1))) else (some false)) = some r := H
                        have A16 := Aside0.mk A160
                        clear A160
                        by_cases c17 : t230 = true
                        · subst c17
                          have H1 : (laws_name.l0 k2 a0 (a0.size : Int) (wrap64 (x20_2 + 1))) = some r := by rw [if_pos rfl] at H; exact H
                          clear H
                          have H := H1
                          clear H1
                          have H' := Aside0.mk H
                          clear H
                          have p11 : 0 ≤ (x20_2 : Int) := of_decide_eq_true (by first | (with_reducible assumption) | assumption)
                          have q11 : x20_2 < (a0.size : Int) := of_decide_eq_true (by first | (with_reducible assumption) | assumption)
                          have hx11 := bt_at a0 x20_2
                          replace p11 := eq_true p11
                          replace q11 := eq_true q11
                          go_wp2_with (first | (go_at_call 17; (with_reducible refine (laws_word.calls k2 (a0.extract (x20_2 : Int).toNat ((wrap64 (x20_2 + 1)) : Int).toNat) true _ A16.out).mono ?_); rintro e w' ⟨rfl, ⟨nd, rfl⟩⟩))
                          go_roundg k2
                          case measure => have := HJ1.out; have := HK2.out; omega
                          case rel => exact ⟨(wrap64 (x20_2 + 1)), (by first | rfl | (simp; done) | (rw [prx_ne]; first | done | rfl) | (simp [*]; done)), H', ⟨by have := HJ1.out; have := HK2.out; omega⟩, by repeat (first | exact Drawn0.refl _ | apply Drawn0.step)⟩
                        · replace c17 := Bool.eq_false_iff.mpr c17
                          subst c17
                          have H1 : (some false) = some r := by rw [if_neg (show ¬ (false = true) by decide)] at H; exact H
                          clear H
                          have H := H1
                          clear H1
                          obtain rfl := Option.some.inj H
                          have p11 : 0 ≤ (x20_2 : Int) := of_decide_eq_true (by first | (with_reducible assumption) | assumption)
                          have q11 : x20_2 < (a0.size : Int) := of_decide_eq_true (by first | (with_reducible assumption) | assumption)
                          have hx11 := bt_at a0 x20_2
                          replace p11 := eq_true p11
                          replace q11 := eq_true q11
                          go_wp2_with (first | (go_at_call 17; (with_reducible refine (laws_word.calls k2 (a0.extract (x20_2 : Int).toNat ((wrap64 (x20_2 + 1)) : Int).toNat) false _ A16.out).mono ?_); rintro e w' ⟨rfl, ⟨nd, rfl⟩⟩))
                          go_ret
                          exact ⟨by first | rfl | (simp; done) | (rw [prx_ne]; first | done | rfl) | (simp [*]; done), by repeat (first | exact Drawn0.refl _ | apply Drawn0.step)⟩
                      · rw [if_neg c15] at H
                        exact absurd H (by simp)
                    · rw [if_neg c14] at H
                      exact absurd H (by simp)
                · rw [if_neg c10] at H
                  exact absurd H (by simp)
              · rw [if_neg c9] at H
                exact absurd H (by simp)
            · rw [if_neg c8] at H
              have c8b0 : decide (x20_2 < (a0.size : Int)) = false := decide_eq_false c8
              clear c8
              obtain rfl := Option.some.inj H
              go_wp2
              go_ret
              exact ⟨by first | rfl | (simp; done) | (rw [prx_ne]; first | done | rfl) | (simp [*]; done), by repeat (first | exact Drawn0.refl _ | apply Drawn0.step)⟩

end Go.Proofs.Ytjnnadpecendpaa.QA
