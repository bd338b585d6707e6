/- Printed by wip/pr.py (a program of this repo over the print program of the kit). Not trusted: Lean checks it. -/
import Derived.Test.YtdfeojkombmiaaaQA0
import Derived.Test.YtdfeojkombmiaaaQA23
namespace Go.Proofs.Ytdfeojkombmiaaa.QA
open Go.Proofs.Ytdfeojkombmiaaa.Given
open Go.Proofs.Ytdfeojkombmiaaa.PrX
open Go.RowKit Go.Proofs.YtdfeojkombmiaaaW.PrintWords Go.Proofs.YtdfeojkombmiaaaW.PrintLast Go.Proofs.YtdfeojkombmiaaaW.PrintMore
attribute [local go_sem] max2_int min2_int max_two min_two max_three min_three max_four min_four   -- for this text's walks alone
set_option linter.unusedVariables false
set_option linter.unusedSimpArgs false

/-! ### fiberhelpers_isNoCache: function 58 -/
def fiberhelpers_isNoCache.j0 : Nat → ByteArray → Int → Bool → Option (Bool)
  | 0, _, _, _ => none
  | k + 1, x0, x3, x24 => if x24 = true then (some false) else (if (wrap64 (x3 + 8)) = (x0.size : Int) then (some true) else (if 0 ≤ (wrap64 (x3 + 8)) then (if (wrap64 (x3 + 8)) < (x0.size : Int) then (if (bt x0 (wrap64 (x3 + 8))) = 44 then (some true) else (some false)) else (none)) else (none)))
def fiberhelpers_isNoCache.f (k : Nat) (a0 : ByteArray) : Option (Bool) := (fiberhelpers_zzIndex.f k a0 (⟨#[110, 111, 45, 99, 97, 99, 104, 101]⟩ : ByteArray)).bind fun t185 => (if t185 = (-1) then (some false) else (if t185 > 0 then (if 0 ≤ (wrap64 (t185 - 1)) then (if (wrap64 (t185 - 1)) < (a0.size : Int) then (if (bt a0 (wrap64 (t185 - 1))) = 32 then (fiberhelpers_isNoCache.j0 k a0 t185 (!true)) else (fiberhelpers_isNoCache.j0 k a0 t185 (!((bt a0 (wrap64 (t185 - 1))) == 44)))) else (none)) else (none)) else (fiberhelpers_isNoCache.j0 k a0 t185 false)))
theorem fiberhelpers_isNoCache.mono_l : ∀ k, (∀ y0 y1 y2, LeO (fiberhelpers_isNoCache.j0 k y0 y1 y2) (fiberhelpers_isNoCache.j0 (k + 1) y0 y1 y2))
  | 0 => fun _ _ _ r h => by simp [fiberhelpers_isNoCache.j0] at h
  | k + 1 => by
    have ih0 := fiberhelpers_isNoCache.mono_l k
    · intro y0 y1 y2
      unfold fiberhelpers_isNoCache.j0
      repeat' first
      | (with_reducible exact ih0 _ _ _)
      | (with_reducible exact fiberhelpers_zzIndex.mono _ _ _)
      | (with_reducible exact LeO.refl _)
      | (with_reducible exact LeO.none _)
      | (with_reducible refine LeO.ite ?_ ?_)
      | (with_reducible refine LeO.bind ?_ (fun _ => ?_))
      | exact ih0 _ _ _
      | exact fiberhelpers_zzIndex.mono _ _ _
      | exact LeO.none _
      | refine LeO.ite ?_ ?_
      | refine LeO.bind ?_ (fun _ => ?_)
theorem fiberhelpers_isNoCache.mono : ∀ a0 k, LeO (fiberhelpers_isNoCache.f k a0) (fiberhelpers_isNoCache.f (k + 1) a0) := by
  intro a0 k
  have ih0 := fiberhelpers_isNoCache.mono_l k
  unfold fiberhelpers_isNoCache.f
  repeat' first
      | (with_reducible exact ih0 _ _ _)
      | (with_reducible exact fiberhelpers_zzIndex.mono _ _ _)
      | (with_reducible exact LeO.refl _)
      | (with_reducible exact LeO.none _)
      | (with_reducible refine LeO.ite ?_ ?_)
      | (with_reducible refine LeO.bind ?_ (fun _ => ?_))
      | exact ih0 _ _ _
      | exact fiberhelpers_zzIndex.mono _ _ _
      | exact LeO.none _
      | refine LeO.ite ?_ ?_
      | refine LeO.bind ?_ (fun _ => ?_)
set_option maxHeartbeats 8000000 in
set_option maxRecDepth 100000 in
theorem fiberhelpers_isNoCache.calls (k : Nat) (a0 : ByteArray) (r : Bool) (w : World) (h : fiberhelpers_isNoCache.f k a0 = some r) :
    Calls Try.prog 58 #[.string a0] w fun e w' => e = .returned (.bool r) ∧ Drawn0 w w' := by
  have H : ((fiberhelpers_zzIndex.f k a0 (⟨#[110, 111, 45, 99, 97, 99, 104, 101]⟩ : ByteArray)).bind fun t185 => (if t185 = (-1) then (some false) else (if t185 > 0 then (if 0 ≤ (wrap64 (t185 - 1)) then (if (wrap64 (t185 - 1)) < (a0.size : Int) then (if (bt a0 (wrap64 (t185 - 1))) = 32 then (fiberhelpers_isNoCache.j0 k a0 t185 (!true)) else (fiberhelpers_isNoCache.j0 k a0 t185 (!((bt a0 (wrap64 (t185 - 1))) == 44)))) else (none)) else (none)) else (fiberhelpers_isNoCache.j0 k a0 t185 false)))) = some r := h
  clear h
  replace H := Option.bind_eq_some_iff.mp H
  obtain ⟨t185, A20, H⟩ := H
  replace H : (if t185 = (-1) then (some false) else (if t185 > 0 then (if 0 ≤ (wrap64 (t185 - 1)) then (if (wrap64 (t185 - 1)) < (a0.size : Int) then (if (bt a0 (wrap64 (t185 - 1))) = 32 then (fiberhelpers_isNoCache.j0 k a0 t185 (!true)) else (fiberhelpers_isNoCache.j0 k a0 t185 (!((bt a0 (wrap64 (t185 - 1))) == 44)))) else (none)) else (none)) else (fiberhelpers_isNoCache.j0 k a0 t185 false))) = some r := H
  have A2 := Aside0.mk A20
  clear A20
  by_cases c3 : t185 = (-1)
  · rw [if_pos c3] at H
    have c3b0 : (t185 == (-1)) = true := beq_iff_eq.mpr c3
    have c3b1 : (t185 != (-1)) = false := bne_eq_false_iff_eq.mpr c3
    clear c3
    obtain rfl := Option.some.inj H
    go_enter Try.func58, Try.ntmps58
    go_wp2_with (first | ((with_reducible refine gate_callee (f := 65) rfl ?_); refine goesL_ (some 5) rfl rfl Try.func65 (by kernel_rfl) rfl #[.string a0, .string (⟨#[110, 111, 45, 99, 97, 99, 104, 101]⟩ : ByteArray)] rfl (by (try simp only [List.map_toArray, List.map_cons, List.map_nil]); first | done | rfl | (simp only [List.length_drop, List.length_take]; rfl)) ?_; (with_reducible refine (fiberhelpers_zzIndex.calls k a0 (⟨#[110, 111, 45, 99, 97, 99, 104, 101]⟩ : ByteArray) t185 _ A2.out).mono ?_); rintro e w' ⟨rfl, ⟨nd, rfl⟩⟩; refine ⟨_, rfl, ?_⟩))
    go_ret
    exact ⟨by first | rfl | (simp; done) | (rw [prx_ne]; first | done | rfl) | (simp [*]; done), by repeat (first | exact Drawn0.refl _ | apply Drawn0.step)⟩
  · rw [if_neg c3] at H
    have c3b0 : (t185 == (-1)) = false := beq_eq_false_iff_ne.mpr c3
    have c3b1 : (t185 != (-1)) = true := bne_iff_ne.mpr c3
    have HC4 := Aside0.mk H
    clear H
    go_enter Try.func58, Try.ntmps58
    go_upto_region 4 with (first | ((with_reducible refine gate_callee (f := 65) rfl ?_); refine goesL_ (some 5) rfl rfl Try.func65 (by kernel_rfl) rfl #[.string a0, .string (⟨#[110, 111, 45, 99, 97, 99, 104, 101]⟩ : ByteArray)] rfl (by (try simp only [List.map_toArray, List.map_cons, List.map_nil]); first | done | rfl | (simp only [List.length_drop, List.length_take]; rfl)) ?_; (with_reducible refine (fiberhelpers_zzIndex.calls k a0 (⟨#[110, 111, 45, 99, 97, 99, 104, 101]⟩ : ByteArray) t185 _ A2.out).mono ?_); rintro e w' ⟨rfl, ⟨nd, rfl⟩⟩; refine ⟨_, rfl, ?_⟩))
    (try simp only [Act.put, List.setIfInBounds_toArray, List.set_cons_zero, List.set_cons_succ])
    go_cut [24] (fun v24 wc => ∃ (kq : Nat) (x24_3 : Bool), v24 = .bool x24_3 ∧ Aside0 (fiberhelpers_isNoCache.j0 kq a0 t185 x24_3 = some r) ∧ Aside0 (kq ≤ k) ∧ Drawn0 w wc)
    case first =>
      have H := HC4.out
      clear HC4
      by_cases c5 : t185 > 0
      · rw [if_pos c5] at H
        have c5b0 : decide (0 < t185) = true := decide_eq_true c5
        clear c5
        (first | rw [c5b0] | (simp only [i64_w, i32_w]; rw [c5b0]) | skip)
        obtain ⟨ji6, hji6⟩ : ∃ j_ : Int, (wrap64 (t185 - 1)) = j_ := ⟨_, rfl⟩
        replace H : (if 0 ≤ (ji6) then (if (ji6) < (a0.size : Int) then (if (bt a0 (ji6)) = 32 then (fiberhelpers_isNoCache.j0 k a0 t185 (!true)) else (fiberhelpers_isNoCache.j0 k a0 t185 (!((bt a0 (ji6)) == 44)))) else (none)) else (none)) = some r := by first | (rw [hji6] at H; exact H) | (simp only [hji6] at H ⊢; exact H)
        have hji6w : (IntKind.i64.wrap (t185 - 1)) = ji6 := (i64_w _).trans hji6
        by_cases c7 : 0 ≤ (ji6)
        · rw [if_pos c7] at H
          have c7b0 : decide (0 ≤ (ji6)) = true := decide_eq_true c7
          clear c7
          by_cases c8 : (ji6) < (a0.size : Int)
          · rw [if_pos c8] at H
            have c8b0 : decide ((ji6) < (a0.size : Int)) = true := decide_eq_true c8
            clear c8
            by_cases c10 : (bt a0 (ji6)) = 32
            · rw [if_pos c10] at H
              have c10b0 : ((bt a0 (ji6)) == 32) = true := beq_iff_eq.mpr c10
              have c10b1 : ((bt a0 (ji6)) != 32) = false := bne_eq_false_iff_eq.mpr c10
              clear c10
              have H' := Aside0.mk H
              clear H
              have p9 : 0 ≤ ((ji6) : Int) := of_decide_eq_true (by first | (with_reducible assumption) | assumption)
              have q9 : (ji6) < (a0.size : Int) := of_decide_eq_true (by first | (with_reducible assumption) | assumption)
              have hx9 := bt_at a0 (ji6)
              replace p9 := eq_true p9
              replace q9 := eq_true q9
              go_wp2
              go_meet
              case rel => exact ⟨_, (!true), (by first | rfl | (simp; done) | (rw [prx_ne]; first | done | rfl) | (simp [*]; done)), H', ⟨by first | omega | exact Nat.le_refl _⟩, by repeat (first | exact Drawn0.refl _ | apply Drawn0.step)⟩
            · rw [if_neg c10] at H
              have c10b0 : ((bt a0 (ji6)) == 32) = false := beq_eq_false_iff_ne.mpr c10
              have c10b1 : ((bt a0 (ji6)) != 32) = true := bne_iff_ne.mpr c10
              have H' := Aside0.mk H
              clear H
              have p9 : 0 ≤ ((ji6) : Int) := of_decide_eq_true (by first | (with_reducible assumption) | assumption)
              have q9 : (ji6) < (a0.size : Int) := of_decide_eq_true (by first | (with_reducible assumption) | assumption)
              have hx9 := bt_at a0 (ji6)
              replace p9 := eq_true p9
              replace q9 := eq_true q9
              have p11 : 0 ≤ ((ji6) : Int) := of_decide_eq_true (by first | (with_reducible assumption) | assumption)
              have q11 : (ji6) < (a0.size : Int) := of_decide_eq_true (by first | (with_reducible assumption) | assumption)
              have hx11 := bt_at a0 (ji6)
              replace p11 := eq_true p11
              replace q11 := eq_true q11
              go_wp2
              go_meet
              case rel => exact ⟨_, (!((bt a0 (ji6)) == 44)), (by first | rfl | (simp; done) | (simp only [← hji6] <;> (first | rfl | simp)) | (rw [prx_ne]; first | done | rfl) | (simp [*]; done)), H', ⟨by first | omega | exact Nat.le_refl _⟩, by repeat (first | exact Drawn0.refl _ | apply Drawn0.step)⟩
          · rw [if_neg c8] at H
            exact absurd H (by simp)
        · rw [if_neg c7] at H
          exact absurd H (by simp)
      · rw [if_neg c5] at H
        have c5b0 : decide (0 < t185) = false := decide_eq_false c5
        clear c5
        (first | rw [c5b0] | (simp only [i64_w, i32_w]; rw [c5b0]) | skip)
        have H' := Aside0.mk H
        clear H
        go_wp2
        go_meet
        case rel => exact ⟨_, (false), (by first | rfl | (simp; done) | (rw [prx_ne]; first | done | rfl) | (simp [*]; done)), H', ⟨by first | omega | exact Nat.le_refl _⟩, by repeat (first | exact Drawn0.refl _ | apply Drawn0.step)⟩
    case rest =>
      clear HC4
      try clear c1
      try clear p1
      try clear q1
      try clear hx1
      try clear p2
      try clear c3
      try clear c3b0
      try clear c3b1
      try clear c5
      try clear c5b0
      try clear c6
      try clear p6
      try clear c7
      try clear c7b0
      try clear c8
      try clear c8b0
      try clear p9
      try clear q9
      try clear hx9
      try clear c10
      try clear c10b0
      try clear c10b1
      try clear p11
      try clear q11
      try clear hx11
      try clear p11
      try clear p9
      try clear q11
      try clear q9
      obtain ⟨kq, x24_3, rfl, HA, HJ3, ⟨mc3, rfl⟩⟩ := hcut
      cases kq with
      | zero => exact absurd HA.out (by simp [fiberhelpers_isNoCache.j0])
      | succ kj3 =>
        have H := HA.out
        clear HA
        simp only [fiberhelpers_isNoCache.j0] at H
        by_cases c12 : x24_3 = true
        · subst c12
          have H1 : (some false) = some r := by rw [if_pos rfl] at H; exact H
          clear H
          have H := H1
          clear H1
          obtain rfl := Option.some.inj H
          go_wp2
          go_ret
          exact ⟨by first | rfl | (simp; done) | (rw [prx_ne]; first | done | rfl) | (simp [*]; done), by repeat (first | exact Drawn0.refl _ | apply Drawn0.step)⟩
        · replace c12 := Bool.eq_false_iff.mpr c12
          subst c12
          have H1 : (if (wrap64 (t185 + 8)) = (a0.size : Int) then (some true) else (if 0 ≤ (wrap64 (t185 + 8)) then (if (wrap64 (t185 + 8)) < (a0.size : Int) then (if (bt a0 (wrap64 (t185 + 8))) = 44 then (some true) else (some false)) else (none)) else (none))) = some r := by rw [if_neg (show ¬ (false = true) by decide)] at H; exact H
          clear H
          have H := H1
          clear H1
          by_cases c13 : (wrap64 (t185 + 8)) = (a0.size : Int)
          · rw [if_pos c13] at H
            have c13b0 : ((wrap64 (t185 + 8)) == (a0.size : Int)) = true := beq_iff_eq.mpr c13
            have c13b1 : ((wrap64 (t185 + 8)) != (a0.size : Int)) = false := bne_eq_false_iff_eq.mpr c13
            clear c13
            obtain rfl := Option.some.inj H
            go_wp2
            go_ret
            exact ⟨by first | rfl | (simp; done) | (rw [prx_ne]; first | done | rfl) | (simp [*]; done), by repeat (first | exact Drawn0.refl _ | apply Drawn0.step)⟩
          · rw [if_neg c13] at H
            have c13b0 : ((wrap64 (t185 + 8)) == (a0.size : Int)) = false := beq_eq_false_iff_ne.mpr c13
            have c13b1 : ((wrap64 (t185 + 8)) != (a0.size : Int)) = true := bne_iff_ne.mpr c13
            obtain ⟨ji14, hji14⟩ : ∃ j_ : Int, (wrap64 (t185 + 8)) = j_ := ⟨_, rfl⟩
            replace H : (if 0 ≤ (ji14) then (if (ji14) < (a0.size : Int) then (if (bt a0 (ji14)) = 44 then (some true) else (some false)) else (none)) else (none)) = some r := by first | (rw [hji14] at H; exact H) | (simp only [hji14] at H ⊢; exact H)
            (try rw [hji14] at c13b0)
            (try rw [hji14] at c13b1)
            have hji14w : (IntKind.i64.wrap (t185 + 8)) = ji14 := (i64_w _).trans hji14
            by_cases c15 : 0 ≤ (ji14)
            · rw [if_pos c15] at H
              have c15b0 : decide (0 ≤ (ji14)) = true := decide_eq_true c15
              clear c15
              by_cases c16 : (ji14) < (a0.size : Int)
              · rw [if_pos c16] at H
                have c16b0 : decide ((ji14) < (a0.size : Int)) = true := decide_eq_true c16
                clear c16
                by_cases c18 : (bt a0 (ji14)) = 44
                · rw [if_pos c18] at H
                  have c18b0 : ((bt a0 (ji14)) == 44) = true := beq_iff_eq.mpr c18
                  have c18b1 : ((bt a0 (ji14)) != 44) = false := bne_eq_false_iff_eq.mpr c18
                  clear c18
                  obtain rfl := Option.some.inj H
                  have p17 : 0 ≤ ((ji14) : Int) := of_decide_eq_true (by first | (with_reducible assumption) | assumption)
                  have q17 : (ji14) < (a0.size : Int) := of_decide_eq_true (by first | (with_reducible assumption) | assumption)
                  have hx17 := bt_at a0 (ji14)
                  replace p17 := eq_true p17
                  replace q17 := eq_true q17
                  go_wp2
                  go_ret
                  exact ⟨by first | rfl | (simp; done) | (simp only [← hji14] <;> (first | rfl | simp)) | (rw [prx_ne]; first | done | rfl) | (simp [*]; done), by repeat (first | exact Drawn0.refl _ | apply Drawn0.step)⟩
                · rw [if_neg c18] at H
                  have c18b0 : ((bt a0 (ji14)) == 44) = false := beq_eq_false_iff_ne.mpr c18
                  have c18b1 : ((bt a0 (ji14)) != 44) = true := bne_iff_ne.mpr c18
                  obtain rfl := Option.some.inj H
                  have p17 : 0 ≤ ((ji14) : Int) := of_decide_eq_true (by first | (with_reducible assumption) | assumption)
                  have q17 : (ji14) < (a0.size : Int) := of_decide_eq_true (by first | (with_reducible assumption) | assumption)
                  have hx17 := bt_at a0 (ji14)
                  replace p17 := eq_true p17
                  replace q17 := eq_true q17
                  go_wp2
                  go_ret
                  exact ⟨by first | rfl | (simp; done) | (simp only [← hji14] <;> (first | rfl | simp)) | (rw [prx_ne]; first | done | rfl) | (simp [*]; done), by repeat (first | exact Drawn0.refl _ | apply Drawn0.step)⟩
              · rw [if_neg c16] at H
                exact absurd H (by simp)
            · rw [if_neg c15] at H
              exact absurd H (by simp)

end Go.Proofs.Ytdfeojkombmiaaa.QA
