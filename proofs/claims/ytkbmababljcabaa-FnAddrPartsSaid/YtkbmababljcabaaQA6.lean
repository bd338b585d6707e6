/- Printed by wip/pr.py (a program of this repo over the print program of the kit). Not trusted: Lean checks it. -/
import Derived.Test.YtkbmababljcabaaQA0
import Derived.Test.YtkbmababljcabaaQA5
namespace Go.Proofs.Ytkbmababljcabaa.QA
open Go.Proofs.Ytkbmababljcabaa.Given
open Go.Proofs.Ytkbmababljcabaa.PrX
open Go.RowKit Go.Proofs.YtkbmababljcabaaW.PrintWords Go.Proofs.YtkbmababljcabaaW.PrintLast Go.Proofs.YtkbmababljcabaaW.PrintMore
attribute [local go_sem] max2_int min2_int max_two min_two max_three min_three max_four min_four   -- for this text's walks alone
set_option linter.unusedVariables false
set_option linter.unusedSimpArgs false

/-! ### fiberhelpers_parseAddr: function 69 -/
def fiberhelpers_parseAddr.f (k : Nat) (a0 : ByteArray) : Option (ByteArray × ByteArray) := (strings_LastIndex.f k a0 (⟨#[58]⟩ : ByteArray)).bind fun t104 => (if t104 = (-1) then (some (a0, (⟨#[]⟩ : ByteArray))) else (if 0 ≤ t104 then (if t104 ≤ (a0.size : Int) then (if 0 ≤ (wrap64 (t104 + 1)) then (if (wrap64 (t104 + 1)) ≤ (a0.size : Int) then (some (a0.extract 0 (t104 : Int).toNat, a0.extract ((wrap64 (t104 + 1)) : Int).toNat a0.size)) else (none)) else (none)) else (none)) else (none)))
theorem fiberhelpers_parseAddr.mono : ∀ a0 k, LeO (fiberhelpers_parseAddr.f k a0) (fiberhelpers_parseAddr.f (k + 1) a0) := by
  intro a0 k
  unfold fiberhelpers_parseAddr.f
  repeat' first
      | (with_reducible exact strings_LastIndex.mono _ _ _)
      | (with_reducible exact LeO.refl _)
      | (with_reducible exact LeO.none _)
      | (with_reducible refine LeO.ite ?_ ?_)
      | (with_reducible refine LeO.bind ?_ (fun _ => ?_))
      | exact strings_LastIndex.mono _ _ _
      | exact LeO.none _
      | refine LeO.ite ?_ ?_
      | refine LeO.bind ?_ (fun _ => ?_)
set_option maxHeartbeats 8000000 in
set_option maxRecDepth 100000 in
theorem fiberhelpers_parseAddr.calls (k : Nat) (a0 : ByteArray) (r1 : ByteArray) (r2 : ByteArray) (w : World) (h : fiberhelpers_parseAddr.f k a0 = some (r1, r2)) :
    Calls Try.prog 69 #[.string a0] w fun e w' => e = .returned (.tuple #[.string r1, .string r2]) ∧ Drawn0 w w' := by
  have H : ((strings_LastIndex.f k a0 (⟨#[58]⟩ : ByteArray)).bind fun t104 => (if t104 = (-1) then (some (a0, (⟨#[]⟩ : ByteArray))) else (if 0 ≤ t104 then (if t104 ≤ (a0.size : Int) then (if 0 ≤ (wrap64 (t104 + 1)) then (if (wrap64 (t104 + 1)) ≤ (a0.size : Int) then (some (a0.extract 0 (t104 : Int).toNat, a0.extract ((wrap64 (t104 + 1)) : Int).toNat a0.size)) else (none)) else (none)) else (none)) else (none)))) = some (r1, r2) := h
  clear h
  replace H := Option.bind_eq_some_iff.mp H
  obtain ⟨t104, A20, H⟩ := H
  replace H : (if t104 = (-1) then (some (a0, (⟨#[]⟩ : ByteArray))) else (if 0 ≤ t104 then (if t104 ≤ (a0.size : Int) then (if 0 ≤ (wrap64 (t104 + 1)) then (if (wrap64 (t104 + 1)) ≤ (a0.size : Int) then (some (a0.extract 0 (t104 : Int).toNat, a0.extract ((wrap64 (t104 + 1)) : Int).toNat a0.size)) else (none)) else (none)) else (none)) else (none))) = some (r1, r2) := H
  have A2 := Aside0.mk A20
  clear A20
  by_cases c3 : t104 = (-1)
  · rw [if_pos c3] at H
    have c3b0 : (t104 == (-1)) = true := beq_iff_eq.mpr c3
    have c3b1 : (t104 != (-1)) = false := bne_eq_false_iff_eq.mpr c3
    clear c3
    simp only [Option.some.injEq, Prod.mk.injEq] at H
    obtain ⟨rfl, rfl⟩ := H
    go_enter Try.func69, Try.ntmps69
    go_wp2_with (first | (go_at_call 80; (with_reducible refine (strings_LastIndex.calls k a0 (⟨#[58]⟩ : ByteArray) t104 _ A2.out).mono ?_); rintro e w' ⟨rfl, ⟨nd, rfl⟩⟩; (try first | exact ⟨rfl, _, World.drewN_drewN _ _ _⟩ | exact ⟨rfl, _, Eq.trans (World.drewN_drewN _ _ _) (congrArg (World.drewN _) (Nat.add_assoc _ _ _))⟩)))
    repeat (go_quiet (first | (go_at_call 80; (with_reducible refine (strings_LastIndex.calls k a0 (⟨#[58]⟩ : ByteArray) t104 _ A2.out).mono ?_); rintro e w' ⟨rfl, ⟨nd, rfl⟩⟩; (try first | exact ⟨rfl, _, World.drewN_drewN _ _ _⟩ | exact ⟨rfl, _, Eq.trans (World.drewN_drewN _ _ _) (congrArg (World.drewN _) (Nat.add_assoc _ _ _))⟩))); try go_wp2_with (first | (go_at_call 80; (with_reducible refine (strings_LastIndex.calls k a0 (⟨#[58]⟩ : ByteArray) t104 _ A2.out).mono ?_); rintro e w' ⟨rfl, ⟨nd, rfl⟩⟩; (try first | exact ⟨rfl, _, World.drewN_drewN _ _ _⟩ | exact ⟨rfl, _, Eq.trans (World.drewN_drewN _ _ _) (congrArg (World.drewN _) (Nat.add_assoc _ _ _))⟩))))
    go_ret2
    exact ⟨by first | rfl | (simp; done) | (rw [prx_ne]; first | done | rfl) | (simp [*]; done), by repeat (first | exact Drawn0.refl _ | apply Drawn0.step)⟩
  · rw [if_neg c3] at H
    have c3b0 : (t104 == (-1)) = false := beq_eq_false_iff_ne.mpr c3
    have c3b1 : (t104 != (-1)) = true := bne_iff_ne.mpr c3
    by_cases c4 : 0 ≤ t104
    · rw [if_pos c4] at H
      have c4b0 := eq_true c4
      have c4b1 : decide (0 ≤ t104) = true := decide_eq_true c4
      clear c4
      by_cases c5 : t104 ≤ (a0.size : Int)
      · rw [if_pos c5] at H
        have c5b0 := eq_true c5
        have c5b1 : decide (t104 ≤ (a0.size : Int)) = true := decide_eq_true c5
        clear c5
        obtain ⟨ji6, hji6⟩ : ∃ j_ : Int, (wrap64 (t104 + 1)) = j_ := ⟨_, rfl⟩
        replace H : (if 0 ≤ (ji6) then (if (ji6) ≤ (a0.size : Int) then (some (a0.extract 0 (t104 : Int).toNat, a0.extract ((ji6) : Int).toNat a0.size)) else (none)) else (none)) = some (r1, r2) := by first | (rw [hji6] at H; exact H) | (simp only [hji6] at H ⊢; exact H)
        (try rw [hji6] at A2)
        have hji6w : (IntKind.i64.wrap (t104 + 1)) = ji6 := (i64_w _).trans hji6
        by_cases c7 : 0 ≤ (ji6)
        · rw [if_pos c7] at H
          have c7b0 := eq_true c7
          have c7b1 : decide (0 ≤ (ji6)) = true := decide_eq_true c7
          clear c7
          by_cases c8 : (ji6) ≤ (a0.size : Int)
          · rw [if_pos c8] at H
            have c8b0 := eq_true c8
            have c8b1 : decide ((ji6) ≤ (a0.size : Int)) = true := decide_eq_true c8
            clear c8
            simp only [Option.some.injEq, Prod.mk.injEq] at H
            obtain ⟨rfl, rfl⟩ := H
            go_enter Try.func69, Try.ntmps69
            go_wp2_with (first | (go_at_call 80; (with_reducible refine (strings_LastIndex.calls k a0 (⟨#[58]⟩ : ByteArray) t104 _ A2.out).mono ?_); rintro e w' ⟨rfl, ⟨nd, rfl⟩⟩; (try first | exact ⟨rfl, _, World.drewN_drewN _ _ _⟩ | exact ⟨rfl, _, Eq.trans (World.drewN_drewN _ _ _) (congrArg (World.drewN _) (Nat.add_assoc _ _ _))⟩)))
            repeat (go_quiet (first | (go_at_call 80; (with_reducible refine (strings_LastIndex.calls k a0 (⟨#[58]⟩ : ByteArray) t104 _ A2.out).mono ?_); rintro e w' ⟨rfl, ⟨nd, rfl⟩⟩; (try first | exact ⟨rfl, _, World.drewN_drewN _ _ _⟩ | exact ⟨rfl, _, Eq.trans (World.drewN_drewN _ _ _) (congrArg (World.drewN _) (Nat.add_assoc _ _ _))⟩))); try go_wp2_with (first | (go_at_call 80; (with_reducible refine (strings_LastIndex.calls k a0 (⟨#[58]⟩ : ByteArray) t104 _ A2.out).mono ?_); rintro e w' ⟨rfl, ⟨nd, rfl⟩⟩; (try first | exact ⟨rfl, _, World.drewN_drewN _ _ _⟩ | exact ⟨rfl, _, Eq.trans (World.drewN_drewN _ _ _) (congrArg (World.drewN _) (Nat.add_assoc _ _ _))⟩))))
            go_ret2
            exact ⟨by first | rfl | (simp; done) | (simp only [← hji6] <;> (first | rfl | simp)) | (rw [prx_ne]; first | done | rfl) | (simp [*]; done), by repeat (first | exact Drawn0.refl _ | apply Drawn0.step)⟩
          · rw [if_neg c8] at H
            exact absurd H (by simp)
        · rw [if_neg c7] at H
          exact absurd H (by simp)
      · rw [if_neg c5] at H
        exact absurd H (by simp)
    · rw [if_neg c4] at H
      exact absurd H (by simp)

/-! ### fiberhelpers_ZzAddr: function 47 -/
def fiberhelpers_ZzAddr.f (k : Nat) (a0 : ByteArray) : Option (ByteArray × ByteArray) := (fiberhelpers_parseAddr.f k a0).bind fun bt105 => (some (bt105.1, bt105.2))
theorem fiberhelpers_ZzAddr.mono : ∀ a0 k, LeO (fiberhelpers_ZzAddr.f k a0) (fiberhelpers_ZzAddr.f (k + 1) a0) := by
  intro a0 k
  unfold fiberhelpers_ZzAddr.f
  repeat' first
      | (with_reducible exact fiberhelpers_parseAddr.mono _ _)
      | (with_reducible exact LeO.refl _)
      | (with_reducible exact LeO.none _)
      | (with_reducible refine LeO.ite ?_ ?_)
      | (with_reducible refine LeO.bind ?_ (fun _ => ?_))
      | exact fiberhelpers_parseAddr.mono _ _
      | exact LeO.none _
      | refine LeO.ite ?_ ?_
      | refine LeO.bind ?_ (fun _ => ?_)
set_option maxHeartbeats 8000000 in
set_option maxRecDepth 100000 in
theorem fiberhelpers_ZzAddr.calls (k : Nat) (a0 : ByteArray) (r1 : ByteArray) (r2 : ByteArray) (w : World) (h : fiberhelpers_ZzAddr.f k a0 = some (r1, r2)) :
    Calls Try.prog 47 #[.string a0] w fun e w' => e = .returned (.tuple #[.string r1, .string r2]) ∧ Drawn0 w w' := by
  have H : ((fiberhelpers_parseAddr.f k a0).bind fun bt105 => (some (bt105.1, bt105.2))) = some (r1, r2) := h
  clear h
  replace H := Option.bind_eq_some_iff.mp H
  obtain ⟨⟨t105, t106⟩, A20, H⟩ := H
  replace H : (some (t105, t106)) = some (r1, r2) := H
  have A2 := Aside0.mk A20
  clear A20
  simp only [Option.some.injEq, Prod.mk.injEq] at H
  obtain ⟨rfl, rfl⟩ := H
  go_enter Try.func47, Try.ntmps47
  go_wp2_with (first | ((with_reducible refine gate_callee (f := 69) rfl ?_); refine goesL_ (some 5) rfl rfl Try.func69 (by kernel_rfl) rfl #[.string a0] rfl (by (try simp only [List.map_toArray, List.map_cons, List.map_nil]); first | done | rfl | (simp only [List.length_drop, List.length_take]; rfl)) ?_; (with_reducible refine (fiberhelpers_parseAddr.calls k a0 t105 t106 _ A2.out).mono ?_); rintro e w' ⟨rfl, ⟨nd, rfl⟩⟩; refine ⟨_, rfl, ?_⟩))
  go_ret2
  exact ⟨by first | rfl | (simp; done) | (rw [prx_ne]; first | done | rfl) | (simp [*]; done), by repeat (first | exact Drawn0.refl _ | apply Drawn0.step)⟩

/-! ### impl_Addr: function 22 -/
def impl_Addr.f (k : Nat) (a0 : ByteArray) : Option (ByteArray × ByteArray) := (fiberhelpers_ZzAddr.f k a0).bind fun bt107 => (some (bt107.1, bt107.2))
theorem impl_Addr.mono : ∀ a0 k, LeO (impl_Addr.f k a0) (impl_Addr.f (k + 1) a0) := by
  intro a0 k
  unfold impl_Addr.f
  repeat' first
      | (with_reducible exact fiberhelpers_ZzAddr.mono _ _)
      | (with_reducible exact LeO.refl _)
      | (with_reducible exact LeO.none _)
      | (with_reducible refine LeO.ite ?_ ?_)
      | (with_reducible refine LeO.bind ?_ (fun _ => ?_))
      | exact fiberhelpers_ZzAddr.mono _ _
      | exact LeO.none _
      | refine LeO.ite ?_ ?_
      | refine LeO.bind ?_ (fun _ => ?_)
set_option maxHeartbeats 8000000 in
set_option maxRecDepth 100000 in
theorem impl_Addr.calls (k : Nat) (a0 : ByteArray) (r1 : ByteArray) (r2 : ByteArray) (w : World) (h : impl_Addr.f k a0 = some (r1, r2)) :
    Calls Try.prog 22 #[.string a0] w fun e w' => e = .returned (.tuple #[.string r1, .string r2]) ∧ Drawn0 w w' := by
  have H : ((fiberhelpers_ZzAddr.f k a0).bind fun bt107 => (some (bt107.1, bt107.2))) = some (r1, r2) := h
  clear h
  replace H := Option.bind_eq_some_iff.mp H
  obtain ⟨⟨t107, t108⟩, A20, H⟩ := H
  replace H : (some (t107, t108)) = some (r1, r2) := H
  have A2 := Aside0.mk A20
  clear A20
  simp only [Option.some.injEq, Prod.mk.injEq] at H
  obtain ⟨rfl, rfl⟩ := H
  go_enter Try.func22, Try.ntmps22
  go_wp2_with (first | ((with_reducible refine gate_callee (f := 47) rfl ?_); refine goesL_ (some 5) rfl rfl Try.func47 (by kernel_rfl) rfl #[.string a0] rfl (by (try simp only [List.map_toArray, List.map_cons, List.map_nil]); first | done | rfl | (simp only [List.length_drop, List.length_take]; rfl)) ?_; (with_reducible refine (fiberhelpers_ZzAddr.calls k a0 t107 t108 _ A2.out).mono ?_); rintro e w' ⟨rfl, ⟨nd, rfl⟩⟩; refine ⟨_, rfl, ?_⟩))
  go_ret2
  exact ⟨by first | rfl | (simp; done) | (rw [prx_ne]; first | done | rfl) | (simp [*]; done), by repeat (first | exact Drawn0.refl _ | apply Drawn0.step)⟩

end Go.Proofs.Ytkbmababljcabaa.QA
