/- Printed by wip/pr.py (a program of this repo over the print program of the kit). Not trusted: Lean checks it. -/
import Derived.Test.YtdfeojkombmiaaaQA0
import Derived.Test.YtdfeojkombmiaaaQA24
namespace Go.Proofs.Ytdfeojkombmiaaa.QA
open Go.Proofs.Ytdfeojkombmiaaa.Given
open Go.Proofs.Ytdfeojkombmiaaa.PrX
open Go.RowKit Go.Proofs.YtdfeojkombmiaaaW.PrintWords Go.Proofs.YtdfeojkombmiaaaW.PrintLast Go.Proofs.YtdfeojkombmiaaaW.PrintMore
attribute [local go_sem] max2_int min2_int max_two min_two max_three min_three max_four min_four   -- for this text's walks alone
set_option linter.unusedVariables false
set_option linter.unusedSimpArgs false

/-! ### fiberhelpers_ZzNoCache: function 47 -/
def fiberhelpers_ZzNoCache.f (k : Nat) (a0 : ByteArray) : Option (Bool) := (fiberhelpers_isNoCache.f k a0).bind fun t186 => (some t186)
theorem fiberhelpers_ZzNoCache.mono : ∀ a0 k, LeO (fiberhelpers_ZzNoCache.f k a0) (fiberhelpers_ZzNoCache.f (k + 1) a0) := by
  intro a0 k
  unfold fiberhelpers_ZzNoCache.f
  repeat' first
      | (with_reducible exact fiberhelpers_isNoCache.mono _ _)
      | (with_reducible exact LeO.refl _)
      | (with_reducible exact LeO.none _)
      | (with_reducible refine LeO.ite ?_ ?_)
      | (with_reducible refine LeO.bind ?_ (fun _ => ?_))
      | exact fiberhelpers_isNoCache.mono _ _
      | exact LeO.none _
      | refine LeO.ite ?_ ?_
      | refine LeO.bind ?_ (fun _ => ?_)
set_option maxHeartbeats 8000000 in
set_option maxRecDepth 100000 in
theorem fiberhelpers_ZzNoCache.calls (k : Nat) (a0 : ByteArray) (r : Bool) (w : World) (h : fiberhelpers_ZzNoCache.f k a0 = some r) :
    Calls Try.prog 47 #[.string a0] w fun e w' => e = .returned (.bool r) ∧ Drawn0 w w' := by
  have H : ((fiberhelpers_isNoCache.f k a0).bind fun t186 => (some t186)) = some r := h
  clear h
  replace H := Option.bind_eq_some_iff.mp H
  obtain ⟨t186, A20, H⟩ := H
  replace H : (some t186) = some r := H
  have A2 := Aside0.mk A20
  clear A20
  obtain rfl := Option.some.inj H
  go_enter Try.func47, Try.ntmps47
  go_wp2_with (first | ((with_reducible refine gate_callee (f := 58) rfl ?_); refine goesL_ (some 4) rfl rfl Try.func58 (by kernel_rfl) rfl #[.string a0] rfl (by (try simp only [List.map_toArray, List.map_cons, List.map_nil]); first | done | rfl | (simp only [List.length_drop, List.length_take]; rfl)) ?_; (with_reducible refine (fiberhelpers_isNoCache.calls k a0 t186 _ A2.out).mono ?_); rintro e w' ⟨rfl, ⟨nd, rfl⟩⟩; refine ⟨_, rfl, ?_⟩))
  go_ret
  exact ⟨by first | rfl | (simp; done) | (rw [prx_ne]; first | done | rfl) | (simp [*]; done), by repeat (first | exact Drawn0.refl _ | apply Drawn0.step)⟩

/-! ### impl_NoCache: function 28 -/
def impl_NoCache.f (k : Nat) (a0 : ByteArray) : Option (Bool) := (fiberhelpers_ZzNoCache.f k a0).bind fun t187 => (some t187)
theorem impl_NoCache.mono : ∀ a0 k, LeO (impl_NoCache.f k a0) (impl_NoCache.f (k + 1) a0) := by
  intro a0 k
  unfold impl_NoCache.f
  repeat' first
      | (with_reducible exact fiberhelpers_ZzNoCache.mono _ _)
      | (with_reducible exact LeO.refl _)
      | (with_reducible exact LeO.none _)
      | (with_reducible refine LeO.ite ?_ ?_)
      | (with_reducible refine LeO.bind ?_ (fun _ => ?_))
      | exact fiberhelpers_ZzNoCache.mono _ _
      | exact LeO.none _
      | refine LeO.ite ?_ ?_
      | refine LeO.bind ?_ (fun _ => ?_)
set_option maxHeartbeats 8000000 in
set_option maxRecDepth 100000 in
theorem impl_NoCache.calls (k : Nat) (a0 : ByteArray) (r : Bool) (w : World) (h : impl_NoCache.f k a0 = some r) :
    Calls Try.prog 28 #[.string a0] w fun e w' => e = .returned (.bool r) ∧ Drawn0 w w' := by
  have H : ((fiberhelpers_ZzNoCache.f k a0).bind fun t187 => (some t187)) = some r := h
  clear h
  replace H := Option.bind_eq_some_iff.mp H
  obtain ⟨t187, A20, H⟩ := H
  replace H : (some t187) = some r := H
  have A2 := Aside0.mk A20
  clear A20
  obtain rfl := Option.some.inj H
  go_enter Try.func28, Try.ntmps28
  go_wp2_with (first | ((with_reducible refine gate_callee (f := 47) rfl ?_); refine goesL_ (some 4) rfl rfl Try.func47 (by kernel_rfl) rfl #[.string a0] rfl (by (try simp only [List.map_toArray, List.map_cons, List.map_nil]); first | done | rfl | (simp only [List.length_drop, List.length_take]; rfl)) ?_; (with_reducible refine (fiberhelpers_ZzNoCache.calls k a0 t187 _ A2.out).mono ?_); rintro e w' ⟨rfl, ⟨nd, rfl⟩⟩; refine ⟨_, rfl, ?_⟩))
  go_ret
  exact ⟨by first | rfl | (simp; done) | (rw [prx_ne]; first | done | rfl) | (simp [*]; done), by repeat (first | exact Drawn0.refl _ | apply Drawn0.step)⟩

end Go.Proofs.Ytdfeojkombmiaaa.QA
