/- Printed by wip/pr.py (a program of this repo over the print program of the kit). Not trusted: Lean checks it. -/
import Derived.Test.YtdfeojkombmiaaaQA0
import Derived.Test.YtdfeojkombmiaaaQA9
namespace Go.Proofs.Ytdfeojkombmiaaa.QA
open Go.Proofs.Ytdfeojkombmiaaa.PrX
open Go.RowKit Go.Proofs.YtdfeojkombmiaaaW.PrintWords Go.Proofs.YtdfeojkombmiaaaW.PrintLast Go.Proofs.YtdfeojkombmiaaaW.PrintMore
attribute [local go_sem] max2_int min2_int max_two min_two max_three min_three max_four min_four   -- for this text's walks alone
set_option linter.unusedVariables false
set_option linter.unusedSimpArgs false

/-! ### impl_GroupPath: function 18 -/
def impl_GroupPath.f (k : Nat) (a0 : ByteArray) (a1 : ByteArray) : Option (ByteArray) := (fiberhelpers_ZzGroup.f k a0 a1).bind fun t118 => (some t118)
theorem impl_GroupPath.mono : ∀ a0 a1 k, LeO (impl_GroupPath.f k a0 a1) (impl_GroupPath.f (k + 1) a0 a1) := by
  intro a0 a1 k
  unfold impl_GroupPath.f
  repeat' first
      | (with_reducible exact fiberhelpers_ZzGroup.mono _ _ _)
      | (with_reducible exact LeO.refl _)
      | (with_reducible exact LeO.none _)
      | (with_reducible refine LeO.ite ?_ ?_)
      | (with_reducible refine LeO.bind ?_ (fun _ => ?_))
      | exact fiberhelpers_ZzGroup.mono _ _ _
      | exact LeO.none _
      | refine LeO.ite ?_ ?_
      | refine LeO.bind ?_ (fun _ => ?_)
set_option maxHeartbeats 8000000 in
set_option maxRecDepth 100000 in
theorem impl_GroupPath.calls (k : Nat) (a0 : ByteArray) (a1 : ByteArray) (r : ByteArray) (w : World) (h : impl_GroupPath.f k a0 a1 = some r) :
    Calls Try.prog 18 #[.string a0, .string a1] w fun e w' => e = .returned (.string r) ∧ Drawn0 w w' := by
  have H : ((fiberhelpers_ZzGroup.f k a0 a1).bind fun t118 => (some t118)) = some r := h
  clear h
  replace H := Option.bind_eq_some_iff.mp H
  obtain ⟨t118, A30, H⟩ := H
  replace H : (some t118) = some r := H
  have A3 := Aside0.mk A30
  clear A30
  obtain rfl := Option.some.inj H
  go_enter Try.func18, Try.ntmps18
  go_wp2_with (first | ((with_reducible refine gate_callee (f := 42) rfl ?_); refine goesL_ (some 7) rfl rfl Try.func42 (by kernel_rfl) rfl #[.string a0, .string a1] rfl (by (try simp only [List.map_toArray, List.map_cons, List.map_nil]); first | done | rfl | (simp only [List.length_drop, List.length_take]; rfl)) ?_; (with_reducible refine (fiberhelpers_ZzGroup.calls k a0 a1 t118 _ A3.out).mono ?_); rintro e w' ⟨rfl, ⟨nd, rfl⟩⟩; refine ⟨_, rfl, ?_⟩))
  go_ret
  exact ⟨by first | rfl | (simp; done) | (rw [prx_ne]; first | done | rfl) | (simp [*]; done), by repeat (first | exact Drawn0.refl _ | apply Drawn0.step)⟩

end Go.Proofs.Ytdfeojkombmiaaa.QA
