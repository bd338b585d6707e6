/- Printed by wip/pr.py (a program of this repo over the print program of the kit). Not trusted: Lean checks it. -/
import Derived.Test.YtkbmababljcabaaQA0
import Derived.Test.YtkbmababljcabaaGMatchM
namespace Go.Proofs.Ytkbmababljcabaa.QA
open Go.Proofs.Ytkbmababljcabaa.Given
open Go.Proofs.Ytkbmababljcabaa.PrX
open Go.RowKit Go.Proofs.YtkbmababljcabaaW.PrintWords Go.Proofs.YtkbmababljcabaaW.PrintLast Go.Proofs.YtkbmababljcabaaW.PrintMore
attribute [local go_sem] max2_int min2_int max_two min_two max_three min_three max_four min_four   -- for this text's walks alone
set_option linter.unusedVariables false
set_option linter.unusedSimpArgs false

/-! ### fiberhelpers_ZzMatch: function 53 -/
def fiberhelpers_ZzMatch.f (a0 : ByteArray) (a1 : ByteArray) : Option (Bool) := (fiberhelpers_paramsMatch.f a0 a1).bind fun t160 => (some t160)
set_option maxHeartbeats 8000000 in
set_option maxRecDepth 100000 in
theorem fiberhelpers_ZzMatch.calls (a0 : ByteArray) (a1 : ByteArray) (r : Bool) (w : World) (h : fiberhelpers_ZzMatch.f a0 a1 = some r) :
    Calls Try.prog 53 #[.string a0, .string a1] w fun e w' => e = .returned (.bool r) ∧ Below w.heap.size w w' := by
  have HB := Aside0.mk (Below.refl w.heap.size w)
  have H : ((fiberhelpers_paramsMatch.f a0 a1).bind fun t160 => (some t160)) = some r := h
  clear h
  replace H := Option.bind_eq_some_iff.mp H
  obtain ⟨t160, A30, H⟩ := H
  replace H : (some t160) = some r := H
  have A3 := Aside0.mk A30
  clear A30
  obtain rfl := Option.some.inj H
  go_enter Try.func53, Try.ntmps53
  go_wp2_with (first | ((with_reducible refine gate_callee (f := 74) rfl ?_); refine goesL_ (some 7) rfl rfl Try.func74 (by kernel_rfl) rfl #[.string a0, .string a1] rfl (by (try simp only [List.map_toArray, List.map_cons, List.map_nil]); first | done | rfl | (simp only [List.length_drop, List.length_take]; rfl)) ?_; (with_reducible refine (fiberhelpers_paramsMatch.calls a0 a1 t160 _ A3.out).mono ?_); rintro e w4 ⟨rfl, hb⟩; refine ⟨_, rfl, ?_⟩; have n0_ := Aside0.mk (below_step (by repeat (first | (with_reducible first | exact HB.out | apply below_alloc | apply pw_below_drewN | apply below_drew1) | exact HB.out)) hb); clear HB; have HB := n0_; clear n0_; (try clear hb); (try clear hb2); (try clear hk); (try clear hi)))
  go_ret
  exact ⟨by first | rfl | (simp [errW_none, errW_some] <;> rfl) | (simp [*, errW_none, errW_some] <;> rfl), by repeat (first | (with_reducible first | exact HB.out | apply below_alloc | apply pw_below_drewN | apply below_drew1) | exact HB.out)⟩

/-! ### impl_ParamsMatch: function 32 -/
def impl_ParamsMatch.f (a0 : ByteArray) (a1 : ByteArray) : Option (Bool) := (fiberhelpers_ZzMatch.f a0 a1).bind fun t161 => (some t161)
set_option maxHeartbeats 8000000 in
set_option maxRecDepth 100000 in
theorem impl_ParamsMatch.calls (a0 : ByteArray) (a1 : ByteArray) (r : Bool) (w : World) (h : impl_ParamsMatch.f a0 a1 = some r) :
    Calls Try.prog 32 #[.string a0, .string a1] w fun e w' => e = .returned (.bool r) ∧ Below w.heap.size w w' := by
  have HB := Aside0.mk (Below.refl w.heap.size w)
  have H : ((fiberhelpers_ZzMatch.f a0 a1).bind fun t161 => (some t161)) = some r := h
  clear h
  replace H := Option.bind_eq_some_iff.mp H
  obtain ⟨t161, A30, H⟩ := H
  replace H : (some t161) = some r := H
  have A3 := Aside0.mk A30
  clear A30
  obtain rfl := Option.some.inj H
  go_enter Try.func32, Try.ntmps32
  go_wp2_with (first | ((with_reducible refine gate_callee (f := 53) rfl ?_); refine goesL_ (some 7) rfl rfl Try.func53 (by kernel_rfl) rfl #[.string a0, .string a1] rfl (by (try simp only [List.map_toArray, List.map_cons, List.map_nil]); first | done | rfl | (simp only [List.length_drop, List.length_take]; rfl)) ?_; (with_reducible refine (fiberhelpers_ZzMatch.calls a0 a1 t161 _ A3.out).mono ?_); rintro e w4 ⟨rfl, hb⟩; refine ⟨_, rfl, ?_⟩; have n0_ := Aside0.mk (below_step (by repeat (first | (with_reducible first | exact HB.out | apply below_alloc | apply pw_below_drewN | apply below_drew1) | exact HB.out)) hb); clear HB; have HB := n0_; clear n0_; (try clear hb); (try clear hb2); (try clear hk); (try clear hi)))
  go_ret
  exact ⟨by first | rfl | (simp [errW_none, errW_some] <;> rfl) | (simp [*, errW_none, errW_some] <;> rfl), by repeat (first | (with_reducible first | exact HB.out | apply below_alloc | apply pw_below_drewN | apply below_drew1) | exact HB.out)⟩

end Go.Proofs.Ytkbmababljcabaa.QA
