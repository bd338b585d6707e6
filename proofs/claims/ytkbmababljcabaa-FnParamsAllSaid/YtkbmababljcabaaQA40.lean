/- Printed by wip/pr.py (a program of this repo over the print program of the kit). Not trusted: Lean checks it. -/
import Derived.Test.YtkbmababljcabaaQA0
import Derived.Test.YtkbmababljcabaaQA21
import Derived.Test.YtkbmababljcabaaQA36
import Derived.Test.YtkbmababljcabaaQA37
import Derived.Test.YtkbmababljcabaaQA38
import Derived.Test.YtkbmababljcabaaQA39
import Derived.Test.YtkbmababljcabaaGLow
namespace Go.Proofs.Ytkbmababljcabaa.QA
open Go.Proofs.Ytkbmababljcabaa.Given
open Go.Proofs.Ytkbmababljcabaa.PrX
open Go.RowKit Go.Proofs.YtkbmababljcabaaW.PrintWords Go.Proofs.YtkbmababljcabaaW.PrintLast Go.Proofs.YtkbmababljcabaaW.PrintMore
attribute [local go_sem] max2_int min2_int max_two min_two max_three min_three max_four min_four   -- for this text's walks alone
set_option linter.unusedVariables false
set_option linter.unusedSimpArgs false

/-! ### laws_FnParamsAll: function 9 -/
mutual
def laws_FnParamsAll.j0 : Nat → List (S47) → List (S47) → Bool → Option (Bool)
  | 0, _, _, _ => none
  | k + 1, x0, x1, x18 => if x18 = true then (some true) else ((impl_ParamsMatch.f (⟨#[59, 97, 61, 98]⟩ : ByteArray) (⟨#[59, 99, 61, 100, 59, 97, 61, 98]⟩ : ByteArray)).bind fun t287 => (if t287 = true then ((impl_ParamsMatch.f (⟨#[59, 97, 61, 98]⟩ : ByteArray) (⟨#[59, 97, 61, 99]⟩ : ByteArray)).bind fun t288 => (laws_FnParamsAll.j1 k x0 x1 t288)) else (laws_FnParamsAll.j1 k x0 x1 true)))
def laws_FnParamsAll.j1 : Nat → List (S47) → List (S47) → Bool → Option (Bool)
  | 0, _, _, _ => none
  | k + 1, x0, x1, x23 => if x23 = true then (some false) else ((laws_plainParams.f k x0).bind fun t289 => (if t289 = true then ((laws_plainParams.f k x1).bind fun t290 => (laws_FnParamsAll.j2 k x0 x1 (!t290))) else (laws_FnParamsAll.j2 k x0 x1 true)))
def laws_FnParamsAll.j2 : Nat → List (S47) → List (S47) → Bool → Option (Bool)
  | 0, _, _, _ => none
  | k + 1, x0, x1, x31 => if x31 = true then (some true) else (laws_FnParamsAll.l0 k x0 x1 true x0 (x0.length : Int) 0)
def laws_FnParamsAll.l0 : Nat → List (S47) → List (S47) → Bool → List (S47) → Int → Int → Option (Bool)
  | 0, _, _, _, _, _, _ => none
  | k + 1, x0, x1, x5, x32, x33, x34 => if x34 < x33 then (if 0 ≤ x34 then (if x34 < (x32.length : Int) then (laws_FnParamsAll.l1 k x0 x1 x5 false x32 x33 x34 x1 (x1.length : Int) 0 ((rd_T47 x32 x34).f0) ((rd_T47 x32 x34).f1)) else (none)) else (none)) else ((laws_given.f k x0 ([] : List Int)).bind fun t299 => ((laws_given.f k x1 ([] : List Int)).bind fun t300 => ((impl_ParamsMatch.f t299 t300).bind fun t301 => (if (t301 == x5) = true then ((laws_turned.f k x0).bind fun t302 => ((laws_given.f k t302 ([] : List Int)).bind fun t305 => ((laws_turned.f k x1).bind fun t306 => ((laws_given.f k t306 ([] : List Int)).bind fun t309 => ((impl_ParamsMatch.f t305 t309).bind fun t310 => (some (t310 == x5))))))) else (some false)))))
def laws_FnParamsAll.l1 : Nat → List (S47) → List (S47) → Bool → Bool → List (S47) → Int → Int → List (S47) → Int → Int → ByteArray → ByteArray → Option (Bool)
  | 0, _, _, _, _, _, _, _, _, _, _, _, _ => none
  | k + 1, x0, x1, x5, x8, x32, x33, x34, x38, x39, x40, x293000, x293001 => if x40 < x39 then (if 0 ≤ x40 then (if x40 < (x38.length : Int) then (if x8 = true then (laws_FnParamsAll.l1 k x0 x1 x5 true x32 x33 x34 x38 x39 (wrap64 (x40 + 1)) x293000 x293001) else ((laws_low.f ((rd_T47 x38 x40).f0)).bind fun t295 => ((laws_low.f x293000).bind fun t296 => (if t295.toList = t296.toList then ((laws_low.f ((rd_T47 x38 x40).f1)).bind fun t297 => ((laws_low.f x293001).bind fun t298 => (laws_FnParamsAll.l1 k x0 x1 x5 (t297.toList == t298.toList) x32 x33 x34 x38 x39 (wrap64 (x40 + 1)) x293000 x293001))) else (laws_FnParamsAll.l1 k x0 x1 x5 false x32 x33 x34 x38 x39 (wrap64 (x40 + 1)) x293000 x293001))))) else (none)) else (none)) else (if x5 = true then (laws_FnParamsAll.l0 k x0 x1 x8 x32 x33 (wrap64 (x34 + 1))) else (laws_FnParamsAll.l0 k x0 x1 false x32 x33 (wrap64 (x34 + 1))))
end
def laws_FnParamsAll.f (k : Nat) (l0 : List (S47)) (l1 : List (S47)) : Option (Bool) := (laws_zzFits1.f k l0).bind fun t285 => (if t285 = true then ((laws_zzFits1.f k l1).bind fun t286 => (laws_FnParamsAll.j0 k l0 l1 (!t286))) else (laws_FnParamsAll.j0 k l0 l1 true))
theorem laws_FnParamsAll.mono_l : ∀ k, (∀ y0 y1 y2, LeO (laws_FnParamsAll.j0 k y0 y1 y2) (laws_FnParamsAll.j0 (k + 1) y0 y1 y2)) ∧ (∀ y0 y1 y2, LeO (laws_FnParamsAll.j1 k y0 y1 y2) (laws_FnParamsAll.j1 (k + 1) y0 y1 y2)) ∧ (∀ y0 y1 y2, LeO (laws_FnParamsAll.j2 k y0 y1 y2) (laws_FnParamsAll.j2 (k + 1) y0 y1 y2)) ∧ (∀ y0 y1 y2 y3 y4 y5, LeO (laws_FnParamsAll.l0 k y0 y1 y2 y3 y4 y5) (laws_FnParamsAll.l0 (k + 1) y0 y1 y2 y3 y4 y5)) ∧ (∀ y0 y1 y2 y3 y4 y5 y6 y7 y8 y9 y10 y11, LeO (laws_FnParamsAll.l1 k y0 y1 y2 y3 y4 y5 y6 y7 y8 y9 y10 y11) (laws_FnParamsAll.l1 (k + 1) y0 y1 y2 y3 y4 y5 y6 y7 y8 y9 y10 y11))
  | 0 => ⟨fun _ _ _ r h => by simp [laws_FnParamsAll.j0] at h, fun _ _ _ r h => by simp [laws_FnParamsAll.j1] at h, fun _ _ _ r h => by simp [laws_FnParamsAll.j2] at h, fun _ _ _ _ _ _ r h => by simp [laws_FnParamsAll.l0] at h, fun _ _ _ _ _ _ _ _ _ _ _ _ r h => by simp [laws_FnParamsAll.l1] at h⟩
  | k + 1 => by
    obtain ⟨ih0, ih1, ih2, ih3, ih4⟩ := laws_FnParamsAll.mono_l k
    refine ⟨?_, ?_, ?_, ?_, ?_⟩
    · intro y0 y1 y2
      unfold laws_FnParamsAll.j0
      repeat' first
      | (with_reducible exact ih0 _ _ _)
      | (with_reducible exact ih1 _ _ _)
      | (with_reducible exact ih2 _ _ _)
      | (with_reducible exact ih3 _ _ _ _ _ _)
      | (with_reducible exact ih4 _ _ _ _ _ _ _ _ _ _ _ _)
      | (with_reducible exact laws_given.mono _ _ _)
      | (with_reducible exact laws_plainParams.mono _ _)
      | (with_reducible exact laws_turned.mono _ _)
      | (with_reducible exact laws_zzFits1.mono _ _)
      | (with_reducible exact LeO.refl _)
      | (with_reducible exact LeO.none _)
      | (with_reducible refine LeO.ite ?_ ?_)
      | (with_reducible refine LeO.bind ?_ (fun _ => ?_))
      | exact ih0 _ _ _
      | exact ih1 _ _ _
      | exact ih2 _ _ _
      | exact ih3 _ _ _ _ _ _
      | exact ih4 _ _ _ _ _ _ _ _ _ _ _ _
      | exact laws_given.mono _ _ _
      | exact laws_plainParams.mono _ _
      | exact laws_turned.mono _ _
      | exact laws_zzFits1.mono _ _
      | exact LeO.none _
      | refine LeO.ite ?_ ?_
      | refine LeO.bind ?_ (fun _ => ?_)
    · intro y0 y1 y2
      unfold laws_FnParamsAll.j1
      repeat' first
      | (with_reducible exact ih0 _ _ _)
      | (with_reducible exact ih1 _ _ _)
      | (with_reducible exact ih2 _ _ _)
      | (with_reducible exact ih3 _ _ _ _ _ _)
      | (with_reducible exact ih4 _ _ _ _ _ _ _ _ _ _ _ _)
      | (with_reducible exact laws_given.mono _ _ _)
      | (with_reducible exact laws_plainParams.mono _ _)
      | (with_reducible exact laws_turned.mono _ _)
      | (with_reducible exact laws_zzFits1.mono _ _)
      | (with_reducible exact LeO.refl _)
      | (with_reducible exact LeO.none _)
      | (with_reducible refine LeO.ite ?_ ?_)
      | (with_reducible refine LeO.bind ?_ (fun _ => ?_))
      | exact ih0 _ _ _
      | exact ih1 _ _ _
      | exact ih2 _ _ _
      | exact ih3 _ _ _ _ _ _
      | exact ih4 _ _ _ _ _ _ _ _ _ _ _ _
      | exact laws_given.mono _ _ _
      | exact laws_plainParams.mono _ _
      | exact laws_turned.mono _ _
      | exact laws_zzFits1.mono _ _
      | exact LeO.none _
      | refine LeO.ite ?_ ?_
      | refine LeO.bind ?_ (fun _ => ?_)
    · intro y0 y1 y2
      unfold laws_FnParamsAll.j2
      repeat' first
      | (with_reducible exact ih0 _ _ _)
      | (with_reducible exact ih1 _ _ _)
      | (with_reducible exact ih2 _ _ _)
      | (with_reducible exact ih3 _ _ _ _ _ _)
      | (with_reducible exact ih4 _ _ _ _ _ _ _ _ _ _ _ _)
      | (with_reducible exact laws_given.mono _ _ _)
      | (with_reducible exact laws_plainParams.mono _ _)
      | (with_reducible exact laws_turned.mono _ _)
      | (with_reducible exact laws_zzFits1.mono _ _)
      | (with_reducible exact LeO.refl _)
      | (with_reducible exact LeO.none _)
      | (with_reducible refine LeO.ite ?_ ?_)
      | (with_reducible refine LeO.bind ?_ (fun _ => ?_))
      | exact ih0 _ _ _
      | exact ih1 _ _ _
      | exact ih2 _ _ _
      | exact ih3 _ _ _ _ _ _
      | exact ih4 _ _ _ _ _ _ _ _ _ _ _ _
      | exact laws_given.mono _ _ _
      | exact laws_plainParams.mono _ _
      | exact laws_turned.mono _ _
      | exact laws_zzFits1.mono _ _
      | exact LeO.none _
      | refine LeO.ite ?_ ?_
      | refine LeO.bind ?_ (fun _ => ?_)
    · intro y0 y1 y2 y3 y4 y5
      unfold laws_FnParamsAll.l0
      repeat' first
      | (with_reducible exact ih0 _ _ _)
      | (with_reducible exact ih1 _ _ _)
      | (with_reducible exact ih2 _ _ _)
      | (with_reducible exact ih3 _ _ _ _ _ _)
      | (with_reducible exact ih4 _ _ _ _ _ _ _ _ _ _ _ _)
      | (with_reducible exact laws_given.mono _ _ _)
      | (with_reducible exact laws_plainParams.mono _ _)
      | (with_reducible exact laws_turned.mono _ _)
      | (with_reducible exact laws_zzFits1.mono _ _)
      | (with_reducible exact LeO.refl _)
      | (with_reducible exact LeO.none _)
      | (with_reducible refine LeO.ite ?_ ?_)
      | (with_reducible refine LeO.bind ?_ (fun _ => ?_))
      | exact ih0 _ _ _
      | exact ih1 _ _ _
      | exact ih2 _ _ _
      | exact ih3 _ _ _ _ _ _
      | exact ih4 _ _ _ _ _ _ _ _ _ _ _ _
      | exact laws_given.mono _ _ _
      | exact laws_plainParams.mono _ _
      | exact laws_turned.mono _ _
      | exact laws_zzFits1.mono _ _
      | exact LeO.none _
      | refine LeO.ite ?_ ?_
      | refine LeO.bind ?_ (fun _ => ?_)
    · intro y0 y1 y2 y3 y4 y5 y6 y7 y8 y9 y10 y11
      unfold laws_FnParamsAll.l1
      repeat' first
      | (with_reducible exact ih0 _ _ _)
      | (with_reducible exact ih1 _ _ _)
      | (with_reducible exact ih2 _ _ _)
      | (with_reducible exact ih3 _ _ _ _ _ _)
      | (with_reducible exact ih4 _ _ _ _ _ _ _ _ _ _ _ _)
      | (with_reducible exact laws_given.mono _ _ _)
      | (with_reducible exact laws_plainParams.mono _ _)
      | (with_reducible exact laws_turned.mono _ _)
      | (with_reducible exact laws_zzFits1.mono _ _)
      | (with_reducible exact LeO.refl _)
      | (with_reducible exact LeO.none _)
      | (with_reducible refine LeO.ite ?_ ?_)
      | (with_reducible refine LeO.bind ?_ (fun _ => ?_))
      | exact ih0 _ _ _
      | exact ih1 _ _ _
      | exact ih2 _ _ _
      | exact ih3 _ _ _ _ _ _
      | exact ih4 _ _ _ _ _ _ _ _ _ _ _ _
      | exact laws_given.mono _ _ _
      | exact laws_plainParams.mono _ _
      | exact laws_turned.mono _ _
      | exact laws_zzFits1.mono _ _
      | exact LeO.none _
      | refine LeO.ite ?_ ?_
      | refine LeO.bind ?_ (fun _ => ?_)
theorem laws_FnParamsAll.mono : ∀ a0 a1 k, LeO (laws_FnParamsAll.f k a0 a1) (laws_FnParamsAll.f (k + 1) a0 a1) := by
  intro a0 a1 k
  obtain ⟨ih0, ih1, ih2, ih3, ih4⟩ := laws_FnParamsAll.mono_l k
  unfold laws_FnParamsAll.f
  repeat' first
      | (with_reducible exact ih0 _ _ _)
      | (with_reducible exact ih1 _ _ _)
      | (with_reducible exact ih2 _ _ _)
      | (with_reducible exact ih3 _ _ _ _ _ _)
      | (with_reducible exact ih4 _ _ _ _ _ _ _ _ _ _ _ _)
      | (with_reducible exact laws_given.mono _ _ _)
      | (with_reducible exact laws_plainParams.mono _ _)
      | (with_reducible exact laws_turned.mono _ _)
      | (with_reducible exact laws_zzFits1.mono _ _)
      | (with_reducible exact LeO.refl _)
      | (with_reducible exact LeO.none _)
      | (with_reducible refine LeO.ite ?_ ?_)
      | (with_reducible refine LeO.bind ?_ (fun _ => ?_))
      | exact ih0 _ _ _
      | exact ih1 _ _ _
      | exact ih2 _ _ _
      | exact ih3 _ _ _ _ _ _
      | exact ih4 _ _ _ _ _ _ _ _ _ _ _ _
      | exact laws_given.mono _ _ _
      | exact laws_plainParams.mono _ _
      | exact laws_turned.mono _ _
      | exact laws_zzFits1.mono _ _
      | exact LeO.none _
      | refine LeO.ite ?_ ?_
      | refine LeO.bind ?_ (fun _ => ?_)
def laws_FnParamsAll.T15 : Bool × List (List Nat × List Nat) := (true, [([], []), ([0], [0]), ([1], [1]), ([2, 1], [1, 2]), ([3, 1, 1], [1, 3]), ([1], [1]), ([5, 1], [1, 5]), ([6, 4, 1], [1, 6]), ([4, 7, 1], [1, 4, 7]), ([8, 7, 1], [1, 8]), ([9], [9]), ([10, 9], [9, 10]), ([11, 9, 9], [9, 11]), ([9], [9]), ([13, 9], [9, 13]), ([14, 12, 9], [9, 14]), ([12, 15, 9], [9, 12, 15]), ([9, 16, 1], [1, 9, 16]), ([1, 17], [1, 17]), ([18, 15, 0, 1, 2, 3, 4, 5, 6, 7, 8, 9, 10, 11, 12, 13, 14, 15, 16, 17, 18], [0, 18])])
def laws_FnParamsAll.B15 : List Nat := [0, 1, 3, 7, 15, 3, 35, 127, 255, 511, 1023, 2047, 4095, 1023, 9215, 32767, 65535, 131071, 262143, 524287]
theorem laws_FnParamsAll.tab15 : rtab .any (opsOf Try.f9 15) = laws_FnParamsAll.T15 := by kernel_rfl
theorem laws_FnParamsAll.bits15 : waitsOk laws_FnParamsAll.T15.2 laws_FnParamsAll.B15 = true := by kernel_rfl
set_option maxHeartbeats 8000000 in
set_option maxRecDepth 100000 in
theorem laws_FnParamsAll.calls (k : Nat) (A0 : Option Addr) (c0 : Nat) (l0 : List (S47)) (A1 : Option Addr) (c1 : Nat) (l1 : List (S47)) (r : Bool) (w : World) (hr0 : Kd.C k47 w A0 l0.length l0) (hc0 : l0.length ≤ c0) (hr1 : Kd.C k47 w A1 l1.length l1) (hc1 : l1.length ≤ c1) (h : laws_FnParamsAll.f k l0 l1 = some r) :
    Calls Try.prog 9 #[.slice A0 l0.length c0, .slice A1 l1.length c1] w fun e w' => e = .returned (.bool r) ∧ Below w.heap.size w w' := by
  have hu47 := Try.underlying47
  have HR0 := Aside0.mk hr0
  have HC0 := Aside0.mk hc0
  clear hr0 hc0
  have HR1 := Aside0.mk hr1
  have HC1 := Aside0.mk hc1
  clear hr1 hc1
  have HB := Aside0.mk (Below.refl w.heap.size w)
  have H : ((laws_zzFits1.f k l0).bind fun t285 => (if t285 = true then ((laws_zzFits1.f k l1).bind fun t286 => (laws_FnParamsAll.j0 k l0 l1 (!t286))) else (laws_FnParamsAll.j0 k l0 l1 true))) = some r := h
  clear h
  have HC3 := Aside0.mk H
  clear H
  go_enter Try.func9, Try.ntmps9
  go_upto_region 1 with (fail)
  go_cut [18] (fun v18 wc => ∃ (kq : Nat) (x18_2 : Bool), v18 = .bool x18_2 ∧ Aside0 (laws_FnParamsAll.j0 kq l0 l1 x18_2 = some r) ∧ Aside0 (kq ≤ k) ∧ Aside0 (Below w.heap.size w wc))
  case first =>
    have H := HC3.out
    clear HC3
    replace H := Option.bind_eq_some_iff.mp H
    obtain ⟨t285, A40, H⟩ := H
    replace H : (if t285 = true then ((laws_zzFits1.f k l1).bind fun t286 => (laws_FnParamsAll.j0 k l0 l1 (!t286))) else (laws_FnParamsAll.j0 k l0 l1 true)) = some r := H
    have A4 := Aside0.mk A40
    clear A40
    by_cases c5 : t285 = true
    · subst c5
      have H1 : ((laws_zzFits1.f k l1).bind fun t286 => (laws_FnParamsAll.j0 k l0 l1 (!t286))) = some r := by rw [if_pos rfl] at H; exact H
      clear H
      have H := H1
      clear H1
      replace H := Option.bind_eq_some_iff.mp H
      obtain ⟨t286, A60, H⟩ := H
      replace H : (laws_FnParamsAll.j0 k l0 l1 (!t286)) = some r := H
      have A6 := Aside0.mk A60
      clear A60
      have H' := Aside0.mk H
      clear H
      go_wp2_with (first | ((with_reducible refine gate_callee (f := 25) rfl ?_); refine goesL_ (some 12) rfl rfl Try.func25 (by kernel_rfl) rfl #[.slice A0 l0.length c0] rfl (by (try simp only [List.map_toArray, List.map_cons, List.map_nil]); first | done | rfl | (simp only [List.length_drop, List.length_take]; rfl)) ?_; (with_reducible refine (laws_zzFits1.calls k _ _ l0 true _ ?side1 ?side2 A4.out).mono ?_); (case side1 => repeat (first | exact (Kd.C_below HR0.out HB.out) | (with_reducible refine Kd.C_alloc ?_ _) | (with_reducible refine Kd.C_drewN ?_ _) | (with_reducible refine Kd.C_drew ?_))); (case side2 => exact HC0.out); rintro e w7 ⟨rfl, hb⟩; refine ⟨_, rfl, ?_⟩; have n0_ := Aside0.mk (below_step (by repeat (first | (with_reducible first | exact HB.out | apply below_alloc | apply pw_below_drewN | apply below_drew1) | exact HB.out)) hb); clear HB; have HB := n0_; clear n0_; (try clear hb); (try clear hb2); (try clear hk); (try clear hi)) | (go_at_call 25; (with_reducible refine (laws_zzFits1.calls k _ _ l1 t286 _ ?side1 ?side2 A6.out).mono ?_); (case side1 => repeat (first | exact (Kd.C_below HR1.out HB.out) | (with_reducible refine Kd.C_alloc ?_ _) | (with_reducible refine Kd.C_drewN ?_ _) | (with_reducible refine Kd.C_drew ?_))); (case side2 => exact HC1.out); rintro e w8 ⟨rfl, hb⟩; have n0_ := Aside0.mk (below_step (by repeat (first | (with_reducible first | exact HB.out | apply below_alloc | apply pw_below_drewN | apply below_drew1) | exact HB.out)) hb); clear HB; have HB := n0_; clear n0_; (try clear hb); (try clear hb2); (try clear hk); (try clear hi)))
      go_meet
      case rel => exact ⟨_, (!t286), (by first | rfl | (simp; done) | (rw [prx_ne]; first | done | rfl) | (simp [*]; done)), H', ⟨by first | omega | exact Nat.le_refl _⟩, ⟨by repeat (first | (with_reducible first | exact HB.out | apply below_alloc | apply pw_below_drewN | apply below_drew1) | exact HB.out)⟩⟩
    · replace c5 := Bool.eq_false_iff.mpr c5
      subst c5
      have H1 : (laws_FnParamsAll.j0 k l0 l1 true) = some r := by rw [if_neg (show ¬ (false = true) by decide)] at H; exact H
      clear H
      have H := H1
      clear H1
      have H' := Aside0.mk H
      clear H
      go_wp2_with (first | ((with_reducible refine gate_callee (f := 25) rfl ?_); refine goesL_ (some 12) rfl rfl Try.func25 (by kernel_rfl) rfl #[.slice A0 l0.length c0] rfl (by (try simp only [List.map_toArray, List.map_cons, List.map_nil]); first | done | rfl | (simp only [List.length_drop, List.length_take]; rfl)) ?_; (with_reducible refine (laws_zzFits1.calls k _ _ l0 false _ ?side1 ?side2 A4.out).mono ?_); (case side1 => repeat (first | exact (Kd.C_below HR0.out HB.out) | (with_reducible refine Kd.C_alloc ?_ _) | (with_reducible refine Kd.C_drewN ?_ _) | (with_reducible refine Kd.C_drew ?_))); (case side2 => exact HC0.out); rintro e w9 ⟨rfl, hb⟩; refine ⟨_, rfl, ?_⟩; have n0_ := Aside0.mk (below_step (by repeat (first | (with_reducible first | exact HB.out | apply below_alloc | apply pw_below_drewN | apply below_drew1) | exact HB.out)) hb); clear HB; have HB := n0_; clear n0_; (try clear hb); (try clear hb2); (try clear hk); (try clear hi)))
      go_meet
      case rel => exact ⟨_, (true), (by first | rfl | (simp; done) | (rw [prx_ne]; first | done | rfl) | (simp [*]; done)), H', ⟨by first | omega | exact Nat.le_refl _⟩, ⟨by repeat (first | (with_reducible first | exact HB.out | apply below_alloc | apply pw_below_drewN | apply below_drew1) | exact HB.out)⟩⟩
  case rest =>
    clear HC3
    try clear c1
    try clear c2
    try clear p2
    try clear c5
    try clear c9
    obtain ⟨kq, x18_2, rfl, HA, HJ2, HB⟩ := hcut
    cases kq with
    | zero => exact absurd HA.out (by simp [laws_FnParamsAll.j0])
    | succ kj2 =>
      have H := HA.out
      clear HA
      simp only [laws_FnParamsAll.j0] at H
      by_cases c10 : x18_2 = true
      · subst c10
        have H1 : (some true) = some r := by rw [if_pos rfl] at H; exact H
        clear H
        have H := H1
        clear H1
        obtain rfl := Option.some.inj H
        go_wp2
        go_ret
        exact ⟨by first | rfl | (simp [errW_none, errW_some] <;> rfl) | (simp [*, errW_none, errW_some] <;> rfl), by repeat (first | (with_reducible first | exact HB.out | apply below_alloc | apply pw_below_drewN | apply below_drew1) | exact HB.out)⟩
      · replace c10 := Bool.eq_false_iff.mpr c10
        subst c10
        have H1 : ((impl_ParamsMatch.f (⟨#[59, 97, 61, 98]⟩ : ByteArray) (⟨#[59, 99, 61, 100, 59, 97, 61, 98]⟩ : ByteArray)).bind fun t287 => (if t287 = true then ((impl_ParamsMatch.f (⟨#[59, 97, 61, 98]⟩ : ByteArray) (⟨#[59, 97, 61, 99]⟩ : ByteArray)).bind fun t288 => (laws_FnParamsAll.j1 kj2 l0 l1 t288)) else (laws_FnParamsAll.j1 kj2 l0 l1 true))) = some r := by rw [if_neg (show ¬ (false = true) by decide)] at H; exact H
        clear H
        have H := H1
        clear H1
        have HC11 := Aside0.mk H
        clear H
        go_upto_region 3 with (fail)
        go_cut [23] (fun v23 wc => ∃ (kq : Nat) (x23_10 : Bool), v23 = .bool x23_10 ∧ Aside0 (laws_FnParamsAll.j1 kq l0 l1 x23_10 = some r) ∧ Aside0 (kq ≤ kj2) ∧ Aside0 (Below w.heap.size w wc))
        case first =>
          have H := HC11.out
          clear HC11
          replace H := Option.bind_eq_some_iff.mp H
          obtain ⟨t287, A120, H⟩ := H
          replace H : (if t287 = true then ((impl_ParamsMatch.f (⟨#[59, 97, 61, 98]⟩ : ByteArray) (⟨#[59, 97, 61, 99]⟩ : ByteArray)).bind fun t288 => (laws_FnParamsAll.j1 kj2 l0 l1 t288)) else (laws_FnParamsAll.j1 kj2 l0 l1 true)) = some r := H
          have A12 := Aside0.mk A120
          clear A120
          by_cases c13 : t287 = true
          · subst c13
            have H1 : ((impl_ParamsMatch.f (⟨#[59, 97, 61, 98]⟩ : ByteArray) (⟨#[59, 97, 61, 99]⟩ : ByteArray)).bind fun t288 => (laws_FnParamsAll.j1 kj2 l0 l1 t288)) = some r := by rw [if_pos rfl] at H; exact H
            clear H
            have H := H1
            clear H1
            replace H := Option.bind_eq_some_iff.mp H
            obtain ⟨t288, A140, H⟩ := H
            replace H : (laws_FnParamsAll.j1 kj2 l0 l1 t288) = some r := H
            have A14 := Aside0.mk A140
            clear A140
            have H' := Aside0.mk H
            clear H
            go_wp2_with (first | ((with_reducible refine gate_callee (f := 32) rfl ?_); refine goesL_ (some 19) rfl rfl Try.func32 (by kernel_rfl) rfl #[.string (⟨#[59, 97, 61, 98]⟩ : ByteArray), .string (⟨#[59, 99, 61, 100, 59, 97, 61, 98]⟩ : ByteArray)] rfl (by (try simp only [List.map_toArray, List.map_cons, List.map_nil]); first | done | rfl | (simp only [List.length_drop, List.length_take]; rfl)) ?_; (with_reducible refine (impl_ParamsMatch.calls (⟨#[59, 97, 61, 98]⟩ : ByteArray) (⟨#[59, 99, 61, 100, 59, 97, 61, 98]⟩ : ByteArray) true _ A12.out).mono ?_); rintro e w15 ⟨rfl, hb⟩; refine ⟨_, rfl, ?_⟩; have n0_ := Aside0.mk (below_step (by repeat (first | (with_reducible first | exact HB.out | apply below_alloc | apply pw_below_drewN | apply below_drew1) | exact HB.out)) hb); clear HB; have HB := n0_; clear n0_; (try clear hb); (try clear hb2); (try clear hk); (try clear hi)) | (go_at_call 32; (with_reducible refine (impl_ParamsMatch.calls (⟨#[59, 97, 61, 98]⟩ : ByteArray) (⟨#[59, 97, 61, 99]⟩ : ByteArray) t288 _ A14.out).mono ?_); rintro e w16 ⟨rfl, hb⟩; have n0_ := Aside0.mk (below_step (by repeat (first | (with_reducible first | exact HB.out | apply below_alloc | apply pw_below_drewN | apply below_drew1) | exact HB.out)) hb); clear HB; have HB := n0_; clear n0_; (try clear hb); (try clear hb2); (try clear hk); (try clear hi)))
            go_meet
            case rel => exact ⟨_, (t288), (by first | rfl | (simp; done) | (rw [prx_ne]; first | done | rfl) | (simp [*]; done)), H', ⟨by have := HJ2.out; first | omega | exact Nat.le_refl _⟩, ⟨by repeat (first | (with_reducible first | exact HB.out | apply below_alloc | apply pw_below_drewN | apply below_drew1) | exact HB.out)⟩⟩
          · replace c13 := Bool.eq_false_iff.mpr c13
            subst c13
            have H1 : (laws_FnParamsAll.j1 kj2 l0 l1 true) = some r := by rw [if_neg (show ¬ (false = true) by decide)] at H; exact H
            clear H
            have H := H1
            clear H1
            have H' := Aside0.mk H
            clear H
            go_wp2_with (first | ((with_reducible refine gate_callee (f := 32) rfl ?_); refine goesL_ (some 19) rfl rfl Try.func32 (by kernel_rfl) rfl #[.string (⟨#[59, 97, 61, 98]⟩ : ByteArray), .string (⟨#[59, 99, 61, 100, 59, 97, 61, 98]⟩ : ByteArray)] rfl (by (try simp only [List.map_toArray, List.map_cons, List.map_nil]); first | done | rfl | (simp only [List.length_drop, List.length_take]; rfl)) ?_; (with_reducible refine (impl_ParamsMatch.calls (⟨#[59, 97, 61, 98]⟩ : ByteArray) (⟨#[59, 99, 61, 100, 59, 97, 61, 98]⟩ : ByteArray) false _ A12.out).mono ?_); rintro e w17 ⟨rfl, hb⟩; refine ⟨_, rfl, ?_⟩; have n0_ := Aside0.mk (below_step (by repeat (first | (with_reducible first | exact HB.out | apply below_alloc | apply pw_below_drewN | apply below_drew1) | exact HB.out)) hb); clear HB; have HB := n0_; clear n0_; (try clear hb); (try clear hb2); (try clear hk); (try clear hi)))
            go_meet
            case rel => exact ⟨_, (true), (by first | rfl | (simp; done) | (rw [prx_ne]; first | done | rfl) | (simp [*]; done)), H', ⟨by have := HJ2.out; first | omega | exact Nat.le_refl _⟩, ⟨by repeat (first | (with_reducible first | exact HB.out | apply below_alloc | apply pw_below_drewN | apply below_drew1) | exact HB.out)⟩⟩
        case rest =>
          clear HC11
          try clear c1
          try clear c2
          try clear p2
          try clear c3
          try clear c5
          try clear c9
          try clear c10
          try clear c13
          try clear p2
          obtain ⟨kq, x23_10, rfl, HA, HJ10, HB⟩ := hcut
          cases kq with
          | zero => exact absurd HA.out (by simp [laws_FnParamsAll.j1])
          | succ kj10 =>
            have H := HA.out
            clear HA
            simp only [laws_FnParamsAll.j1] at H
            by_cases c18 : x23_10 = true
            · subst c18
              have H1 : (some false) = some r := by rw [if_pos rfl] at H; exact H
              clear H
              have H := H1
              clear H1
              obtain rfl := Option.some.inj H
              go_wp2
              go_ret
              exact ⟨by first | rfl | (simp [errW_none, errW_some] <;> rfl) | (simp [*, errW_none, errW_some] <;> rfl), by repeat (first | (with_reducible first | exact HB.out | apply below_alloc | apply pw_below_drewN | apply below_drew1) | exact HB.out)⟩
            · replace c18 := Bool.eq_false_iff.mpr c18
              subst c18
              have H1 : ((laws_plainParams.f kj10 l0).bind fun t289 => (if t289 = true then ((laws_plainParams.f kj10 l1).bind fun t290 => (laws_FnParamsAll.j2 kj10 l0 l1 (!t290))) else (laws_FnParamsAll.j2 kj10 l0 l1 true))) = some r := by rw [if_neg (show ¬ (false = true) by decide)] at H; exact H
              clear H
              have H := H1
              clear H1
              have HC19 := Aside0.mk H
              clear H
              go_upto_region 5 with (fail)
              go_cut [31] (fun v31 wc => ∃ (kq : Nat) (x31_18 : Bool), v31 = .bool x31_18 ∧ Aside0 (laws_FnParamsAll.j2 kq l0 l1 x31_18 = some r) ∧ Aside0 (kq ≤ kj10) ∧ Aside0 (Below w.heap.size w wc))
              case first =>
                have H := HC19.out
                clear HC19
                replace H := Option.bind_eq_some_iff.mp H
                obtain ⟨t289, A200, H⟩ := H
                replace H : (if t289 = true then ((laws_plainParams.f kj10 l1).bind fun t290 => (laws_FnParamsAll.j2 kj10 l0 l1 (!t290))) else (laws_FnParamsAll.j2 kj10 l0 l1 true)) = some r := H
                have A20 := Aside0.mk A200
                clear A200
                by_cases c21 : t289 = true
                · subst c21
                  have H1 : ((laws_plainParams.f kj10 l1).bind fun t290 => (laws_FnParamsAll.j2 kj10 l0 l1 (!t290))) = some r := by rw [if_pos rfl] at H; exact H
                  clear H
                  have H := H1
                  clear H1
                  replace H := Option.bind_eq_some_iff.mp H
                  obtain ⟨t290, A220, H⟩ := H
                  replace H : (laws_FnParamsAll.j2 kj10 l0 l1 (!t290)) = some r := H
                  have A22 := Aside0.mk A220
                  clear A220
                  have H' := Aside0.mk H
                  clear H
                  go_wp2_with (first | ((with_reducible refine gate_callee (f := 27) rfl ?_); refine goesL_ (some 25) rfl rfl Try.func27 (by kernel_rfl) rfl #[.slice A0 l0.length c0] rfl (by (try simp only [List.map_toArray, List.map_cons, List.map_nil]); first | done | rfl | (simp only [List.length_drop, List.length_take]; rfl)) ?_; (with_reducible refine (laws_plainParams.calls kj10 _ _ l0 true _ ?side1 ?side2 A20.out).mono ?_); (case side1 => repeat (first | exact (Kd.C_below HR0.out HB.out) | (with_reducible refine Kd.C_alloc ?_ _) | (with_reducible refine Kd.C_drewN ?_ _) | (with_reducible refine Kd.C_drew ?_))); (case side2 => exact HC0.out); rintro e w23 ⟨rfl, hb⟩; refine ⟨_, rfl, ?_⟩; have n0_ := Aside0.mk (below_step (by repeat (first | (with_reducible first | exact HB.out | apply below_alloc | apply pw_below_drewN | apply below_drew1) | exact HB.out)) hb); clear HB; have HB := n0_; clear n0_; (try clear hb); (try clear hb2); (try clear hk); (try clear hi)) | (go_at_call 27; (with_reducible refine (laws_plainParams.calls kj10 _ _ l1 t290 _ ?side1 ?side2 A22.out).mono ?_); (case side1 => repeat (first | exact (Kd.C_below HR1.out HB.out) | (with_reducible refine Kd.C_alloc ?_ _) | (with_reducible refine Kd.C_drewN ?_ _) | (with_reducible refine Kd.C_drew ?_))); (case side2 => exact HC1.out); rintro e w24 ⟨rfl, hb⟩; have n0_ := Aside0.mk (below_step (by repeat (first | (with_reducible first | exact HB.out | apply below_alloc | apply pw_below_drewN | apply below_drew1) | exact HB.out)) hb); clear HB; have HB := n0_; clear n0_; (try clear hb); (try clear hb2); (try clear hk); (try clear hi)))
                  go_meet
                  case rel => exact ⟨_, (!t290), (by first | rfl | (simp; done) | (rw [prx_ne]; first | done | rfl) | (simp [*]; done)), H', ⟨by have := HJ2.out; have := HJ10.out; first | omega | exact Nat.le_refl _⟩, ⟨by repeat (first | (with_reducible first | exact HB.out | apply below_alloc | apply pw_below_drewN | apply below_drew1) | exact HB.out)⟩⟩
                · replace c21 := Bool.eq_false_iff.mpr c21
                  subst c21
                  have H1 : (laws_FnParamsAll.j2 kj10 l0 l1 true) = some r := by rw [if_neg (show ¬ (false = true) by decide)] at H; exact H
                  clear H
                  have H := H1
                  clear H1
                  have H' := Aside0.mk H
                  clear H
                  go_wp2_with (first | ((with_reducible refine gate_callee (f := 27) rfl ?_); refine goesL_ (some 25) rfl rfl Try.func27 (by kernel_rfl) rfl #[.slice A0 l0.length c0] rfl (by (try simp only [List.map_toArray, List.map_cons, List.map_nil]); first | done | rfl | (simp only [List.length_drop, List.length_take]; rfl)) ?_; (with_reducible refine (laws_plainParams.calls kj10 _ _ l0 false _ ?side1 ?side2 A20.out).mono ?_); (case side1 => repeat (first | exact (Kd.C_below HR0.out HB.out) | (with_reducible refine Kd.C_alloc ?_ _) | (with_reducible refine Kd.C_drewN ?_ _) | (with_reducible refine Kd.C_drew ?_))); (case side2 => exact HC0.out); rintro e w25 ⟨rfl, hb⟩; refine ⟨_, rfl, ?_⟩; have n0_ := Aside0.mk (below_step (by repeat (first | (with_reducible first | exact HB.out | apply below_alloc | apply pw_below_drewN | apply below_drew1) | exact HB.out)) hb); clear HB; have HB := n0_; clear n0_; (try clear hb); (try clear hb2); (try clear hk); (try clear hi)))
                  go_meet
                  case rel => exact ⟨_, (true), (by first | rfl | (simp; done) | (rw [prx_ne]; first | done | rfl) | (simp [*]; done)), H', ⟨by have := HJ2.out; have := HJ10.out; first | omega | exact Nat.le_refl _⟩, ⟨by repeat (first | (with_reducible first | exact HB.out | apply below_alloc | apply pw_below_drewN | apply below_drew1) | exact HB.out)⟩⟩
              case rest =>
                clear HC19
                try clear c1
                try clear c2
                try clear p2
                try clear c3
                try clear c5
                try clear c9
                try clear c10
                try clear c13
                try clear c18
                try clear c21
                try clear c25
                try clear p2
                obtain ⟨kq, x31_18, rfl, HA, HJ18, HB⟩ := hcut
                cases kq with
                | zero => exact absurd HA.out (by simp [laws_FnParamsAll.j2])
                | succ kj18 =>
                  have H := HA.out
                  clear HA
                  simp only [laws_FnParamsAll.j2] at H
                  by_cases c26 : x31_18 = true
                  · subst c26
                    have H1 : (some true) = some r := by rw [if_pos rfl] at H; exact H
                    clear H
                    have H := H1
                    clear H1
                    obtain rfl := Option.some.inj H
                    go_wp2
                    go_ret
                    exact ⟨by first | rfl | (simp [errW_none, errW_some] <;> rfl) | (simp [*, errW_none, errW_some] <;> rfl), by repeat (first | (with_reducible first | exact HB.out | apply below_alloc | apply pw_below_drewN | apply below_drew1) | exact HB.out)⟩
                  · replace c26 := Bool.eq_false_iff.mpr c26
                    subst c26
                    have H1 : (laws_FnParamsAll.l0 kj18 l0 l1 true l0 (l0.length : Int) 0) = some r := by rw [if_neg (show ¬ (false = true) by decide)] at H; exact H
                    clear H
                    have H := H1
                    clear H1
                    have H' := Aside0.mk H
                    clear H
                    go_wp2
                    go_loopg [5, 34] kj18 (fun kq v5 v34 w' => ∃ (x5_4 : Bool) (x34_4 : Int), v5 = .bool x5_4 ∧ v34 = .int .i64 x34_4 ∧ Aside0 (laws_FnParamsAll.l0 kq l0 l1 x5_4 l0 (l0.length : Int) x34_4 = some r) ∧ Aside0 (kq ≤ kj18) ∧ Aside0 (Below w.heap.size w w'))
                    case atStart => exact ⟨(true), (0), (by first | rfl | (simp; done) | (rw [prx_ne]; first | done | rfl) | (simp [*]; done)), (by first | rfl | (simp; done) | (rw [prx_ne]; first | done | rfl) | (simp [*]; done)), H', ⟨Nat.le_refl _⟩, ⟨by repeat (first | (with_reducible first | exact HB.out | apply below_alloc | apply pw_below_drewN | apply below_drew1) | exact HB.out)⟩⟩
                    case round =>
                      clear H'
                      try clear c1
                      try clear c2
                      try clear p2
                      try clear c3
                      try clear c5
                      try clear c9
                      try clear c10
                      try clear c13
                      try clear c18
                      try clear c21
                      try clear c25
                      try clear c26
                      try clear p2
                      obtain ⟨x5_4, x34_4, rfl, rfl, HA, HK4, HB⟩ := hrel
                      cases gk with
                      | zero => exact absurd HA.out (by simp [laws_FnParamsAll.l0])
                      | succ k4 =>
                        have H := HA.out
                        clear HA
                        simp only [laws_FnParamsAll.l0] at H
                        by_cases c27 : x34_4 < (l0.length : Int)
                        · rw [if_pos c27] at H
                          have c27b0 : decide (x34_4 < (l0.length : Int)) = true := decide_eq_true c27
                          clear c27
                          by_cases c28 : 0 ≤ x34_4
                          · rw [if_pos c28] at H
                            have c28b0 : decide (0 ≤ x34_4) = true := decide_eq_true c28
                            clear c28
                            by_cases c29 : x34_4 < (l0.length : Int)
                            · rw [if_pos c29] at H
                              have c29b0 : decide (x34_4 < (l0.length : Int)) = true := decide_eq_true c29
                              clear c29
                              have H' := Aside0.mk H
                              clear H
                              have p291 : 0 ≤ (x34_4 : Int) := of_decide_eq_true (by first | (with_reducible assumption) | assumption)
                              have q291 : x34_4 < (l0.length : Int) := of_decide_eq_true (by first | (with_reducible assumption) | assumption)
                              obtain ⟨ad291, e291, hx291_0, hx291_1⟩ := at_T47 HR0.out x34_4 p291 q291
                              cases e291
                              replace hx291_0 := (HB.out.cell (World.block_lt_of_cell? w _ hx291_0)).trans hx291_0
                              replace hx291_1 := (HB.out.cell (World.block_lt_of_cell? w _ hx291_1)).trans hx291_1
                              replace p291 := eq_true p291
                              replace q291 := eq_true q291
                              go_wp2_with (first | ((with_reducible refine gate_dst (N := 7) rfl ?_); refine box_event ?hg (N := 7) ?hd (cs := #[.string (⟨#[]⟩ : ByteArray), .string (⟨#[]⟩ : ByteArray)]) (t := 47) ?hr ?_; (case hd => rfl); (case hg => rfl); (case hr => first | (go_simp; done) | (go_simp; rfl)); intro gb292 hg w30 hbox hb; have n0_ := Aside0.mk (below_step (by repeat (first | (with_reducible first | exact HB.out | apply below_alloc | apply pw_below_drewN | apply below_drew1) | exact HB.out)) hb); have n1_ := Aside0.mk (hbox); have n2_ := Aside0.mk ((by rw [hg]; exact (below_size (by repeat (first | (with_reducible first | exact HB.out | apply below_alloc | apply pw_below_drewN | apply below_drew1) | exact HB.out))) : w.heap.size ≤ gb292)); have n3_ := Aside0.mk ((by rw [hg]; exact (below_size (by repeat (first | (with_reducible first | exact HB.out | apply below_alloc | apply pw_below_drewN | apply below_drew1) | exact HB.out))) : w.heap.size ≤ gb292)); clear HB; have HB := n0_; have BK292 := n1_; have GW292 := n2_; have GE292 := n3_; clear n0_ n1_ n2_ n3_; clear hb hbox hg; have hcz31_0 : w30.cell? ⟨gb292, 0, none⟩ = some (.string (⟨#[]⟩ : ByteArray)) := (blk_cell BK292.out 0).trans rfl; have hcz31_1 : w30.cell? ⟨gb292, 1, none⟩ = some (.string (⟨#[]⟩ : ByteArray)) := (blk_cell BK292.out 1).trans rfl; have hfz31_0 := blk_frozen BK292.out 0; have hfz31_1 := blk_frozen BK292.out 1))
                              go_loopg [8, 40] k4 (fun kq v8 v40 w' => ∃ (x8_5 : Bool) (x40_5 : Int), v8 = .bool x8_5 ∧ v40 = .int .i64 x40_5 ∧ Aside0 (laws_FnParamsAll.l1 kq l0 l1 x5_4 x8_5 l0 (l0.length : Int) x34_4 l1 (l1.length : Int) x40_5 ((rd_T47 l0 x34_4).f0) ((rd_T47 l0 x34_4).f1) = some r) ∧ Aside0 (kq ≤ k4) ∧ Aside0 (w'.heap[gb292]? = some (.cells #[.string ((rd_T47 l0 x34_4).f0), .string ((rd_T47 l0 x34_4).f1)] 47 (0, 0))) ∧ Aside0 (Below w.heap.size w w'))
                              case atStart => exact ⟨(false), (0), (by first | rfl | (simp; done) | (rw [prx_ne]; first | done | rfl) | (simp [*]; done)), (by first | rfl | (simp; done) | (rw [prx_ne]; first | done | rfl) | (simp [*]; done)), H', ⟨Nat.le_refl _⟩, ⟨by (with_reducible repeat (first | refine blk_drewN ?_ _ | refine blk_drew ?_ | refine blk_alloc ?_ _)); refine blk_put (cs := #[.string ((rd_T47 l0 x34_4).f0), .string (⟨#[]⟩ : ByteArray)]) ?_ 1 _ rfl; (with_reducible repeat (first | refine blk_drewN ?_ _ | refine blk_drew ?_ | refine blk_alloc ?_ _)); refine blk_put (cs := #[.string (⟨#[]⟩ : ByteArray), .string (⟨#[]⟩ : ByteArray)]) ?_ 0 _ rfl; (with_reducible repeat (first | refine blk_drewN ?_ _ | refine blk_drew ?_ | refine blk_alloc ?_ _)); exact BK292.out⟩, ⟨by repeat (first | (with_reducible first | exact HB.out | apply below_alloc | apply pw_below_drewN | apply below_drew1 | refine below_set ?_ GE292.out) | exact HB.out)⟩⟩
                              case round =>
                                clear H'
                                try clear c1
                                try clear c2
                                try clear p2
                                try clear q2
                                try clear hx2
                                try clear c3
                                try clear c5
                                try clear c9
                                try clear c10
                                try clear c13
                                try clear c18
                                try clear c21
                                try clear c25
                                try clear c26
                                try clear c27
                                try clear c27b0
                                try clear c28
                                try clear c28b0
                                try clear c29
                                try clear c29b0
                                try clear p29
                                try clear q29
                                try clear hx29
                                try clear hcz31_0
                                try clear hcz31_1
                                try clear hfz31_0
                                try clear hfz31_1
                                try clear hx291_0
                                try clear hx291_1
                                try clear p2
                                try clear p291
                                try clear q291
                                obtain ⟨x8_5, x40_5, rfl, rfl, HA, HK5, BK292, HB⟩ := hrel
                                cases gk with
                                | zero => exact absurd HA.out (by simp [laws_FnParamsAll.l1])
                                | succ k5 =>
                                  have H := HA.out
                                  clear HA
                                  simp only [laws_FnParamsAll.l1] at H
                                  by_cases c32 : x40_5 < (l1.length : Int)
                                  · rw [if_pos c32] at H
                                    have c32b0 : decide (x40_5 < (l1.length : Int)) = true := decide_eq_true c32
                                    clear c32
                                    by_cases c33 : 0 ≤ x40_5
                                    · rw [if_pos c33] at H
                                      have c33b0 : decide (0 ≤ x40_5) = true := decide_eq_true c33
                                      clear c33
                                      by_cases c34 : x40_5 < (l1.length : Int)
                                      · rw [if_pos c34] at H
                                        have c34b0 : decide (x40_5 < (l1.length : Int)) = true := decide_eq_true c34
                                        clear c34
                                        by_cases c35 : x8_5 = true
                                        · subst c35
                                          have H1 : (laws_FnParamsAll.l1 k5 l0 l1 x5_4 true l0 (l0.length : Int) x34_4 l1 (l1.length : Int) (wrap64 (x40_5 + 1)) ((rd_T47 l0 x34_4).f0) ((rd_T47 l0 x34_4).f1)) = some r := by rw [if_pos rfl] at H; exact H
                                          clear H
                                          have H := H1
                                          clear H1
                                          have H' := Aside0.mk H
                                          clear H
                                          have p293 : 0 ≤ (x40_5 : Int) := of_decide_eq_true (by first | (with_reducible assumption) | assumption)
                                          have q293 : x40_5 < (l1.length : Int) := of_decide_eq_true (by first | (with_reducible assumption) | assumption)
                                          obtain ⟨ad293, e293, hx293_0, hx293_1⟩ := at_T47 HR1.out x40_5 p293 q293
                                          cases e293
                                          replace hx293_0 := (HB.out.cell (World.block_lt_of_cell? w _ hx293_0)).trans hx293_0
                                          replace hx293_1 := (HB.out.cell (World.block_lt_of_cell? w _ hx293_1)).trans hx293_1
                                          replace p293 := eq_true p293
                                          replace q293 := eq_true q293
                                          try go_wp2_with (first | ((with_reducible refine gate_dst (N := 10) rfl ?_); refine box_event ?hg (N := 10) ?hd (cs := #[.string (⟨#[]⟩ : ByteArray), .string (⟨#[]⟩ : ByteArray)]) (t := 47) ?hr ?_; (case hd => rfl); (case hg => rfl); (case hr => first | (go_simp; done) | (go_simp; rfl)); intro gb294 hg w36 hbox hb; have n0_ := Aside0.mk (blk_below (g := gb292) (o := .cells #[.string ((rd_T47 l0 x34_4).f0), .string ((rd_T47 l0 x34_4).f1)] 47 (0, 0)) (by (with_reducible repeat (first | refine blk_drewN ?_ _ | refine blk_drew ?_ | refine blk_alloc ?_ _)); exact BK292.out) hb); have n1_ := Aside0.mk (below_step (by repeat (first | (with_reducible first | exact HB.out | apply below_alloc | apply pw_below_drewN | apply below_drew1 | refine below_set ?_ GE292.out) | exact HB.out)) hb); have n2_ := Aside0.mk (hbox); have n3_ := Aside0.mk ((by rw [hg]; exact (below_size (by repeat (first | (with_reducible first | exact HB.out | apply below_alloc | apply pw_below_drewN | apply below_drew1 | refine below_set ?_ GE292.out) | exact HB.out))) : w.heap.size ≤ gb294)); have n4_ := Aside0.mk ((by rw [hg]; exact (below_size (by repeat (first | (with_reducible first | exact HB.out | apply below_alloc | apply pw_below_drewN | apply below_drew1 | refine below_set ?_ GE292.out) | exact HB.out))) : w.heap.size ≤ gb294)); have n5_ := Aside0.mk ((by rw [hg]; exact Nat.ne_of_lt (blk_lt (g := gb292) (o := .cells #[.string ((rd_T47 l0 x34_4).f0), .string ((rd_T47 l0 x34_4).f1)] 47 (0, 0)) (by (with_reducible repeat (first | refine blk_drewN ?_ _ | refine blk_drew ?_ | refine blk_alloc ?_ _)); exact BK292.out)) : gb292 ≠ gb294)); have n6_ := Aside0.mk ((by rw [hg]; exact Nat.ne_of_gt (blk_lt (g := gb292) (o := .cells #[.string ((rd_T47 l0 x34_4).f0), .string ((rd_T47 l0 x34_4).f1)] 47 (0, 0)) (by (with_reducible repeat (first | refine blk_drewN ?_ _ | refine blk_drew ?_ | refine blk_alloc ?_ _)); exact BK292.out)) : gb294 ≠ gb292)); clear BK292; clear HB; have BK292 := n0_; have HB := n1_; have BK294 := n2_; have GW294 := n3_; have GE294 := n4_; have NB292_294 := n5_; have NB294_292 := n6_; clear n0_ n1_ n2_ n3_ n4_ n5_ n6_; clear hb hbox hg; have hnb37 := NB294_292.out; have hnc37 := NB292_294.out; have hcz38_0 : w36.cell? ⟨gb294, 0, none⟩ = some (.string (⟨#[]⟩ : ByteArray)) := (blk_cell BK294.out 0).trans rfl; have hcz38_1 : w36.cell? ⟨gb294, 1, none⟩ = some (.string (⟨#[]⟩ : ByteArray)) := (blk_cell BK294.out 1).trans rfl; have hfz38_0 := blk_frozen BK294.out 0; have hfz38_1 := blk_frozen BK294.out 1))
                                          have n0_ : Aside0 (((w36.setCell ⟨gb294, 0, none⟩ (.string ((rd_T47 l1 x40_5).f0))).setCell ⟨gb294, 1, none⟩ (.string ((rd_T47 l1 x40_5).f1))).heap[gb292]? = some (.cells #[.string ((rd_T47 l0 x34_4).f0), .string ((rd_T47 l0 x34_4).f1)] 47 (0, 0))) := ⟨by (with_reducible repeat (first | refine blk_drewN ?_ _ | refine blk_drew ?_ | refine blk_alloc ?_ _)); refine blk_far ?_ NB292_294.out _; (with_reducible repeat (first | refine blk_drewN ?_ _ | refine blk_drew ?_ | refine blk_alloc ?_ _)); refine blk_far ?_ NB292_294.out _; (with_reducible repeat (first | refine blk_drewN ?_ _ | refine blk_drew ?_ | refine blk_alloc ?_ _)); exact BK292.out⟩
                                          have n1_ : Aside0 (((w36.setCell ⟨gb294, 0, none⟩ (.string ((rd_T47 l1 x40_5).f0))).setCell ⟨gb294, 1, none⟩ (.string ((rd_T47 l1 x40_5).f1))).heap[gb294]? = some (.cells #[.string ((rd_T47 l1 x40_5).f0), .string ((rd_T47 l1 x40_5).f1)] 47 (0, 0))) := ⟨by (with_reducible repeat (first | refine blk_drewN ?_ _ | refine blk_drew ?_ | refine blk_alloc ?_ _)); refine blk_put (cs := #[.string ((rd_T47 l1 x40_5).f0), .string (⟨#[]⟩ : ByteArray)]) ?_ 1 _ rfl; (with_reducible repeat (first | refine blk_drewN ?_ _ | refine blk_drew ?_ | refine blk_alloc ?_ _)); refine blk_put (cs := #[.string (⟨#[]⟩ : ByteArray), .string (⟨#[]⟩ : ByteArray)]) ?_ 0 _ rfl; (with_reducible repeat (first | refine blk_drewN ?_ _ | refine blk_drew ?_ | refine blk_alloc ?_ _)); exact BK294.out⟩
                                          have n2_ : Aside0 (Below w.heap.size w ((w36.setCell ⟨gb294, 0, none⟩ (.string ((rd_T47 l1 x40_5).f0))).setCell ⟨gb294, 1, none⟩ (.string ((rd_T47 l1 x40_5).f1)))) := ⟨by repeat (first | (with_reducible first | exact HB.out | apply below_alloc | apply pw_below_drewN | apply below_drew1 | refine below_set ?_ GE292.out | refine below_set ?_ GE294.out) | exact HB.out)⟩
                                          (try clear BK292)
                                          (try clear BK294)
                                          (try clear HB)
                                          generalize ((w36.setCell ⟨gb294, 0, none⟩ (.string ((rd_T47 l1 x40_5).f0))).setCell ⟨gb294, 1, none⟩ (.string ((rd_T47 l1 x40_5).f1))) = w39 at n0_ n1_ n2_ ⊢
                                          have BK292 := n0_
                                          have BK294 := n1_
                                          have HB := n2_
                                          clear n0_ n1_ n2_
                                          have n0_ := Aside0.mk (blk_drew BK292.out)
                                          have n1_ := Aside0.mk (blk_drew BK294.out)
                                          have n2_ := Aside0.mk (below_drew1 HB.out)
                                          clear BK292
                                          clear BK294
                                          clear HB
                                          have BK292 := n0_
                                          have BK294 := n1_
                                          have HB := n2_
                                          clear n0_ n1_ n2_
                                          refine start_ (n := 20) (S := fun w' => True) (ds := []) #[false, false, false, false, false, false, false, false, false, false, false, false, false, false, false, false, false, false, false, false] (by kernel_rfl) rfl rfl trivial (fun hHeld => ?_); refine with_tabW laws_FnParamsAll.tab15 laws_FnParamsAll.bits15 (fun HT_ HW_ => ?_)
                                          generalize w39.drew = w40 at BK292 BK294 HB hHeld ⊢
                                          refine pure_ (i := 0) (N := some 44) (v := ?_) (a' := ?_) #[true, false, false, false, false, false, false, false, false, false, false, false, false, false, false, false, false, false, false, false] rfl rfl (any_of HT_.out (by kernel_rfl)) (fun _ _ _ h => h) (Or.inl ⟨by rfl, ?_⟩) ?_ ?_
                                          rotate_left
                                          · intro w'
                                            go_simp
                                            with_reducible rfl
                                          rotate_left
                                          · simp only [Act.put, List.setIfInBounds_toArray, List.set_cons_zero, List.set_cons_succ, i64_w, i32_w]
                                            rfl
                                          refine pure_ (i := 1) (N := some 45) (v := ?_) (a' := ?_) #[true, true, false, false, false, false, false, false, false, false, false, false, false, false, false, false, false, false, false, false] rfl rfl (any_of HT_.out (by kernel_rfl)) (fun _ _ _ h => h) (Or.inl ⟨by rfl, ?_⟩) ?_ ?_
                                          rotate_left
                                          · intro w'
                                            go_simp
                                            with_reducible rfl
                                          rotate_left
                                          · simp only [Act.put, List.setIfInBounds_toArray, List.set_cons_zero, List.set_cons_succ, i64_w, i32_w]
                                            rfl
                                          refine pure_ (i := 2) (N := some 46) (v := undef) (a' := ?_) #[true, true, true, false, false, false, false, false, false, false, false, false, false, false, false, false, false, false, false, false] rfl rfl (any_of HT_.out (by kernel_rfl)) (fun _ _ _ h => h) (Or.inr ⟨by rfl, rfl⟩) ?_ ?_
                                          rotate_left
                                          · simp only [Act.put, List.setIfInBounds_toArray, List.set_cons_zero, List.set_cons_succ, i64_w, i32_w]
                                            rfl
                                          refine pure_ (i := 3) (N := some 47) (v := undef) (a' := ?_) #[true, true, true, true, false, false, false, false, false, false, false, false, false, false, false, false, false, false, false, false] rfl rfl (any_of HT_.out (by kernel_rfl)) (fun _ _ _ h => h) (Or.inr ⟨by rfl, rfl⟩) ?_ ?_
                                          rotate_left
                                          · simp only [Act.put, List.setIfInBounds_toArray, List.set_cons_zero, List.set_cons_succ, i64_w, i32_w]
                                            rfl
                                          refine pure_ (i := 4) (N := some 48) (v := undef) (a' := ?_) #[true, true, true, true, true, false, false, false, false, false, false, false, false, false, false, false, false, false, false, false] rfl rfl (any_of HT_.out (by kernel_rfl)) (fun _ _ _ h => h) (Or.inr ⟨by rfl, rfl⟩) ?_ ?_
                                          rotate_left
                                          · simp only [Act.put, List.setIfInBounds_toArray, List.set_cons_zero, List.set_cons_succ, i64_w, i32_w]
                                            rfl
                                          refine pure_ (i := 5) (N := some 49) (v := undef) (a' := ?_) #[true, true, true, true, true, true, false, false, false, false, false, false, false, false, false, false, false, false, false, false] rfl rfl (any_of HT_.out (by kernel_rfl)) (fun _ _ _ h => h) (Or.inr ⟨by rfl, rfl⟩) ?_ ?_
                                          rotate_left
                                          · simp only [Act.put, List.setIfInBounds_toArray, List.set_cons_zero, List.set_cons_succ, i64_w, i32_w]
                                            rfl
                                          refine pure_ (i := 6) (N := some 50) (v := undef) (a' := ?_) #[true, true, true, true, true, true, true, false, false, false, false, false, false, false, false, false, false, false, false, false] rfl rfl (any_of HT_.out (by kernel_rfl)) (fun _ _ _ h => h) (Or.inr ⟨by rfl, rfl⟩) ?_ ?_
                                          rotate_left
                                          · simp only [Act.put, List.setIfInBounds_toArray, List.set_cons_zero, List.set_cons_succ, i64_w, i32_w]
                                            rfl
                                          refine pure_ (i := 7) (N := some 51) (v := undef) (a' := ?_) #[true, true, true, true, true, true, true, true, false, false, false, false, false, false, false, false, false, false, false, false] rfl rfl (any_of HT_.out (by kernel_rfl)) (fun _ _ _ h => h) (Or.inr ⟨by rfl, rfl⟩) ?_ ?_
                                          rotate_left
                                          · simp only [Act.put, List.setIfInBounds_toArray, List.set_cons_zero, List.set_cons_succ, i64_w, i32_w]
                                            rfl
                                          refine pure_ (i := 8) (N := some 52) (v := undef) (a' := ?_) #[true, true, true, true, true, true, true, true, true, false, false, false, false, false, false, false, false, false, false, false] rfl rfl (any_of HT_.out (by kernel_rfl)) (fun _ _ _ h => h) (Or.inr ⟨by rfl, rfl⟩) ?_ ?_
                                          rotate_left
                                          · simp only [Act.put, List.setIfInBounds_toArray, List.set_cons_zero, List.set_cons_succ, i64_w, i32_w]
                                            rfl
                                          refine pure_ (i := 9) (N := some 53) (v := undef) (a' := ?_) #[true, true, true, true, true, true, true, true, true, true, false, false, false, false, false, false, false, false, false, false] rfl rfl (any_of HT_.out (by kernel_rfl)) (fun _ _ _ h => h) (Or.inr ⟨by rfl, rfl⟩) ?_ ?_
                                          rotate_left
                                          · simp only [Act.put, List.setIfInBounds_toArray, List.set_cons_zero, List.set_cons_succ, i64_w, i32_w]
                                            rfl
                                          refine pure_ (i := 10) (N := some 54) (v := undef) (a' := ?_) #[true, true, true, true, true, true, true, true, true, true, true, false, false, false, false, false, false, false, false, false] rfl rfl (any_of HT_.out (by kernel_rfl)) (fun _ _ _ h => h) (Or.inr ⟨by rfl, rfl⟩) ?_ ?_
                                          rotate_left
                                          · simp only [Act.put, List.setIfInBounds_toArray, List.set_cons_zero, List.set_cons_succ, i64_w, i32_w]
                                            rfl
                                          refine pure_ (i := 11) (N := some 55) (v := undef) (a' := ?_) #[true, true, true, true, true, true, true, true, true, true, true, true, false, false, false, false, false, false, false, false] rfl rfl (any_of HT_.out (by kernel_rfl)) (fun _ _ _ h => h) (Or.inr ⟨by rfl, rfl⟩) ?_ ?_
                                          rotate_left
                                          · simp only [Act.put, List.setIfInBounds_toArray, List.set_cons_zero, List.set_cons_succ, i64_w, i32_w]
                                            rfl
                                          refine pure_ (i := 12) (N := some 56) (v := undef) (a' := ?_) #[true, true, true, true, true, true, true, true, true, true, true, true, true, false, false, false, false, false, false, false] rfl rfl (any_of HT_.out (by kernel_rfl)) (fun _ _ _ h => h) (Or.inr ⟨by rfl, rfl⟩) ?_ ?_
                                          rotate_left
                                          · simp only [Act.put, List.setIfInBounds_toArray, List.set_cons_zero, List.set_cons_succ, i64_w, i32_w]
                                            rfl
                                          refine pure_ (i := 13) (N := some 57) (v := undef) (a' := ?_) #[true, true, true, true, true, true, true, true, true, true, true, true, true, true, false, false, false, false, false, false] rfl rfl (any_of HT_.out (by kernel_rfl)) (fun _ _ _ h => h) (Or.inr ⟨by rfl, rfl⟩) ?_ ?_
                                          rotate_left
                                          · simp only [Act.put, List.setIfInBounds_toArray, List.set_cons_zero, List.set_cons_succ, i64_w, i32_w]
                                            rfl
                                          refine pure_ (i := 14) (N := some 58) (v := undef) (a' := ?_) #[true, true, true, true, true, true, true, true, true, true, true, true, true, true, true, false, false, false, false, false] rfl rfl (any_of HT_.out (by kernel_rfl)) (fun _ _ _ h => h) (Or.inr ⟨by rfl, rfl⟩) ?_ ?_
                                          rotate_left
                                          · simp only [Act.put, List.setIfInBounds_toArray, List.set_cons_zero, List.set_cons_succ, i64_w, i32_w]
                                            rfl
                                          refine pure_ (i := 15) (N := some 59) (v := undef) (a' := ?_) #[true, true, true, true, true, true, true, true, true, true, true, true, true, true, true, true, false, false, false, false] rfl rfl (any_of HT_.out (by kernel_rfl)) (fun _ _ _ h => h) (Or.inr ⟨by rfl, rfl⟩) ?_ ?_
                                          rotate_left
                                          · simp only [Act.put, List.setIfInBounds_toArray, List.set_cons_zero, List.set_cons_succ, i64_w, i32_w]
                                            rfl
                                          refine pure_ (i := 16) (N := some 60) (v := undef) (a' := ?_) #[true, true, true, true, true, true, true, true, true, true, true, true, true, true, true, true, true, false, false, false] rfl rfl (any_of HT_.out (by kernel_rfl)) (fun _ _ _ h => h) (Or.inr ⟨by rfl, rfl⟩) ?_ ?_
                                          rotate_left
                                          · simp only [Act.put, List.setIfInBounds_toArray, List.set_cons_zero, List.set_cons_succ, i64_w, i32_w]
                                            rfl
                                          refine pure_ (i := 17) (N := some 61) (v := undef) (a' := ?_) #[true, true, true, true, true, true, true, true, true, true, true, true, true, true, true, true, true, true, false, false] rfl rfl (any_of HT_.out (by kernel_rfl)) (fun _ _ _ h => h) (Or.inr ⟨by rfl, rfl⟩) ?_ ?_
                                          rotate_left
                                          · simp only [Act.put, List.setIfInBounds_toArray, List.set_cons_zero, List.set_cons_succ, i64_w, i32_w]
                                            rfl
                                          refine pure_ (i := 18) (N := some 62) (v := ?_) (a' := ?_) #[true, true, true, true, true, true, true, true, true, true, true, true, true, true, true, true, true, true, true, false] rfl rfl (any_of HT_.out (by kernel_rfl)) (fun _ _ _ h => h) (Or.inl ⟨by rfl, ?_⟩) ?_ ?_
                                          rotate_left
                                          · intro w'
                                            go_simp
                                            with_reducible rfl
                                          rotate_left
                                          · simp only [Act.put, List.setIfInBounds_toArray, List.set_cons_zero, List.set_cons_succ, i64_w, i32_w]
                                            rfl
                                          refine pure_ (i := 19) (N := some 8) (v := ?_) (a' := ?_) #[true, true, true, true, true, true, true, true, true, true, true, true, true, true, true, true, true, true, true, true] rfl rfl (any_of HT_.out (by kernel_rfl)) (fun _ _ _ h => h) (Or.inl ⟨by rfl, ?_⟩) ?_ ?_
                                          rotate_left
                                          · intro w'
                                            go_simp
                                            with_reducible rfl
                                          rotate_left
                                          · simp only [Act.put, List.setIfInBounds_toArray, List.set_cons_zero, List.set_cons_succ, i64_w, i32_w]
                                            rfl
                                          refine done_ (done_of HT_.out (by kernel_rfl)) ?_
                                          try go_wp2
                                          go_roundg k5
                                          case measure => have := HJ2.out; have := HJ10.out; have := HJ18.out; have := HK4.out; have := HK5.out; omega
                                          case rel => exact ⟨(true), (wrap64 (x40_5 + 1)), (by first | rfl | (simp; done) | (rw [prx_ne]; first | done | rfl) | (simp [*]; done)), (by first | rfl | (simp; done) | (rw [prx_ne]; first | done | rfl) | (simp [*]; done)), H', ⟨by have := HJ2.out; have := HJ10.out; have := HJ18.out; have := HK4.out; have := HK5.out; omega⟩, ⟨by (with_reducible repeat (first | refine blk_drewN ?_ _ | refine blk_drew ?_ | refine blk_alloc ?_ _)); exact BK292.out⟩, ⟨by repeat (first | (with_reducible first | exact HB.out | apply below_alloc | apply pw_below_drewN | apply below_drew1 | refine below_set ?_ GE292.out | refine below_set ?_ GE294.out) | exact HB.out)⟩⟩
                                        · replace c35 := Bool.eq_false_iff.mpr c35
                                          subst c35
                                          have H1 : ((laws_low.f ((rd_T47 l1 x40_5).f0)).bind fun t295 => ((laws_low.f ((rd_T47 l0 x34_4).f0)).bind fun t296 => (if t295.toList = t296.toList then ((laws_low.f ((rd_T47 l1 x40_5).f1)).bind fun t297 => ((laws_low.f ((rd_T47 l0 x34_4).f1)).bind fun t298 => (laws_FnParamsAll.l1 k5 l0 l1 x5_4 (t297.toList == t298.toList) l0 (l0.length : Int) x34_4 l1 (l1.length : Int) (wrap64 (x40_5 + 1)) ((rd_T47 l0 x34_4).f0) ((rd_T47 l0 x34_4).f1)))) else (laws_FnParamsAll.l1 k5 l0 l1 x5_4 false l0 (l0.length : Int) x34_4 l1 (l1.length : Int) (wrap64 (x40_5 + 1)) ((rd_T47 l0 x34_4).f0) ((rd_T47 l0 x34_4).f1))))) = some r := by rw [if_neg (show ¬ (false = true) by decide)] at H; exact H
                                          clear H
                                          have H := H1
                                          clear H1
                                          replace H := Option.bind_eq_some_iff.mp H
                                          obtain ⟨t295, A410, H⟩ := H
                                          replace H : ((laws_low.f ((rd_T47 l0 x34_4).f0)).bind fun t296 => (if t295.toList = t296.toList then ((laws_low.f ((rd_T47 l1 x40_5).f1)).bind fun t297 => ((laws_low.f ((rd_T47 l0 x34_4).f1)).bind fun t298 => (laws_FnParamsAll.l1 k5 l0 l1 x5_4 (t297.toList == t298.toList) l0 (l0.length : Int) x34_4 l1 (l1.length : Int) (wrap64 (x40_5 + 1)) ((rd_T47 l0 x34_4).f0) ((rd_T47 l0 x34_4).f1)))) else (laws_FnParamsAll.l1 k5 l0 l1 x5_4 false l0 (l0.length : Int) x34_4 l1 (l1.length : Int) (wrap64 (x40_5 + 1)) ((rd_T47 l0 x34_4).f0) ((rd_T47 l0 x34_4).f1)))) = some r := H
                                          have A41 := Aside0.mk A410
                                          clear A410
                                          replace H := Option.bind_eq_some_iff.mp H
                                          obtain ⟨t296, A420, H⟩ := H
                                          replace H : (if t295.toList = t296.toList then ((laws_low.f ((rd_T47 l1 x40_5).f1)).bind fun t297 => ((laws_low.f ((rd_T47 l0 x34_4).f1)).bind fun t298 => (laws_FnParamsAll.l1 k5 l0 l1 x5_4 (t297.toList == t298.toList) l0 (l0.length : Int) x34_4 l1 (l1.length : Int) (wrap64 (x40_5 + 1)) ((rd_T47 l0 x34_4).f0) ((rd_T47 l0 x34_4).f1)))) else (laws_FnParamsAll.l1 k5 l0 l1 x5_4 false l0 (l0.length : Int) x34_4 l1 (l1.length : Int) (wrap64 (x40_5 + 1)) ((rd_T47 l0 x34_4).f0) ((rd_T47 l0 x34_4).f1))) = some r := H
                                          have A42 := Aside0.mk A420
                                          clear A420
                                          by_cases c43 : t295.toList = t296.toList
                                          · rw [if_pos c43] at H
                                            have c43b0 : (t295.toList == t296.toList) = true := beq_iff_eq.mpr c43
                                            have c43b1 : (t295.toList != t296.toList) = false := bne_eq_false_iff_eq.mpr c43
                                            clear c43
                                            replace H := Option.bind_eq_some_iff.mp H
                                            obtain ⟨t297, A440, H⟩ := H
                                            replace H : ((laws_low.f ((rd_T47 l0 x34_4).f1)).bind fun t298 => (laws_FnParamsAll.l1 k5 l0 l1 x5_4 (t297.toList == t298.toList) l0 (l0.length : Int) x34_4 l1 (l1.length : Int) (wrap64 (x40_5 + 1)) ((rd_T47 l0 x34_4).f0) ((rd_T47 l0 x34_4).f1))) = some r := H
                                            have A44 := Aside0.mk A440
                                            clear A440
                                            replace H := Option.bind_eq_some_iff.mp H
                                            obtain ⟨t298, A450, H⟩ := H
                                            replace H : (laws_FnParamsAll.l1 k5 l0 l1 x5_4 (t297.toList == t298.toList) l0 (l0.length : Int) x34_4 l1 (l1.length : Int) (wrap64 (x40_5 + 1)) ((rd_T47 l0 x34_4).f0) ((rd_T47 l0 x34_4).f1)) = some r := H
                                            have A45 := Aside0.mk A450
                                            clear A450
                                            have H' := Aside0.mk H
                                            clear H
                                            have p293 : 0 ≤ (x40_5 : Int) := of_decide_eq_true (by first | (with_reducible assumption) | assumption)
                                            have q293 : x40_5 < (l1.length : Int) := of_decide_eq_true (by first | (with_reducible assumption) | assumption)
                                            obtain ⟨ad293, e293, hx293_0, hx293_1⟩ := at_T47 HR1.out x40_5 p293 q293
                                            cases e293
                                            replace hx293_0 := (HB.out.cell (World.block_lt_of_cell? w _ hx293_0)).trans hx293_0
                                            replace hx293_1 := (HB.out.cell (World.block_lt_of_cell? w _ hx293_1)).trans hx293_1
                                            replace p293 := eq_true p293
                                            replace q293 := eq_true q293
                                            try go_wp2_with (first | ((with_reducible refine gate_dst (N := 10) rfl ?_); refine box_event ?hg (N := 10) ?hd (cs := #[.string (⟨#[]⟩ : ByteArray), .string (⟨#[]⟩ : ByteArray)]) (t := 47) ?hr ?_; (case hd => rfl); (case hg => rfl); (case hr => first | (go_simp; done) | (go_simp; rfl)); intro gb294 hg w46 hbox hb; have n0_ := Aside0.mk (blk_below (g := gb292) (o := .cells #[.string ((rd_T47 l0 x34_4).f0), .string ((rd_T47 l0 x34_4).f1)] 47 (0, 0)) (by (with_reducible repeat (first | refine blk_drewN ?_ _ | refine blk_drew ?_ | refine blk_alloc ?_ _)); exact BK292.out) hb); have n1_ := Aside0.mk (below_step (by repeat (first | (with_reducible first | exact HB.out | apply below_alloc | apply pw_below_drewN | apply below_drew1 | refine below_set ?_ GE292.out) | exact HB.out)) hb); have n2_ := Aside0.mk (hbox); have n3_ := Aside0.mk ((by rw [hg]; exact (below_size (by repeat (first | (with_reducible first | exact HB.out | apply below_alloc | apply pw_below_drewN | apply below_drew1 | refine below_set ?_ GE292.out) | exact HB.out))) : w.heap.size ≤ gb294)); have n4_ := Aside0.mk ((by rw [hg]; exact (below_size (by repeat (first | (with_reducible first | exact HB.out | apply below_alloc | apply pw_below_drewN | apply below_drew1 | refine below_set ?_ GE292.out) | exact HB.out))) : w.heap.size ≤ gb294)); have n5_ := Aside0.mk ((by rw [hg]; exact Nat.ne_of_lt (blk_lt (g := gb292) (o := .cells #[.string ((rd_T47 l0 x34_4).f0), .string ((rd_T47 l0 x34_4).f1)] 47 (0, 0)) (by (with_reducible repeat (first | refine blk_drewN ?_ _ | refine blk_drew ?_ | refine blk_alloc ?_ _)); exact BK292.out)) : gb292 ≠ gb294)); have n6_ := Aside0.mk ((by rw [hg]; exact Nat.ne_of_gt (blk_lt (g := gb292) (o := .cells #[.string ((rd_T47 l0 x34_4).f0), .string ((rd_T47 l0 x34_4).f1)] 47 (0, 0)) (by (with_reducible repeat (first | refine blk_drewN ?_ _ | refine blk_drew ?_ | refine blk_alloc ?_ _)); exact BK292.out)) : gb294 ≠ gb292)); clear BK292; clear HB; have BK292 := n0_; have HB := n1_; have BK294 := n2_; have GW294 := n3_; have GE294 := n4_; have NB292_294 := n5_; have NB294_292 := n6_; clear n0_ n1_ n2_ n3_ n4_ n5_ n6_; clear hb hbox hg; have hnb47 := NB294_292.out; have hnc47 := NB292_294.out; have hcz48_0 : w46.cell? ⟨gb294, 0, none⟩ = some (.string (⟨#[]⟩ : ByteArray)) := (blk_cell BK294.out 0).trans rfl; have hcz48_1 : w46.cell? ⟨gb294, 1, none⟩ = some (.string (⟨#[]⟩ : ByteArray)) := (blk_cell BK294.out 1).trans rfl; have hfz48_0 := blk_frozen BK294.out 0; have hfz48_1 := blk_frozen BK294.out 1))
                                            have n0_ : Aside0 (((w46.setCell ⟨gb294, 0, none⟩ (.string ((rd_T47 l1 x40_5).f0))).setCell ⟨gb294, 1, none⟩ (.string ((rd_T47 l1 x40_5).f1))).heap[gb292]? = some (.cells #[.string ((rd_T47 l0 x34_4).f0), .string ((rd_T47 l0 x34_4).f1)] 47 (0, 0))) := ⟨by (with_reducible repeat (first | refine blk_drewN ?_ _ | refine blk_drew ?_ | refine blk_alloc ?_ _)); refine blk_far ?_ NB292_294.out _; (with_reducible repeat (first | refine blk_drewN ?_ _ | refine blk_drew ?_ | refine blk_alloc ?_ _)); refine blk_far ?_ NB292_294.out _; (with_reducible repeat (first | refine blk_drewN ?_ _ | refine blk_drew ?_ | refine blk_alloc ?_ _)); exact BK292.out⟩
                                            have n1_ : Aside0 (((w46.setCell ⟨gb294, 0, none⟩ (.string ((rd_T47 l1 x40_5).f0))).setCell ⟨gb294, 1, none⟩ (.string ((rd_T47 l1 x40_5).f1))).heap[gb294]? = some (.cells #[.string ((rd_T47 l1 x40_5).f0), .string ((rd_T47 l1 x40_5).f1)] 47 (0, 0))) := ⟨by (with_reducible repeat (first | refine blk_drewN ?_ _ | refine blk_drew ?_ | refine blk_alloc ?_ _)); refine blk_put (cs := #[.string ((rd_T47 l1 x40_5).f0), .string (⟨#[]⟩ : ByteArray)]) ?_ 1 _ rfl; (with_reducible repeat (first | refine blk_drewN ?_ _ | refine blk_drew ?_ | refine blk_alloc ?_ _)); refine blk_put (cs := #[.string (⟨#[]⟩ : ByteArray), .string (⟨#[]⟩ : ByteArray)]) ?_ 0 _ rfl; (with_reducible repeat (first | refine blk_drewN ?_ _ | refine blk_drew ?_ | refine blk_alloc ?_ _)); exact BK294.out⟩
                                            have n2_ : Aside0 (Below w.heap.size w ((w46.setCell ⟨gb294, 0, none⟩ (.string ((rd_T47 l1 x40_5).f0))).setCell ⟨gb294, 1, none⟩ (.string ((rd_T47 l1 x40_5).f1)))) := ⟨by repeat (first | (with_reducible first | exact HB.out | apply below_alloc | apply pw_below_drewN | apply below_drew1 | refine below_set ?_ GE292.out | refine below_set ?_ GE294.out) | exact HB.out)⟩
                                            (try clear BK292)
                                            (try clear BK294)
                                            (try clear HB)
                                            generalize ((w46.setCell ⟨gb294, 0, none⟩ (.string ((rd_T47 l1 x40_5).f0))).setCell ⟨gb294, 1, none⟩ (.string ((rd_T47 l1 x40_5).f1))) = w49 at n0_ n1_ n2_ ⊢
                                            have BK292 := n0_
                                            have BK294 := n1_
                                            have HB := n2_
                                            clear n0_ n1_ n2_
                                            have n0_ := Aside0.mk (blk_drew BK292.out)
                                            have n1_ := Aside0.mk (blk_drew BK294.out)
                                            have n2_ := Aside0.mk (below_drew1 HB.out)
                                            clear BK292
                                            clear BK294
                                            clear HB
                                            have BK292 := n0_
                                            have BK294 := n1_
                                            have HB := n2_
                                            clear n0_ n1_ n2_
                                            refine start_ (n := 20) (S := fun w' => w'.cell? ⟨gb294, 0, none⟩ = some (.string ((rd_T47 l1 x40_5).f0)) ∧ w'.cell? ⟨gb294, 1, none⟩ = some (.string ((rd_T47 l1 x40_5).f1)) ∧ w'.cell? ⟨gb292, 0, none⟩ = some (.string ((rd_T47 l0 x34_4).f0)) ∧ w'.cell? ⟨gb292, 1, none⟩ = some (.string ((rd_T47 l0 x34_4).f1))) (ds := []) #[false, false, false, false, false, false, false, false, false, false, false, false, false, false, false, false, false, false, false, false] (by kernel_rfl) rfl rfl ⟨(blk_cell BK294.out 0).trans rfl, (blk_cell BK294.out 1).trans rfl, (blk_cell BK292.out 0).trans rfl, (blk_cell BK292.out 1).trans rfl⟩ (fun hHeld => ?_); refine with_tabW laws_FnParamsAll.tab15 laws_FnParamsAll.bits15 (fun HT_ HW_ => ?_)
                                            generalize w49.drew = w50 at BK292 BK294 HB hHeld ⊢
                                            refine pure_ (i := 0) (N := some 44) (v := ?_) (a' := ?_) #[true, false, false, false, false, false, false, false, false, false, false, false, false, false, false, false, false, false, false, false] rfl rfl (any_of HT_.out (by kernel_rfl)) (fun _ _ _ h => h) (Or.inl ⟨by rfl, ?_⟩) ?_ ?_
                                            rotate_left
                                            · intro w'
                                              go_simp
                                              with_reducible rfl
                                            rotate_left
                                            · simp only [Act.put, List.setIfInBounds_toArray, List.set_cons_zero, List.set_cons_succ, i64_w, i32_w]
                                              rfl
                                            refine pure_ (i := 1) (N := some 45) (v := ?_) (a' := ?_) #[true, true, false, false, false, false, false, false, false, false, false, false, false, false, false, false, false, false, false, false] rfl rfl (any_of HT_.out (by kernel_rfl)) (fun _ _ _ h => h) (Or.inl ⟨by rfl, ?_⟩) ?_ ?_
                                            rotate_left
                                            · intro w'
                                              go_simp
                                              with_reducible rfl
                                            rotate_left
                                            · simp only [Act.put, List.setIfInBounds_toArray, List.set_cons_zero, List.set_cons_succ, i64_w, i32_w]
                                              rfl
                                            refine pure_ (i := 2) (N := some 46) (v := ?_) (a' := ?_) #[true, true, true, false, false, false, false, false, false, false, false, false, false, false, false, false, false, false, false, false] rfl rfl (any_of HT_.out (by kernel_rfl)) (fun _ _ _ h => h) (Or.inl ⟨by rfl, ?_⟩) ?_ ?_
                                            rotate_left
                                            · intro w'
                                              go_simp
                                              with_reducible rfl
                                            rotate_left
                                            · simp only [Act.put, List.setIfInBounds_toArray, List.set_cons_zero, List.set_cons_succ, i64_w, i32_w]
                                              rfl
                                            refine pure_ (i := 5) (N := some 49) (v := ?_) (a' := ?_) #[true, true, true, false, false, true, false, false, false, false, false, false, false, false, false, false, false, false, false, false] rfl rfl (any_of HT_.out (by kernel_rfl)) (fun _ _ _ h => h) (Or.inl ⟨by rfl, ?_⟩) ?_ ?_
                                            rotate_left
                                            · intro w'
                                              go_simp
                                              with_reducible rfl
                                            rotate_left
                                            · simp only [Act.put, List.setIfInBounds_toArray, List.set_cons_zero, List.set_cons_succ, i64_w, i32_w]
                                              rfl
                                            refine take_ (i := 3) (N := some 47) (v := ?_) (a' := ?_) #[true, true, true, true, false, true, false, false, false, false, false, false, false, false, false, false, false, false, false, false] rfl rfl (take_ofW HT_.out HW_.out (by kernel_rfl)) (fun _ _ _ h => h) (Or.inl ⟨by rfl, ?_⟩) hHeld ?_ ?_
                                            rotate_left
                                            · rintro w' ⟨s0, s1, s2, s3⟩
                                              go_simp
                                              with_reducible rfl
                                            rotate_left
                                            · simp only [Act.put, List.setIfInBounds_toArray, List.set_cons_zero, List.set_cons_succ, i64_w, i32_w]
                                              rfl
                                            refine take_ (i := 6) (N := some 50) (v := ?_) (a' := ?_) #[true, true, true, true, false, true, true, false, false, false, false, false, false, false, false, false, false, false, false, false] rfl rfl (take_ofW HT_.out HW_.out (by kernel_rfl)) (fun _ _ _ h => h) (Or.inl ⟨by rfl, ?_⟩) hHeld ?_ ?_
                                            rotate_left
                                            · rintro w' ⟨s0, s1, s2, s3⟩
                                              go_simp
                                              with_reducible rfl
                                            rotate_left
                                            · simp only [Act.put, List.setIfInBounds_toArray, List.set_cons_zero, List.set_cons_succ, i64_w, i32_w]
                                              rfl
                                            refine one_ (i := 4) (N := some 48) #[true, true, true, true, true, true, true, false, false, false, false, false, false, false, false, false, false, false, false, false] rfl rfl (one_of HT_.out (by kernel_rfl)) (by decide) (fun K hK => ?_)
                                            refine goes_ Try.func29 (by kernel_rfl) rfl #[.string ((rd_T47 l1 x40_5).f0)] (by rfl) rfl rfl (by (try simp only [List.map_toArray, List.map_cons, List.map_nil]); first | done | rfl | (simp only [List.length_drop, List.length_take]; rfl)) ?_
                                            with_reducible refine (laws_low.calls ((rd_T47 l1 x40_5).f0) t295 _ A41.out).mono ?_
                                            rintro e w51 ⟨rfl, hb⟩
                                            refine ⟨_, rfl, ?_⟩
                                            have n0_ := Aside0.mk (blk_below (g := gb292) (o := .cells #[.string ((rd_T47 l0 x34_4).f0), .string ((rd_T47 l0 x34_4).f1)] 47 (0, 0)) (by (with_reducible repeat (first | refine blk_drewN ?_ _ | refine blk_drew ?_ | refine blk_alloc ?_ _)); exact BK292.out) hb)
                                            have n1_ := Aside0.mk (blk_below (g := gb294) (o := .cells #[.string ((rd_T47 l1 x40_5).f0), .string ((rd_T47 l1 x40_5).f1)] 47 (0, 0)) (by (with_reducible repeat (first | refine blk_drewN ?_ _ | refine blk_drew ?_ | refine blk_alloc ?_ _)); exact BK294.out) hb)
                                            have n2_ := Aside0.mk (below_step (by repeat (first | (with_reducible first | exact HB.out | apply below_alloc | apply pw_below_drewN | apply below_drew1 | refine below_set ?_ GE292.out | refine below_set ?_ GE294.out) | exact HB.out)) hb)
                                            clear BK292
                                            clear BK294
                                            clear HB
                                            have BK292 := n0_
                                            have BK294 := n1_
                                            have HB := n2_
                                            clear n0_ n1_ n2_
                                            (try clear hb)
                                            (try clear hb2)
                                            (try clear hk)
                                            (try clear hi)
                                            refine hK.out _ _ ⟨(blk_cell BK294.out 0).trans rfl, (blk_cell BK294.out 1).trans rfl, (blk_cell BK292.out 0).trans rfl, (blk_cell BK292.out 1).trans rfl⟩ (fun hHeld => ?_)
                                            clear hK K
                                            refine norm_ (a' := ?_) ?_ ?_
                                            rotate_left
                                            · show Act.put _ (some 48) _ = _
                                              simp only [Act.put, List.setIfInBounds_toArray, List.set_cons_zero, List.set_cons_succ, i64_w, i32_w]
                                              rfl
                                            refine one_ (i := 7) (N := some 51) #[true, true, true, true, true, true, true, true, false, false, false, false, false, false, false, false, false, false, false, false] rfl rfl (one_of HT_.out (by kernel_rfl)) (by decide) (fun K hK => ?_)
                                            refine goes_ Try.func29 (by kernel_rfl) rfl #[.string ((rd_T47 l0 x34_4).f0)] (by rfl) rfl rfl (by (try simp only [List.map_toArray, List.map_cons, List.map_nil]); first | done | rfl | (simp only [List.length_drop, List.length_take]; rfl)) ?_
                                            with_reducible refine (laws_low.calls ((rd_T47 l0 x34_4).f0) t296 _ A42.out).mono ?_
                                            rintro e w52 ⟨rfl, hb⟩
                                            refine ⟨_, rfl, ?_⟩
                                            have n0_ := Aside0.mk (blk_below (g := gb292) (o := .cells #[.string ((rd_T47 l0 x34_4).f0), .string ((rd_T47 l0 x34_4).f1)] 47 (0, 0)) (by (with_reducible repeat (first | refine blk_drewN ?_ _ | refine blk_drew ?_ | refine blk_alloc ?_ _)); exact BK292.out) hb)
                                            have n1_ := Aside0.mk (blk_below (g := gb294) (o := .cells #[.string ((rd_T47 l1 x40_5).f0), .string ((rd_T47 l1 x40_5).f1)] 47 (0, 0)) (by (with_reducible repeat (first | refine blk_drewN ?_ _ | refine blk_drew ?_ | refine blk_alloc ?_ _)); exact BK294.out) hb)
                                            have n2_ := Aside0.mk (below_step (by repeat (first | (with_reducible first | exact HB.out | apply below_alloc | apply pw_below_drewN | apply below_drew1 | refine below_set ?_ GE292.out | refine below_set ?_ GE294.out) | exact HB.out)) hb)
                                            clear BK292
                                            clear BK294
                                            clear HB
                                            have BK292 := n0_
                                            have BK294 := n1_
                                            have HB := n2_
                                            clear n0_ n1_ n2_
                                            (try clear hb)
                                            (try clear hb2)
                                            (try clear hk)
                                            (try clear hi)
                                            refine hK.out _ _ ⟨(blk_cell BK294.out 0).trans rfl, (blk_cell BK294.out 1).trans rfl, (blk_cell BK292.out 0).trans rfl, (blk_cell BK292.out 1).trans rfl⟩ (fun hHeld => ?_)
                                            clear hK K
                                            refine norm_ (a' := ?_) ?_ ?_
                                            rotate_left
                                            · show Act.put _ (some 51) _ = _
                                              simp only [Act.put, List.setIfInBounds_toArray, List.set_cons_zero, List.set_cons_succ, i64_w, i32_w]
                                              rfl
                                            refine pure_ (i := 8) (N := some 52) (v := ?_) (a' := ?_) #[true, true, true, true, true, true, true, true, true, false, false, false, false, false, false, false, false, false, false, false] rfl rfl (any_of HT_.out (by kernel_rfl)) (fun _ _ _ h => h) (Or.inl ⟨by rfl, ?_⟩) ?_ ?_
                                            rotate_left
                                            · intro w'
                                              go_simp
                                              with_reducible rfl
                                            rotate_left
                                            · simp only [Act.put, List.setIfInBounds_toArray, List.set_cons_zero, List.set_cons_succ, i64_w, i32_w]
                                              rfl
                                            refine pure_ (i := 9) (N := some 53) (v := ?_) (a' := ?_) #[true, true, true, true, true, true, true, true, true, true, false, false, false, false, false, false, false, false, false, false] rfl rfl (any_of HT_.out (by kernel_rfl)) (fun _ _ _ h => h) (Or.inl ⟨by rfl, ?_⟩) ?_ ?_
                                            rotate_left
                                            · intro w'
                                              go_simp
                                              with_reducible rfl
                                            rotate_left
                                            · simp only [Act.put, List.setIfInBounds_toArray, List.set_cons_zero, List.set_cons_succ, i64_w, i32_w]
                                              rfl
                                            refine pure_ (i := 10) (N := some 54) (v := ?_) (a' := ?_) #[true, true, true, true, true, true, true, true, true, true, true, false, false, false, false, false, false, false, false, false] rfl rfl (any_of HT_.out (by kernel_rfl)) (fun _ _ _ h => h) (Or.inl ⟨by rfl, ?_⟩) ?_ ?_
                                            rotate_left
                                            · intro w'
                                              go_simp
                                              with_reducible rfl
                                            rotate_left
                                            · simp only [Act.put, List.setIfInBounds_toArray, List.set_cons_zero, List.set_cons_succ, i64_w, i32_w]
                                              rfl
                                            refine pure_ (i := 13) (N := some 57) (v := ?_) (a' := ?_) #[true, true, true, true, true, true, true, true, true, true, true, false, false, true, false, false, false, false, false, false] rfl rfl (any_of HT_.out (by kernel_rfl)) (fun _ _ _ h => h) (Or.inl ⟨by rfl, ?_⟩) ?_ ?_
                                            rotate_left
                                            · intro w'
                                              go_simp
                                              with_reducible rfl
                                            rotate_left
                                            · simp only [Act.put, List.setIfInBounds_toArray, List.set_cons_zero, List.set_cons_succ, i64_w, i32_w]
                                              rfl
                                            refine take_ (i := 11) (N := some 55) (v := ?_) (a' := ?_) #[true, true, true, true, true, true, true, true, true, true, true, true, false, true, false, false, false, false, false, false] rfl rfl (take_ofW HT_.out HW_.out (by kernel_rfl)) (fun _ _ _ h => h) (Or.inl ⟨by rfl, ?_⟩) hHeld ?_ ?_
                                            rotate_left
                                            · rintro w' ⟨s0, s1, s2, s3⟩
                                              go_simp
                                              with_reducible rfl
                                            rotate_left
                                            · simp only [Act.put, List.setIfInBounds_toArray, List.set_cons_zero, List.set_cons_succ, i64_w, i32_w]
                                              rfl
                                            refine take_ (i := 14) (N := some 58) (v := ?_) (a' := ?_) #[true, true, true, true, true, true, true, true, true, true, true, true, false, true, true, false, false, false, false, false] rfl rfl (take_ofW HT_.out HW_.out (by kernel_rfl)) (fun _ _ _ h => h) (Or.inl ⟨by rfl, ?_⟩) hHeld ?_ ?_
                                            rotate_left
                                            · rintro w' ⟨s0, s1, s2, s3⟩
                                              go_simp
                                              with_reducible rfl
                                            rotate_left
                                            · simp only [Act.put, List.setIfInBounds_toArray, List.set_cons_zero, List.set_cons_succ, i64_w, i32_w]
                                              rfl
                                            refine one_ (i := 12) (N := some 56) #[true, true, true, true, true, true, true, true, true, true, true, true, true, true, true, false, false, false, false, false] rfl rfl (one_of HT_.out (by kernel_rfl)) (by decide) (fun K hK => ?_)
                                            refine goes_ Try.func29 (by kernel_rfl) rfl #[.string ((rd_T47 l1 x40_5).f1)] (by rfl) rfl rfl (by (try simp only [List.map_toArray, List.map_cons, List.map_nil]); first | done | rfl | (simp only [List.length_drop, List.length_take]; rfl)) ?_
                                            with_reducible refine (laws_low.calls ((rd_T47 l1 x40_5).f1) t297 _ A44.out).mono ?_
                                            rintro e w53 ⟨rfl, hb⟩
                                            refine ⟨_, rfl, ?_⟩
                                            have n0_ := Aside0.mk (blk_below (g := gb292) (o := .cells #[.string ((rd_T47 l0 x34_4).f0), .string ((rd_T47 l0 x34_4).f1)] 47 (0, 0)) (by (with_reducible repeat (first | refine blk_drewN ?_ _ | refine blk_drew ?_ | refine blk_alloc ?_ _)); exact BK292.out) hb)
                                            have n1_ := Aside0.mk (blk_below (g := gb294) (o := .cells #[.string ((rd_T47 l1 x40_5).f0), .string ((rd_T47 l1 x40_5).f1)] 47 (0, 0)) (by (with_reducible repeat (first | refine blk_drewN ?_ _ | refine blk_drew ?_ | refine blk_alloc ?_ _)); exact BK294.out) hb)
                                            have n2_ := Aside0.mk (below_step (by repeat (first | (with_reducible first | exact HB.out | apply below_alloc | apply pw_below_drewN | apply below_drew1 | refine below_set ?_ GE292.out | refine below_set ?_ GE294.out) | exact HB.out)) hb)
                                            clear BK292
                                            clear BK294
                                            clear HB
                                            have BK292 := n0_
                                            have BK294 := n1_
                                            have HB := n2_
                                            clear n0_ n1_ n2_
                                            (try clear hb)
                                            (try clear hb2)
                                            (try clear hk)
                                            (try clear hi)
                                            refine hK.out _ _ ⟨(blk_cell BK294.out 0).trans rfl, (blk_cell BK294.out 1).trans rfl, (blk_cell BK292.out 0).trans rfl, (blk_cell BK292.out 1).trans rfl⟩ (fun hHeld => ?_)
                                            clear hK K
                                            refine norm_ (a' := ?_) ?_ ?_
                                            rotate_left
                                            · show Act.put _ (some 56) _ = _
                                              simp only [Act.put, List.setIfInBounds_toArray, List.set_cons_zero, List.set_cons_succ, i64_w, i32_w]
                                              rfl
                                            refine one_ (i := 15) (N := some 59) #[true, true, true, true, true, true, true, true, true, true, true, true, true, true, true, true, false, false, false, false] rfl rfl (one_of HT_.out (by kernel_rfl)) (by decide) (fun K hK => ?_)
                                            refine goes_ Try.func29 (by kernel_rfl) rfl #[.string ((rd_T47 l0 x34_4).f1)] (by rfl) rfl rfl (by (try simp only [List.map_toArray, List.map_cons, List.map_nil]); first | done | rfl | (simp only [List.length_drop, List.length_take]; rfl)) ?_
                                            with_reducible refine (laws_low.calls ((rd_T47 l0 x34_4).f1) t298 _ A45.out).mono ?_
                                            rintro e w54 ⟨rfl, hb⟩
                                            refine ⟨_, rfl, ?_⟩
                                            have n0_ := Aside0.mk (blk_below (g := gb292) (o := .cells #[.string ((rd_T47 l0 x34_4).f0), .string ((rd_T47 l0 x34_4).f1)] 47 (0, 0)) (by (with_reducible repeat (first | refine blk_drewN ?_ _ | refine blk_drew ?_ | refine blk_alloc ?_ _)); exact BK292.out) hb)
                                            have n1_ := Aside0.mk (blk_below (g := gb294) (o := .cells #[.string ((rd_T47 l1 x40_5).f0), .string ((rd_T47 l1 x40_5).f1)] 47 (0, 0)) (by (with_reducible repeat (first | refine blk_drewN ?_ _ | refine blk_drew ?_ | refine blk_alloc ?_ _)); exact BK294.out) hb)
                                            have n2_ := Aside0.mk (below_step (by repeat (first | (with_reducible first | exact HB.out | apply below_alloc | apply pw_below_drewN | apply below_drew1 | refine below_set ?_ GE292.out | refine below_set ?_ GE294.out) | exact HB.out)) hb)
                                            clear BK292
                                            clear BK294
                                            clear HB
                                            have BK292 := n0_
                                            have BK294 := n1_
                                            have HB := n2_
                                            clear n0_ n1_ n2_
                                            (try clear hb)
                                            (try clear hb2)
                                            (try clear hk)
                                            (try clear hi)
                                            refine hK.out _ _ ⟨(blk_cell BK294.out 0).trans rfl, (blk_cell BK294.out 1).trans rfl, (blk_cell BK292.out 0).trans rfl, (blk_cell BK292.out 1).trans rfl⟩ (fun hHeld => ?_)
                                            clear hK K
                                            refine norm_ (a' := ?_) ?_ ?_
                                            rotate_left
                                            · show Act.put _ (some 59) _ = _
                                              simp only [Act.put, List.setIfInBounds_toArray, List.set_cons_zero, List.set_cons_succ, i64_w, i32_w]
                                              rfl
                                            refine pure_ (i := 16) (N := some 60) (v := ?_) (a' := ?_) #[true, true, true, true, true, true, true, true, true, true, true, true, true, true, true, true, true, false, false, false] rfl rfl (any_of HT_.out (by kernel_rfl)) (fun _ _ _ h => h) (Or.inl ⟨by rfl, ?_⟩) ?_ ?_
                                            rotate_left
                                            · intro w'
                                              go_simp
                                              with_reducible rfl
                                            rotate_left
                                            · simp only [Act.put, List.setIfInBounds_toArray, List.set_cons_zero, List.set_cons_succ, i64_w, i32_w]
                                              rfl
                                            refine pure_ (i := 17) (N := some 61) (v := ?_) (a' := ?_) #[true, true, true, true, true, true, true, true, true, true, true, true, true, true, true, true, true, true, false, false] rfl rfl (any_of HT_.out (by kernel_rfl)) (fun _ _ _ h => h) (Or.inl ⟨by rfl, ?_⟩) ?_ ?_
                                            rotate_left
                                            · intro w'
                                              go_simp
                                              with_reducible rfl
                                            rotate_left
                                            · simp only [Act.put, List.setIfInBounds_toArray, List.set_cons_zero, List.set_cons_succ, i64_w, i32_w]
                                              rfl
                                            refine pure_ (i := 18) (N := some 62) (v := ?_) (a' := ?_) #[true, true, true, true, true, true, true, true, true, true, true, true, true, true, true, true, true, true, true, false] rfl rfl (any_of HT_.out (by kernel_rfl)) (fun _ _ _ h => h) (Or.inl ⟨by rfl, ?_⟩) ?_ ?_
                                            rotate_left
                                            · intro w'
                                              go_simp
                                              with_reducible rfl
                                            rotate_left
                                            · simp only [Act.put, List.setIfInBounds_toArray, List.set_cons_zero, List.set_cons_succ, i64_w, i32_w]
                                              rfl
                                            refine pure_ (i := 19) (N := some 8) (v := ?_) (a' := ?_) #[true, true, true, true, true, true, true, true, true, true, true, true, true, true, true, true, true, true, true, true] rfl rfl (any_of HT_.out (by kernel_rfl)) (fun _ _ _ h => h) (Or.inl ⟨by rfl, ?_⟩) ?_ ?_
                                            rotate_left
                                            · intro w'
                                              go_simp
                                              with_reducible rfl
                                            rotate_left
                                            · simp only [Act.put, List.setIfInBounds_toArray, List.set_cons_zero, List.set_cons_succ, i64_w, i32_w]
                                              rfl
                                            refine done_ (done_of HT_.out (by kernel_rfl)) ?_
                                            try go_wp2
                                            go_roundg k5
                                            case measure => have := HJ2.out; have := HJ10.out; have := HJ18.out; have := HK4.out; have := HK5.out; omega
                                            case rel => exact ⟨((t297.toList == t298.toList)), (wrap64 (x40_5 + 1)), (by first | rfl | (simp; done) | (rw [prx_ne]; first | done | rfl) | (simp [*]; done)), (by first | rfl | (simp; done) | (rw [prx_ne]; first | done | rfl) | (simp [*]; done)), H', ⟨by have := HJ2.out; have := HJ10.out; have := HJ18.out; have := HK4.out; have := HK5.out; omega⟩, ⟨by (with_reducible repeat (first | refine blk_drewN ?_ _ | refine blk_drew ?_ | refine blk_alloc ?_ _)); exact BK292.out⟩, ⟨by repeat (first | (with_reducible first | exact HB.out | apply below_alloc | apply pw_below_drewN | apply below_drew1 | refine below_set ?_ GE292.out | refine below_set ?_ GE294.out) | exact HB.out)⟩⟩
                                          · rw [if_neg c43] at H
                                            have c43b0 : (t295.toList == t296.toList) = false := beq_eq_false_iff_ne.mpr c43
                                            have c43b1 : (t295.toList != t296.toList) = true := bne_iff_ne.mpr c43
                                            have H' := Aside0.mk H
                                            clear H
                                            have p293 : 0 ≤ (x40_5 : Int) := of_decide_eq_true (by first | (with_reducible assumption) | assumption)
                                            have q293 : x40_5 < (l1.length : Int) := of_decide_eq_true (by first | (with_reducible assumption) | assumption)
                                            obtain ⟨ad293, e293, hx293_0, hx293_1⟩ := at_T47 HR1.out x40_5 p293 q293
                                            cases e293
                                            replace hx293_0 := (HB.out.cell (World.block_lt_of_cell? w _ hx293_0)).trans hx293_0
                                            replace hx293_1 := (HB.out.cell (World.block_lt_of_cell? w _ hx293_1)).trans hx293_1
                                            replace p293 := eq_true p293
                                            replace q293 := eq_true q293
                                            try go_wp2_with (first | ((with_reducible refine gate_dst (N := 10) rfl ?_); refine box_event ?hg (N := 10) ?hd (cs := #[.string (⟨#[]⟩ : ByteArray), .string (⟨#[]⟩ : ByteArray)]) (t := 47) ?hr ?_; (case hd => rfl); (case hg => rfl); (case hr => first | (go_simp; done) | (go_simp; rfl)); intro gb294 hg w55 hbox hb; have n0_ := Aside0.mk (blk_below (g := gb292) (o := .cells #[.string ((rd_T47 l0 x34_4).f0), .string ((rd_T47 l0 x34_4).f1)] 47 (0, 0)) (by (with_reducible repeat (first | refine blk_drewN ?_ _ | refine blk_drew ?_ | refine blk_alloc ?_ _)); exact BK292.out) hb); have n1_ := Aside0.mk (below_step (by repeat (first | (with_reducible first | exact HB.out | apply below_alloc | apply pw_below_drewN | apply below_drew1 | refine below_set ?_ GE292.out) | exact HB.out)) hb); have n2_ := Aside0.mk (hbox); have n3_ := Aside0.mk ((by rw [hg]; exact (below_size (by repeat (first | (with_reducible first | exact HB.out | apply below_alloc | apply pw_below_drewN | apply below_drew1 | refine below_set ?_ GE292.out) | exact HB.out))) : w.heap.size ≤ gb294)); have n4_ := Aside0.mk ((by rw [hg]; exact (below_size (by repeat (first | (with_reducible first | exact HB.out | apply below_alloc | apply pw_below_drewN | apply below_drew1 | refine below_set ?_ GE292.out) | exact HB.out))) : w.heap.size ≤ gb294)); have n5_ := Aside0.mk ((by rw [hg]; exact Nat.ne_of_lt (blk_lt (g := gb292) (o := .cells #[.string ((rd_T47 l0 x34_4).f0), .string ((rd_T47 l0 x34_4).f1)] 47 (0, 0)) (by (with_reducible repeat (first | refine blk_drewN ?_ _ | refine blk_drew ?_ | refine blk_alloc ?_ _)); exact BK292.out)) : gb292 ≠ gb294)); have n6_ := Aside0.mk ((by rw [hg]; exact Nat.ne_of_gt (blk_lt (g := gb292) (o := .cells #[.string ((rd_T47 l0 x34_4).f0), .string ((rd_T47 l0 x34_4).f1)] 47 (0, 0)) (by (with_reducible repeat (first | refine blk_drewN ?_ _ | refine blk_drew ?_ | refine blk_alloc ?_ _)); exact BK292.out)) : gb294 ≠ gb292)); clear BK292; clear HB; have BK292 := n0_; have HB := n1_; have BK294 := n2_; have GW294 := n3_; have GE294 := n4_; have NB292_294 := n5_; have NB294_292 := n6_; clear n0_ n1_ n2_ n3_ n4_ n5_ n6_; clear hb hbox hg; have hnb56 := NB294_292.out; have hnc56 := NB292_294.out; have hcz57_0 : w55.cell? ⟨gb294, 0, none⟩ = some (.string (⟨#[]⟩ : ByteArray)) := (blk_cell BK294.out 0).trans rfl; have hcz57_1 : w55.cell? ⟨gb294, 1, none⟩ = some (.string (⟨#[]⟩ : ByteArray)) := (blk_cell BK294.out 1).trans rfl; have hfz57_0 := blk_frozen BK294.out 0; have hfz57_1 := blk_frozen BK294.out 1))
                                            have n0_ : Aside0 (((w55.setCell ⟨gb294, 0, none⟩ (.string ((rd_T47 l1 x40_5).f0))).setCell ⟨gb294, 1, none⟩ (.string ((rd_T47 l1 x40_5).f1))).heap[gb292]? = some (.cells #[.string ((rd_T47 l0 x34_4).f0), .string ((rd_T47 l0 x34_4).f1)] 47 (0, 0))) := ⟨by (with_reducible repeat (first | refine blk_drewN ?_ _ | refine blk_drew ?_ | refine blk_alloc ?_ _)); refine blk_far ?_ NB292_294.out _; (with_reducible repeat (first | refine blk_drewN ?_ _ | refine blk_drew ?_ | refine blk_alloc ?_ _)); refine blk_far ?_ NB292_294.out _; (with_reducible repeat (first | refine blk_drewN ?_ _ | refine blk_drew ?_ | refine blk_alloc ?_ _)); exact BK292.out⟩
                                            have n1_ : Aside0 (((w55.setCell ⟨gb294, 0, none⟩ (.string ((rd_T47 l1 x40_5).f0))).setCell ⟨gb294, 1, none⟩ (.string ((rd_T47 l1 x40_5).f1))).heap[gb294]? = some (.cells #[.string ((rd_T47 l1 x40_5).f0), .string ((rd_T47 l1 x40_5).f1)] 47 (0, 0))) := ⟨by (with_reducible repeat (first | refine blk_drewN ?_ _ | refine blk_drew ?_ | refine blk_alloc ?_ _)); refine blk_put (cs := #[.string ((rd_T47 l1 x40_5).f0), .string (⟨#[]⟩ : ByteArray)]) ?_ 1 _ rfl; (with_reducible repeat (first | refine blk_drewN ?_ _ | refine blk_drew ?_ | refine blk_alloc ?_ _)); refine blk_put (cs := #[.string (⟨#[]⟩ : ByteArray), .string (⟨#[]⟩ : ByteArray)]) ?_ 0 _ rfl; (with_reducible repeat (first | refine blk_drewN ?_ _ | refine blk_drew ?_ | refine blk_alloc ?_ _)); exact BK294.out⟩
                                            have n2_ : Aside0 (Below w.heap.size w ((w55.setCell ⟨gb294, 0, none⟩ (.string ((rd_T47 l1 x40_5).f0))).setCell ⟨gb294, 1, none⟩ (.string ((rd_T47 l1 x40_5).f1)))) := ⟨by repeat (first | (with_reducible first | exact HB.out | apply below_alloc | apply pw_below_drewN | apply below_drew1 | refine below_set ?_ GE292.out | refine below_set ?_ GE294.out) | exact HB.out)⟩
                                            (try clear BK292)
                                            (try clear BK294)
                                            (try clear HB)
                                            generalize ((w55.setCell ⟨gb294, 0, none⟩ (.string ((rd_T47 l1 x40_5).f0))).setCell ⟨gb294, 1, none⟩ (.string ((rd_T47 l1 x40_5).f1))) = w58 at n0_ n1_ n2_ ⊢
                                            have BK292 := n0_
                                            have BK294 := n1_
                                            have HB := n2_
                                            clear n0_ n1_ n2_
                                            have n0_ := Aside0.mk (blk_drew BK292.out)
                                            have n1_ := Aside0.mk (blk_drew BK294.out)
                                            have n2_ := Aside0.mk (below_drew1 HB.out)
                                            clear BK292
                                            clear BK294
                                            clear HB
                                            have BK292 := n0_
                                            have BK294 := n1_
                                            have HB := n2_
                                            clear n0_ n1_ n2_
                                            refine start_ (n := 20) (S := fun w' => w'.cell? ⟨gb294, 0, none⟩ = some (.string ((rd_T47 l1 x40_5).f0)) ∧ w'.cell? ⟨gb294, 1, none⟩ = some (.string ((rd_T47 l1 x40_5).f1)) ∧ w'.cell? ⟨gb292, 0, none⟩ = some (.string ((rd_T47 l0 x34_4).f0)) ∧ w'.cell? ⟨gb292, 1, none⟩ = some (.string ((rd_T47 l0 x34_4).f1))) (ds := []) #[false, false, false, false, false, false, false, false, false, false, false, false, false, false, false, false, false, false, false, false] (by kernel_rfl) rfl rfl ⟨(blk_cell BK294.out 0).trans rfl, (blk_cell BK294.out 1).trans rfl, (blk_cell BK292.out 0).trans rfl, (blk_cell BK292.out 1).trans rfl⟩ (fun hHeld => ?_); refine with_tabW laws_FnParamsAll.tab15 laws_FnParamsAll.bits15 (fun HT_ HW_ => ?_)
                                            generalize w58.drew = w59 at BK292 BK294 HB hHeld ⊢
                                            refine pure_ (i := 0) (N := some 44) (v := ?_) (a' := ?_) #[true, false, false, false, false, false, false, false, false, false, false, false, false, false, false, false, false, false, false, false] rfl rfl (any_of HT_.out (by kernel_rfl)) (fun _ _ _ h => h) (Or.inl ⟨by rfl, ?_⟩) ?_ ?_
                                            rotate_left
                                            · intro w'
                                              go_simp
                                              with_reducible rfl
                                            rotate_left
                                            · simp only [Act.put, List.setIfInBounds_toArray, List.set_cons_zero, List.set_cons_succ, i64_w, i32_w]
                                              rfl
                                            refine pure_ (i := 1) (N := some 45) (v := ?_) (a' := ?_) #[true, true, false, false, false, false, false, false, false, false, false, false, false, false, false, false, false, false, false, false] rfl rfl (any_of HT_.out (by kernel_rfl)) (fun _ _ _ h => h) (Or.inl ⟨by rfl, ?_⟩) ?_ ?_
                                            rotate_left
                                            · intro w'
                                              go_simp
                                              with_reducible rfl
                                            rotate_left
                                            · simp only [Act.put, List.setIfInBounds_toArray, List.set_cons_zero, List.set_cons_succ, i64_w, i32_w]
                                              rfl
                                            refine pure_ (i := 2) (N := some 46) (v := ?_) (a' := ?_) #[true, true, true, false, false, false, false, false, false, false, false, false, false, false, false, false, false, false, false, false] rfl rfl (any_of HT_.out (by kernel_rfl)) (fun _ _ _ h => h) (Or.inl ⟨by rfl, ?_⟩) ?_ ?_
                                            rotate_left
                                            · intro w'
                                              go_simp
                                              with_reducible rfl
                                            rotate_left
                                            · simp only [Act.put, List.setIfInBounds_toArray, List.set_cons_zero, List.set_cons_succ, i64_w, i32_w]
                                              rfl
                                            refine pure_ (i := 5) (N := some 49) (v := ?_) (a' := ?_) #[true, true, true, false, false, true, false, false, false, false, false, false, false, false, false, false, false, false, false, false] rfl rfl (any_of HT_.out (by kernel_rfl)) (fun _ _ _ h => h) (Or.inl ⟨by rfl, ?_⟩) ?_ ?_
                                            rotate_left
                                            · intro w'
                                              go_simp
                                              with_reducible rfl
                                            rotate_left
                                            · simp only [Act.put, List.setIfInBounds_toArray, List.set_cons_zero, List.set_cons_succ, i64_w, i32_w]
                                              rfl
                                            refine take_ (i := 3) (N := some 47) (v := ?_) (a' := ?_) #[true, true, true, true, false, true, false, false, false, false, false, false, false, false, false, false, false, false, false, false] rfl rfl (take_ofW HT_.out HW_.out (by kernel_rfl)) (fun _ _ _ h => h) (Or.inl ⟨by rfl, ?_⟩) hHeld ?_ ?_
                                            rotate_left
                                            · rintro w' ⟨s0, s1, s2, s3⟩
                                              go_simp
                                              with_reducible rfl
                                            rotate_left
                                            · simp only [Act.put, List.setIfInBounds_toArray, List.set_cons_zero, List.set_cons_succ, i64_w, i32_w]
                                              rfl
                                            refine take_ (i := 6) (N := some 50) (v := ?_) (a' := ?_) #[true, true, true, true, false, true, true, false, false, false, false, false, false, false, false, false, false, false, false, false] rfl rfl (take_ofW HT_.out HW_.out (by kernel_rfl)) (fun _ _ _ h => h) (Or.inl ⟨by rfl, ?_⟩) hHeld ?_ ?_
                                            rotate_left
                                            · rintro w' ⟨s0, s1, s2, s3⟩
                                              go_simp
                                              with_reducible rfl
                                            rotate_left
                                            · simp only [Act.put, List.setIfInBounds_toArray, List.set_cons_zero, List.set_cons_succ, i64_w, i32_w]
                                              rfl
                                            refine one_ (i := 4) (N := some 48) #[true, true, true, true, true, true, true, false, false, false, false, false, false, false, false, false, false, false, false, false] rfl rfl (one_of HT_.out (by kernel_rfl)) (by decide) (fun K hK => ?_)
                                            refine goes_ Try.func29 (by kernel_rfl) rfl #[.string ((rd_T47 l1 x40_5).f0)] (by rfl) rfl rfl (by (try simp only [List.map_toArray, List.map_cons, List.map_nil]); first | done | rfl | (simp only [List.length_drop, List.length_take]; rfl)) ?_
                                            with_reducible refine (laws_low.calls ((rd_T47 l1 x40_5).f0) t295 _ A41.out).mono ?_
                                            rintro e w60 ⟨rfl, hb⟩
                                            refine ⟨_, rfl, ?_⟩
                                            have n0_ := Aside0.mk (blk_below (g := gb292) (o := .cells #[.string ((rd_T47 l0 x34_4).f0), .string ((rd_T47 l0 x34_4).f1)] 47 (0, 0)) (by (with_reducible repeat (first | refine blk_drewN ?_ _ | refine blk_drew ?_ | refine blk_alloc ?_ _)); exact BK292.out) hb)
                                            have n1_ := Aside0.mk (blk_below (g := gb294) (o := .cells #[.string ((rd_T47 l1 x40_5).f0), .string ((rd_T47 l1 x40_5).f1)] 47 (0, 0)) (by (with_reducible repeat (first | refine blk_drewN ?_ _ | refine blk_drew ?_ | refine blk_alloc ?_ _)); exact BK294.out) hb)
                                            have n2_ := Aside0.mk (below_step (by repeat (first | (with_reducible first | exact HB.out | apply below_alloc | apply pw_below_drewN | apply below_drew1 | refine below_set ?_ GE292.out | refine below_set ?_ GE294.out) | exact HB.out)) hb)
                                            clear BK292
                                            clear BK294
                                            clear HB
                                            have BK292 := n0_
                                            have BK294 := n1_
                                            have HB := n2_
                                            clear n0_ n1_ n2_
                                            (try clear hb)
                                            (try clear hb2)
                                            (try clear hk)
                                            (try clear hi)
                                            refine hK.out _ _ ⟨(blk_cell BK294.out 0).trans rfl, (blk_cell BK294.out 1).trans rfl, (blk_cell BK292.out 0).trans rfl, (blk_cell BK292.out 1).trans rfl⟩ (fun hHeld => ?_)
                                            clear hK K
                                            refine norm_ (a' := ?_) ?_ ?_
                                            rotate_left
                                            · show Act.put _ (some 48) _ = _
                                              simp only [Act.put, List.setIfInBounds_toArray, List.set_cons_zero, List.set_cons_succ, i64_w, i32_w]
                                              rfl
                                            refine one_ (i := 7) (N := some 51) #[true, true, true, true, true, true, true, true, false, false, false, false, false, false, false, false, false, false, false, false] rfl rfl (one_of HT_.out (by kernel_rfl)) (by decide) (fun K hK => ?_)
                                            refine goes_ Try.func29 (by kernel_rfl) rfl #[.string ((rd_T47 l0 x34_4).f0)] (by rfl) rfl rfl (by (try simp only [List.map_toArray, List.map_cons, List.map_nil]); first | done | rfl | (simp only [List.length_drop, List.length_take]; rfl)) ?_
                                            with_reducible refine (laws_low.calls ((rd_T47 l0 x34_4).f0) t296 _ A42.out).mono ?_
                                            rintro e w61 ⟨rfl, hb⟩
                                            refine ⟨_, rfl, ?_⟩
                                            have n0_ := Aside0.mk (blk_below (g := gb292) (o := .cells #[.string ((rd_T47 l0 x34_4).f0), .string ((rd_T47 l0 x34_4).f1)] 47 (0, 0)) (by (with_reducible repeat (first | refine blk_drewN ?_ _ | refine blk_drew ?_ | refine blk_alloc ?_ _)); exact BK292.out) hb)
                                            have n1_ := Aside0.mk (blk_below (g := gb294) (o := .cells #[.string ((rd_T47 l1 x40_5).f0), .string ((rd_T47 l1 x40_5).f1)] 47 (0, 0)) (by (with_reducible repeat (first | refine blk_drewN ?_ _ | refine blk_drew ?_ | refine blk_alloc ?_ _)); exact BK294.out) hb)
                                            have n2_ := Aside0.mk (below_step (by repeat (first | (with_reducible first | exact HB.out | apply below_alloc | apply pw_below_drewN | apply below_drew1 | refine below_set ?_ GE292.out | refine below_set ?_ GE294.out) | exact HB.out)) hb)
                                            clear BK292
                                            clear BK294
                                            clear HB
                                            have BK292 := n0_
                                            have BK294 := n1_
                                            have HB := n2_
                                            clear n0_ n1_ n2_
                                            (try clear hb)
                                            (try clear hb2)
                                            (try clear hk)
                                            (try clear hi)
                                            refine hK.out _ _ ⟨(blk_cell BK294.out 0).trans rfl, (blk_cell BK294.out 1).trans rfl, (blk_cell BK292.out 0).trans rfl, (blk_cell BK292.out 1).trans rfl⟩ (fun hHeld => ?_)
                                            clear hK K
                                            refine norm_ (a' := ?_) ?_ ?_
                                            rotate_left
                                            · show Act.put _ (some 51) _ = _
                                              simp only [Act.put, List.setIfInBounds_toArray, List.set_cons_zero, List.set_cons_succ, i64_w, i32_w]
                                              rfl
                                            refine pure_ (i := 8) (N := some 52) (v := ?_) (a' := ?_) #[true, true, true, true, true, true, true, true, true, false, false, false, false, false, false, false, false, false, false, false] rfl rfl (any_of HT_.out (by kernel_rfl)) (fun _ _ _ h => h) (Or.inl ⟨by rfl, ?_⟩) ?_ ?_
                                            rotate_left
                                            · intro w'
                                              go_simp
                                              with_reducible rfl
                                            rotate_left
                                            · simp only [Act.put, List.setIfInBounds_toArray, List.set_cons_zero, List.set_cons_succ, i64_w, i32_w]
                                              rfl
                                            refine pure_ (i := 9) (N := some 53) (v := ?_) (a' := ?_) #[true, true, true, true, true, true, true, true, true, true, false, false, false, false, false, false, false, false, false, false] rfl rfl (any_of HT_.out (by kernel_rfl)) (fun _ _ _ h => h) (Or.inl ⟨by rfl, ?_⟩) ?_ ?_
                                            rotate_left
                                            · intro w'
                                              go_simp
                                              with_reducible rfl
                                            rotate_left
                                            · simp only [Act.put, List.setIfInBounds_toArray, List.set_cons_zero, List.set_cons_succ, i64_w, i32_w]
                                              rfl
                                            refine pure_ (i := 10) (N := some 54) (v := undef) (a' := ?_) #[true, true, true, true, true, true, true, true, true, true, true, false, false, false, false, false, false, false, false, false] rfl rfl (any_of HT_.out (by kernel_rfl)) (fun _ _ _ h => h) (Or.inr ⟨by rfl, rfl⟩) ?_ ?_
                                            rotate_left
                                            · simp only [Act.put, List.setIfInBounds_toArray, List.set_cons_zero, List.set_cons_succ, i64_w, i32_w]
                                              rfl
                                            refine pure_ (i := 11) (N := some 55) (v := undef) (a' := ?_) #[true, true, true, true, true, true, true, true, true, true, true, true, false, false, false, false, false, false, false, false] rfl rfl (any_of HT_.out (by kernel_rfl)) (fun _ _ _ h => h) (Or.inr ⟨by rfl, rfl⟩) ?_ ?_
                                            rotate_left
                                            · simp only [Act.put, List.setIfInBounds_toArray, List.set_cons_zero, List.set_cons_succ, i64_w, i32_w]
                                              rfl
                                            refine pure_ (i := 12) (N := some 56) (v := undef) (a' := ?_) #[true, true, true, true, true, true, true, true, true, true, true, true, true, false, false, false, false, false, false, false] rfl rfl (any_of HT_.out (by kernel_rfl)) (fun _ _ _ h => h) (Or.inr ⟨by rfl, rfl⟩) ?_ ?_
                                            rotate_left
                                            · simp only [Act.put, List.setIfInBounds_toArray, List.set_cons_zero, List.set_cons_succ, i64_w, i32_w]
                                              rfl
                                            refine pure_ (i := 13) (N := some 57) (v := undef) (a' := ?_) #[true, true, true, true, true, true, true, true, true, true, true, true, true, true, false, false, false, false, false, false] rfl rfl (any_of HT_.out (by kernel_rfl)) (fun _ _ _ h => h) (Or.inr ⟨by rfl, rfl⟩) ?_ ?_
                                            rotate_left
                                            · simp only [Act.put, List.setIfInBounds_toArray, List.set_cons_zero, List.set_cons_succ, i64_w, i32_w]
                                              rfl
                                            refine pure_ (i := 14) (N := some 58) (v := undef) (a' := ?_) #[true, true, true, true, true, true, true, true, true, true, true, true, true, true, true, false, false, false, false, false] rfl rfl (any_of HT_.out (by kernel_rfl)) (fun _ _ _ h => h) (Or.inr ⟨by rfl, rfl⟩) ?_ ?_
                                            rotate_left
                                            · simp only [Act.put, List.setIfInBounds_toArray, List.set_cons_zero, List.set_cons_succ, i64_w, i32_w]
                                              rfl
                                            refine pure_ (i := 15) (N := some 59) (v := undef) (a' := ?_) #[true, true, true, true, true, true, true, true, true, true, true, true, true, true, true, true, false, false, false, false] rfl rfl (any_of HT_.out (by kernel_rfl)) (fun _ _ _ h => h) (Or.inr ⟨by rfl, rfl⟩) ?_ ?_
                                            rotate_left
                                            · simp only [Act.put, List.setIfInBounds_toArray, List.set_cons_zero, List.set_cons_succ, i64_w, i32_w]
                                              rfl
                                            refine pure_ (i := 16) (N := some 60) (v := undef) (a' := ?_) #[true, true, true, true, true, true, true, true, true, true, true, true, true, true, true, true, true, false, false, false] rfl rfl (any_of HT_.out (by kernel_rfl)) (fun _ _ _ h => h) (Or.inr ⟨by rfl, rfl⟩) ?_ ?_
                                            rotate_left
                                            · simp only [Act.put, List.setIfInBounds_toArray, List.set_cons_zero, List.set_cons_succ, i64_w, i32_w]
                                              rfl
                                            refine pure_ (i := 17) (N := some 61) (v := ?_) (a' := ?_) #[true, true, true, true, true, true, true, true, true, true, true, true, true, true, true, true, true, true, false, false] rfl rfl (any_of HT_.out (by kernel_rfl)) (fun _ _ _ h => h) (Or.inl ⟨by rfl, ?_⟩) ?_ ?_
                                            rotate_left
                                            · intro w'
                                              go_simp
                                              with_reducible rfl
                                            rotate_left
                                            · simp only [Act.put, List.setIfInBounds_toArray, List.set_cons_zero, List.set_cons_succ, i64_w, i32_w]
                                              rfl
                                            refine pure_ (i := 18) (N := some 62) (v := ?_) (a' := ?_) #[true, true, true, true, true, true, true, true, true, true, true, true, true, true, true, true, true, true, true, false] rfl rfl (any_of HT_.out (by kernel_rfl)) (fun _ _ _ h => h) (Or.inl ⟨by rfl, ?_⟩) ?_ ?_
                                            rotate_left
                                            · intro w'
                                              go_simp
                                              with_reducible rfl
                                            rotate_left
                                            · simp only [Act.put, List.setIfInBounds_toArray, List.set_cons_zero, List.set_cons_succ, i64_w, i32_w]
                                              rfl
                                            refine pure_ (i := 19) (N := some 8) (v := ?_) (a' := ?_) #[true, true, true, true, true, true, true, true, true, true, true, true, true, true, true, true, true, true, true, true] rfl rfl (any_of HT_.out (by kernel_rfl)) (fun _ _ _ h => h) (Or.inl ⟨by rfl, ?_⟩) ?_ ?_
                                            rotate_left
                                            · intro w'
                                              go_simp
                                              with_reducible rfl
                                            rotate_left
                                            · simp only [Act.put, List.setIfInBounds_toArray, List.set_cons_zero, List.set_cons_succ, i64_w, i32_w]
                                              rfl
                                            refine done_ (done_of HT_.out (by kernel_rfl)) ?_
                                            try go_wp2
                                            go_roundg k5
                                            case measure => have := HJ2.out; have := HJ10.out; have := HJ18.out; have := HK4.out; have := HK5.out; omega
                                            case rel => exact ⟨(false), (wrap64 (x40_5 + 1)), (by first | rfl | (simp; done) | (rw [prx_ne]; first | done | rfl) | (simp [*]; done)), (by first | rfl | (simp; done) | (rw [prx_ne]; first | done | rfl) | (simp [*]; done)), H', ⟨by have := HJ2.out; have := HJ10.out; have := HJ18.out; have := HK4.out; have := HK5.out; omega⟩, ⟨by (with_reducible repeat (first | refine blk_drewN ?_ _ | refine blk_drew ?_ | refine blk_alloc ?_ _)); exact BK292.out⟩, ⟨by repeat (first | (with_reducible first | exact HB.out | apply below_alloc | apply pw_below_drewN | apply below_drew1 | refine below_set ?_ GE292.out | refine below_set ?_ GE294.out) | exact HB.out)⟩⟩
                                      · rw [if_neg c34] at H
                                        exact absurd H (by simp)
                                    · rw [if_neg c33] at H
                                      exact absurd H (by simp)
                                  · rw [if_neg c32] at H
                                    have c32b0 : decide (x40_5 < (l1.length : Int)) = false := decide_eq_false c32
                                    clear c32
                                    by_cases c62 : x5_4 = true
                                    · subst c62
                                      have H1 : (laws_FnParamsAll.l0 k5 l0 l1 x8_5 l0 (l0.length : Int) (wrap64 (x34_4 + 1))) = some r := by rw [if_pos rfl] at H; exact H
                                      clear H
                                      have H := H1
                                      clear H1
                                      have H' := Aside0.mk H
                                      clear H
                                      go_wp2
                                      go_roundg k5
                                      case measure => have := HJ2.out; have := HJ10.out; have := HJ18.out; have := HK4.out; have := HK5.out; omega
                                      case rel => exact ⟨(x8_5), (wrap64 (x34_4 + 1)), (by first | rfl | (simp; done) | (rw [prx_ne]; first | done | rfl) | (simp [*]; done)), (by first | rfl | (simp; done) | (rw [prx_ne]; first | done | rfl) | (simp [*]; done)), H', ⟨by have := HJ2.out; have := HJ10.out; have := HJ18.out; have := HK4.out; have := HK5.out; omega⟩, ⟨by repeat (first | (with_reducible first | exact HB.out | apply below_alloc | apply pw_below_drewN | apply below_drew1 | refine below_set ?_ GE292.out) | exact HB.out)⟩⟩
                                    · replace c62 := Bool.eq_false_iff.mpr c62
                                      subst c62
                                      have H1 : (laws_FnParamsAll.l0 k5 l0 l1 false l0 (l0.length : Int) (wrap64 (x34_4 + 1))) = some r := by rw [if_neg (show ¬ (false = true) by decide)] at H; exact H
                                      clear H
                                      have H := H1
                                      clear H1
                                      have H' := Aside0.mk H
                                      clear H
                                      go_wp2
                                      go_roundg k5
                                      case measure => have := HJ2.out; have := HJ10.out; have := HJ18.out; have := HK4.out; have := HK5.out; omega
                                      case rel => exact ⟨(false), (wrap64 (x34_4 + 1)), (by first | rfl | (simp; done) | (rw [prx_ne]; first | done | rfl) | (simp [*]; done)), (by first | rfl | (simp; done) | (rw [prx_ne]; first | done | rfl) | (simp [*]; done)), H', ⟨by have := HJ2.out; have := HJ10.out; have := HJ18.out; have := HK4.out; have := HK5.out; omega⟩, ⟨by repeat (first | (with_reducible first | exact HB.out | apply below_alloc | apply pw_below_drewN | apply below_drew1 | refine below_set ?_ GE292.out) | exact HB.out)⟩⟩
                            · rw [if_neg c29] at H
                              exact absurd H (by simp)
                          · rw [if_neg c28] at H
                            exact absurd H (by simp)
                        · rw [if_neg c27] at H
                          have c27b0 : decide (x34_4 < (l0.length : Int)) = false := decide_eq_false c27
                          clear c27
                          replace H := Option.bind_eq_some_iff.mp H
                          obtain ⟨t299, A630, H⟩ := H
                          replace H : ((laws_given.f k4 l1 ([] : List Int)).bind fun t300 => ((impl_ParamsMatch.f t299 t300).bind fun t301 => (if (t301 == x5_4) = true then ((laws_turned.f k4 l0).bind fun t302 => ((laws_given.f k4 t302 ([] : List Int)).bind fun t305 => ((laws_turned.f k4 l1).bind fun t306 => ((laws_given.f k4 t306 ([] : List Int)).bind fun t309 => ((impl_ParamsMatch.f t305 t309).bind fun t310 => (some (t310 == x5_4))))))) else (some false)))) = some r := H
                          have A63 := Aside0.mk A630
                          clear A630
                          replace H := Option.bind_eq_some_iff.mp H
                          obtain ⟨t300, A640, H⟩ := H
                          replace H : ((impl_ParamsMatch.f t299 t300).bind fun t301 => (if (t301 == x5_4) = true then ((laws_turned.f k4 l0).bind fun t302 => ((laws_given.f k4 t302 ([] : List Int)).bind fun t305 => ((laws_turned.f k4 l1).bind fun t306 => ((laws_given.f k4 t306 ([] : List Int)).bind fun t309 => ((impl_ParamsMatch.f t305 t309).bind fun t310 => (some (t310 == x5_4))))))) else (some false))) = some r := H
                          have A64 := Aside0.mk A640
                          clear A640
                          replace H := Option.bind_eq_some_iff.mp H
                          obtain ⟨t301, A650, H⟩ := H
                          replace H : (if (t301 == x5_4) = true then ((laws_turned.f k4 l0).bind fun t302 => ((laws_given.f k4 t302 ([] : List Int)).bind fun t305 => ((laws_turned.f k4 l1).bind fun t306 => ((laws_given.f k4 t306 ([] : List Int)).bind fun t309 => ((impl_ParamsMatch.f t305 t309).bind fun t310 => (some (t310 == x5_4))))))) else (some false)) = some r := H
                          have A65 := Aside0.mk A650
                          clear A650
                          by_cases c66 : (t301 == x5_4) = true
                          · rw [if_pos c66] at H
                            have c66b0 : (t301 == x5_4) = true := c66
                            (try (have c66b1 : decide (t301 = x5_4) = true := by simpa using c66))
                            (try (have c66b2 : (t301 == x5_4) = true := by simpa using c66))
                            clear c66
                            replace H := Option.bind_eq_some_iff.mp H
                            obtain ⟨t302, A670, H⟩ := H
                            replace H : ((laws_given.f k4 t302 ([] : List Int)).bind fun t305 => ((laws_turned.f k4 l1).bind fun t306 => ((laws_given.f k4 t306 ([] : List Int)).bind fun t309 => ((impl_ParamsMatch.f t305 t309).bind fun t310 => (some (t310 == x5_4)))))) = some r := H
                            have A67 := Aside0.mk A670
                            clear A670
                            replace H := Option.bind_eq_some_iff.mp H
                            obtain ⟨t305, A680, H⟩ := H
                            replace H : ((laws_turned.f k4 l1).bind fun t306 => ((laws_given.f k4 t306 ([] : List Int)).bind fun t309 => ((impl_ParamsMatch.f t305 t309).bind fun t310 => (some (t310 == x5_4))))) = some r := H
                            have A68 := Aside0.mk A680
                            clear A680
                            replace H := Option.bind_eq_some_iff.mp H
                            obtain ⟨t306, A690, H⟩ := H
                            replace H : ((laws_given.f k4 t306 ([] : List Int)).bind fun t309 => ((impl_ParamsMatch.f t305 t309).bind fun t310 => (some (t310 == x5_4)))) = some r := H
                            have A69 := Aside0.mk A690
                            clear A690
                            replace H := Option.bind_eq_some_iff.mp H
                            obtain ⟨t309, A700, H⟩ := H
                            replace H : ((impl_ParamsMatch.f t305 t309).bind fun t310 => (some (t310 == x5_4))) = some r := H
                            have A70 := Aside0.mk A700
                            clear A700
                            replace H := Option.bind_eq_some_iff.mp H
                            obtain ⟨t310, A710, H⟩ := H
                            replace H : (some (t310 == x5_4)) = some r := H
                            have A71 := Aside0.mk A710
                            clear A710
                            obtain rfl := Option.some.inj H
                            go_wp2_with (first | ((with_reducible refine gate_callee (f := 28) rfl ?_); refine goesL_ (some 70) rfl rfl Try.func28 (by kernel_rfl) rfl #[.slice A0 l0.length c0, .slice none 0 0] rfl (by (try simp only [List.map_toArray, List.map_cons, List.map_nil]); first | done | rfl | (simp only [List.length_drop, List.length_take]; rfl)) ?_; (refine (laws_given.calls k4 _ _ l0 _ _ ([] : List Int) t299 _ ?side1 ?side2 ?side3 ?side4 A63.out).mono ?_); (case side1 => repeat (first | exact (Kd.C_below HR0.out HB.out) | (with_reducible refine Kd.C_alloc ?_ _) | (with_reducible refine Kd.C_drewN ?_ _) | (with_reducible refine Kd.C_drew ?_))); (case side2 => exact HC0.out); (case side3 => exact Kd.C_nil _ _); (case side4 => exact Nat.le_refl _); rintro e w72 ⟨rfl, hb⟩; refine ⟨_, rfl, ?_⟩; have n0_ := Aside0.mk (below_step (by repeat (first | (with_reducible first | exact HB.out | apply below_alloc | apply pw_below_drewN | apply below_drew1) | exact HB.out)) hb); clear HB; have HB := n0_; clear n0_; (try clear hb); (try clear hb2); (try clear hk); (try clear hi)) | ((with_reducible refine gate_callee (f := 28) rfl ?_); refine goesL_ (some 72) rfl rfl Try.func28 (by kernel_rfl) rfl #[.slice A1 l1.length c1, .slice none 0 0] rfl (by (try simp only [List.map_toArray, List.map_cons, List.map_nil]); first | done | rfl | (simp only [List.length_drop, List.length_take]; rfl)) ?_; (refine (laws_given.calls k4 _ _ l1 _ _ ([] : List Int) t300 _ ?side1 ?side2 ?side3 ?side4 A64.out).mono ?_); (case side1 => repeat (first | exact (Kd.C_below HR1.out HB.out) | (with_reducible refine Kd.C_alloc ?_ _) | (with_reducible refine Kd.C_drewN ?_ _) | (with_reducible refine Kd.C_drew ?_))); (case side2 => exact HC1.out); (case side3 => exact Kd.C_nil _ _); (case side4 => exact Nat.le_refl _); rintro e w73 ⟨rfl, hb⟩; refine ⟨_, rfl, ?_⟩; have n0_ := Aside0.mk (below_step (by repeat (first | (with_reducible first | exact HB.out | apply below_alloc | apply pw_below_drewN | apply below_drew1) | exact HB.out)) hb); clear HB; have HB := n0_; clear n0_; (try clear hb); (try clear hb2); (try clear hk); (try clear hi)) | ((with_reducible refine gate_callee (f := 32) rfl ?_); refine goesL_ (some 73) rfl rfl Try.func32 (by kernel_rfl) rfl #[.string t299, .string t300] rfl (by (try simp only [List.map_toArray, List.map_cons, List.map_nil]); first | done | rfl | (simp only [List.length_drop, List.length_take]; rfl)) ?_; (with_reducible refine (impl_ParamsMatch.calls t299 t300 t301 _ A65.out).mono ?_); rintro e w74 ⟨rfl, hb⟩; refine ⟨_, rfl, ?_⟩; have n0_ := Aside0.mk (below_step (by repeat (first | (with_reducible first | exact HB.out | apply below_alloc | apply pw_below_drewN | apply below_drew1) | exact HB.out)) hb); clear HB; have HB := n0_; clear n0_; (try clear hb); (try clear hb2); (try clear hk); (try clear hi)) | (go_at_call 33; (with_reducible refine (laws_turned.calls k4 _ _ l0 t302 _ ?side1 ?side2 A67.out).mono ?_); (case side1 => repeat (first | exact (Kd.C_below HR0.out HB.out) | (with_reducible refine Kd.C_alloc ?_ _) | (with_reducible refine Kd.C_drewN ?_ _) | (with_reducible refine Kd.C_drew ?_))); (case side2 => exact HC0.out); rintro e w75 ⟨v303, rfl, ho0, hb⟩; have n0_ := Aside0.mk (Kd.R_lower ho0 (below_size (by repeat (first | (with_reducible first | exact HB.out | apply below_alloc | apply pw_below_drewN | apply below_drew1) | exact HB.out)))); have n1_ := Aside0.mk (below_step (by repeat (first | (with_reducible first | exact HB.out | apply below_alloc | apply pw_below_drewN | apply below_drew1) | exact HB.out)) hb); clear HB; have HO304 := n0_; have HB := n1_; clear n0_ n1_; (try clear hb); (try clear hb2); (try clear hk); (try clear hi); (try clear ho0); obtain ⟨Ao76, co76, eo76⟩ := Kd.R_slice HO304.out; subst eo76) | (go_at_call 28; (with_reducible show Calls Try.prog 28 #[.slice _ t302.length _, .slice none 0 0] _ _); (refine (laws_given.calls k4 _ _ t302 _ _ ([] : List Int) t305 _ ?side1 ?side2 ?side3 ?side4 A68.out).mono ?_); (case side1 => repeat (first | exact (Kd.R_reads' HO304.out).2.2 | (with_reducible refine Kd.C_alloc ?_ _) | (with_reducible refine Kd.C_drewN ?_ _) | (with_reducible refine Kd.C_drew ?_))); (case side2 => exact (Kd.R_reads' HO304.out).2.1); (case side3 => exact Kd.C_nil _ _); (case side4 => exact Nat.le_refl _); rintro e w77 ⟨rfl, hb⟩; have n0_ := Aside0.mk (Kd.R_below (by (with_reducible repeat (first | apply Kd.R_alloc | apply Kd.R_drewN | apply Kd.R_drew)); exact HO304.out) hb); have n1_ := Aside0.mk (below_step (by repeat (first | (with_reducible first | exact HB.out | apply below_alloc | apply pw_below_drewN | apply below_drew1) | exact HB.out)) hb); clear HO304; clear HB; have HO304 := n0_; have HB := n1_; clear n0_ n1_; (try clear hb); (try clear hb2); (try clear hk); (try clear hi)) | (go_at_call 33; (with_reducible refine (laws_turned.calls k4 _ _ l1 t306 _ ?side1 ?side2 A69.out).mono ?_); (case side1 => repeat (first | exact (Kd.C_below HR1.out HB.out) | (with_reducible refine Kd.C_alloc ?_ _) | (with_reducible refine Kd.C_drewN ?_ _) | (with_reducible refine Kd.C_drew ?_))); (case side2 => exact HC1.out); rintro e w78 ⟨v307, rfl, ho0, hb⟩; have n0_ := Aside0.mk (Kd.R_elder' (by (with_reducible repeat (first | apply Kd.R_alloc | apply Kd.R_drewN | apply Kd.R_drew)); exact HO304.out) (Kd.R_base ho0) hb); have n1_ := Aside0.mk (Kd.R_lower (Kd.R_new' ho0 (Kd.R_lt (by (with_reducible repeat (first | apply Kd.R_alloc | apply Kd.R_drewN | apply Kd.R_drew)); exact HO304.out))) (below_size (by repeat (first | (with_reducible first | exact HB.out | apply below_alloc | apply pw_below_drewN | apply below_drew1) | exact HB.out)))); have n2_ := Aside0.mk (below_step (by repeat (first | (with_reducible first | exact HB.out | apply below_alloc | apply pw_below_drewN | apply below_drew1) | exact HB.out)) hb); clear HO304; clear HB; have HO304 := n0_; have HO308 := n1_; have HB := n2_; clear n0_ n1_ n2_; (try clear hb); (try clear hb2); (try clear hk); (try clear hi); (try clear ho0); obtain ⟨Ao79, co79, eo79⟩ := Kd.R_slice HO308.out; subst eo79) | (go_at_call 28; (with_reducible show Calls Try.prog 28 #[.slice _ t306.length _, .slice none 0 0] _ _); (refine (laws_given.calls k4 _ _ t306 _ _ ([] : List Int) t309 _ ?side1 ?side2 ?side3 ?side4 A70.out).mono ?_); (case side1 => repeat (first | exact (Kd.R_reads' HO308.out).2.2 | (with_reducible refine Kd.C_alloc ?_ _) | (with_reducible refine Kd.C_drewN ?_ _) | (with_reducible refine Kd.C_drew ?_))); (case side2 => exact (Kd.R_reads' HO308.out).2.1); (case side3 => exact Kd.C_nil _ _); (case side4 => exact Nat.le_refl _); rintro e w80 ⟨rfl, hb⟩; have n0_ := Aside0.mk (Kd.R_below (by (with_reducible repeat (first | apply Kd.R_alloc | apply Kd.R_drewN | apply Kd.R_drew)); exact HO304.out) hb); have n1_ := Aside0.mk (Kd.R_below (by (with_reducible repeat (first | apply Kd.R_alloc | apply Kd.R_drewN | apply Kd.R_drew)); exact HO308.out) hb); have n2_ := Aside0.mk (below_step (by repeat (first | (with_reducible first | exact HB.out | apply below_alloc | apply pw_below_drewN | apply below_drew1) | exact HB.out)) hb); clear HO304; clear HO308; clear HB; have HO304 := n0_; have HO308 := n1_; have HB := n2_; clear n0_ n1_ n2_; (try clear hb); (try clear hb2); (try clear hk); (try clear hi)) | (go_at_call 32; (with_reducible refine (impl_ParamsMatch.calls t305 t309 t310 _ A71.out).mono ?_); rintro e w81 ⟨rfl, hb⟩; have n0_ := Aside0.mk (Kd.R_below (by (with_reducible repeat (first | apply Kd.R_alloc | apply Kd.R_drewN | apply Kd.R_drew)); exact HO304.out) hb); have n1_ := Aside0.mk (Kd.R_below (by (with_reducible repeat (first | apply Kd.R_alloc | apply Kd.R_drewN | apply Kd.R_drew)); exact HO308.out) hb); have n2_ := Aside0.mk (below_step (by repeat (first | (with_reducible first | exact HB.out | apply below_alloc | apply pw_below_drewN | apply below_drew1) | exact HB.out)) hb); clear HO304; clear HO308; clear HB; have HO304 := n0_; have HO308 := n1_; have HB := n2_; clear n0_ n1_ n2_; (try clear hb); (try clear hb2); (try clear hk); (try clear hi)))
                            go_ret
                            exact ⟨by first | rfl | (simp [errW_none, errW_some] <;> rfl) | (simp [*, errW_none, errW_some] <;> rfl), by repeat (first | (with_reducible first | exact HB.out | apply below_alloc | apply pw_below_drewN | apply below_drew1) | exact HB.out)⟩
                          · rw [if_neg c66] at H
                            have c66b0 : (t301 == x5_4) = false := by simpa using c66
                            (try (have c66b1 : decide (t301 = x5_4) = false := by simpa using c66))
                            (try (have c66b2 : (t301 == x5_4) = false := by simpa using c66))
                            (try (have c66b3 : ¬ (t301 = x5_4) := by simpa using c66))
                            clear c66
                            obtain rfl := Option.some.inj H
                            go_wp2_with (first | ((with_reducible refine gate_callee (f := 28) rfl ?_); refine goesL_ (some 70) rfl rfl Try.func28 (by kernel_rfl) rfl #[.slice A0 l0.length c0, .slice none 0 0] rfl (by (try simp only [List.map_toArray, List.map_cons, List.map_nil]); first | done | rfl | (simp only [List.length_drop, List.length_take]; rfl)) ?_; (refine (laws_given.calls k4 _ _ l0 _ _ ([] : List Int) t299 _ ?side1 ?side2 ?side3 ?side4 A63.out).mono ?_); (case side1 => repeat (first | exact (Kd.C_below HR0.out HB.out) | (with_reducible refine Kd.C_alloc ?_ _) | (with_reducible refine Kd.C_drewN ?_ _) | (with_reducible refine Kd.C_drew ?_))); (case side2 => exact HC0.out); (case side3 => exact Kd.C_nil _ _); (case side4 => exact Nat.le_refl _); rintro e w82 ⟨rfl, hb⟩; refine ⟨_, rfl, ?_⟩; have n0_ := Aside0.mk (below_step (by repeat (first | (with_reducible first | exact HB.out | apply below_alloc | apply pw_below_drewN | apply below_drew1) | exact HB.out)) hb); clear HB; have HB := n0_; clear n0_; (try clear hb); (try clear hb2); (try clear hk); (try clear hi)) | ((with_reducible refine gate_callee (f := 28) rfl ?_); refine goesL_ (some 72) rfl rfl Try.func28 (by kernel_rfl) rfl #[.slice A1 l1.length c1, .slice none 0 0] rfl (by (try simp only [List.map_toArray, List.map_cons, List.map_nil]); first | done | rfl | (simp only [List.length_drop, List.length_take]; rfl)) ?_; (refine (laws_given.calls k4 _ _ l1 _ _ ([] : List Int) t300 _ ?side1 ?side2 ?side3 ?side4 A64.out).mono ?_); (case side1 => repeat (first | exact (Kd.C_below HR1.out HB.out) | (with_reducible refine Kd.C_alloc ?_ _) | (with_reducible refine Kd.C_drewN ?_ _) | (with_reducible refine Kd.C_drew ?_))); (case side2 => exact HC1.out); (case side3 => exact Kd.C_nil _ _); (case side4 => exact Nat.le_refl _); rintro e w83 ⟨rfl, hb⟩; refine ⟨_, rfl, ?_⟩; have n0_ := Aside0.mk (below_step (by repeat (first | (with_reducible first | exact HB.out | apply below_alloc | apply pw_below_drewN | apply below_drew1) | exact HB.out)) hb); clear HB; have HB := n0_; clear n0_; (try clear hb); (try clear hb2); (try clear hk); (try clear hi)) | ((with_reducible refine gate_callee (f := 32) rfl ?_); refine goesL_ (some 73) rfl rfl Try.func32 (by kernel_rfl) rfl #[.string t299, .string t300] rfl (by (try simp only [List.map_toArray, List.map_cons, List.map_nil]); first | done | rfl | (simp only [List.length_drop, List.length_take]; rfl)) ?_; (with_reducible refine (impl_ParamsMatch.calls t299 t300 t301 _ A65.out).mono ?_); rintro e w84 ⟨rfl, hb⟩; refine ⟨_, rfl, ?_⟩; have n0_ := Aside0.mk (below_step (by repeat (first | (with_reducible first | exact HB.out | apply below_alloc | apply pw_below_drewN | apply below_drew1) | exact HB.out)) hb); clear HB; have HB := n0_; clear n0_; (try clear hb); (try clear hb2); (try clear hk); (try clear hi)))
                            go_ret
                            exact ⟨by first | rfl | (simp [errW_none, errW_some] <;> rfl) | (simp [*, errW_none, errW_some] <;> rfl), by repeat (first | (with_reducible first | exact HB.out | apply below_alloc | apply pw_below_drewN | apply below_drew1) | exact HB.out)⟩

/-- THE ONE PURE STATEMENT of laws_FnParamsAll: yours. -/
def laws_FnParamsAll.Pure : Prop := ∀ (l0 : List (S47)) (l1 : List (S47)), l0.length * 32 ≤ 140737488351232 → l1.length * 32 ≤ 140737488351232 → ∃ k, laws_FnParamsAll.f k l0 l1 = some true
theorem laws_FnParamsAll.walk (P : laws_FnParamsAll.Pure) (a0 : Option Addr) (cap0 : Nat) (l0 : List S47) (a1 : Option Addr) (cap1 : Nat) (l1 : List S47) (w : World) (w0 : Kd.C k47 w a0 l0.length l0) (y0 : l0.length ≤ cap0) (m0 : l0.length * 32 ≤ 140737488351232) (w1 : Kd.C k47 w a1 l1.length l1) (y1 : l1.length ≤ cap1) (m1 : l1.length * 32 ≤ 140737488351232) :
    Calls Try.prog 9 #[.slice a0 l0.length cap0, .slice a1 l1.length cap1] w fun e w' => e = .returned (.bool true) ∧ Below w.heap.size w w' := by
  obtain ⟨k, h⟩ := P l0 l1 m0 m1
  refine (laws_FnParamsAll.calls k _ _ l0 _ _ l1 true w w0 y0 w1 y1 h).mono ?_
  rintro e w' ⟨rfl, hd⟩
  exact ⟨rfl, hd⟩

end Go.Proofs.Ytkbmababljcabaa.QA
