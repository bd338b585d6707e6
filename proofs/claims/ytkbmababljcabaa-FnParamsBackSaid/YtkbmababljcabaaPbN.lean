/- Printed by wip/pr.py (a program of this repo over the print program of the kit). Not trusted: Lean checks it. -/
import Derived.Test.YtkbmababljcabaaQA0
import Derived.Test.YtkbmababljcabaaQA1
import Derived.Test.YtkbmababljcabaaQA20
import Derived.Test.YtkbmababljcabaaQA36
import Derived.Test.YtkbmababljcabaaQA37
import Derived.Test.YtkbmababljcabaaQA38
import Derived.Test.YtkbmababljcabaaQA41
import Derived.Test.YtkbmababljcabaaGLow
import Derived.WalkSpells
namespace Go.Proofs.Ytkbmababljcabaa.QA
open Go.Proofs.Ytkbmababljcabaa.Given
open Go.Proofs.Ytkbmababljcabaa.PrX
open Go.RowKit Go.Proofs.YtkbmababljcabaaW.PrintWords Go.Proofs.YtkbmababljcabaaW.PrintLast Go.Proofs.YtkbmababljcabaaW.PrintMore
attribute [local go_sem] max2_int min2_int max_two min_two max_three min_three max_four min_four   -- for this text's walks alone
set_option linter.unusedVariables false
set_option linter.unusedSimpArgs false

attribute [local go_sem high] eqA47
/-! ### laws_FnParamsBackN: function 7 -/
mutual
def laws_FnParamsBackN.j0 : Nat → List (S47) → List Int → Int → Bool → Option (Bool)
  | 0, _, _, _, _ => none
  | k + 1, x0, x1, x2, x20 => if x20 = true then (some true) else ((impl_Params.f k (⟨#[59, 97, 61, 98]⟩ : ByteArray) (-1)).bind fun t314 => (if (t314.length : Int) = 1 then (if 0 < (t314.length : Int) then (laws_FnParamsBackN.j1 k x0 x1 x2 (!((((rd_T47 t314 0).f0).toList) == ([97] : List UInt8)) || (!((((rd_T47 t314 0).f1).toList) == ([98] : List UInt8))))) else (none)) else (laws_FnParamsBackN.j1 k x0 x1 x2 true)))
def laws_FnParamsBackN.j1 : Nat → List (S47) → List Int → Int → Bool → Option (Bool)
  | 0, _, _, _, _ => none
  | k + 1, x0, x1, x2, x31 => if x31 = true then (some false) else ((laws_plainParams.f k x0).bind fun t318 => (if t318 = true then (if x2 < 0 then (laws_FnParamsBackN.j2 k x0 x1 x2 true) else (laws_FnParamsBackN.j2 k x0 x1 x2 (decide (x2 > 20)))) else (laws_FnParamsBackN.j2 k x0 x1 x2 true)))
def laws_FnParamsBackN.j2 : Nat → List (S47) → List Int → Int → Bool → Option (Bool)
  | 0, _, _, _, _ => none
  | k + 1, x0, x1, x2, x42 => if x42 = true then (some true) else ((laws_given.f k x0 x1).bind fun t319 => ((impl_Params.f k t319 (-1)).bind fun t320 => (laws_FnParamsBackN.l0 k x0 x2 t320 (t320.length : Int) 0)))
def laws_FnParamsBackN.l0 : Nat → List (S47) → Int → List (S47) → Int → Int → Option (Bool)
  | 0, _, _, _, _, _ => none
  | k + 1, x0, x2, x46, x47, x48 => if x48 < x47 then (if 0 ≤ x48 then (if x48 < (x46.length : Int) then (if x48 ≥ (x0.length : Int) then (some false) else ((laws_low.f ((rd_T47 x46 x48).f0)).bind fun t325 => (if x48 < (x0.length : Int) then ((laws_low.f ((rd_T47 x0 x48).f0)).bind fun t327 => (if t325.toList = t327.toList then (if ((rd_T47 x46 x48).f1).toList = ((rd_T47 x0 x48).f1).toList then (laws_FnParamsBackN.l0 k x0 x2 x46 x47 (wrap64 (x48 + 1))) else (some false)) else (some false))) else (none)))) else (none)) else (none)) else ((laws_given.f k x0 ([] : List Int)).bind fun t329 => ((impl_Params.f k t329 (-1)).bind fun t330 => ((impl_Params.f k t329 x2).bind fun t333 => (if (t330.length : Int) = (x0.length : Int) then (if 0 ≤ (mn x2 (t330.length : Int)) then (if (mn x2 (t330.length : Int)) ≤ (t330.length : Int) then ((laws_samePairs.f k t333 (t330.take ((mn x2 (t330.length : Int)) : Int).toNat)).bind fun t340 => (some t340)) else (none)) else (none)) else (some false)))))
end
def laws_FnParamsBackN.f (k : Nat) (l0 : List (S47)) (l1 : List Int) (a2 : Int) : Option (Bool) := (laws_zzFits1.f k l0).bind fun t313 => (if t313 = true then (laws_FnParamsBackN.j0 k l0 l1 a2 (decide ((l1.length : Int) > 2147483647))) else (laws_FnParamsBackN.j0 k l0 l1 a2 true))
theorem laws_FnParamsBackN.mono_l : ∀ k, (∀ y0 y1 y2 y3, LeO (laws_FnParamsBackN.j0 k y0 y1 y2 y3) (laws_FnParamsBackN.j0 (k + 1) y0 y1 y2 y3)) ∧ (∀ y0 y1 y2 y3, LeO (laws_FnParamsBackN.j1 k y0 y1 y2 y3) (laws_FnParamsBackN.j1 (k + 1) y0 y1 y2 y3)) ∧ (∀ y0 y1 y2 y3, LeO (laws_FnParamsBackN.j2 k y0 y1 y2 y3) (laws_FnParamsBackN.j2 (k + 1) y0 y1 y2 y3)) ∧ (∀ y0 y1 y2 y3 y4, LeO (laws_FnParamsBackN.l0 k y0 y1 y2 y3 y4) (laws_FnParamsBackN.l0 (k + 1) y0 y1 y2 y3 y4))
  | 0 => ⟨fun _ _ _ _ r h => by simp [laws_FnParamsBackN.j0] at h, fun _ _ _ _ r h => by simp [laws_FnParamsBackN.j1] at h, fun _ _ _ _ r h => by simp [laws_FnParamsBackN.j2] at h, fun _ _ _ _ _ r h => by simp [laws_FnParamsBackN.l0] at h⟩
  | k + 1 => by
    obtain ⟨ih0, ih1, ih2, ih3⟩ := laws_FnParamsBackN.mono_l k
    refine ⟨?_, ?_, ?_, ?_⟩
    · intro y0 y1 y2 y3
      unfold laws_FnParamsBackN.j0
      repeat' first
      | (with_reducible exact ih0 _ _ _ _)
      | (with_reducible exact ih1 _ _ _ _)
      | (with_reducible exact ih2 _ _ _ _)
      | (with_reducible exact ih3 _ _ _ _ _)
      | (with_reducible exact impl_Params.mono _ _ _)
      | (with_reducible exact laws_given.mono _ _ _)
      | (with_reducible exact laws_plainParams.mono _ _)
      | (with_reducible exact laws_samePairs.mono _ _ _)
      | (with_reducible exact laws_zzFits1.mono _ _)
      | (with_reducible exact LeO.refl _)
      | (with_reducible exact LeO.none _)
      | (with_reducible refine LeO.ite ?_ ?_)
      | (with_reducible refine LeO.bind ?_ (fun _ => ?_))
      | exact ih0 _ _ _ _
      | exact ih1 _ _ _ _
      | exact ih2 _ _ _ _
      | exact ih3 _ _ _ _ _
      | exact impl_Params.mono _ _ _
      | exact laws_given.mono _ _ _
      | exact laws_plainParams.mono _ _
      | exact laws_samePairs.mono _ _ _
      | exact laws_zzFits1.mono _ _
      | exact LeO.none _
      | refine LeO.ite ?_ ?_
      | refine LeO.bind ?_ (fun _ => ?_)
    · intro y0 y1 y2 y3
      unfold laws_FnParamsBackN.j1
      repeat' first
      | (with_reducible exact ih0 _ _ _ _)
      | (with_reducible exact ih1 _ _ _ _)
      | (with_reducible exact ih2 _ _ _ _)
      | (with_reducible exact ih3 _ _ _ _ _)
      | (with_reducible exact impl_Params.mono _ _ _)
      | (with_reducible exact laws_given.mono _ _ _)
      | (with_reducible exact laws_plainParams.mono _ _)
      | (with_reducible exact laws_samePairs.mono _ _ _)
      | (with_reducible exact laws_zzFits1.mono _ _)
      | (with_reducible exact LeO.refl _)
      | (with_reducible exact LeO.none _)
      | (with_reducible refine LeO.ite ?_ ?_)
      | (with_reducible refine LeO.bind ?_ (fun _ => ?_))
      | exact ih0 _ _ _ _
      | exact ih1 _ _ _ _
      | exact ih2 _ _ _ _
      | exact ih3 _ _ _ _ _
      | exact impl_Params.mono _ _ _
      | exact laws_given.mono _ _ _
      | exact laws_plainParams.mono _ _
      | exact laws_samePairs.mono _ _ _
      | exact laws_zzFits1.mono _ _
      | exact LeO.none _
      | refine LeO.ite ?_ ?_
      | refine LeO.bind ?_ (fun _ => ?_)
    · intro y0 y1 y2 y3
      unfold laws_FnParamsBackN.j2
      repeat' first
      | (with_reducible exact ih0 _ _ _ _)
      | (with_reducible exact ih1 _ _ _ _)
      | (with_reducible exact ih2 _ _ _ _)
      | (with_reducible exact ih3 _ _ _ _ _)
      | (with_reducible exact impl_Params.mono _ _ _)
      | (with_reducible exact laws_given.mono _ _ _)
      | (with_reducible exact laws_plainParams.mono _ _)
      | (with_reducible exact laws_samePairs.mono _ _ _)
      | (with_reducible exact laws_zzFits1.mono _ _)
      | (with_reducible exact LeO.refl _)
      | (with_reducible exact LeO.none _)
      | (with_reducible refine LeO.ite ?_ ?_)
      | (with_reducible refine LeO.bind ?_ (fun _ => ?_))
      | exact ih0 _ _ _ _
      | exact ih1 _ _ _ _
      | exact ih2 _ _ _ _
      | exact ih3 _ _ _ _ _
      | exact impl_Params.mono _ _ _
      | exact laws_given.mono _ _ _
      | exact laws_plainParams.mono _ _
      | exact laws_samePairs.mono _ _ _
      | exact laws_zzFits1.mono _ _
      | exact LeO.none _
      | refine LeO.ite ?_ ?_
      | refine LeO.bind ?_ (fun _ => ?_)
    · intro y0 y1 y2 y3 y4
      unfold laws_FnParamsBackN.l0
      repeat' first
      | (with_reducible exact ih0 _ _ _ _)
      | (with_reducible exact ih1 _ _ _ _)
      | (with_reducible exact ih2 _ _ _ _)
      | (with_reducible exact ih3 _ _ _ _ _)
      | (with_reducible exact impl_Params.mono _ _ _)
      | (with_reducible exact laws_given.mono _ _ _)
      | (with_reducible exact laws_plainParams.mono _ _)
      | (with_reducible exact laws_samePairs.mono _ _ _)
      | (with_reducible exact laws_zzFits1.mono _ _)
      | (with_reducible exact LeO.refl _)
      | (with_reducible exact LeO.none _)
      | (with_reducible refine LeO.ite ?_ ?_)
      | (with_reducible refine LeO.bind ?_ (fun _ => ?_))
      | exact ih0 _ _ _ _
      | exact ih1 _ _ _ _
      | exact ih2 _ _ _ _
      | exact ih3 _ _ _ _ _
      | exact impl_Params.mono _ _ _
      | exact laws_given.mono _ _ _
      | exact laws_plainParams.mono _ _
      | exact laws_samePairs.mono _ _ _
      | exact laws_zzFits1.mono _ _
      | exact LeO.none _
      | refine LeO.ite ?_ ?_
      | refine LeO.bind ?_ (fun _ => ?_)
theorem laws_FnParamsBackN.mono : ∀ a0 a1 a2 k, LeO (laws_FnParamsBackN.f k a0 a1 a2) (laws_FnParamsBackN.f (k + 1) a0 a1 a2) := by
  intro a0 a1 a2 k
  obtain ⟨ih0, ih1, ih2, ih3⟩ := laws_FnParamsBackN.mono_l k
  unfold laws_FnParamsBackN.f
  repeat' first
      | (with_reducible exact ih0 _ _ _ _)
      | (with_reducible exact ih1 _ _ _ _)
      | (with_reducible exact ih2 _ _ _ _)
      | (with_reducible exact ih3 _ _ _ _ _)
      | (with_reducible exact impl_Params.mono _ _ _)
      | (with_reducible exact laws_given.mono _ _ _)
      | (with_reducible exact laws_plainParams.mono _ _)
      | (with_reducible exact laws_samePairs.mono _ _ _)
      | (with_reducible exact laws_zzFits1.mono _ _)
      | (with_reducible exact LeO.refl _)
      | (with_reducible exact LeO.none _)
      | (with_reducible refine LeO.ite ?_ ?_)
      | (with_reducible refine LeO.bind ?_ (fun _ => ?_))
      | exact ih0 _ _ _ _
      | exact ih1 _ _ _ _
      | exact ih2 _ _ _ _
      | exact ih3 _ _ _ _ _
      | exact impl_Params.mono _ _ _
      | exact laws_given.mono _ _ _
      | exact laws_plainParams.mono _ _
      | exact laws_samePairs.mono _ _ _
      | exact laws_zzFits1.mono _ _
      | exact LeO.none _
      | refine LeO.ite ?_ ?_
      | refine LeO.bind ?_ (fun _ => ?_)
def laws_FnParamsBackN.T11 : Bool × List (List Nat × List Nat) := (true, [([], []), ([], []), ([1], [1]), ([0, 2], [0, 2]), ([3], [3]), ([4], [4]), ([5, 4], [4, 5]), ([6, 4, 4], [4, 6]), ([4], [4]), ([4], [4]), ([8, 9, 4], [4, 8, 9]), ([10, 4], [4, 10]), ([11, 4], [4, 11]), ([12, 7, 4], [4, 12]), ([7, 13, 4], [4, 7, 13]), ([4, 14], [4, 14]), ([15, 13], [15]), ([16], [16]), ([17, 16], [16, 17]), ([18, 16, 16], [16, 18]), ([19], [19]), ([20, 19], [19, 20]), ([19], [19]), ([19], [19]), ([22, 23, 19], [19, 22, 23]), ([24, 19], [19, 24]), ([25, 19], [19, 25]), ([21, 26, 19], [19, 21, 26]), ([19, 27, 16], [16, 19, 27]), ([16, 28], [16, 28])])
def laws_FnParamsBackN.B11 : List Nat := [0, 0, 2, 7, 15, 31, 63, 127, 31, 31, 799, 1823, 3871, 8191, 16383, 32767, 65535, 131071, 262143, 524287, 1048575, 2097151, 1048575, 1048575, 13631487, 30408703, 63963135, 134217727, 268435455, 536870911]
theorem laws_FnParamsBackN.tab11 : rtab .any (opsOf Try.f7 11) = laws_FnParamsBackN.T11 := by kernel_rfl
theorem laws_FnParamsBackN.bits11 : waitsOk laws_FnParamsBackN.T11.2 laws_FnParamsBackN.B11 = true := by kernel_rfl
set_option maxHeartbeats 8000000 in
set_option maxRecDepth 100000 in
theorem laws_FnParamsBackN.calls (k : Nat) (A0 : Option Addr) (c0 : Nat) (l0 : List (S47)) (c1 : Nat) (l1 : List Int) (a2 : Int) (r : Bool) (w : World) (hr0 : Kd.C k47 w A0 l0.length l0) (hc0 : l0.length ≤ c0) (hr1 : Kd.C (Kd.int .u8) w none l1.length l1) (hc1 : l1.length ≤ c1) (h : laws_FnParamsBackN.f k l0 l1 a2 = some r) :
    Calls Try.prog 7 #[.slice A0 l0.length c0, .slice none l1.length c1, .int .i64 a2] w fun e w' => e = .returned (.bool r) ∧ Below w.heap.size w w' := by
  have qN_ : ∀ W : World, (binOp .eql 30 (.slice none l1.length c1) (.slice none 0 0)).run Try.prog W = .ok (.bool true) W := fun W => Lib.run_eql_slice_nil W _ _ _ _ _ _ _ Try.underlying30
  have hu47 := Try.underlying47
  have HR0 := Aside0.mk hr0
  have HC0 := Aside0.mk hc0
  clear hr0 hc0
  have HR1 := Aside0.mk hr1
  have HC1 := Aside0.mk hc1
  clear hr1 hc1
  have HB := Aside0.mk (Below.refl w.heap.size w)
  have H : ((laws_zzFits1.f k l0).bind fun t313 => (if t313 = true then (laws_FnParamsBackN.j0 k l0 l1 a2 (decide ((l1.length : Int) > 2147483647))) else (laws_FnParamsBackN.j0 k l0 l1 a2 true))) = some r := h
  clear h
  have HC4 := Aside0.mk H
  clear H
  go_enter Try.func7, Try.ntmps7
  go_upto_region 1 with (fail)
  go_cut [20] (fun v20 wc => ∃ (kq : Nat) (x20_3 : Bool), v20 = .bool x20_3 ∧ Aside0 (laws_FnParamsBackN.j0 kq l0 l1 a2 x20_3 = some r) ∧ Aside0 (kq ≤ k) ∧ Aside0 (Below w.heap.size w wc))
  case first =>
    have H := HC4.out
    clear HC4
    replace H := Option.bind_eq_some_iff.mp H
    obtain ⟨t313, A50, H⟩ := H
    replace H : (if t313 = true then (laws_FnParamsBackN.j0 k l0 l1 a2 (decide ((l1.length : Int) > 2147483647))) else (laws_FnParamsBackN.j0 k l0 l1 a2 true)) = some r := H
    have A5 := Aside0.mk A50
    clear A50
    by_cases c6 : t313 = true
    · subst c6
      have H1 : (laws_FnParamsBackN.j0 k l0 l1 a2 (decide ((l1.length : Int) > 2147483647))) = some r := by rw [if_pos rfl] at H; exact H
      clear H
      have H := H1
      clear H1
      have H' := Aside0.mk H
      clear H
      go_wp2_with (first | ((with_reducible refine gate_callee (f := 25) rfl ?_); refine goesL_ (some 14) rfl rfl Try.func25 (by kernel_rfl) rfl #[.slice A0 l0.length c0] rfl (by (try simp only [List.map_toArray, List.map_cons, List.map_nil]); first | done | rfl | (simp only [List.length_drop, List.length_take]; rfl)) ?_; (with_reducible refine (laws_zzFits1.calls k _ _ l0 true _ ?side1 ?side2 A5.out).mono ?_); (case side1 => repeat (first | exact (Kd.C_below HR0.out HB.out) | (with_reducible refine Kd.C_alloc ?_ _) | (with_reducible refine Kd.C_drewN ?_ _) | (with_reducible refine Kd.C_drew ?_))); (case side2 => exact HC0.out); rintro e w7 ⟨rfl, hb⟩; refine ⟨_, rfl, ?_⟩; have n0_ := Aside0.mk (below_step (by repeat (first | (with_reducible first | exact HB.out | apply below_alloc | apply pw_below_drewN | apply below_drew1) | exact HB.out)) hb); clear HB; have HB := n0_; clear n0_; (try clear hb); (try clear hb2); (try clear hk); (try clear hi)))
      go_meet
      case rel => exact ⟨_, (decide ((l1.length : Int) > 2147483647)), (by first | rfl | (simp; done) | (rw [prx_ne]; first | done | rfl) | (simp [*]; done)), H', ⟨by first | omega | exact Nat.le_refl _⟩, ⟨by repeat (first | (with_reducible first | exact HB.out | apply below_alloc | apply pw_below_drewN | apply below_drew1) | exact HB.out)⟩⟩
    · replace c6 := Bool.eq_false_iff.mpr c6
      subst c6
      have H1 : (laws_FnParamsBackN.j0 k l0 l1 a2 true) = some r := by rw [if_neg (show ¬ (false = true) by decide)] at H; exact H
      clear H
      have H := H1
      clear H1
      have H' := Aside0.mk H
      clear H
      go_wp2_with (first | ((with_reducible refine gate_callee (f := 25) rfl ?_); refine goesL_ (some 14) rfl rfl Try.func25 (by kernel_rfl) rfl #[.slice A0 l0.length c0] rfl (by (try simp only [List.map_toArray, List.map_cons, List.map_nil]); first | done | rfl | (simp only [List.length_drop, List.length_take]; rfl)) ?_; (with_reducible refine (laws_zzFits1.calls k _ _ l0 false _ ?side1 ?side2 A5.out).mono ?_); (case side1 => repeat (first | exact (Kd.C_below HR0.out HB.out) | (with_reducible refine Kd.C_alloc ?_ _) | (with_reducible refine Kd.C_drewN ?_ _) | (with_reducible refine Kd.C_drew ?_))); (case side2 => exact HC0.out); rintro e w8 ⟨rfl, hb⟩; refine ⟨_, rfl, ?_⟩; have n0_ := Aside0.mk (below_step (by repeat (first | (with_reducible first | exact HB.out | apply below_alloc | apply pw_below_drewN | apply below_drew1) | exact HB.out)) hb); clear HB; have HB := n0_; clear n0_; (try clear hb); (try clear hb2); (try clear hk); (try clear hi)))
      go_meet
      case rel => exact ⟨_, (true), (by first | rfl | (simp; done) | (rw [prx_ne]; first | done | rfl) | (simp [*]; done)), H', ⟨by first | omega | exact Nat.le_refl _⟩, ⟨by repeat (first | (with_reducible first | exact HB.out | apply below_alloc | apply pw_below_drewN | apply below_drew1) | exact HB.out)⟩⟩
  case rest =>
    clear HC4
    try clear c1
    try clear c2
    try clear p2
    try clear c6
    try clear c7
    obtain ⟨kq, x20_3, rfl, HA, HJ3, HB⟩ := hcut
    cases kq with
    | zero => exact absurd HA.out (by simp [laws_FnParamsBackN.j0])
    | succ kj3 =>
      have H := HA.out
      clear HA
      simp only [laws_FnParamsBackN.j0] at H
      by_cases c9 : x20_3 = true
      · subst c9
        have H1 : (some true) = some r := by rw [if_pos rfl] at H; exact H
        clear H
        have H := H1
        clear H1
        obtain rfl := Option.some.inj H
        go_wp2
        go_ret
        exact ⟨by first | rfl | (simp [errW_none, errW_some] <;> rfl) | (simp [*, errW_none, errW_some] <;> rfl), by repeat (first | (with_reducible first | exact HB.out | apply below_alloc | apply pw_below_drewN | apply below_drew1) | exact HB.out)⟩
      · replace c9 := Bool.eq_false_iff.mpr c9
        subst c9
        have H1 : ((impl_Params.f kj3 (⟨#[59, 97, 61, 98]⟩ : ByteArray) (-1)).bind fun t314 => (if (t314.length : Int) = 1 then (if 0 < (t314.length : Int) then (laws_FnParamsBackN.j1 kj3 l0 l1 a2 (!((((rd_T47 t314 0).f0).toList) == ([97] : List UInt8)) || (!((((rd_T47 t314 0).f1).toList) == ([98] : List UInt8))))) else (none)) else (laws_FnParamsBackN.j1 kj3 l0 l1 a2 true))) = some r := by rw [if_neg (show ¬ (false = true) by decide)] at H; exact H
        clear H
        have H := H1
        clear H1
        replace H := Option.bind_eq_some_iff.mp H
        obtain ⟨t314, A100, H⟩ := H
        replace H : (if (t314.length : Int) = 1 then (if 0 < (t314.length : Int) then (laws_FnParamsBackN.j1 kj3 l0 l1 a2 (!((((rd_T47 t314 0).f0).toList) == ([97] : List UInt8)) || (!((((rd_T47 t314 0).f1).toList) == ([98] : List UInt8))))) else (none)) else (laws_FnParamsBackN.j1 kj3 l0 l1 a2 true)) = some r := H
        have A10 := Aside0.mk A100
        clear A100
        have HC11 := Aside0.mk H
        clear H
        go_upto_region 4 with (first | ((with_reducible refine gate_callee (f := 26) rfl ?_); refine goesL_ (some 21) rfl rfl Try.func26 (by kernel_rfl) rfl #[.string (⟨#[59, 97, 61, 98]⟩ : ByteArray), .int .i64 (-1)] rfl (by (try simp only [List.map_toArray, List.map_cons, List.map_nil]); first | done | rfl | (simp only [List.length_drop, List.length_take]; rfl)) ?_; (with_reducible refine (impl_Params.calls kj3 (⟨#[59, 97, 61, 98]⟩ : ByteArray) (-1) t314 _ A10.out).mono ?_); rintro e w12 ⟨v315, rfl, ho0, hb⟩; refine ⟨_, rfl, ?_⟩; have n0_ := Aside0.mk (Kd.R_lower ho0 (below_size (by repeat (first | (with_reducible first | exact HB.out | apply below_alloc | apply pw_below_drewN | apply below_drew1) | exact HB.out)))); have n1_ := Aside0.mk (below_step (by repeat (first | (with_reducible first | exact HB.out | apply below_alloc | apply pw_below_drewN | apply below_drew1) | exact HB.out)) hb); clear HB; have HO316 := n0_; have HB := n1_; clear n0_ n1_; (try clear hb); (try clear hb2); (try clear hk); (try clear hi); (try clear ho0)))
        (try simp only [Act.put, List.setIfInBounds_toArray, List.set_cons_zero, List.set_cons_succ])
        go_cut [31] (fun v31 wc => ∃ (kq : Nat) (x31_10 : Bool), v31 = .bool x31_10 ∧ Aside0 (laws_FnParamsBackN.j1 kq l0 l1 a2 x31_10 = some r) ∧ Aside0 (kq ≤ kj3) ∧ Aside0 (Below w.heap.size w wc))
        case first =>
          have H := HC11.out
          clear HC11
          by_cases c13 : (t314.length : Int) = 1
          · rw [if_pos c13] at H
            have c13b0 : ((t314.length : Int) == 1) = true := beq_iff_eq.mpr c13
            have c13b1 : ((t314.length : Int) != 1) = false := bne_eq_false_iff_eq.mpr c13
            clear c13
            (first | rw [c13b0] | (simp only [i64_w, i32_w]; rw [c13b0]) | skip)
            by_cases c14 : 0 < (t314.length : Int)
            · rw [if_pos c14] at H
              have c14b0 : decide (0 < (t314.length : Int)) = true := decide_eq_true c14
              have c14b1 : decide (0 < t314.length) = true := decide_eq_true (by omega)
              clear c14
              have H' := Aside0.mk H
              clear H
              obtain ⟨Ao15, co15, eo15⟩ := Kd.R_slice HO316.out
              subst eo15
              have p317 : 0 ≤ (0 : Int) := (by omega)
              have q317 : 0 < (t314.length : Int) := of_decide_eq_true (by first | (with_reducible assumption) | assumption)
              obtain ⟨ad317, e317, hx317_0, hx317_1⟩ := at_T47 (Kd.R_reads' HO316.out).2.2 0 p317 q317
              cases e317
              have qi317 : (0 < t314.length) = True := eq_true (by omega)
              (try rw [show ((0 : Int)).toNat = 0 from rfl] at hx317_0)
              (try rw [show 0 * 2 = 0 from rfl] at hx317_0)
              (try rw [Addr.add_zero'] at hx317_0)
              (try rw [show ((0 : Int)).toNat = 0 from rfl] at hx317_1)
              (try rw [show 0 * 2 = 0 from rfl] at hx317_1)
              (try rw [Addr.add_zero'] at hx317_1)
              replace p317 := eq_true p317
              replace q317 := eq_true q317
              go_wp2
              go_meet
              case rel => exact ⟨_, ((!((((rd_T47 t314 0).f0).toList) == ([97] : List UInt8)) || (!((((rd_T47 t314 0).f1).toList) == ([98] : List UInt8))))), (by first | rfl | (simp; done) | (rw [prx_ne]; first | done | rfl) | (simp [*]; done)), H', ⟨by have := HJ3.out; first | omega | exact Nat.le_refl _⟩, ⟨by repeat (first | (with_reducible first | exact HB.out | apply below_alloc | apply pw_below_drewN | apply below_drew1) | exact HB.out)⟩⟩
            · rw [if_neg c14] at H
              exact absurd H (by simp)
          · rw [if_neg c13] at H
            have c13b0 : ((t314.length : Int) == 1) = false := beq_eq_false_iff_ne.mpr c13
            have c13b1 : ((t314.length : Int) != 1) = true := bne_iff_ne.mpr c13
            (first | rw [c13b0] | (simp only [i64_w, i32_w]; rw [c13b0]) | skip)
            have H' := Aside0.mk H
            clear H
            obtain ⟨Ao16, co16, eo16⟩ := Kd.R_slice HO316.out
            subst eo16
            go_wp2
            go_meet
            case rel => exact ⟨_, (true), (by first | rfl | (simp; done) | (rw [prx_ne]; first | done | rfl) | (simp [*]; done)), H', ⟨by have := HJ3.out; first | omega | exact Nat.le_refl _⟩, ⟨by repeat (first | (with_reducible first | exact HB.out | apply below_alloc | apply pw_below_drewN | apply below_drew1) | exact HB.out)⟩⟩
        case rest =>
          clear HC11
          try clear c1
          try clear c2
          try clear p2
          try clear p3
          try clear q3
          try clear hx3
          try clear qi3
          try clear c6
          try clear c7
          try clear c9
          try clear c13
          try clear c13b0
          try clear c13b1
          try clear c14
          try clear c14b0
          try clear c14b1
          try clear hx317_0
          try clear hx317_1
          try clear p2
          try clear p317
          try clear q317
          obtain ⟨kq, x31_10, rfl, HA, HJ10, HB⟩ := hcut
          cases kq with
          | zero => exact absurd HA.out (by simp [laws_FnParamsBackN.j1])
          | succ kj10 =>
            have H := HA.out
            clear HA
            simp only [laws_FnParamsBackN.j1] at H
            by_cases c17 : x31_10 = true
            · subst c17
              have H1 : (some false) = some r := by rw [if_pos rfl] at H; exact H
              clear H
              have H := H1
              clear H1
              obtain rfl := Option.some.inj H
              go_wp2
              go_ret
              exact ⟨by first | rfl | (simp [errW_none, errW_some] <;> rfl) | (simp [*, errW_none, errW_some] <;> rfl), by repeat (first | (with_reducible first | exact HB.out | apply below_alloc | apply pw_below_drewN | apply below_drew1) | exact HB.out)⟩
            · replace c17 := Bool.eq_false_iff.mpr c17
              subst c17
              have H1 : ((laws_plainParams.f kj10 l0).bind fun t318 => (if t318 = true then (if a2 < 0 then (laws_FnParamsBackN.j2 kj10 l0 l1 a2 true) else (laws_FnParamsBackN.j2 kj10 l0 l1 a2 (decide (a2 > 20)))) else (laws_FnParamsBackN.j2 kj10 l0 l1 a2 true))) = some r := by rw [if_neg (show ¬ (false = true) by decide)] at H; exact H
              clear H
              have H := H1
              clear H1
              have HC18 := Aside0.mk H
              clear H
              go_upto_region 6 with (fail)
              go_cut [42] (fun v42 wc => ∃ (kq : Nat) (x42_17 : Bool), v42 = .bool x42_17 ∧ Aside0 (laws_FnParamsBackN.j2 kq l0 l1 a2 x42_17 = some r) ∧ Aside0 (kq ≤ kj10) ∧ Aside0 (Below w.heap.size w wc))
              case first =>
                have H := HC18.out
                clear HC18
                replace H := Option.bind_eq_some_iff.mp H
                obtain ⟨t318, A190, H⟩ := H
                replace H : (if t318 = true then (if a2 < 0 then (laws_FnParamsBackN.j2 kj10 l0 l1 a2 true) else (laws_FnParamsBackN.j2 kj10 l0 l1 a2 (decide (a2 > 20)))) else (laws_FnParamsBackN.j2 kj10 l0 l1 a2 true)) = some r := H
                have A19 := Aside0.mk A190
                clear A190
                by_cases c20 : t318 = true
                · subst c20
                  have H1 : (if a2 < 0 then (laws_FnParamsBackN.j2 kj10 l0 l1 a2 true) else (laws_FnParamsBackN.j2 kj10 l0 l1 a2 (decide (a2 > 20)))) = some r := by rw [if_pos rfl] at H; exact H
                  clear H
                  have H := H1
                  clear H1
                  by_cases c21 : a2 < 0
                  · rw [if_pos c21] at H
                    have c21b0 : decide (a2 < 0) = true := decide_eq_true c21
                    clear c21
                    (first | rw [c21b0] | (simp only [i64_w, i32_w]; rw [c21b0]) | skip)
                    have H' := Aside0.mk H
                    clear H
                    go_wp2_with (first | ((with_reducible refine gate_callee (f := 27) rfl ?_); refine goesL_ (some 33) rfl rfl Try.func27 (by kernel_rfl) rfl #[.slice A0 l0.length c0] rfl (by (try simp only [List.map_toArray, List.map_cons, List.map_nil]); first | done | rfl | (simp only [List.length_drop, List.length_take]; rfl)) ?_; (with_reducible refine (laws_plainParams.calls kj10 _ _ l0 true _ ?side1 ?side2 A19.out).mono ?_); (case side1 => repeat (first | exact (Kd.C_below HR0.out HB.out) | (with_reducible refine Kd.C_alloc ?_ _) | (with_reducible refine Kd.C_drewN ?_ _) | (with_reducible refine Kd.C_drew ?_))); (case side2 => exact HC0.out); rintro e w22 ⟨rfl, hb⟩; refine ⟨_, rfl, ?_⟩; have n0_ := Aside0.mk (below_step (by repeat (first | (with_reducible first | exact HB.out | apply below_alloc | apply pw_below_drewN | apply below_drew1) | exact HB.out)) hb); clear HB; have HB := n0_; clear n0_; (try clear hb); (try clear hb2); (try clear hk); (try clear hi)))
                    go_meet
                    case rel => exact ⟨_, (true), (by first | rfl | (simp; done) | (rw [prx_ne]; first | done | rfl) | (simp [*]; done)), H', ⟨by have := HJ3.out; have := HJ10.out; first | omega | exact Nat.le_refl _⟩, ⟨by repeat (first | (with_reducible first | exact HB.out | apply below_alloc | apply pw_below_drewN | apply below_drew1) | exact HB.out)⟩⟩
                  · rw [if_neg c21] at H
                    have c21b0 : decide (a2 < 0) = false := decide_eq_false c21
                    clear c21
                    (first | rw [c21b0] | (simp only [i64_w, i32_w]; rw [c21b0]) | skip)
                    have H' := Aside0.mk H
                    clear H
                    go_wp2_with (first | ((with_reducible refine gate_callee (f := 27) rfl ?_); refine goesL_ (some 33) rfl rfl Try.func27 (by kernel_rfl) rfl #[.slice A0 l0.length c0] rfl (by (try simp only [List.map_toArray, List.map_cons, List.map_nil]); first | done | rfl | (simp only [List.length_drop, List.length_take]; rfl)) ?_; (with_reducible refine (laws_plainParams.calls kj10 _ _ l0 true _ ?side1 ?side2 A19.out).mono ?_); (case side1 => repeat (first | exact (Kd.C_below HR0.out HB.out) | (with_reducible refine Kd.C_alloc ?_ _) | (with_reducible refine Kd.C_drewN ?_ _) | (with_reducible refine Kd.C_drew ?_))); (case side2 => exact HC0.out); rintro e w23 ⟨rfl, hb⟩; refine ⟨_, rfl, ?_⟩; have n0_ := Aside0.mk (below_step (by repeat (first | (with_reducible first | exact HB.out | apply below_alloc | apply pw_below_drewN | apply below_drew1) | exact HB.out)) hb); clear HB; have HB := n0_; clear n0_; (try clear hb); (try clear hb2); (try clear hk); (try clear hi)))
                    go_meet
                    case rel => exact ⟨_, (decide (a2 > 20)), (by first | rfl | (simp; done) | (rw [prx_ne]; first | done | rfl) | (simp [*]; done)), H', ⟨by have := HJ3.out; have := HJ10.out; first | omega | exact Nat.le_refl _⟩, ⟨by repeat (first | (with_reducible first | exact HB.out | apply below_alloc | apply pw_below_drewN | apply below_drew1) | exact HB.out)⟩⟩
                · replace c20 := Bool.eq_false_iff.mpr c20
                  subst c20
                  have H1 : (laws_FnParamsBackN.j2 kj10 l0 l1 a2 true) = some r := by rw [if_neg (show ¬ (false = true) by decide)] at H; exact H
                  clear H
                  have H := H1
                  clear H1
                  have H' := Aside0.mk H
                  clear H
                  go_wp2_with (first | ((with_reducible refine gate_callee (f := 27) rfl ?_); refine goesL_ (some 33) rfl rfl Try.func27 (by kernel_rfl) rfl #[.slice A0 l0.length c0] rfl (by (try simp only [List.map_toArray, List.map_cons, List.map_nil]); first | done | rfl | (simp only [List.length_drop, List.length_take]; rfl)) ?_; (with_reducible refine (laws_plainParams.calls kj10 _ _ l0 false _ ?side1 ?side2 A19.out).mono ?_); (case side1 => repeat (first | exact (Kd.C_below HR0.out HB.out) | (with_reducible refine Kd.C_alloc ?_ _) | (with_reducible refine Kd.C_drewN ?_ _) | (with_reducible refine Kd.C_drew ?_))); (case side2 => exact HC0.out); rintro e w24 ⟨rfl, hb⟩; refine ⟨_, rfl, ?_⟩; have n0_ := Aside0.mk (below_step (by repeat (first | (with_reducible first | exact HB.out | apply below_alloc | apply pw_below_drewN | apply below_drew1) | exact HB.out)) hb); clear HB; have HB := n0_; clear n0_; (try clear hb); (try clear hb2); (try clear hk); (try clear hi)))
                  go_meet
                  case rel => exact ⟨_, (true), (by first | rfl | (simp; done) | (rw [prx_ne]; first | done | rfl) | (simp [*]; done)), H', ⟨by have := HJ3.out; have := HJ10.out; first | omega | exact Nat.le_refl _⟩, ⟨by repeat (first | (with_reducible first | exact HB.out | apply below_alloc | apply pw_below_drewN | apply below_drew1) | exact HB.out)⟩⟩
              case rest =>
                clear HC18
                try clear c1
                try clear c2
                try clear p2
                try clear p3
                try clear q3
                try clear hx3
                try clear qi3
                try clear c6
                try clear c7
                try clear c9
                try clear c13
                try clear c13b0
                try clear c13b1
                try clear c14
                try clear c14b0
                try clear c14b1
                try clear c17
                try clear c20
                try clear c21
                try clear c21b0
                try clear hx317_0
                try clear hx317_1
                try clear p2
                try clear p3
                try clear p317
                try clear q3
                try clear q317
                obtain ⟨kq, x42_17, rfl, HA, HJ17, HB⟩ := hcut
                cases kq with
                | zero => exact absurd HA.out (by simp [laws_FnParamsBackN.j2])
                | succ kj17 =>
                  have H := HA.out
                  clear HA
                  simp only [laws_FnParamsBackN.j2] at H
                  by_cases c25 : x42_17 = true
                  · subst c25
                    have H1 : (some true) = some r := by rw [if_pos rfl] at H; exact H
                    clear H
                    have H := H1
                    clear H1
                    obtain rfl := Option.some.inj H
                    go_wp2
                    go_ret
                    exact ⟨by first | rfl | (simp [errW_none, errW_some] <;> rfl) | (simp [*, errW_none, errW_some] <;> rfl), by repeat (first | (with_reducible first | exact HB.out | apply below_alloc | apply pw_below_drewN | apply below_drew1) | exact HB.out)⟩
                  · replace c25 := Bool.eq_false_iff.mpr c25
                    subst c25
                    have H1 : ((laws_given.f kj17 l0 l1).bind fun t319 => ((impl_Params.f kj17 t319 (-1)).bind fun t320 => (laws_FnParamsBackN.l0 kj17 l0 a2 t320 (t320.length : Int) 0))) = some r := by rw [if_neg (show ¬ (false = true) by decide)] at H; exact H
                    clear H
                    have H := H1
                    clear H1
                    replace H := Option.bind_eq_some_iff.mp H
                    obtain ⟨t319, A260, H⟩ := H
                    replace H : ((impl_Params.f kj17 t319 (-1)).bind fun t320 => (laws_FnParamsBackN.l0 kj17 l0 a2 t320 (t320.length : Int) 0)) = some r := H
                    have A26 := Aside0.mk A260
                    clear A260
                    replace H := Option.bind_eq_some_iff.mp H
                    obtain ⟨t320, A270, H⟩ := H
                    replace H : (laws_FnParamsBackN.l0 kj17 l0 a2 t320 (t320.length : Int) 0) = some r := H
                    have A27 := Aside0.mk A270
                    clear A270
                    have H' := Aside0.mk H
                    clear H
                    go_wp2_with (first | ((with_reducible refine gate_callee (f := 28) rfl ?_); refine goesL_ (some 45) rfl rfl Try.func28 (by kernel_rfl) rfl #[.slice A0 l0.length c0, .slice none l1.length c1] rfl (by (try simp only [List.map_toArray, List.map_cons, List.map_nil]); first | done | rfl | (simp only [List.length_drop, List.length_take]; rfl)) ?_; (with_reducible refine (laws_given.calls kj17 _ _ l0 _ _ l1 t319 _ ?side1 ?side2 ?side3 ?side4 A26.out).mono ?_); (case side1 => repeat (first | exact (Kd.C_below HR0.out HB.out) | (with_reducible refine Kd.C_alloc ?_ _) | (with_reducible refine Kd.C_drewN ?_ _) | (with_reducible refine Kd.C_drew ?_))); (case side2 => exact HC0.out); (case side3 => repeat (first | exact (Kd.C_below HR1.out HB.out) | (with_reducible refine Kd.C_alloc ?_ _) | (with_reducible refine Kd.C_drewN ?_ _) | (with_reducible refine Kd.C_drew ?_))); (case side4 => exact HC1.out); rintro e w28 ⟨rfl, hb⟩; refine ⟨_, rfl, ?_⟩; have n0_ := Aside0.mk (below_step (by repeat (first | (with_reducible first | exact HB.out | apply below_alloc | apply pw_below_drewN | apply below_drew1) | exact HB.out)) hb); clear HB; have HB := n0_; clear n0_; (try clear hb); (try clear hb2); (try clear hk); (try clear hi)) | ((with_reducible refine gate_callee (f := 26) rfl ?_); refine goesL_ (some 46) rfl rfl Try.func26 (by kernel_rfl) rfl #[.string t319, .int .i64 (-1)] rfl (by (try simp only [List.map_toArray, List.map_cons, List.map_nil]); first | done | rfl | (simp only [List.length_drop, List.length_take]; rfl)) ?_; (with_reducible refine (impl_Params.calls kj17 t319 (-1) t320 _ A27.out).mono ?_); rintro e w29 ⟨v321, rfl, ho0, hb⟩; refine ⟨_, rfl, ?_⟩; have n0_ := Aside0.mk (Kd.R_lower ho0 (below_size (by repeat (first | (with_reducible first | exact HB.out | apply below_alloc | apply pw_below_drewN | apply below_drew1) | exact HB.out)))); have n1_ := Aside0.mk (below_step (by repeat (first | (with_reducible first | exact HB.out | apply below_alloc | apply pw_below_drewN | apply below_drew1) | exact HB.out)) hb); clear HB; have HO322 := n0_; have HB := n1_; clear n0_ n1_; (try clear hb); (try clear hb2); (try clear hk); (try clear hi); (try clear ho0); obtain ⟨Ao30, co30, eo30⟩ := Kd.R_slice HO322.out; subst eo30))
                    go_loopg [48] kj17 (fun kq v48 w' => ∃ (x48_4 : Int), v48 = .int .i64 x48_4 ∧ Aside0 (laws_FnParamsBackN.l0 kq l0 a2 t320 (t320.length : Int) x48_4 = some r) ∧ Aside0 (kq ≤ kj17) ∧ Aside0 (Kd.R k47 47 w' w.heap.size (fun _ => True) (.slice Ao30 t320.length co30) t320) ∧ Aside0 (Below w.heap.size w w'))
                    case atStart => exact ⟨(0), (by first | rfl | (simp; done) | (rw [prx_ne]; first | done | rfl) | (simp [*]; done)), H', ⟨Nat.le_refl _⟩, ⟨by (with_reducible repeat (first | apply Kd.R_alloc | apply Kd.R_drewN | apply Kd.R_drew)); exact HO322.out⟩, ⟨by repeat (first | (with_reducible first | exact HB.out | apply below_alloc | apply pw_below_drewN | apply below_drew1) | exact HB.out)⟩⟩
                    case round =>
                      clear H'
                      try clear c1
                      try clear c2
                      try clear p2
                      try clear p3
                      try clear q3
                      try clear hx3
                      try clear qi3
                      try clear c6
                      try clear c7
                      try clear c9
                      try clear c13
                      try clear c13b0
                      try clear c13b1
                      try clear c14
                      try clear c14b0
                      try clear c14b1
                      try clear c17
                      try clear c20
                      try clear c21
                      try clear c21b0
                      try clear c25
                      try clear c26
                      try clear c27
                      try clear c28
                      try clear hx317_0
                      try clear hx317_1
                      try clear p2
                      try clear p3
                      try clear p317
                      try clear q3
                      try clear q317
                      obtain ⟨x48_4, rfl, HA, HK4, HO_46, HB⟩ := hrel
                      cases gk with
                      | zero => exact absurd HA.out (by simp [laws_FnParamsBackN.l0])
                      | succ k4 =>
                        have H := HA.out
                        clear HA
                        simp only [laws_FnParamsBackN.l0] at H
                        by_cases c31 : x48_4 < (t320.length : Int)
                        · rw [if_pos c31] at H
                          have c31b0 : decide (x48_4 < (t320.length : Int)) = true := decide_eq_true c31
                          clear c31
                          by_cases c32 : 0 ≤ x48_4
                          · rw [if_pos c32] at H
                            have c32b0 : decide (0 ≤ x48_4) = true := decide_eq_true c32
                            clear c32
                            by_cases c33 : x48_4 < (t320.length : Int)
                            · rw [if_pos c33] at H
                              have c33b0 : decide (x48_4 < (t320.length : Int)) = true := decide_eq_true c33
                              clear c33
                              by_cases c34 : x48_4 ≥ (l0.length : Int)
                              · rw [if_pos c34] at H
                                have c34b0 : decide ((l0.length : Int) ≤ x48_4) = true := decide_eq_true c34
                                clear c34
                                obtain rfl := Option.some.inj H
                                have p323 : 0 ≤ (x48_4 : Int) := of_decide_eq_true (by first | (with_reducible assumption) | assumption)
                                have q323 : x48_4 < (t320.length : Int) := of_decide_eq_true (by first | (with_reducible assumption) | assumption)
                                obtain ⟨ad323, e323, hx323_0, hx323_1⟩ := at_T47 (Kd.R_reads' HO_46.out).2.2 x48_4 p323 q323
                                cases e323
                                replace p323 := eq_true p323
                                replace q323 := eq_true q323
                                try go_wp2_with (first | ((with_reducible refine gate_dst (N := 9) rfl ?_); (try (refine gate_guard (by rfl) ?_; dsimp only)); refine box_event ?hg (N := 9) ?hd (cs := #[.string (⟨#[]⟩ : ByteArray), .string (⟨#[]⟩ : ByteArray)]) (t := 47) ?hr ?_; (case hd => rfl); (case hg => rfl); (case hr => first | (go_simp; done) | (go_simp; rfl)); intro gb324 hg w35 hbox hb; have n0_ := Aside0.mk (Kd.R_below (Kd.R_elderB (by (with_reducible repeat (first | apply Kd.R_alloc | apply Kd.R_drewN | apply Kd.R_drew)); exact HO_46.out) gb324 (Nat.le_of_eq hg.symm)) hb); have n1_ := Aside0.mk (below_step (by repeat (first | (with_reducible first | exact HB.out | apply below_alloc | apply pw_below_drewN | apply below_drew1) | exact HB.out)) hb); have n2_ := Aside0.mk (hbox); have n3_ := Aside0.mk ((by rw [hg]; exact (below_size (by repeat (first | (with_reducible first | exact HB.out | apply below_alloc | apply pw_below_drewN | apply below_drew1) | exact HB.out))) : w.heap.size ≤ gb324)); have n4_ := Aside0.mk ((by rw [hg]; exact (below_size (by repeat (first | (with_reducible first | exact HB.out | apply below_alloc | apply pw_below_drewN | apply below_drew1) | exact HB.out))) : w.heap.size ≤ gb324)); clear HO_46; clear HB; have HO_46 := n0_; have HB := n1_; have BK324 := n2_; have GW324 := n3_; have GE324 := n4_; clear n0_ n1_ n2_ n3_ n4_; clear hb hbox hg; have hcz36_0 : w35.cell? ⟨gb324, 0, none⟩ = some (.string (⟨#[]⟩ : ByteArray)) := (blk_cell BK324.out 0).trans rfl; have hcz36_1 : w35.cell? ⟨gb324, 1, none⟩ = some (.string (⟨#[]⟩ : ByteArray)) := (blk_cell BK324.out 1).trans rfl; have hfz36_0 := blk_frozen BK324.out 0; have hfz36_1 := blk_frozen BK324.out 1))
                                have n0_ : Aside0 (Kd.R k47 47 ((w35.setCell ⟨gb324, 0, none⟩ (.string ((rd_T47 t320 x48_4).f0))).setCell ⟨gb324, 1, none⟩ (.string ((rd_T47 t320 x48_4).f1))) w.heap.size (fun k_ => k_ ≠ gb324) (.slice (some ad323) t320.length co30) t320) := ⟨by (with_reducible repeat (first | apply Kd.R_alloc | apply Kd.R_drewN | apply Kd.R_drew)); exact Kd.R_mono (Kd.R_far (p := ⟨gb324, 1, none⟩) (Kd.R_far (p := ⟨gb324, 0, none⟩) (Kd.R_mono HO_46.out (fun k_ hk => (⟨hk, hk.2⟩ : _ ∧ k_ ≠ gb324))) (fun _ hk => hk.2) (.string ((rd_T47 t320 x48_4).f0))) (fun _ hk => hk.2) (.string ((rd_T47 t320 x48_4).f1))) (fun _ hk => hk.1.2)⟩
                                have n1_ : Aside0 (((w35.setCell ⟨gb324, 0, none⟩ (.string ((rd_T47 t320 x48_4).f0))).setCell ⟨gb324, 1, none⟩ (.string ((rd_T47 t320 x48_4).f1))).heap[gb324]? = some (.cells #[.string ((rd_T47 t320 x48_4).f0), .string ((rd_T47 t320 x48_4).f1)] 47 (0, 0))) := ⟨by (with_reducible repeat (first | refine blk_drewN ?_ _ | refine blk_drew ?_ | refine blk_alloc ?_ _)); refine blk_put (cs := #[.string ((rd_T47 t320 x48_4).f0), .string (⟨#[]⟩ : ByteArray)]) ?_ 1 _ rfl; (with_reducible repeat (first | refine blk_drewN ?_ _ | refine blk_drew ?_ | refine blk_alloc ?_ _)); refine blk_put (cs := #[.string (⟨#[]⟩ : ByteArray), .string (⟨#[]⟩ : ByteArray)]) ?_ 0 _ rfl; (with_reducible repeat (first | refine blk_drewN ?_ _ | refine blk_drew ?_ | refine blk_alloc ?_ _)); exact BK324.out⟩
                                have n2_ : Aside0 (Below w.heap.size w ((w35.setCell ⟨gb324, 0, none⟩ (.string ((rd_T47 t320 x48_4).f0))).setCell ⟨gb324, 1, none⟩ (.string ((rd_T47 t320 x48_4).f1)))) := ⟨by repeat (first | (with_reducible first | exact HB.out | apply below_alloc | apply pw_below_drewN | apply below_drew1 | refine below_set ?_ GE324.out) | exact HB.out)⟩
                                (try clear HO_46)
                                (try clear BK324)
                                (try clear HB)
                                generalize ((w35.setCell ⟨gb324, 0, none⟩ (.string ((rd_T47 t320 x48_4).f0))).setCell ⟨gb324, 1, none⟩ (.string ((rd_T47 t320 x48_4).f1))) = w37 at n0_ n1_ n2_ ⊢
                                have HO_46 := n0_
                                have BK324 := n1_
                                have HB := n2_
                                clear n0_ n1_ n2_
                                have n0_ := Aside0.mk (Kd.R_drew HO_46.out)
                                have n1_ := Aside0.mk (blk_drew BK324.out)
                                have n2_ := Aside0.mk (below_drew1 HB.out)
                                clear HO_46
                                clear BK324
                                clear HB
                                have HO_46 := n0_
                                have BK324 := n1_
                                have HB := n2_
                                clear n0_ n1_ n2_
                                refine start_ (n := 30) (S := fun w' => True) (ds := []) #[false, false, false, false, false, false, false, false, false, false, false, false, false, false, false, false, false, false, false, false, false, false, false, false, false, false, false, false, false, false] (by kernel_rfl) rfl rfl trivial (fun hHeld => ?_); refine with_tabW laws_FnParamsBackN.tab11 laws_FnParamsBackN.bits11 (fun HT_ HW_ => ?_)
                                generalize w37.drew = w38 at HO_46 BK324 HB hHeld ⊢
                                refine pure_ (i := 0) (N := some 53) (v := ?_) (a' := ?_) #[true, false, false, false, false, false, false, false, false, false, false, false, false, false, false, false, false, false, false, false, false, false, false, false, false, false, false, false, false, false] rfl rfl (any_of HT_.out (by kernel_rfl)) (fun _ _ _ h => h) (Or.inl ⟨by rfl, ?_⟩) ?_ ?_
                                rotate_left
                                · intro w'
                                  go_simp
                                  with_reducible rfl
                                rotate_left
                                · simp only [Act.put, List.setIfInBounds_toArray, List.set_cons_zero, List.set_cons_succ, i64_w, i32_w]
                                  rfl
                                refine pure_ (i := 1) (N := some 54) (v := ?_) (a' := ?_) #[true, true, false, false, false, false, false, false, false, false, false, false, false, false, false, false, false, false, false, false, false, false, false, false, false, false, false, false, false, false] rfl rfl (any_of HT_.out (by kernel_rfl)) (fun _ _ _ h => h) (Or.inl ⟨by rfl, ?_⟩) ?_ ?_
                                rotate_left
                                · intro w'
                                  go_simp
                                  with_reducible rfl
                                rotate_left
                                · simp only [Act.put, List.setIfInBounds_toArray, List.set_cons_zero, List.set_cons_succ, i64_w, i32_w]
                                  rfl
                                refine pure_ (i := 2) (N := some 55) (v := ?_) (a' := ?_) #[true, true, true, false, false, false, false, false, false, false, false, false, false, false, false, false, false, false, false, false, false, false, false, false, false, false, false, false, false, false] rfl rfl (any_of HT_.out (by kernel_rfl)) (fun _ _ _ h => h) (Or.inl ⟨by rfl, ?_⟩) ?_ ?_
                                rotate_left
                                · intro w'
                                  go_simp
                                  with_reducible rfl
                                rotate_left
                                · simp only [Act.put, List.setIfInBounds_toArray, List.set_cons_zero, List.set_cons_succ, i64_w, i32_w]
                                  rfl
                                refine pure_ (i := 3) (N := some 56) (v := ?_) (a' := ?_) #[true, true, true, true, false, false, false, false, false, false, false, false, false, false, false, false, false, false, false, false, false, false, false, false, false, false, false, false, false, false] rfl rfl (any_of HT_.out (by kernel_rfl)) (fun _ _ _ h => h) (Or.inl ⟨by rfl, ?_⟩) ?_ ?_
                                rotate_left
                                · intro w'
                                  go_simp
                                  with_reducible rfl
                                rotate_left
                                · simp only [Act.put, List.setIfInBounds_toArray, List.set_cons_zero, List.set_cons_succ, i64_w, i32_w]
                                  rfl
                                refine pure_ (i := 4) (N := some 57) (v := ?_) (a' := ?_) #[true, true, true, true, true, false, false, false, false, false, false, false, false, false, false, false, false, false, false, false, false, false, false, false, false, false, false, false, false, false] rfl rfl (any_of HT_.out (by kernel_rfl)) (fun _ _ _ h => h) (Or.inl ⟨by rfl, ?_⟩) ?_ ?_
                                rotate_left
                                · intro w'
                                  go_simp
                                  with_reducible rfl
                                rotate_left
                                · simp only [Act.put, List.setIfInBounds_toArray, List.set_cons_zero, List.set_cons_succ, i64_w, i32_w]
                                  rfl
                                refine pure_ (i := 5) (N := some 58) (v := undef) (a' := ?_) #[true, true, true, true, true, true, false, false, false, false, false, false, false, false, false, false, false, false, false, false, false, false, false, false, false, false, false, false, false, false] rfl rfl (any_of HT_.out (by kernel_rfl)) (fun _ _ _ h => h) (Or.inr ⟨by rfl, rfl⟩) ?_ ?_
                                rotate_left
                                · simp only [Act.put, List.setIfInBounds_toArray, List.set_cons_zero, List.set_cons_succ, i64_w, i32_w]
                                  rfl
                                refine pure_ (i := 6) (N := some 59) (v := undef) (a' := ?_) #[true, true, true, true, true, true, true, false, false, false, false, false, false, false, false, false, false, false, false, false, false, false, false, false, false, false, false, false, false, false] rfl rfl (any_of HT_.out (by kernel_rfl)) (fun _ _ _ h => h) (Or.inr ⟨by rfl, rfl⟩) ?_ ?_
                                rotate_left
                                · simp only [Act.put, List.setIfInBounds_toArray, List.set_cons_zero, List.set_cons_succ, i64_w, i32_w]
                                  rfl
                                refine pure_ (i := 7) (N := some 60) (v := undef) (a' := ?_) #[true, true, true, true, true, true, true, true, false, false, false, false, false, false, false, false, false, false, false, false, false, false, false, false, false, false, false, false, false, false] rfl rfl (any_of HT_.out (by kernel_rfl)) (fun _ _ _ h => h) (Or.inr ⟨by rfl, rfl⟩) ?_ ?_
                                rotate_left
                                · simp only [Act.put, List.setIfInBounds_toArray, List.set_cons_zero, List.set_cons_succ, i64_w, i32_w]
                                  rfl
                                refine pure_ (i := 8) (N := some 61) (v := undef) (a' := ?_) #[true, true, true, true, true, true, true, true, true, false, false, false, false, false, false, false, false, false, false, false, false, false, false, false, false, false, false, false, false, false] rfl rfl (any_of HT_.out (by kernel_rfl)) (fun _ _ _ h => h) (Or.inr ⟨by rfl, rfl⟩) ?_ ?_
                                rotate_left
                                · simp only [Act.put, List.setIfInBounds_toArray, List.set_cons_zero, List.set_cons_succ, i64_w, i32_w]
                                  rfl
                                refine pure_ (i := 9) (N := some 62) (v := undef) (a' := ?_) #[true, true, true, true, true, true, true, true, true, true, false, false, false, false, false, false, false, false, false, false, false, false, false, false, false, false, false, false, false, false] rfl rfl (any_of HT_.out (by kernel_rfl)) (fun _ _ _ h => h) (Or.inr ⟨by rfl, rfl⟩) ?_ ?_
                                rotate_left
                                · simp only [Act.put, List.setIfInBounds_toArray, List.set_cons_zero, List.set_cons_succ, i64_w, i32_w]
                                  rfl
                                refine pure_ (i := 10) (N := some 63) (v := undef) (a' := ?_) #[true, true, true, true, true, true, true, true, true, true, true, false, false, false, false, false, false, false, false, false, false, false, false, false, false, false, false, false, false, false] rfl rfl (any_of HT_.out (by kernel_rfl)) (fun _ _ _ h => h) (Or.inr ⟨by rfl, rfl⟩) ?_ ?_
                                rotate_left
                                · simp only [Act.put, List.setIfInBounds_toArray, List.set_cons_zero, List.set_cons_succ, i64_w, i32_w]
                                  rfl
                                refine pure_ (i := 11) (N := some 64) (v := undef) (a' := ?_) #[true, true, true, true, true, true, true, true, true, true, true, true, false, false, false, false, false, false, false, false, false, false, false, false, false, false, false, false, false, false] rfl rfl (any_of HT_.out (by kernel_rfl)) (fun _ _ _ h => h) (Or.inr ⟨by rfl, rfl⟩) ?_ ?_
                                rotate_left
                                · simp only [Act.put, List.setIfInBounds_toArray, List.set_cons_zero, List.set_cons_succ, i64_w, i32_w]
                                  rfl
                                refine pure_ (i := 12) (N := some 65) (v := undef) (a' := ?_) #[true, true, true, true, true, true, true, true, true, true, true, true, true, false, false, false, false, false, false, false, false, false, false, false, false, false, false, false, false, false] rfl rfl (any_of HT_.out (by kernel_rfl)) (fun _ _ _ h => h) (Or.inr ⟨by rfl, rfl⟩) ?_ ?_
                                rotate_left
                                · simp only [Act.put, List.setIfInBounds_toArray, List.set_cons_zero, List.set_cons_succ, i64_w, i32_w]
                                  rfl
                                refine pure_ (i := 13) (N := some 66) (v := undef) (a' := ?_) #[true, true, true, true, true, true, true, true, true, true, true, true, true, true, false, false, false, false, false, false, false, false, false, false, false, false, false, false, false, false] rfl rfl (any_of HT_.out (by kernel_rfl)) (fun _ _ _ h => h) (Or.inr ⟨by rfl, rfl⟩) ?_ ?_
                                rotate_left
                                · simp only [Act.put, List.setIfInBounds_toArray, List.set_cons_zero, List.set_cons_succ, i64_w, i32_w]
                                  rfl
                                refine pure_ (i := 14) (N := some 67) (v := undef) (a' := ?_) #[true, true, true, true, true, true, true, true, true, true, true, true, true, true, true, false, false, false, false, false, false, false, false, false, false, false, false, false, false, false] rfl rfl (any_of HT_.out (by kernel_rfl)) (fun _ _ _ h => h) (Or.inr ⟨by rfl, rfl⟩) ?_ ?_
                                rotate_left
                                · simp only [Act.put, List.setIfInBounds_toArray, List.set_cons_zero, List.set_cons_succ, i64_w, i32_w]
                                  rfl
                                refine pure_ (i := 15) (N := some 68) (v := ?_) (a' := ?_) #[true, true, true, true, true, true, true, true, true, true, true, true, true, true, true, true, false, false, false, false, false, false, false, false, false, false, false, false, false, false] rfl rfl (any_of HT_.out (by kernel_rfl)) (fun _ _ _ h => h) (Or.inl ⟨by rfl, ?_⟩) ?_ ?_
                                rotate_left
                                · intro w'
                                  go_simp
                                  with_reducible rfl
                                rotate_left
                                · simp only [Act.put, List.setIfInBounds_toArray, List.set_cons_zero, List.set_cons_succ, i64_w, i32_w]
                                  rfl
                                refine pure_ (i := 16) (N := some 69) (v := ?_) (a' := ?_) #[true, true, true, true, true, true, true, true, true, true, true, true, true, true, true, true, true, false, false, false, false, false, false, false, false, false, false, false, false, false] rfl rfl (any_of HT_.out (by kernel_rfl)) (fun _ _ _ h => h) (Or.inl ⟨by rfl, ?_⟩) ?_ ?_
                                rotate_left
                                · intro w'
                                  go_simp
                                  with_reducible rfl
                                rotate_left
                                · simp only [Act.put, List.setIfInBounds_toArray, List.set_cons_zero, List.set_cons_succ, i64_w, i32_w]
                                  rfl
                                refine pure_ (i := 17) (N := some 70) (v := undef) (a' := ?_) #[true, true, true, true, true, true, true, true, true, true, true, true, true, true, true, true, true, true, false, false, false, false, false, false, false, false, false, false, false, false] rfl rfl (any_of HT_.out (by kernel_rfl)) (fun _ _ _ h => h) (Or.inr ⟨by rfl, rfl⟩) ?_ ?_
                                rotate_left
                                · simp only [Act.put, List.setIfInBounds_toArray, List.set_cons_zero, List.set_cons_succ, i64_w, i32_w]
                                  rfl
                                refine pure_ (i := 18) (N := some 71) (v := undef) (a' := ?_) #[true, true, true, true, true, true, true, true, true, true, true, true, true, true, true, true, true, true, true, false, false, false, false, false, false, false, false, false, false, false] rfl rfl (any_of HT_.out (by kernel_rfl)) (fun _ _ _ h => h) (Or.inr ⟨by rfl, rfl⟩) ?_ ?_
                                rotate_left
                                · simp only [Act.put, List.setIfInBounds_toArray, List.set_cons_zero, List.set_cons_succ, i64_w, i32_w]
                                  rfl
                                refine pure_ (i := 19) (N := some 72) (v := undef) (a' := ?_) #[true, true, true, true, true, true, true, true, true, true, true, true, true, true, true, true, true, true, true, true, false, false, false, false, false, false, false, false, false, false] rfl rfl (any_of HT_.out (by kernel_rfl)) (fun _ _ _ h => h) (Or.inr ⟨by rfl, rfl⟩) ?_ ?_
                                rotate_left
                                · simp only [Act.put, List.setIfInBounds_toArray, List.set_cons_zero, List.set_cons_succ, i64_w, i32_w]
                                  rfl
                                refine pure_ (i := 20) (N := some 73) (v := undef) (a' := ?_) #[true, true, true, true, true, true, true, true, true, true, true, true, true, true, true, true, true, true, true, true, true, false, false, false, false, false, false, false, false, false] rfl rfl (any_of HT_.out (by kernel_rfl)) (fun _ _ _ h => h) (Or.inr ⟨by rfl, rfl⟩) ?_ ?_
                                rotate_left
                                · simp only [Act.put, List.setIfInBounds_toArray, List.set_cons_zero, List.set_cons_succ, i64_w, i32_w]
                                  rfl
                                refine pure_ (i := 21) (N := some 74) (v := undef) (a' := ?_) #[true, true, true, true, true, true, true, true, true, true, true, true, true, true, true, true, true, true, true, true, true, true, false, false, false, false, false, false, false, false] rfl rfl (any_of HT_.out (by kernel_rfl)) (fun _ _ _ h => h) (Or.inr ⟨by rfl, rfl⟩) ?_ ?_
                                rotate_left
                                · simp only [Act.put, List.setIfInBounds_toArray, List.set_cons_zero, List.set_cons_succ, i64_w, i32_w]
                                  rfl
                                refine pure_ (i := 22) (N := some 75) (v := undef) (a' := ?_) #[true, true, true, true, true, true, true, true, true, true, true, true, true, true, true, true, true, true, true, true, true, true, true, false, false, false, false, false, false, false] rfl rfl (any_of HT_.out (by kernel_rfl)) (fun _ _ _ h => h) (Or.inr ⟨by rfl, rfl⟩) ?_ ?_
                                rotate_left
                                · simp only [Act.put, List.setIfInBounds_toArray, List.set_cons_zero, List.set_cons_succ, i64_w, i32_w]
                                  rfl
                                refine pure_ (i := 23) (N := some 76) (v := undef) (a' := ?_) #[true, true, true, true, true, true, true, true, true, true, true, true, true, true, true, true, true, true, true, true, true, true, true, true, false, false, false, false, false, false] rfl rfl (any_of HT_.out (by kernel_rfl)) (fun _ _ _ h => h) (Or.inr ⟨by rfl, rfl⟩) ?_ ?_
                                rotate_left
                                · simp only [Act.put, List.setIfInBounds_toArray, List.set_cons_zero, List.set_cons_succ, i64_w, i32_w]
                                  rfl
                                refine pure_ (i := 24) (N := some 77) (v := undef) (a' := ?_) #[true, true, true, true, true, true, true, true, true, true, true, true, true, true, true, true, true, true, true, true, true, true, true, true, true, false, false, false, false, false] rfl rfl (any_of HT_.out (by kernel_rfl)) (fun _ _ _ h => h) (Or.inr ⟨by rfl, rfl⟩) ?_ ?_
                                rotate_left
                                · simp only [Act.put, List.setIfInBounds_toArray, List.set_cons_zero, List.set_cons_succ, i64_w, i32_w]
                                  rfl
                                refine pure_ (i := 25) (N := some 78) (v := undef) (a' := ?_) #[true, true, true, true, true, true, true, true, true, true, true, true, true, true, true, true, true, true, true, true, true, true, true, true, true, true, false, false, false, false] rfl rfl (any_of HT_.out (by kernel_rfl)) (fun _ _ _ h => h) (Or.inr ⟨by rfl, rfl⟩) ?_ ?_
                                rotate_left
                                · simp only [Act.put, List.setIfInBounds_toArray, List.set_cons_zero, List.set_cons_succ, i64_w, i32_w]
                                  rfl
                                refine pure_ (i := 26) (N := some 79) (v := undef) (a' := ?_) #[true, true, true, true, true, true, true, true, true, true, true, true, true, true, true, true, true, true, true, true, true, true, true, true, true, true, true, false, false, false] rfl rfl (any_of HT_.out (by kernel_rfl)) (fun _ _ _ h => h) (Or.inr ⟨by rfl, rfl⟩) ?_ ?_
                                rotate_left
                                · simp only [Act.put, List.setIfInBounds_toArray, List.set_cons_zero, List.set_cons_succ, i64_w, i32_w]
                                  rfl
                                refine pure_ (i := 27) (N := some 80) (v := undef) (a' := ?_) #[true, true, true, true, true, true, true, true, true, true, true, true, true, true, true, true, true, true, true, true, true, true, true, true, true, true, true, true, false, false] rfl rfl (any_of HT_.out (by kernel_rfl)) (fun _ _ _ h => h) (Or.inr ⟨by rfl, rfl⟩) ?_ ?_
                                rotate_left
                                · simp only [Act.put, List.setIfInBounds_toArray, List.set_cons_zero, List.set_cons_succ, i64_w, i32_w]
                                  rfl
                                refine pure_ (i := 28) (N := some 81) (v := undef) (a' := ?_) #[true, true, true, true, true, true, true, true, true, true, true, true, true, true, true, true, true, true, true, true, true, true, true, true, true, true, true, true, true, false] rfl rfl (any_of HT_.out (by kernel_rfl)) (fun _ _ _ h => h) (Or.inr ⟨by rfl, rfl⟩) ?_ ?_
                                rotate_left
                                · simp only [Act.put, List.setIfInBounds_toArray, List.set_cons_zero, List.set_cons_succ, i64_w, i32_w]
                                  rfl
                                refine pure_ (i := 29) (N := some 82) (v := ?_) (a' := ?_) #[true, true, true, true, true, true, true, true, true, true, true, true, true, true, true, true, true, true, true, true, true, true, true, true, true, true, true, true, true, true] rfl rfl (any_of HT_.out (by kernel_rfl)) (fun _ _ _ h => h) (Or.inl ⟨by rfl, ?_⟩) ?_ ?_
                                rotate_left
                                · intro w'
                                  go_simp
                                  with_reducible rfl
                                rotate_left
                                · simp only [Act.put, List.setIfInBounds_toArray, List.set_cons_zero, List.set_cons_succ, i64_w, i32_w]
                                  rfl
                                refine done_ (done_of HT_.out (by kernel_rfl)) ?_
                                try go_wp2
                                go_ret
                                exact ⟨by first | rfl | (simp [errW_none, errW_some] <;> rfl) | (simp [*, errW_none, errW_some] <;> rfl), by repeat (first | (with_reducible first | exact HB.out | apply below_alloc | apply pw_below_drewN | apply below_drew1 | refine below_set ?_ GE324.out) | exact HB.out)⟩
                              · rw [if_neg c34] at H
                                have c34b0 : decide ((l0.length : Int) ≤ x48_4) = false := decide_eq_false c34
                                clear c34
                                replace H := Option.bind_eq_some_iff.mp H
                                obtain ⟨t325, A390, H⟩ := H
                                replace H : (if x48_4 < (l0.length : Int) then ((laws_low.f ((rd_T47 l0 x48_4).f0)).bind fun t327 => (if t325.toList = t327.toList then (if ((rd_T47 t320 x48_4).f1).toList = ((rd_T47 l0 x48_4).f1).toList then (laws_FnParamsBackN.l0 k4 l0 a2 t320 (t320.length : Int) (wrap64 (x48_4 + 1))) else (some false)) else (some false))) else (none)) = some r := H
                                have A39 := Aside0.mk A390
                                clear A390
                                by_cases c40 : x48_4 < (l0.length : Int)
                                · rw [if_pos c40] at H
                                  have c40b0 : decide (x48_4 < (l0.length : Int)) = true := decide_eq_true c40
                                  clear c40
                                  replace H := Option.bind_eq_some_iff.mp H
                                  obtain ⟨t327, A410, H⟩ := H
                                  replace H : (if t325.toList = t327.toList then (if ((rd_T47 t320 x48_4).f1).toList = ((rd_T47 l0 x48_4).f1).toList then (laws_FnParamsBackN.l0 k4 l0 a2 t320 (t320.length : Int) (wrap64 (x48_4 + 1))) else (some false)) else (some false)) = some r := H
                                  have A41 := Aside0.mk A410
                                  clear A410
                                  by_cases c42 : t325.toList = t327.toList
                                  · rw [if_pos c42] at H
                                    have c42b0 : (t325.toList == t327.toList) = true := beq_iff_eq.mpr c42
                                    have c42b1 : (t325.toList != t327.toList) = false := bne_eq_false_iff_eq.mpr c42
                                    clear c42
                                    by_cases c43 : ((rd_T47 t320 x48_4).f1).toList = ((rd_T47 l0 x48_4).f1).toList
                                    · rw [if_pos c43] at H
                                      have c43b0 : (((rd_T47 t320 x48_4).f1).toList == ((rd_T47 l0 x48_4).f1).toList) = true := beq_iff_eq.mpr c43
                                      have c43b1 : (((rd_T47 t320 x48_4).f1).toList != ((rd_T47 l0 x48_4).f1).toList) = false := bne_eq_false_iff_eq.mpr c43
                                      clear c43
                                      have H' := Aside0.mk H
                                      clear H
                                      have p323 : 0 ≤ (x48_4 : Int) := of_decide_eq_true (by first | (with_reducible assumption) | assumption)
                                      have q323 : x48_4 < (t320.length : Int) := of_decide_eq_true (by first | (with_reducible assumption) | assumption)
                                      obtain ⟨ad323, e323, hx323_0, hx323_1⟩ := at_T47 (Kd.R_reads' HO_46.out).2.2 x48_4 p323 q323
                                      cases e323
                                      replace p323 := eq_true p323
                                      replace q323 := eq_true q323
                                      try go_wp2_with (first | ((with_reducible refine gate_dst (N := 9) rfl ?_); (try (refine gate_guard (by rfl) ?_; dsimp only)); refine box_event ?hg (N := 9) ?hd (cs := #[.string (⟨#[]⟩ : ByteArray), .string (⟨#[]⟩ : ByteArray)]) (t := 47) ?hr ?_; (case hd => rfl); (case hg => rfl); (case hr => first | (go_simp; done) | (go_simp; rfl)); intro gb324 hg w44 hbox hb; have n0_ := Aside0.mk (Kd.R_below (Kd.R_elderB (by (with_reducible repeat (first | apply Kd.R_alloc | apply Kd.R_drewN | apply Kd.R_drew)); exact HO_46.out) gb324 (Nat.le_of_eq hg.symm)) hb); have n1_ := Aside0.mk (below_step (by repeat (first | (with_reducible first | exact HB.out | apply below_alloc | apply pw_below_drewN | apply below_drew1) | exact HB.out)) hb); have n2_ := Aside0.mk (hbox); have n3_ := Aside0.mk ((by rw [hg]; exact (below_size (by repeat (first | (with_reducible first | exact HB.out | apply below_alloc | apply pw_below_drewN | apply below_drew1) | exact HB.out))) : w.heap.size ≤ gb324)); have n4_ := Aside0.mk ((by rw [hg]; exact (below_size (by repeat (first | (with_reducible first | exact HB.out | apply below_alloc | apply pw_below_drewN | apply below_drew1) | exact HB.out))) : w.heap.size ≤ gb324)); clear HO_46; clear HB; have HO_46 := n0_; have HB := n1_; have BK324 := n2_; have GW324 := n3_; have GE324 := n4_; clear n0_ n1_ n2_ n3_ n4_; clear hb hbox hg; have hcz45_0 : w44.cell? ⟨gb324, 0, none⟩ = some (.string (⟨#[]⟩ : ByteArray)) := (blk_cell BK324.out 0).trans rfl; have hcz45_1 : w44.cell? ⟨gb324, 1, none⟩ = some (.string (⟨#[]⟩ : ByteArray)) := (blk_cell BK324.out 1).trans rfl; have hfz45_0 := blk_frozen BK324.out 0; have hfz45_1 := blk_frozen BK324.out 1))
                                      have n0_ : Aside0 (Kd.R k47 47 ((w44.setCell ⟨gb324, 0, none⟩ (.string ((rd_T47 t320 x48_4).f0))).setCell ⟨gb324, 1, none⟩ (.string ((rd_T47 t320 x48_4).f1))) w.heap.size (fun k_ => k_ ≠ gb324) (.slice (some ad323) t320.length co30) t320) := ⟨by (with_reducible repeat (first | apply Kd.R_alloc | apply Kd.R_drewN | apply Kd.R_drew)); exact Kd.R_mono (Kd.R_far (p := ⟨gb324, 1, none⟩) (Kd.R_far (p := ⟨gb324, 0, none⟩) (Kd.R_mono HO_46.out (fun k_ hk => (⟨hk, hk.2⟩ : _ ∧ k_ ≠ gb324))) (fun _ hk => hk.2) (.string ((rd_T47 t320 x48_4).f0))) (fun _ hk => hk.2) (.string ((rd_T47 t320 x48_4).f1))) (fun _ hk => hk.1.2)⟩
                                      have n1_ : Aside0 (((w44.setCell ⟨gb324, 0, none⟩ (.string ((rd_T47 t320 x48_4).f0))).setCell ⟨gb324, 1, none⟩ (.string ((rd_T47 t320 x48_4).f1))).heap[gb324]? = some (.cells #[.string ((rd_T47 t320 x48_4).f0), .string ((rd_T47 t320 x48_4).f1)] 47 (0, 0))) := ⟨by (with_reducible repeat (first | refine blk_drewN ?_ _ | refine blk_drew ?_ | refine blk_alloc ?_ _)); refine blk_put (cs := #[.string ((rd_T47 t320 x48_4).f0), .string (⟨#[]⟩ : ByteArray)]) ?_ 1 _ rfl; (with_reducible repeat (first | refine blk_drewN ?_ _ | refine blk_drew ?_ | refine blk_alloc ?_ _)); refine blk_put (cs := #[.string (⟨#[]⟩ : ByteArray), .string (⟨#[]⟩ : ByteArray)]) ?_ 0 _ rfl; (with_reducible repeat (first | refine blk_drewN ?_ _ | refine blk_drew ?_ | refine blk_alloc ?_ _)); exact BK324.out⟩
                                      have n2_ : Aside0 (Below w.heap.size w ((w44.setCell ⟨gb324, 0, none⟩ (.string ((rd_T47 t320 x48_4).f0))).setCell ⟨gb324, 1, none⟩ (.string ((rd_T47 t320 x48_4).f1)))) := ⟨by repeat (first | (with_reducible first | exact HB.out | apply below_alloc | apply pw_below_drewN | apply below_drew1 | refine below_set ?_ GE324.out) | exact HB.out)⟩
                                      (try clear HO_46)
                                      (try clear BK324)
                                      (try clear HB)
                                      generalize ((w44.setCell ⟨gb324, 0, none⟩ (.string ((rd_T47 t320 x48_4).f0))).setCell ⟨gb324, 1, none⟩ (.string ((rd_T47 t320 x48_4).f1))) = w46 at n0_ n1_ n2_ ⊢
                                      have HO_46 := n0_
                                      have BK324 := n1_
                                      have HB := n2_
                                      clear n0_ n1_ n2_
                                      have n0_ := Aside0.mk (Kd.R_drew HO_46.out)
                                      have n1_ := Aside0.mk (blk_drew BK324.out)
                                      have n2_ := Aside0.mk (below_drew1 HB.out)
                                      clear HO_46
                                      clear BK324
                                      clear HB
                                      have HO_46 := n0_
                                      have BK324 := n1_
                                      have HB := n2_
                                      clear n0_ n1_ n2_
                                      have p326 : 0 ≤ (x48_4 : Int) := of_decide_eq_true (by first | (with_reducible assumption) | assumption)
                                      have q326 : x48_4 < (l0.length : Int) := of_decide_eq_true (by first | (with_reducible assumption) | assumption)
                                      obtain ⟨ad326, e326, hx326_0, hx326_1⟩ := at_T47 HR0.out x48_4 p326 q326
                                      have hw326_1 := hx326_1
                                      have hw326_0 := hx326_0
                                      cases e326
                                      replace hx326_0 := (HB.out.cell (World.block_lt_of_cell? w _ hx326_0)).trans hx326_0
                                      replace hx326_1 := (HB.out.cell (World.block_lt_of_cell? w _ hx326_1)).trans hx326_1
                                      replace p326 := eq_true p326
                                      replace q326 := eq_true q326
                                      have p328 : 0 ≤ (x48_4 : Int) := of_decide_eq_true (by first | (with_reducible assumption) | assumption)
                                      have q328 : x48_4 < (l0.length : Int) := of_decide_eq_true (by first | (with_reducible assumption) | assumption)
                                      obtain ⟨ad328, e328, hx328_0, hx328_1⟩ := at_T47 HR0.out x48_4 p328 q328
                                      have hw328_1 := hx328_1
                                      have hw328_0 := hx328_0
                                      obtain rfl : ad326 = ad328 := (by injection e328)
                                      replace hx328_0 := (HB.out.cell (World.block_lt_of_cell? w _ hx328_0)).trans hx328_0
                                      replace hx328_1 := (HB.out.cell (World.block_lt_of_cell? w _ hx328_1)).trans hx328_1
                                      replace p328 := eq_true p328
                                      replace q328 := eq_true q328
                                      refine start_ (n := 30) (S := fun w' => w'.cell? ⟨gb324, 0, none⟩ = some (.string ((rd_T47 t320 x48_4).f0)) ∧ w'.cell? ⟨gb324, 1, none⟩ = some (.string ((rd_T47 t320 x48_4).f1)) ∧ w'.cell? (ad326.add ((x48_4).toNat * 2)) = some (.string ((rd_T47 l0 x48_4).f0)) ∧ w'.cell? ⟨(ad326.add ((x48_4).toNat * 2)).block, (ad326.add ((x48_4).toNat * 2)).off + 1, none⟩ = some (.string ((rd_T47 l0 x48_4).f1)) ∧ w'.cell? (ad326.add ((x48_4).toNat * 2)) = some (.string ((rd_T47 l0 x48_4).f0)) ∧ w'.cell? ⟨(ad326.add ((x48_4).toNat * 2)).block, (ad326.add ((x48_4).toNat * 2)).off + 1, none⟩ = some (.string ((rd_T47 l0 x48_4).f1))) (ds := []) #[false, false, false, false, false, false, false, false, false, false, false, false, false, false, false, false, false, false, false, false, false, false, false, false, false, false, false, false, false, false] (by kernel_rfl) rfl rfl ⟨(blk_cell BK324.out 0).trans rfl, (blk_cell BK324.out 1).trans rfl, ((HB.out.cell (World.block_lt_of_cell? w _ hw326_0)).trans hw326_0), ((HB.out.cell (World.block_lt_of_cell? w _ hw326_1)).trans hw326_1), ((HB.out.cell (World.block_lt_of_cell? w _ hw328_0)).trans hw328_0), ((HB.out.cell (World.block_lt_of_cell? w _ hw328_1)).trans hw328_1)⟩ (fun hHeld => ?_); refine with_tabW laws_FnParamsBackN.tab11 laws_FnParamsBackN.bits11 (fun HT_ HW_ => ?_)
                                      generalize w46.drew = w47 at HO_46 BK324 HB hx326_0 hx326_1 hx328_0 hx328_1 hHeld ⊢
                                      refine pure_ (i := 0) (N := some 53) (v := ?_) (a' := ?_) #[true, false, false, false, false, false, false, false, false, false, false, false, false, false, false, false, false, false, false, false, false, false, false, false, false, false, false, false, false, false] rfl rfl (any_of HT_.out (by kernel_rfl)) (fun _ _ _ h => h) (Or.inl ⟨by rfl, ?_⟩) ?_ ?_
                                      rotate_left
                                      · intro w'
                                        go_simp
                                        with_reducible rfl
                                      rotate_left
                                      · simp only [Act.put, List.setIfInBounds_toArray, List.set_cons_zero, List.set_cons_succ, i64_w, i32_w]
                                        rfl
                                      refine pure_ (i := 1) (N := some 54) (v := ?_) (a' := ?_) #[true, true, false, false, false, false, false, false, false, false, false, false, false, false, false, false, false, false, false, false, false, false, false, false, false, false, false, false, false, false] rfl rfl (any_of HT_.out (by kernel_rfl)) (fun _ _ _ h => h) (Or.inl ⟨by rfl, ?_⟩) ?_ ?_
                                      rotate_left
                                      · intro w'
                                        go_simp
                                        with_reducible rfl
                                      rotate_left
                                      · simp only [Act.put, List.setIfInBounds_toArray, List.set_cons_zero, List.set_cons_succ, i64_w, i32_w]
                                        rfl
                                      refine pure_ (i := 2) (N := some 55) (v := ?_) (a' := ?_) #[true, true, true, false, false, false, false, false, false, false, false, false, false, false, false, false, false, false, false, false, false, false, false, false, false, false, false, false, false, false] rfl rfl (any_of HT_.out (by kernel_rfl)) (fun _ _ _ h => h) (Or.inl ⟨by rfl, ?_⟩) ?_ ?_
                                      rotate_left
                                      · intro w'
                                        go_simp
                                        with_reducible rfl
                                      rotate_left
                                      · simp only [Act.put, List.setIfInBounds_toArray, List.set_cons_zero, List.set_cons_succ, i64_w, i32_w]
                                        rfl
                                      refine pure_ (i := 3) (N := some 56) (v := ?_) (a' := ?_) #[true, true, true, true, false, false, false, false, false, false, false, false, false, false, false, false, false, false, false, false, false, false, false, false, false, false, false, false, false, false] rfl rfl (any_of HT_.out (by kernel_rfl)) (fun _ _ _ h => h) (Or.inl ⟨by rfl, ?_⟩) ?_ ?_
                                      rotate_left
                                      · intro w'
                                        go_simp
                                        with_reducible rfl
                                      rotate_left
                                      · simp only [Act.put, List.setIfInBounds_toArray, List.set_cons_zero, List.set_cons_succ, i64_w, i32_w]
                                        rfl
                                      refine pure_ (i := 4) (N := some 57) (v := ?_) (a' := ?_) #[true, true, true, true, true, false, false, false, false, false, false, false, false, false, false, false, false, false, false, false, false, false, false, false, false, false, false, false, false, false] rfl rfl (any_of HT_.out (by kernel_rfl)) (fun _ _ _ h => h) (Or.inl ⟨by rfl, ?_⟩) ?_ ?_
                                      rotate_left
                                      · intro w'
                                        go_simp
                                        with_reducible rfl
                                      rotate_left
                                      · simp only [Act.put, List.setIfInBounds_toArray, List.set_cons_zero, List.set_cons_succ, i64_w, i32_w]
                                        rfl
                                      refine pure_ (i := 5) (N := some 58) (v := ?_) (a' := ?_) #[true, true, true, true, true, true, false, false, false, false, false, false, false, false, false, false, false, false, false, false, false, false, false, false, false, false, false, false, false, false] rfl rfl (any_of HT_.out (by kernel_rfl)) (fun _ _ _ h => h) (Or.inl ⟨by rfl, ?_⟩) ?_ ?_
                                      rotate_left
                                      · intro w'
                                        go_simp
                                        with_reducible rfl
                                      rotate_left
                                      · simp only [Act.put, List.setIfInBounds_toArray, List.set_cons_zero, List.set_cons_succ, i64_w, i32_w]
                                        rfl
                                      refine pure_ (i := 8) (N := some 61) (v := ?_) (a' := ?_) #[true, true, true, true, true, true, false, false, true, false, false, false, false, false, false, false, false, false, false, false, false, false, false, false, false, false, false, false, false, false] rfl rfl (any_of HT_.out (by kernel_rfl)) (fun _ _ _ h => h) (Or.inl ⟨by rfl, ?_⟩) ?_ ?_
                                      rotate_left
                                      · intro w'
                                        go_simp
                                        with_reducible rfl
                                      rotate_left
                                      · simp only [Act.put, List.setIfInBounds_toArray, List.set_cons_zero, List.set_cons_succ, i64_w, i32_w]
                                        rfl
                                      refine pure_ (i := 9) (N := some 62) (v := ?_) (a' := ?_) #[true, true, true, true, true, true, false, false, true, true, false, false, false, false, false, false, false, false, false, false, false, false, false, false, false, false, false, false, false, false] rfl rfl (any_of HT_.out (by kernel_rfl)) (fun _ _ _ h => h) (Or.inl ⟨by rfl, ?_⟩) ?_ ?_
                                      rotate_left
                                      · intro w'
                                        go_simp
                                        with_reducible rfl
                                      rotate_left
                                      · simp only [Act.put, List.setIfInBounds_toArray, List.set_cons_zero, List.set_cons_succ, i64_w, i32_w]
                                        rfl
                                      refine pure_ (i := 10) (N := some 63) (v := ?_) (a' := ?_) #[true, true, true, true, true, true, false, false, true, true, true, false, false, false, false, false, false, false, false, false, false, false, false, false, false, false, false, false, false, false] rfl rfl (any_of HT_.out (by kernel_rfl)) (fun _ _ _ h => h) (Or.inl ⟨by rfl, ?_⟩) ?_ ?_
                                      rotate_left
                                      · intro w'
                                        go_simp
                                        with_reducible rfl
                                      rotate_left
                                      · simp only [Act.put, List.setIfInBounds_toArray, List.set_cons_zero, List.set_cons_succ, i64_w, i32_w]
                                        rfl
                                      refine pure_ (i := 11) (N := some 64) (v := ?_) (a' := ?_) #[true, true, true, true, true, true, false, false, true, true, true, true, false, false, false, false, false, false, false, false, false, false, false, false, false, false, false, false, false, false] rfl rfl (any_of HT_.out (by kernel_rfl)) (fun _ _ _ h => h) (Or.inl ⟨by rfl, ?_⟩) ?_ ?_
                                      rotate_left
                                      · intro w'
                                        go_simp
                                        with_reducible rfl
                                      rotate_left
                                      · simp only [Act.put, List.setIfInBounds_toArray, List.set_cons_zero, List.set_cons_succ, i64_w, i32_w]
                                        rfl
                                      refine take_ (i := 6) (N := some 59) (v := ?_) (a' := ?_) #[true, true, true, true, true, true, true, false, true, true, true, true, false, false, false, false, false, false, false, false, false, false, false, false, false, false, false, false, false, false] rfl rfl (take_ofW HT_.out HW_.out (by kernel_rfl)) (fun _ _ _ h => h) (Or.inl ⟨by rfl, ?_⟩) hHeld ?_ ?_
                                      rotate_left
                                      · rintro w' ⟨s0, s1, s2, s3, s4, s5⟩
                                        go_simp
                                        with_reducible rfl
                                      rotate_left
                                      · simp only [Act.put, List.setIfInBounds_toArray, List.set_cons_zero, List.set_cons_succ, i64_w, i32_w]
                                        rfl
                                      refine take_ (i := 12) (N := some 65) (v := ?_) (a' := ?_) #[true, true, true, true, true, true, true, false, true, true, true, true, true, false, false, false, false, false, false, false, false, false, false, false, false, false, false, false, false, false] rfl rfl (take_ofW HT_.out HW_.out (by kernel_rfl)) (fun _ _ _ h => h) (Or.inl ⟨by rfl, ?_⟩) hHeld ?_ ?_
                                      rotate_left
                                      · rintro w' ⟨s0, s1, s2, s3, s4, s5⟩
                                        go_simp
                                        with_reducible rfl
                                      rotate_left
                                      · simp only [Act.put, List.setIfInBounds_toArray, List.set_cons_zero, List.set_cons_succ, i64_w, i32_w]
                                        rfl
                                      refine one_ (i := 7) (N := some 60) #[true, true, true, true, true, true, true, true, true, true, true, true, true, false, false, false, false, false, false, false, false, false, false, false, false, false, false, false, false, false] rfl rfl (one_of HT_.out (by kernel_rfl)) (by decide) (fun K hK => ?_)
                                      refine goes_ Try.func29 (by kernel_rfl) rfl #[.string ((rd_T47 t320 x48_4).f0)] (by rfl) rfl rfl (by (try simp only [List.map_toArray, List.map_cons, List.map_nil]); first | done | rfl | (simp only [List.length_drop, List.length_take]; rfl)) ?_
                                      with_reducible refine (laws_low.calls ((rd_T47 t320 x48_4).f0) t325 _ A39.out).mono ?_
                                      rintro e w48 ⟨rfl, hb⟩
                                      refine ⟨_, rfl, ?_⟩
                                      have n0_ := Aside0.mk (Kd.R_below (by (with_reducible repeat (first | apply Kd.R_alloc | apply Kd.R_drewN | apply Kd.R_drew)); exact HO_46.out) hb)
                                      have n1_ := Aside0.mk (blk_below (g := gb324) (o := .cells #[.string ((rd_T47 t320 x48_4).f0), .string ((rd_T47 t320 x48_4).f1)] 47 (0, 0)) (by (with_reducible repeat (first | refine blk_drewN ?_ _ | refine blk_drew ?_ | refine blk_alloc ?_ _)); exact BK324.out) hb)
                                      have n2_ := Aside0.mk (below_step (by repeat (first | (with_reducible first | exact HB.out | apply below_alloc | apply pw_below_drewN | apply below_drew1 | refine below_set ?_ GE324.out) | exact HB.out)) hb)
                                      clear HO_46
                                      clear BK324
                                      clear HB
                                      have HO_46 := n0_
                                      have BK324 := n1_
                                      have HB := n2_
                                      clear n0_ n1_ n2_
                                      (try clear hb)
                                      (try clear hb2)
                                      (try clear hk)
                                      (try clear hi)
                                      refine hK.out _ _ ⟨(blk_cell BK324.out 0).trans rfl, (blk_cell BK324.out 1).trans rfl, ((HB.out.cell (World.block_lt_of_cell? w _ hw326_0)).trans hw326_0), ((HB.out.cell (World.block_lt_of_cell? w _ hw326_1)).trans hw326_1), ((HB.out.cell (World.block_lt_of_cell? w _ hw328_0)).trans hw328_0), ((HB.out.cell (World.block_lt_of_cell? w _ hw328_1)).trans hw328_1)⟩ (fun hHeld => ?_)
                                      clear hK K
                                      refine norm_ (a' := ?_) ?_ ?_
                                      rotate_left
                                      · show Act.put _ (some 60) _ = _
                                        simp only [Act.put, List.setIfInBounds_toArray, List.set_cons_zero, List.set_cons_succ, i64_w, i32_w]
                                        rfl
                                      refine one_ (i := 13) (N := some 66) #[true, true, true, true, true, true, true, true, true, true, true, true, true, true, false, false, false, false, false, false, false, false, false, false, false, false, false, false, false, false] rfl rfl (one_of HT_.out (by kernel_rfl)) (by decide) (fun K hK => ?_)
                                      refine goes_ Try.func29 (by kernel_rfl) rfl #[.string ((rd_T47 l0 x48_4).f0)] (by rfl) rfl rfl (by (try simp only [List.map_toArray, List.map_cons, List.map_nil]); first | done | rfl | (simp only [List.length_drop, List.length_take]; rfl)) ?_
                                      with_reducible refine (laws_low.calls ((rd_T47 l0 x48_4).f0) t327 _ A41.out).mono ?_
                                      rintro e w49 ⟨rfl, hb⟩
                                      refine ⟨_, rfl, ?_⟩
                                      have n0_ := Aside0.mk (Kd.R_below (by (with_reducible repeat (first | apply Kd.R_alloc | apply Kd.R_drewN | apply Kd.R_drew)); exact HO_46.out) hb)
                                      have n1_ := Aside0.mk (blk_below (g := gb324) (o := .cells #[.string ((rd_T47 t320 x48_4).f0), .string ((rd_T47 t320 x48_4).f1)] 47 (0, 0)) (by (with_reducible repeat (first | refine blk_drewN ?_ _ | refine blk_drew ?_ | refine blk_alloc ?_ _)); exact BK324.out) hb)
                                      have n2_ := Aside0.mk (below_step (by repeat (first | (with_reducible first | exact HB.out | apply below_alloc | apply pw_below_drewN | apply below_drew1 | refine below_set ?_ GE324.out) | exact HB.out)) hb)
                                      clear HO_46
                                      clear BK324
                                      clear HB
                                      have HO_46 := n0_
                                      have BK324 := n1_
                                      have HB := n2_
                                      clear n0_ n1_ n2_
                                      (try clear hb)
                                      (try clear hb2)
                                      (try clear hk)
                                      (try clear hi)
                                      refine hK.out _ _ ⟨(blk_cell BK324.out 0).trans rfl, (blk_cell BK324.out 1).trans rfl, ((HB.out.cell (World.block_lt_of_cell? w _ hw326_0)).trans hw326_0), ((HB.out.cell (World.block_lt_of_cell? w _ hw326_1)).trans hw326_1), ((HB.out.cell (World.block_lt_of_cell? w _ hw328_0)).trans hw328_0), ((HB.out.cell (World.block_lt_of_cell? w _ hw328_1)).trans hw328_1)⟩ (fun hHeld => ?_)
                                      clear hK K
                                      refine norm_ (a' := ?_) ?_ ?_
                                      rotate_left
                                      · show Act.put _ (some 66) _ = _
                                        simp only [Act.put, List.setIfInBounds_toArray, List.set_cons_zero, List.set_cons_succ, i64_w, i32_w]
                                        rfl
                                      refine pure_ (i := 14) (N := some 67) (v := ?_) (a' := ?_) #[true, true, true, true, true, true, true, true, true, true, true, true, true, true, true, false, false, false, false, false, false, false, false, false, false, false, false, false, false, false] rfl rfl (any_of HT_.out (by kernel_rfl)) (fun _ _ _ h => h) (Or.inl ⟨by rfl, ?_⟩) ?_ ?_
                                      rotate_left
                                      · intro w'
                                        go_simp
                                        with_reducible rfl
                                      rotate_left
                                      · simp only [Act.put, List.setIfInBounds_toArray, List.set_cons_zero, List.set_cons_succ, i64_w, i32_w]
                                        rfl
                                      refine pure_ (i := 15) (N := some 68) (v := ?_) (a' := ?_) #[true, true, true, true, true, true, true, true, true, true, true, true, true, true, true, true, false, false, false, false, false, false, false, false, false, false, false, false, false, false] rfl rfl (any_of HT_.out (by kernel_rfl)) (fun _ _ _ h => h) (Or.inl ⟨by rfl, ?_⟩) ?_ ?_
                                      rotate_left
                                      · intro w'
                                        go_simp
                                        with_reducible rfl
                                      rotate_left
                                      · simp only [Act.put, List.setIfInBounds_toArray, List.set_cons_zero, List.set_cons_succ, i64_w, i32_w]
                                        rfl
                                      refine pure_ (i := 16) (N := some 69) (v := ?_) (a' := ?_) #[true, true, true, true, true, true, true, true, true, true, true, true, true, true, true, true, true, false, false, false, false, false, false, false, false, false, false, false, false, false] rfl rfl (any_of HT_.out (by kernel_rfl)) (fun _ _ _ h => h) (Or.inl ⟨by rfl, ?_⟩) ?_ ?_
                                      rotate_left
                                      · intro w'
                                        go_simp
                                        with_reducible rfl
                                      rotate_left
                                      · simp only [Act.put, List.setIfInBounds_toArray, List.set_cons_zero, List.set_cons_succ, i64_w, i32_w]
                                        rfl
                                      refine pure_ (i := 17) (N := some 70) (v := ?_) (a' := ?_) #[true, true, true, true, true, true, true, true, true, true, true, true, true, true, true, true, true, true, false, false, false, false, false, false, false, false, false, false, false, false] rfl rfl (any_of HT_.out (by kernel_rfl)) (fun _ _ _ h => h) (Or.inl ⟨by rfl, ?_⟩) ?_ ?_
                                      rotate_left
                                      · intro w'
                                        go_simp
                                        with_reducible rfl
                                      rotate_left
                                      · simp only [Act.put, List.setIfInBounds_toArray, List.set_cons_zero, List.set_cons_succ, i64_w, i32_w]
                                        rfl
                                      refine pure_ (i := 18) (N := some 71) (v := ?_) (a' := ?_) #[true, true, true, true, true, true, true, true, true, true, true, true, true, true, true, true, true, true, true, false, false, false, false, false, false, false, false, false, false, false] rfl rfl (any_of HT_.out (by kernel_rfl)) (fun _ _ _ h => h) (Or.inl ⟨by rfl, ?_⟩) ?_ ?_
                                      rotate_left
                                      · intro w'
                                        go_simp
                                        with_reducible rfl
                                      rotate_left
                                      · simp only [Act.put, List.setIfInBounds_toArray, List.set_cons_zero, List.set_cons_succ, i64_w, i32_w]
                                        rfl
                                      refine pure_ (i := 19) (N := some 72) (v := ?_) (a' := ?_) #[true, true, true, true, true, true, true, true, true, true, true, true, true, true, true, true, true, true, true, true, false, false, false, false, false, false, false, false, false, false] rfl rfl (any_of HT_.out (by kernel_rfl)) (fun _ _ _ h => h) (Or.inl ⟨by rfl, ?_⟩) ?_ ?_
                                      rotate_left
                                      · intro w'
                                        go_simp
                                        with_reducible rfl
                                      rotate_left
                                      · simp only [Act.put, List.setIfInBounds_toArray, List.set_cons_zero, List.set_cons_succ, i64_w, i32_w]
                                        rfl
                                      refine pure_ (i := 20) (N := some 73) (v := ?_) (a' := ?_) #[true, true, true, true, true, true, true, true, true, true, true, true, true, true, true, true, true, true, true, true, true, false, false, false, false, false, false, false, false, false] rfl rfl (any_of HT_.out (by kernel_rfl)) (fun _ _ _ h => h) (Or.inl ⟨by rfl, ?_⟩) ?_ ?_
                                      rotate_left
                                      · intro w'
                                        go_simp
                                        with_reducible rfl
                                      rotate_left
                                      · simp only [Act.put, List.setIfInBounds_toArray, List.set_cons_zero, List.set_cons_succ, i64_w, i32_w]
                                        rfl
                                      refine pure_ (i := 22) (N := some 75) (v := ?_) (a' := ?_) #[true, true, true, true, true, true, true, true, true, true, true, true, true, true, true, true, true, true, true, true, true, false, true, false, false, false, false, false, false, false] rfl rfl (any_of HT_.out (by kernel_rfl)) (fun _ _ _ h => h) (Or.inl ⟨by rfl, ?_⟩) ?_ ?_
                                      rotate_left
                                      · intro w'
                                        go_simp
                                        with_reducible rfl
                                      rotate_left
                                      · simp only [Act.put, List.setIfInBounds_toArray, List.set_cons_zero, List.set_cons_succ, i64_w, i32_w]
                                        rfl
                                      refine pure_ (i := 23) (N := some 76) (v := ?_) (a' := ?_) #[true, true, true, true, true, true, true, true, true, true, true, true, true, true, true, true, true, true, true, true, true, false, true, true, false, false, false, false, false, false] rfl rfl (any_of HT_.out (by kernel_rfl)) (fun _ _ _ h => h) (Or.inl ⟨by rfl, ?_⟩) ?_ ?_
                                      rotate_left
                                      · intro w'
                                        go_simp
                                        with_reducible rfl
                                      rotate_left
                                      · simp only [Act.put, List.setIfInBounds_toArray, List.set_cons_zero, List.set_cons_succ, i64_w, i32_w]
                                        rfl
                                      refine pure_ (i := 24) (N := some 77) (v := ?_) (a' := ?_) #[true, true, true, true, true, true, true, true, true, true, true, true, true, true, true, true, true, true, true, true, true, false, true, true, true, false, false, false, false, false] rfl rfl (any_of HT_.out (by kernel_rfl)) (fun _ _ _ h => h) (Or.inl ⟨by rfl, ?_⟩) ?_ ?_
                                      rotate_left
                                      · intro w'
                                        go_simp
                                        with_reducible rfl
                                      rotate_left
                                      · simp only [Act.put, List.setIfInBounds_toArray, List.set_cons_zero, List.set_cons_succ, i64_w, i32_w]
                                        rfl
                                      refine pure_ (i := 25) (N := some 78) (v := ?_) (a' := ?_) #[true, true, true, true, true, true, true, true, true, true, true, true, true, true, true, true, true, true, true, true, true, false, true, true, true, true, false, false, false, false] rfl rfl (any_of HT_.out (by kernel_rfl)) (fun _ _ _ h => h) (Or.inl ⟨by rfl, ?_⟩) ?_ ?_
                                      rotate_left
                                      · intro w'
                                        go_simp
                                        with_reducible rfl
                                      rotate_left
                                      · simp only [Act.put, List.setIfInBounds_toArray, List.set_cons_zero, List.set_cons_succ, i64_w, i32_w]
                                        rfl
                                      refine take_ (i := 21) (N := some 74) (v := ?_) (a' := ?_) #[true, true, true, true, true, true, true, true, true, true, true, true, true, true, true, true, true, true, true, true, true, true, true, true, true, true, false, false, false, false] rfl rfl (take_ofW HT_.out HW_.out (by kernel_rfl)) (fun _ _ _ h => h) (Or.inl ⟨by rfl, ?_⟩) hHeld ?_ ?_
                                      rotate_left
                                      · rintro w' ⟨s0, s1, s2, s3, s4, s5⟩
                                        go_simp
                                        with_reducible rfl
                                      rotate_left
                                      · simp only [Act.put, List.setIfInBounds_toArray, List.set_cons_zero, List.set_cons_succ, i64_w, i32_w]
                                        rfl
                                      refine take_ (i := 26) (N := some 79) (v := ?_) (a' := ?_) #[true, true, true, true, true, true, true, true, true, true, true, true, true, true, true, true, true, true, true, true, true, true, true, true, true, true, true, false, false, false] rfl rfl (take_ofW HT_.out HW_.out (by kernel_rfl)) (fun _ _ _ h => h) (Or.inl ⟨by rfl, ?_⟩) hHeld ?_ ?_
                                      rotate_left
                                      · rintro w' ⟨s0, s1, s2, s3, s4, s5⟩
                                        go_simp
                                        with_reducible rfl
                                      rotate_left
                                      · simp only [Act.put, List.setIfInBounds_toArray, List.set_cons_zero, List.set_cons_succ, i64_w, i32_w]
                                        rfl
                                      refine pure_ (i := 27) (N := some 80) (v := ?_) (a' := ?_) #[true, true, true, true, true, true, true, true, true, true, true, true, true, true, true, true, true, true, true, true, true, true, true, true, true, true, true, true, false, false] rfl rfl (any_of HT_.out (by kernel_rfl)) (fun _ _ _ h => h) (Or.inl ⟨by rfl, ?_⟩) ?_ ?_
                                      rotate_left
                                      · intro w'
                                        go_simp
                                        with_reducible rfl
                                      rotate_left
                                      · simp only [Act.put, List.setIfInBounds_toArray, List.set_cons_zero, List.set_cons_succ, i64_w, i32_w]
                                        rfl
                                      refine pure_ (i := 28) (N := some 81) (v := ?_) (a' := ?_) #[true, true, true, true, true, true, true, true, true, true, true, true, true, true, true, true, true, true, true, true, true, true, true, true, true, true, true, true, true, false] rfl rfl (any_of HT_.out (by kernel_rfl)) (fun _ _ _ h => h) (Or.inl ⟨by rfl, ?_⟩) ?_ ?_
                                      rotate_left
                                      · intro w'
                                        go_simp
                                        with_reducible rfl
                                      rotate_left
                                      · simp only [Act.put, List.setIfInBounds_toArray, List.set_cons_zero, List.set_cons_succ, i64_w, i32_w]
                                        rfl
                                      refine pure_ (i := 29) (N := some 82) (v := ?_) (a' := ?_) #[true, true, true, true, true, true, true, true, true, true, true, true, true, true, true, true, true, true, true, true, true, true, true, true, true, true, true, true, true, true] rfl rfl (any_of HT_.out (by kernel_rfl)) (fun _ _ _ h => h) (Or.inl ⟨by rfl, ?_⟩) ?_ ?_
                                      rotate_left
                                      · intro w'
                                        go_simp
                                        with_reducible rfl
                                      rotate_left
                                      · simp only [Act.put, List.setIfInBounds_toArray, List.set_cons_zero, List.set_cons_succ, i64_w, i32_w]
                                        rfl
                                      refine done_ (done_of HT_.out (by kernel_rfl)) ?_
                                      try go_wp2
                                      go_roundg k4
                                      case measure => have := HJ3.out; have := HJ10.out; have := HJ17.out; have := HK4.out; omega
                                      case rel => exact ⟨(wrap64 (x48_4 + 1)), (by first | rfl | (simp; done) | (rw [prx_ne]; first | done | rfl) | (simp [*]; done)), H', ⟨by have := HJ3.out; have := HJ10.out; have := HJ17.out; have := HK4.out; omega⟩, ⟨by (with_reducible repeat (first | apply Kd.R_alloc | apply Kd.R_drewN | apply Kd.R_drew)); exact Kd.R_mono HO_46.out (fun _ hk => trivial)⟩, ⟨by repeat (first | (with_reducible first | exact HB.out | apply below_alloc | apply pw_below_drewN | apply below_drew1 | refine below_set ?_ GE324.out) | exact HB.out)⟩⟩
                                    · rw [if_neg c43] at H
                                      have c43b0 : (((rd_T47 t320 x48_4).f1).toList == ((rd_T47 l0 x48_4).f1).toList) = false := beq_eq_false_iff_ne.mpr c43
                                      have c43b1 : (((rd_T47 t320 x48_4).f1).toList != ((rd_T47 l0 x48_4).f1).toList) = true := bne_iff_ne.mpr c43
                                      obtain rfl := Option.some.inj H
                                      have p323 : 0 ≤ (x48_4 : Int) := of_decide_eq_true (by first | (with_reducible assumption) | assumption)
                                      have q323 : x48_4 < (t320.length : Int) := of_decide_eq_true (by first | (with_reducible assumption) | assumption)
                                      obtain ⟨ad323, e323, hx323_0, hx323_1⟩ := at_T47 (Kd.R_reads' HO_46.out).2.2 x48_4 p323 q323
                                      cases e323
                                      replace p323 := eq_true p323
                                      replace q323 := eq_true q323
                                      try go_wp2_with (first | ((with_reducible refine gate_dst (N := 9) rfl ?_); (try (refine gate_guard (by rfl) ?_; dsimp only)); refine box_event ?hg (N := 9) ?hd (cs := #[.string (⟨#[]⟩ : ByteArray), .string (⟨#[]⟩ : ByteArray)]) (t := 47) ?hr ?_; (case hd => rfl); (case hg => rfl); (case hr => first | (go_simp; done) | (go_simp; rfl)); intro gb324 hg w50 hbox hb; have n0_ := Aside0.mk (Kd.R_below (Kd.R_elderB (by (with_reducible repeat (first | apply Kd.R_alloc | apply Kd.R_drewN | apply Kd.R_drew)); exact HO_46.out) gb324 (Nat.le_of_eq hg.symm)) hb); have n1_ := Aside0.mk (below_step (by repeat (first | (with_reducible first | exact HB.out | apply below_alloc | apply pw_below_drewN | apply below_drew1) | exact HB.out)) hb); have n2_ := Aside0.mk (hbox); have n3_ := Aside0.mk ((by rw [hg]; exact (below_size (by repeat (first | (with_reducible first | exact HB.out | apply below_alloc | apply pw_below_drewN | apply below_drew1) | exact HB.out))) : w.heap.size ≤ gb324)); have n4_ := Aside0.mk ((by rw [hg]; exact (below_size (by repeat (first | (with_reducible first | exact HB.out | apply below_alloc | apply pw_below_drewN | apply below_drew1) | exact HB.out))) : w.heap.size ≤ gb324)); clear HO_46; clear HB; have HO_46 := n0_; have HB := n1_; have BK324 := n2_; have GW324 := n3_; have GE324 := n4_; clear n0_ n1_ n2_ n3_ n4_; clear hb hbox hg; have hcz51_0 : w50.cell? ⟨gb324, 0, none⟩ = some (.string (⟨#[]⟩ : ByteArray)) := (blk_cell BK324.out 0).trans rfl; have hcz51_1 : w50.cell? ⟨gb324, 1, none⟩ = some (.string (⟨#[]⟩ : ByteArray)) := (blk_cell BK324.out 1).trans rfl; have hfz51_0 := blk_frozen BK324.out 0; have hfz51_1 := blk_frozen BK324.out 1))
                                      have n0_ : Aside0 (Kd.R k47 47 ((w50.setCell ⟨gb324, 0, none⟩ (.string ((rd_T47 t320 x48_4).f0))).setCell ⟨gb324, 1, none⟩ (.string ((rd_T47 t320 x48_4).f1))) w.heap.size (fun k_ => k_ ≠ gb324) (.slice (some ad323) t320.length co30) t320) := ⟨by (with_reducible repeat (first | apply Kd.R_alloc | apply Kd.R_drewN | apply Kd.R_drew)); exact Kd.R_mono (Kd.R_far (p := ⟨gb324, 1, none⟩) (Kd.R_far (p := ⟨gb324, 0, none⟩) (Kd.R_mono HO_46.out (fun k_ hk => (⟨hk, hk.2⟩ : _ ∧ k_ ≠ gb324))) (fun _ hk => hk.2) (.string ((rd_T47 t320 x48_4).f0))) (fun _ hk => hk.2) (.string ((rd_T47 t320 x48_4).f1))) (fun _ hk => hk.1.2)⟩
                                      have n1_ : Aside0 (((w50.setCell ⟨gb324, 0, none⟩ (.string ((rd_T47 t320 x48_4).f0))).setCell ⟨gb324, 1, none⟩ (.string ((rd_T47 t320 x48_4).f1))).heap[gb324]? = some (.cells #[.string ((rd_T47 t320 x48_4).f0), .string ((rd_T47 t320 x48_4).f1)] 47 (0, 0))) := ⟨by (with_reducible repeat (first | refine blk_drewN ?_ _ | refine blk_drew ?_ | refine blk_alloc ?_ _)); refine blk_put (cs := #[.string ((rd_T47 t320 x48_4).f0), .string (⟨#[]⟩ : ByteArray)]) ?_ 1 _ rfl; (with_reducible repeat (first | refine blk_drewN ?_ _ | refine blk_drew ?_ | refine blk_alloc ?_ _)); refine blk_put (cs := #[.string (⟨#[]⟩ : ByteArray), .string (⟨#[]⟩ : ByteArray)]) ?_ 0 _ rfl; (with_reducible repeat (first | refine blk_drewN ?_ _ | refine blk_drew ?_ | refine blk_alloc ?_ _)); exact BK324.out⟩
                                      have n2_ : Aside0 (Below w.heap.size w ((w50.setCell ⟨gb324, 0, none⟩ (.string ((rd_T47 t320 x48_4).f0))).setCell ⟨gb324, 1, none⟩ (.string ((rd_T47 t320 x48_4).f1)))) := ⟨by repeat (first | (with_reducible first | exact HB.out | apply below_alloc | apply pw_below_drewN | apply below_drew1 | refine below_set ?_ GE324.out) | exact HB.out)⟩
                                      (try clear HO_46)
                                      (try clear BK324)
                                      (try clear HB)
                                      generalize ((w50.setCell ⟨gb324, 0, none⟩ (.string ((rd_T47 t320 x48_4).f0))).setCell ⟨gb324, 1, none⟩ (.string ((rd_T47 t320 x48_4).f1))) = w52 at n0_ n1_ n2_ ⊢
                                      have HO_46 := n0_
                                      have BK324 := n1_
                                      have HB := n2_
                                      clear n0_ n1_ n2_
                                      have n0_ := Aside0.mk (Kd.R_drew HO_46.out)
                                      have n1_ := Aside0.mk (blk_drew BK324.out)
                                      have n2_ := Aside0.mk (below_drew1 HB.out)
                                      clear HO_46
                                      clear BK324
                                      clear HB
                                      have HO_46 := n0_
                                      have BK324 := n1_
                                      have HB := n2_
                                      clear n0_ n1_ n2_
                                      have p326 : 0 ≤ (x48_4 : Int) := of_decide_eq_true (by first | (with_reducible assumption) | assumption)
                                      have q326 : x48_4 < (l0.length : Int) := of_decide_eq_true (by first | (with_reducible assumption) | assumption)
                                      obtain ⟨ad326, e326, hx326_0, hx326_1⟩ := at_T47 HR0.out x48_4 p326 q326
                                      have hw326_1 := hx326_1
                                      have hw326_0 := hx326_0
                                      cases e326
                                      replace hx326_0 := (HB.out.cell (World.block_lt_of_cell? w _ hx326_0)).trans hx326_0
                                      replace hx326_1 := (HB.out.cell (World.block_lt_of_cell? w _ hx326_1)).trans hx326_1
                                      replace p326 := eq_true p326
                                      replace q326 := eq_true q326
                                      have p328 : 0 ≤ (x48_4 : Int) := of_decide_eq_true (by first | (with_reducible assumption) | assumption)
                                      have q328 : x48_4 < (l0.length : Int) := of_decide_eq_true (by first | (with_reducible assumption) | assumption)
                                      obtain ⟨ad328, e328, hx328_0, hx328_1⟩ := at_T47 HR0.out x48_4 p328 q328
                                      have hw328_1 := hx328_1
                                      have hw328_0 := hx328_0
                                      obtain rfl : ad326 = ad328 := (by injection e328)
                                      replace hx328_0 := (HB.out.cell (World.block_lt_of_cell? w _ hx328_0)).trans hx328_0
                                      replace hx328_1 := (HB.out.cell (World.block_lt_of_cell? w _ hx328_1)).trans hx328_1
                                      replace p328 := eq_true p328
                                      replace q328 := eq_true q328
                                      refine start_ (n := 30) (S := fun w' => w'.cell? ⟨gb324, 0, none⟩ = some (.string ((rd_T47 t320 x48_4).f0)) ∧ w'.cell? ⟨gb324, 1, none⟩ = some (.string ((rd_T47 t320 x48_4).f1)) ∧ w'.cell? (ad326.add ((x48_4).toNat * 2)) = some (.string ((rd_T47 l0 x48_4).f0)) ∧ w'.cell? ⟨(ad326.add ((x48_4).toNat * 2)).block, (ad326.add ((x48_4).toNat * 2)).off + 1, none⟩ = some (.string ((rd_T47 l0 x48_4).f1)) ∧ w'.cell? (ad326.add ((x48_4).toNat * 2)) = some (.string ((rd_T47 l0 x48_4).f0)) ∧ w'.cell? ⟨(ad326.add ((x48_4).toNat * 2)).block, (ad326.add ((x48_4).toNat * 2)).off + 1, none⟩ = some (.string ((rd_T47 l0 x48_4).f1))) (ds := []) #[false, false, false, false, false, false, false, false, false, false, false, false, false, false, false, false, false, false, false, false, false, false, false, false, false, false, false, false, false, false] (by kernel_rfl) rfl rfl ⟨(blk_cell BK324.out 0).trans rfl, (blk_cell BK324.out 1).trans rfl, ((HB.out.cell (World.block_lt_of_cell? w _ hw326_0)).trans hw326_0), ((HB.out.cell (World.block_lt_of_cell? w _ hw326_1)).trans hw326_1), ((HB.out.cell (World.block_lt_of_cell? w _ hw328_0)).trans hw328_0), ((HB.out.cell (World.block_lt_of_cell? w _ hw328_1)).trans hw328_1)⟩ (fun hHeld => ?_); refine with_tabW laws_FnParamsBackN.tab11 laws_FnParamsBackN.bits11 (fun HT_ HW_ => ?_)
                                      generalize w52.drew = w53 at HO_46 BK324 HB hx326_0 hx326_1 hx328_0 hx328_1 hHeld ⊢
                                      refine pure_ (i := 0) (N := some 53) (v := ?_) (a' := ?_) #[true, false, false, false, false, false, false, false, false, false, false, false, false, false, false, false, false, false, false, false, false, false, false, false, false, false, false, false, false, false] rfl rfl (any_of HT_.out (by kernel_rfl)) (fun _ _ _ h => h) (Or.inl ⟨by rfl, ?_⟩) ?_ ?_
                                      rotate_left
                                      · intro w'
                                        go_simp
                                        with_reducible rfl
                                      rotate_left
                                      · simp only [Act.put, List.setIfInBounds_toArray, List.set_cons_zero, List.set_cons_succ, i64_w, i32_w]
                                        rfl
                                      refine pure_ (i := 1) (N := some 54) (v := ?_) (a' := ?_) #[true, true, false, false, false, false, false, false, false, false, false, false, false, false, false, false, false, false, false, false, false, false, false, false, false, false, false, false, false, false] rfl rfl (any_of HT_.out (by kernel_rfl)) (fun _ _ _ h => h) (Or.inl ⟨by rfl, ?_⟩) ?_ ?_
                                      rotate_left
                                      · intro w'
                                        go_simp
                                        with_reducible rfl
                                      rotate_left
                                      · simp only [Act.put, List.setIfInBounds_toArray, List.set_cons_zero, List.set_cons_succ, i64_w, i32_w]
                                        rfl
                                      refine pure_ (i := 2) (N := some 55) (v := ?_) (a' := ?_) #[true, true, true, false, false, false, false, false, false, false, false, false, false, false, false, false, false, false, false, false, false, false, false, false, false, false, false, false, false, false] rfl rfl (any_of HT_.out (by kernel_rfl)) (fun _ _ _ h => h) (Or.inl ⟨by rfl, ?_⟩) ?_ ?_
                                      rotate_left
                                      · intro w'
                                        go_simp
                                        with_reducible rfl
                                      rotate_left
                                      · simp only [Act.put, List.setIfInBounds_toArray, List.set_cons_zero, List.set_cons_succ, i64_w, i32_w]
                                        rfl
                                      refine pure_ (i := 3) (N := some 56) (v := ?_) (a' := ?_) #[true, true, true, true, false, false, false, false, false, false, false, false, false, false, false, false, false, false, false, false, false, false, false, false, false, false, false, false, false, false] rfl rfl (any_of HT_.out (by kernel_rfl)) (fun _ _ _ h => h) (Or.inl ⟨by rfl, ?_⟩) ?_ ?_
                                      rotate_left
                                      · intro w'
                                        go_simp
                                        with_reducible rfl
                                      rotate_left
                                      · simp only [Act.put, List.setIfInBounds_toArray, List.set_cons_zero, List.set_cons_succ, i64_w, i32_w]
                                        rfl
                                      refine pure_ (i := 4) (N := some 57) (v := ?_) (a' := ?_) #[true, true, true, true, true, false, false, false, false, false, false, false, false, false, false, false, false, false, false, false, false, false, false, false, false, false, false, false, false, false] rfl rfl (any_of HT_.out (by kernel_rfl)) (fun _ _ _ h => h) (Or.inl ⟨by rfl, ?_⟩) ?_ ?_
                                      rotate_left
                                      · intro w'
                                        go_simp
                                        with_reducible rfl
                                      rotate_left
                                      · simp only [Act.put, List.setIfInBounds_toArray, List.set_cons_zero, List.set_cons_succ, i64_w, i32_w]
                                        rfl
                                      refine pure_ (i := 5) (N := some 58) (v := ?_) (a' := ?_) #[true, true, true, true, true, true, false, false, false, false, false, false, false, false, false, false, false, false, false, false, false, false, false, false, false, false, false, false, false, false] rfl rfl (any_of HT_.out (by kernel_rfl)) (fun _ _ _ h => h) (Or.inl ⟨by rfl, ?_⟩) ?_ ?_
                                      rotate_left
                                      · intro w'
                                        go_simp
                                        with_reducible rfl
                                      rotate_left
                                      · simp only [Act.put, List.setIfInBounds_toArray, List.set_cons_zero, List.set_cons_succ, i64_w, i32_w]
                                        rfl
                                      refine pure_ (i := 8) (N := some 61) (v := ?_) (a' := ?_) #[true, true, true, true, true, true, false, false, true, false, false, false, false, false, false, false, false, false, false, false, false, false, false, false, false, false, false, false, false, false] rfl rfl (any_of HT_.out (by kernel_rfl)) (fun _ _ _ h => h) (Or.inl ⟨by rfl, ?_⟩) ?_ ?_
                                      rotate_left
                                      · intro w'
                                        go_simp
                                        with_reducible rfl
                                      rotate_left
                                      · simp only [Act.put, List.setIfInBounds_toArray, List.set_cons_zero, List.set_cons_succ, i64_w, i32_w]
                                        rfl
                                      refine pure_ (i := 9) (N := some 62) (v := ?_) (a' := ?_) #[true, true, true, true, true, true, false, false, true, true, false, false, false, false, false, false, false, false, false, false, false, false, false, false, false, false, false, false, false, false] rfl rfl (any_of HT_.out (by kernel_rfl)) (fun _ _ _ h => h) (Or.inl ⟨by rfl, ?_⟩) ?_ ?_
                                      rotate_left
                                      · intro w'
                                        go_simp
                                        with_reducible rfl
                                      rotate_left
                                      · simp only [Act.put, List.setIfInBounds_toArray, List.set_cons_zero, List.set_cons_succ, i64_w, i32_w]
                                        rfl
                                      refine pure_ (i := 10) (N := some 63) (v := ?_) (a' := ?_) #[true, true, true, true, true, true, false, false, true, true, true, false, false, false, false, false, false, false, false, false, false, false, false, false, false, false, false, false, false, false] rfl rfl (any_of HT_.out (by kernel_rfl)) (fun _ _ _ h => h) (Or.inl ⟨by rfl, ?_⟩) ?_ ?_
                                      rotate_left
                                      · intro w'
                                        go_simp
                                        with_reducible rfl
                                      rotate_left
                                      · simp only [Act.put, List.setIfInBounds_toArray, List.set_cons_zero, List.set_cons_succ, i64_w, i32_w]
                                        rfl
                                      refine pure_ (i := 11) (N := some 64) (v := ?_) (a' := ?_) #[true, true, true, true, true, true, false, false, true, true, true, true, false, false, false, false, false, false, false, false, false, false, false, false, false, false, false, false, false, false] rfl rfl (any_of HT_.out (by kernel_rfl)) (fun _ _ _ h => h) (Or.inl ⟨by rfl, ?_⟩) ?_ ?_
                                      rotate_left
                                      · intro w'
                                        go_simp
                                        with_reducible rfl
                                      rotate_left
                                      · simp only [Act.put, List.setIfInBounds_toArray, List.set_cons_zero, List.set_cons_succ, i64_w, i32_w]
                                        rfl
                                      refine take_ (i := 6) (N := some 59) (v := ?_) (a' := ?_) #[true, true, true, true, true, true, true, false, true, true, true, true, false, false, false, false, false, false, false, false, false, false, false, false, false, false, false, false, false, false] rfl rfl (take_ofW HT_.out HW_.out (by kernel_rfl)) (fun _ _ _ h => h) (Or.inl ⟨by rfl, ?_⟩) hHeld ?_ ?_
                                      rotate_left
                                      · rintro w' ⟨s0, s1, s2, s3, s4, s5⟩
                                        go_simp
                                        with_reducible rfl
                                      rotate_left
                                      · simp only [Act.put, List.setIfInBounds_toArray, List.set_cons_zero, List.set_cons_succ, i64_w, i32_w]
                                        rfl
                                      refine take_ (i := 12) (N := some 65) (v := ?_) (a' := ?_) #[true, true, true, true, true, true, true, false, true, true, true, true, true, false, false, false, false, false, false, false, false, false, false, false, false, false, false, false, false, false] rfl rfl (take_ofW HT_.out HW_.out (by kernel_rfl)) (fun _ _ _ h => h) (Or.inl ⟨by rfl, ?_⟩) hHeld ?_ ?_
                                      rotate_left
                                      · rintro w' ⟨s0, s1, s2, s3, s4, s5⟩
                                        go_simp
                                        with_reducible rfl
                                      rotate_left
                                      · simp only [Act.put, List.setIfInBounds_toArray, List.set_cons_zero, List.set_cons_succ, i64_w, i32_w]
                                        rfl
                                      refine one_ (i := 7) (N := some 60) #[true, true, true, true, true, true, true, true, true, true, true, true, true, false, false, false, false, false, false, false, false, false, false, false, false, false, false, false, false, false] rfl rfl (one_of HT_.out (by kernel_rfl)) (by decide) (fun K hK => ?_)
                                      refine goes_ Try.func29 (by kernel_rfl) rfl #[.string ((rd_T47 t320 x48_4).f0)] (by rfl) rfl rfl (by (try simp only [List.map_toArray, List.map_cons, List.map_nil]); first | done | rfl | (simp only [List.length_drop, List.length_take]; rfl)) ?_
                                      with_reducible refine (laws_low.calls ((rd_T47 t320 x48_4).f0) t325 _ A39.out).mono ?_
                                      rintro e w54 ⟨rfl, hb⟩
                                      refine ⟨_, rfl, ?_⟩
                                      have n0_ := Aside0.mk (Kd.R_below (by (with_reducible repeat (first | apply Kd.R_alloc | apply Kd.R_drewN | apply Kd.R_drew)); exact HO_46.out) hb)
                                      have n1_ := Aside0.mk (blk_below (g := gb324) (o := .cells #[.string ((rd_T47 t320 x48_4).f0), .string ((rd_T47 t320 x48_4).f1)] 47 (0, 0)) (by (with_reducible repeat (first | refine blk_drewN ?_ _ | refine blk_drew ?_ | refine blk_alloc ?_ _)); exact BK324.out) hb)
                                      have n2_ := Aside0.mk (below_step (by repeat (first | (with_reducible first | exact HB.out | apply below_alloc | apply pw_below_drewN | apply below_drew1 | refine below_set ?_ GE324.out) | exact HB.out)) hb)
                                      clear HO_46
                                      clear BK324
                                      clear HB
                                      have HO_46 := n0_
                                      have BK324 := n1_
                                      have HB := n2_
                                      clear n0_ n1_ n2_
                                      (try clear hb)
                                      (try clear hb2)
                                      (try clear hk)
                                      (try clear hi)
                                      refine hK.out _ _ ⟨(blk_cell BK324.out 0).trans rfl, (blk_cell BK324.out 1).trans rfl, ((HB.out.cell (World.block_lt_of_cell? w _ hw326_0)).trans hw326_0), ((HB.out.cell (World.block_lt_of_cell? w _ hw326_1)).trans hw326_1), ((HB.out.cell (World.block_lt_of_cell? w _ hw328_0)).trans hw328_0), ((HB.out.cell (World.block_lt_of_cell? w _ hw328_1)).trans hw328_1)⟩ (fun hHeld => ?_)
                                      clear hK K
                                      refine norm_ (a' := ?_) ?_ ?_
                                      rotate_left
                                      · show Act.put _ (some 60) _ = _
                                        simp only [Act.put, List.setIfInBounds_toArray, List.set_cons_zero, List.set_cons_succ, i64_w, i32_w]
                                        rfl
                                      refine one_ (i := 13) (N := some 66) #[true, true, true, true, true, true, true, true, true, true, true, true, true, true, false, false, false, false, false, false, false, false, false, false, false, false, false, false, false, false] rfl rfl (one_of HT_.out (by kernel_rfl)) (by decide) (fun K hK => ?_)
                                      refine goes_ Try.func29 (by kernel_rfl) rfl #[.string ((rd_T47 l0 x48_4).f0)] (by rfl) rfl rfl (by (try simp only [List.map_toArray, List.map_cons, List.map_nil]); first | done | rfl | (simp only [List.length_drop, List.length_take]; rfl)) ?_
                                      with_reducible refine (laws_low.calls ((rd_T47 l0 x48_4).f0) t327 _ A41.out).mono ?_
                                      rintro e w55 ⟨rfl, hb⟩
                                      refine ⟨_, rfl, ?_⟩
                                      have n0_ := Aside0.mk (Kd.R_below (by (with_reducible repeat (first | apply Kd.R_alloc | apply Kd.R_drewN | apply Kd.R_drew)); exact HO_46.out) hb)
                                      have n1_ := Aside0.mk (blk_below (g := gb324) (o := .cells #[.string ((rd_T47 t320 x48_4).f0), .string ((rd_T47 t320 x48_4).f1)] 47 (0, 0)) (by (with_reducible repeat (first | refine blk_drewN ?_ _ | refine blk_drew ?_ | refine blk_alloc ?_ _)); exact BK324.out) hb)
                                      have n2_ := Aside0.mk (below_step (by repeat (first | (with_reducible first | exact HB.out | apply below_alloc | apply pw_below_drewN | apply below_drew1 | refine below_set ?_ GE324.out) | exact HB.out)) hb)
                                      clear HO_46
                                      clear BK324
                                      clear HB
                                      have HO_46 := n0_
                                      have BK324 := n1_
                                      have HB := n2_
                                      clear n0_ n1_ n2_
                                      (try clear hb)
                                      (try clear hb2)
                                      (try clear hk)
                                      (try clear hi)
                                      refine hK.out _ _ ⟨(blk_cell BK324.out 0).trans rfl, (blk_cell BK324.out 1).trans rfl, ((HB.out.cell (World.block_lt_of_cell? w _ hw326_0)).trans hw326_0), ((HB.out.cell (World.block_lt_of_cell? w _ hw326_1)).trans hw326_1), ((HB.out.cell (World.block_lt_of_cell? w _ hw328_0)).trans hw328_0), ((HB.out.cell (World.block_lt_of_cell? w _ hw328_1)).trans hw328_1)⟩ (fun hHeld => ?_)
                                      clear hK K
                                      refine norm_ (a' := ?_) ?_ ?_
                                      rotate_left
                                      · show Act.put _ (some 66) _ = _
                                        simp only [Act.put, List.setIfInBounds_toArray, List.set_cons_zero, List.set_cons_succ, i64_w, i32_w]
                                        rfl
                                      refine pure_ (i := 14) (N := some 67) (v := ?_) (a' := ?_) #[true, true, true, true, true, true, true, true, true, true, true, true, true, true, true, false, false, false, false, false, false, false, false, false, false, false, false, false, false, false] rfl rfl (any_of HT_.out (by kernel_rfl)) (fun _ _ _ h => h) (Or.inl ⟨by rfl, ?_⟩) ?_ ?_
                                      rotate_left
                                      · intro w'
                                        go_simp
                                        with_reducible rfl
                                      rotate_left
                                      · simp only [Act.put, List.setIfInBounds_toArray, List.set_cons_zero, List.set_cons_succ, i64_w, i32_w]
                                        rfl
                                      refine pure_ (i := 15) (N := some 68) (v := ?_) (a' := ?_) #[true, true, true, true, true, true, true, true, true, true, true, true, true, true, true, true, false, false, false, false, false, false, false, false, false, false, false, false, false, false] rfl rfl (any_of HT_.out (by kernel_rfl)) (fun _ _ _ h => h) (Or.inl ⟨by rfl, ?_⟩) ?_ ?_
                                      rotate_left
                                      · intro w'
                                        go_simp
                                        with_reducible rfl
                                      rotate_left
                                      · simp only [Act.put, List.setIfInBounds_toArray, List.set_cons_zero, List.set_cons_succ, i64_w, i32_w]
                                        rfl
                                      refine pure_ (i := 16) (N := some 69) (v := ?_) (a' := ?_) #[true, true, true, true, true, true, true, true, true, true, true, true, true, true, true, true, true, false, false, false, false, false, false, false, false, false, false, false, false, false] rfl rfl (any_of HT_.out (by kernel_rfl)) (fun _ _ _ h => h) (Or.inl ⟨by rfl, ?_⟩) ?_ ?_
                                      rotate_left
                                      · intro w'
                                        go_simp
                                        with_reducible rfl
                                      rotate_left
                                      · simp only [Act.put, List.setIfInBounds_toArray, List.set_cons_zero, List.set_cons_succ, i64_w, i32_w]
                                        rfl
                                      refine pure_ (i := 17) (N := some 70) (v := ?_) (a' := ?_) #[true, true, true, true, true, true, true, true, true, true, true, true, true, true, true, true, true, true, false, false, false, false, false, false, false, false, false, false, false, false] rfl rfl (any_of HT_.out (by kernel_rfl)) (fun _ _ _ h => h) (Or.inl ⟨by rfl, ?_⟩) ?_ ?_
                                      rotate_left
                                      · intro w'
                                        go_simp
                                        with_reducible rfl
                                      rotate_left
                                      · simp only [Act.put, List.setIfInBounds_toArray, List.set_cons_zero, List.set_cons_succ, i64_w, i32_w]
                                        rfl
                                      refine pure_ (i := 18) (N := some 71) (v := ?_) (a' := ?_) #[true, true, true, true, true, true, true, true, true, true, true, true, true, true, true, true, true, true, true, false, false, false, false, false, false, false, false, false, false, false] rfl rfl (any_of HT_.out (by kernel_rfl)) (fun _ _ _ h => h) (Or.inl ⟨by rfl, ?_⟩) ?_ ?_
                                      rotate_left
                                      · intro w'
                                        go_simp
                                        with_reducible rfl
                                      rotate_left
                                      · simp only [Act.put, List.setIfInBounds_toArray, List.set_cons_zero, List.set_cons_succ, i64_w, i32_w]
                                        rfl
                                      refine pure_ (i := 19) (N := some 72) (v := ?_) (a' := ?_) #[true, true, true, true, true, true, true, true, true, true, true, true, true, true, true, true, true, true, true, true, false, false, false, false, false, false, false, false, false, false] rfl rfl (any_of HT_.out (by kernel_rfl)) (fun _ _ _ h => h) (Or.inl ⟨by rfl, ?_⟩) ?_ ?_
                                      rotate_left
                                      · intro w'
                                        go_simp
                                        with_reducible rfl
                                      rotate_left
                                      · simp only [Act.put, List.setIfInBounds_toArray, List.set_cons_zero, List.set_cons_succ, i64_w, i32_w]
                                        rfl
                                      refine pure_ (i := 20) (N := some 73) (v := ?_) (a' := ?_) #[true, true, true, true, true, true, true, true, true, true, true, true, true, true, true, true, true, true, true, true, true, false, false, false, false, false, false, false, false, false] rfl rfl (any_of HT_.out (by kernel_rfl)) (fun _ _ _ h => h) (Or.inl ⟨by rfl, ?_⟩) ?_ ?_
                                      rotate_left
                                      · intro w'
                                        go_simp
                                        with_reducible rfl
                                      rotate_left
                                      · simp only [Act.put, List.setIfInBounds_toArray, List.set_cons_zero, List.set_cons_succ, i64_w, i32_w]
                                        rfl
                                      refine pure_ (i := 22) (N := some 75) (v := ?_) (a' := ?_) #[true, true, true, true, true, true, true, true, true, true, true, true, true, true, true, true, true, true, true, true, true, false, true, false, false, false, false, false, false, false] rfl rfl (any_of HT_.out (by kernel_rfl)) (fun _ _ _ h => h) (Or.inl ⟨by rfl, ?_⟩) ?_ ?_
                                      rotate_left
                                      · intro w'
                                        go_simp
                                        with_reducible rfl
                                      rotate_left
                                      · simp only [Act.put, List.setIfInBounds_toArray, List.set_cons_zero, List.set_cons_succ, i64_w, i32_w]
                                        rfl
                                      refine pure_ (i := 23) (N := some 76) (v := ?_) (a' := ?_) #[true, true, true, true, true, true, true, true, true, true, true, true, true, true, true, true, true, true, true, true, true, false, true, true, false, false, false, false, false, false] rfl rfl (any_of HT_.out (by kernel_rfl)) (fun _ _ _ h => h) (Or.inl ⟨by rfl, ?_⟩) ?_ ?_
                                      rotate_left
                                      · intro w'
                                        go_simp
                                        with_reducible rfl
                                      rotate_left
                                      · simp only [Act.put, List.setIfInBounds_toArray, List.set_cons_zero, List.set_cons_succ, i64_w, i32_w]
                                        rfl
                                      refine pure_ (i := 24) (N := some 77) (v := ?_) (a' := ?_) #[true, true, true, true, true, true, true, true, true, true, true, true, true, true, true, true, true, true, true, true, true, false, true, true, true, false, false, false, false, false] rfl rfl (any_of HT_.out (by kernel_rfl)) (fun _ _ _ h => h) (Or.inl ⟨by rfl, ?_⟩) ?_ ?_
                                      rotate_left
                                      · intro w'
                                        go_simp
                                        with_reducible rfl
                                      rotate_left
                                      · simp only [Act.put, List.setIfInBounds_toArray, List.set_cons_zero, List.set_cons_succ, i64_w, i32_w]
                                        rfl
                                      refine pure_ (i := 25) (N := some 78) (v := ?_) (a' := ?_) #[true, true, true, true, true, true, true, true, true, true, true, true, true, true, true, true, true, true, true, true, true, false, true, true, true, true, false, false, false, false] rfl rfl (any_of HT_.out (by kernel_rfl)) (fun _ _ _ h => h) (Or.inl ⟨by rfl, ?_⟩) ?_ ?_
                                      rotate_left
                                      · intro w'
                                        go_simp
                                        with_reducible rfl
                                      rotate_left
                                      · simp only [Act.put, List.setIfInBounds_toArray, List.set_cons_zero, List.set_cons_succ, i64_w, i32_w]
                                        rfl
                                      refine take_ (i := 21) (N := some 74) (v := ?_) (a' := ?_) #[true, true, true, true, true, true, true, true, true, true, true, true, true, true, true, true, true, true, true, true, true, true, true, true, true, true, false, false, false, false] rfl rfl (take_ofW HT_.out HW_.out (by kernel_rfl)) (fun _ _ _ h => h) (Or.inl ⟨by rfl, ?_⟩) hHeld ?_ ?_
                                      rotate_left
                                      · rintro w' ⟨s0, s1, s2, s3, s4, s5⟩
                                        go_simp
                                        with_reducible rfl
                                      rotate_left
                                      · simp only [Act.put, List.setIfInBounds_toArray, List.set_cons_zero, List.set_cons_succ, i64_w, i32_w]
                                        rfl
                                      refine take_ (i := 26) (N := some 79) (v := ?_) (a' := ?_) #[true, true, true, true, true, true, true, true, true, true, true, true, true, true, true, true, true, true, true, true, true, true, true, true, true, true, true, false, false, false] rfl rfl (take_ofW HT_.out HW_.out (by kernel_rfl)) (fun _ _ _ h => h) (Or.inl ⟨by rfl, ?_⟩) hHeld ?_ ?_
                                      rotate_left
                                      · rintro w' ⟨s0, s1, s2, s3, s4, s5⟩
                                        go_simp
                                        with_reducible rfl
                                      rotate_left
                                      · simp only [Act.put, List.setIfInBounds_toArray, List.set_cons_zero, List.set_cons_succ, i64_w, i32_w]
                                        rfl
                                      refine pure_ (i := 27) (N := some 80) (v := ?_) (a' := ?_) #[true, true, true, true, true, true, true, true, true, true, true, true, true, true, true, true, true, true, true, true, true, true, true, true, true, true, true, true, false, false] rfl rfl (any_of HT_.out (by kernel_rfl)) (fun _ _ _ h => h) (Or.inl ⟨by rfl, ?_⟩) ?_ ?_
                                      rotate_left
                                      · intro w'
                                        go_simp
                                        with_reducible rfl
                                      rotate_left
                                      · simp only [Act.put, List.setIfInBounds_toArray, List.set_cons_zero, List.set_cons_succ, i64_w, i32_w]
                                        rfl
                                      refine pure_ (i := 28) (N := some 81) (v := ?_) (a' := ?_) #[true, true, true, true, true, true, true, true, true, true, true, true, true, true, true, true, true, true, true, true, true, true, true, true, true, true, true, true, true, false] rfl rfl (any_of HT_.out (by kernel_rfl)) (fun _ _ _ h => h) (Or.inl ⟨by rfl, ?_⟩) ?_ ?_
                                      rotate_left
                                      · intro w'
                                        go_simp
                                        with_reducible rfl
                                      rotate_left
                                      · simp only [Act.put, List.setIfInBounds_toArray, List.set_cons_zero, List.set_cons_succ, i64_w, i32_w]
                                        rfl
                                      refine pure_ (i := 29) (N := some 82) (v := ?_) (a' := ?_) #[true, true, true, true, true, true, true, true, true, true, true, true, true, true, true, true, true, true, true, true, true, true, true, true, true, true, true, true, true, true] rfl rfl (any_of HT_.out (by kernel_rfl)) (fun _ _ _ h => h) (Or.inl ⟨by rfl, ?_⟩) ?_ ?_
                                      rotate_left
                                      · intro w'
                                        go_simp
                                        with_reducible rfl
                                      rotate_left
                                      · simp only [Act.put, List.setIfInBounds_toArray, List.set_cons_zero, List.set_cons_succ, i64_w, i32_w]
                                        rfl
                                      refine done_ (done_of HT_.out (by kernel_rfl)) ?_
                                      try go_wp2
                                      go_ret
                                      exact ⟨by first | rfl | (simp [errW_none, errW_some] <;> rfl) | (simp [*, errW_none, errW_some] <;> rfl), by repeat (first | (with_reducible first | exact HB.out | apply below_alloc | apply pw_below_drewN | apply below_drew1 | refine below_set ?_ GE324.out) | exact HB.out)⟩
                                  · rw [if_neg c42] at H
                                    have c42b0 : (t325.toList == t327.toList) = false := beq_eq_false_iff_ne.mpr c42
                                    have c42b1 : (t325.toList != t327.toList) = true := bne_iff_ne.mpr c42
                                    obtain rfl := Option.some.inj H
                                    have p323 : 0 ≤ (x48_4 : Int) := of_decide_eq_true (by first | (with_reducible assumption) | assumption)
                                    have q323 : x48_4 < (t320.length : Int) := of_decide_eq_true (by first | (with_reducible assumption) | assumption)
                                    obtain ⟨ad323, e323, hx323_0, hx323_1⟩ := at_T47 (Kd.R_reads' HO_46.out).2.2 x48_4 p323 q323
                                    cases e323
                                    replace p323 := eq_true p323
                                    replace q323 := eq_true q323
                                    try go_wp2_with (first | ((with_reducible refine gate_dst (N := 9) rfl ?_); (try (refine gate_guard (by rfl) ?_; dsimp only)); refine box_event ?hg (N := 9) ?hd (cs := #[.string (⟨#[]⟩ : ByteArray), .string (⟨#[]⟩ : ByteArray)]) (t := 47) ?hr ?_; (case hd => rfl); (case hg => rfl); (case hr => first | (go_simp; done) | (go_simp; rfl)); intro gb324 hg w56 hbox hb; have n0_ := Aside0.mk (Kd.R_below (Kd.R_elderB (by (with_reducible repeat (first | apply Kd.R_alloc | apply Kd.R_drewN | apply Kd.R_drew)); exact HO_46.out) gb324 (Nat.le_of_eq hg.symm)) hb); have n1_ := Aside0.mk (below_step (by repeat (first | (with_reducible first | exact HB.out | apply below_alloc | apply pw_below_drewN | apply below_drew1) | exact HB.out)) hb); have n2_ := Aside0.mk (hbox); have n3_ := Aside0.mk ((by rw [hg]; exact (below_size (by repeat (first | (with_reducible first | exact HB.out | apply below_alloc | apply pw_below_drewN | apply below_drew1) | exact HB.out))) : w.heap.size ≤ gb324)); have n4_ := Aside0.mk ((by rw [hg]; exact (below_size (by repeat (first | (with_reducible first | exact HB.out | apply below_alloc | apply pw_below_drewN | apply below_drew1) | exact HB.out))) : w.heap.size ≤ gb324)); clear HO_46; clear HB; have HO_46 := n0_; have HB := n1_; have BK324 := n2_; have GW324 := n3_; have GE324 := n4_; clear n0_ n1_ n2_ n3_ n4_; clear hb hbox hg; have hcz57_0 : w56.cell? ⟨gb324, 0, none⟩ = some (.string (⟨#[]⟩ : ByteArray)) := (blk_cell BK324.out 0).trans rfl; have hcz57_1 : w56.cell? ⟨gb324, 1, none⟩ = some (.string (⟨#[]⟩ : ByteArray)) := (blk_cell BK324.out 1).trans rfl; have hfz57_0 := blk_frozen BK324.out 0; have hfz57_1 := blk_frozen BK324.out 1))
                                    have n0_ : Aside0 (Kd.R k47 47 ((w56.setCell ⟨gb324, 0, none⟩ (.string ((rd_T47 t320 x48_4).f0))).setCell ⟨gb324, 1, none⟩ (.string ((rd_T47 t320 x48_4).f1))) w.heap.size (fun k_ => k_ ≠ gb324) (.slice (some ad323) t320.length co30) t320) := ⟨by (with_reducible repeat (first | apply Kd.R_alloc | apply Kd.R_drewN | apply Kd.R_drew)); exact Kd.R_mono (Kd.R_far (p := ⟨gb324, 1, none⟩) (Kd.R_far (p := ⟨gb324, 0, none⟩) (Kd.R_mono HO_46.out (fun k_ hk => (⟨hk, hk.2⟩ : _ ∧ k_ ≠ gb324))) (fun _ hk => hk.2) (.string ((rd_T47 t320 x48_4).f0))) (fun _ hk => hk.2) (.string ((rd_T47 t320 x48_4).f1))) (fun _ hk => hk.1.2)⟩
                                    have n1_ : Aside0 (((w56.setCell ⟨gb324, 0, none⟩ (.string ((rd_T47 t320 x48_4).f0))).setCell ⟨gb324, 1, none⟩ (.string ((rd_T47 t320 x48_4).f1))).heap[gb324]? = some (.cells #[.string ((rd_T47 t320 x48_4).f0), .string ((rd_T47 t320 x48_4).f1)] 47 (0, 0))) := ⟨by (with_reducible repeat (first | refine blk_drewN ?_ _ | refine blk_drew ?_ | refine blk_alloc ?_ _)); refine blk_put (cs := #[.string ((rd_T47 t320 x48_4).f0), .string (⟨#[]⟩ : ByteArray)]) ?_ 1 _ rfl; (with_reducible repeat (first | refine blk_drewN ?_ _ | refine blk_drew ?_ | refine blk_alloc ?_ _)); refine blk_put (cs := #[.string (⟨#[]⟩ : ByteArray), .string (⟨#[]⟩ : ByteArray)]) ?_ 0 _ rfl; (with_reducible repeat (first | refine blk_drewN ?_ _ | refine blk_drew ?_ | refine blk_alloc ?_ _)); exact BK324.out⟩
                                    have n2_ : Aside0 (Below w.heap.size w ((w56.setCell ⟨gb324, 0, none⟩ (.string ((rd_T47 t320 x48_4).f0))).setCell ⟨gb324, 1, none⟩ (.string ((rd_T47 t320 x48_4).f1)))) := ⟨by repeat (first | (with_reducible first | exact HB.out | apply below_alloc | apply pw_below_drewN | apply below_drew1 | refine below_set ?_ GE324.out) | exact HB.out)⟩
                                    (try clear HO_46)
                                    (try clear BK324)
                                    (try clear HB)
                                    generalize ((w56.setCell ⟨gb324, 0, none⟩ (.string ((rd_T47 t320 x48_4).f0))).setCell ⟨gb324, 1, none⟩ (.string ((rd_T47 t320 x48_4).f1))) = w58 at n0_ n1_ n2_ ⊢
                                    have HO_46 := n0_
                                    have BK324 := n1_
                                    have HB := n2_
                                    clear n0_ n1_ n2_
                                    have n0_ := Aside0.mk (Kd.R_drew HO_46.out)
                                    have n1_ := Aside0.mk (blk_drew BK324.out)
                                    have n2_ := Aside0.mk (below_drew1 HB.out)
                                    clear HO_46
                                    clear BK324
                                    clear HB
                                    have HO_46 := n0_
                                    have BK324 := n1_
                                    have HB := n2_
                                    clear n0_ n1_ n2_
                                    have p326 : 0 ≤ (x48_4 : Int) := of_decide_eq_true (by first | (with_reducible assumption) | assumption)
                                    have q326 : x48_4 < (l0.length : Int) := of_decide_eq_true (by first | (with_reducible assumption) | assumption)
                                    obtain ⟨ad326, e326, hx326_0, hx326_1⟩ := at_T47 HR0.out x48_4 p326 q326
                                    have hw326_1 := hx326_1
                                    have hw326_0 := hx326_0
                                    cases e326
                                    replace hx326_0 := (HB.out.cell (World.block_lt_of_cell? w _ hx326_0)).trans hx326_0
                                    replace hx326_1 := (HB.out.cell (World.block_lt_of_cell? w _ hx326_1)).trans hx326_1
                                    replace p326 := eq_true p326
                                    replace q326 := eq_true q326
                                    refine start_ (n := 30) (S := fun w' => w'.cell? ⟨gb324, 0, none⟩ = some (.string ((rd_T47 t320 x48_4).f0)) ∧ w'.cell? ⟨gb324, 1, none⟩ = some (.string ((rd_T47 t320 x48_4).f1)) ∧ w'.cell? (ad326.add ((x48_4).toNat * 2)) = some (.string ((rd_T47 l0 x48_4).f0)) ∧ w'.cell? ⟨(ad326.add ((x48_4).toNat * 2)).block, (ad326.add ((x48_4).toNat * 2)).off + 1, none⟩ = some (.string ((rd_T47 l0 x48_4).f1))) (ds := []) #[false, false, false, false, false, false, false, false, false, false, false, false, false, false, false, false, false, false, false, false, false, false, false, false, false, false, false, false, false, false] (by kernel_rfl) rfl rfl ⟨(blk_cell BK324.out 0).trans rfl, (blk_cell BK324.out 1).trans rfl, ((HB.out.cell (World.block_lt_of_cell? w _ hw326_0)).trans hw326_0), ((HB.out.cell (World.block_lt_of_cell? w _ hw326_1)).trans hw326_1)⟩ (fun hHeld => ?_); refine with_tabW laws_FnParamsBackN.tab11 laws_FnParamsBackN.bits11 (fun HT_ HW_ => ?_)
                                    generalize w58.drew = w59 at HO_46 BK324 HB hx326_0 hx326_1 hHeld ⊢
                                    refine pure_ (i := 0) (N := some 53) (v := ?_) (a' := ?_) #[true, false, false, false, false, false, false, false, false, false, false, false, false, false, false, false, false, false, false, false, false, false, false, false, false, false, false, false, false, false] rfl rfl (any_of HT_.out (by kernel_rfl)) (fun _ _ _ h => h) (Or.inl ⟨by rfl, ?_⟩) ?_ ?_
                                    rotate_left
                                    · intro w'
                                      go_simp
                                      with_reducible rfl
                                    rotate_left
                                    · simp only [Act.put, List.setIfInBounds_toArray, List.set_cons_zero, List.set_cons_succ, i64_w, i32_w]
                                      rfl
                                    refine pure_ (i := 1) (N := some 54) (v := ?_) (a' := ?_) #[true, true, false, false, false, false, false, false, false, false, false, false, false, false, false, false, false, false, false, false, false, false, false, false, false, false, false, false, false, false] rfl rfl (any_of HT_.out (by kernel_rfl)) (fun _ _ _ h => h) (Or.inl ⟨by rfl, ?_⟩) ?_ ?_
                                    rotate_left
                                    · intro w'
                                      go_simp
                                      with_reducible rfl
                                    rotate_left
                                    · simp only [Act.put, List.setIfInBounds_toArray, List.set_cons_zero, List.set_cons_succ, i64_w, i32_w]
                                      rfl
                                    refine pure_ (i := 2) (N := some 55) (v := ?_) (a' := ?_) #[true, true, true, false, false, false, false, false, false, false, false, false, false, false, false, false, false, false, false, false, false, false, false, false, false, false, false, false, false, false] rfl rfl (any_of HT_.out (by kernel_rfl)) (fun _ _ _ h => h) (Or.inl ⟨by rfl, ?_⟩) ?_ ?_
                                    rotate_left
                                    · intro w'
                                      go_simp
                                      with_reducible rfl
                                    rotate_left
                                    · simp only [Act.put, List.setIfInBounds_toArray, List.set_cons_zero, List.set_cons_succ, i64_w, i32_w]
                                      rfl
                                    refine pure_ (i := 3) (N := some 56) (v := ?_) (a' := ?_) #[true, true, true, true, false, false, false, false, false, false, false, false, false, false, false, false, false, false, false, false, false, false, false, false, false, false, false, false, false, false] rfl rfl (any_of HT_.out (by kernel_rfl)) (fun _ _ _ h => h) (Or.inl ⟨by rfl, ?_⟩) ?_ ?_
                                    rotate_left
                                    · intro w'
                                      go_simp
                                      with_reducible rfl
                                    rotate_left
                                    · simp only [Act.put, List.setIfInBounds_toArray, List.set_cons_zero, List.set_cons_succ, i64_w, i32_w]
                                      rfl
                                    refine pure_ (i := 4) (N := some 57) (v := ?_) (a' := ?_) #[true, true, true, true, true, false, false, false, false, false, false, false, false, false, false, false, false, false, false, false, false, false, false, false, false, false, false, false, false, false] rfl rfl (any_of HT_.out (by kernel_rfl)) (fun _ _ _ h => h) (Or.inl ⟨by rfl, ?_⟩) ?_ ?_
                                    rotate_left
                                    · intro w'
                                      go_simp
                                      with_reducible rfl
                                    rotate_left
                                    · simp only [Act.put, List.setIfInBounds_toArray, List.set_cons_zero, List.set_cons_succ, i64_w, i32_w]
                                      rfl
                                    refine pure_ (i := 5) (N := some 58) (v := ?_) (a' := ?_) #[true, true, true, true, true, true, false, false, false, false, false, false, false, false, false, false, false, false, false, false, false, false, false, false, false, false, false, false, false, false] rfl rfl (any_of HT_.out (by kernel_rfl)) (fun _ _ _ h => h) (Or.inl ⟨by rfl, ?_⟩) ?_ ?_
                                    rotate_left
                                    · intro w'
                                      go_simp
                                      with_reducible rfl
                                    rotate_left
                                    · simp only [Act.put, List.setIfInBounds_toArray, List.set_cons_zero, List.set_cons_succ, i64_w, i32_w]
                                      rfl
                                    refine pure_ (i := 8) (N := some 61) (v := ?_) (a' := ?_) #[true, true, true, true, true, true, false, false, true, false, false, false, false, false, false, false, false, false, false, false, false, false, false, false, false, false, false, false, false, false] rfl rfl (any_of HT_.out (by kernel_rfl)) (fun _ _ _ h => h) (Or.inl ⟨by rfl, ?_⟩) ?_ ?_
                                    rotate_left
                                    · intro w'
                                      go_simp
                                      with_reducible rfl
                                    rotate_left
                                    · simp only [Act.put, List.setIfInBounds_toArray, List.set_cons_zero, List.set_cons_succ, i64_w, i32_w]
                                      rfl
                                    refine pure_ (i := 9) (N := some 62) (v := ?_) (a' := ?_) #[true, true, true, true, true, true, false, false, true, true, false, false, false, false, false, false, false, false, false, false, false, false, false, false, false, false, false, false, false, false] rfl rfl (any_of HT_.out (by kernel_rfl)) (fun _ _ _ h => h) (Or.inl ⟨by rfl, ?_⟩) ?_ ?_
                                    rotate_left
                                    · intro w'
                                      go_simp
                                      with_reducible rfl
                                    rotate_left
                                    · simp only [Act.put, List.setIfInBounds_toArray, List.set_cons_zero, List.set_cons_succ, i64_w, i32_w]
                                      rfl
                                    refine pure_ (i := 10) (N := some 63) (v := ?_) (a' := ?_) #[true, true, true, true, true, true, false, false, true, true, true, false, false, false, false, false, false, false, false, false, false, false, false, false, false, false, false, false, false, false] rfl rfl (any_of HT_.out (by kernel_rfl)) (fun _ _ _ h => h) (Or.inl ⟨by rfl, ?_⟩) ?_ ?_
                                    rotate_left
                                    · intro w'
                                      go_simp
                                      with_reducible rfl
                                    rotate_left
                                    · simp only [Act.put, List.setIfInBounds_toArray, List.set_cons_zero, List.set_cons_succ, i64_w, i32_w]
                                      rfl
                                    refine pure_ (i := 11) (N := some 64) (v := ?_) (a' := ?_) #[true, true, true, true, true, true, false, false, true, true, true, true, false, false, false, false, false, false, false, false, false, false, false, false, false, false, false, false, false, false] rfl rfl (any_of HT_.out (by kernel_rfl)) (fun _ _ _ h => h) (Or.inl ⟨by rfl, ?_⟩) ?_ ?_
                                    rotate_left
                                    · intro w'
                                      go_simp
                                      with_reducible rfl
                                    rotate_left
                                    · simp only [Act.put, List.setIfInBounds_toArray, List.set_cons_zero, List.set_cons_succ, i64_w, i32_w]
                                      rfl
                                    refine take_ (i := 6) (N := some 59) (v := ?_) (a' := ?_) #[true, true, true, true, true, true, true, false, true, true, true, true, false, false, false, false, false, false, false, false, false, false, false, false, false, false, false, false, false, false] rfl rfl (take_ofW HT_.out HW_.out (by kernel_rfl)) (fun _ _ _ h => h) (Or.inl ⟨by rfl, ?_⟩) hHeld ?_ ?_
                                    rotate_left
                                    · rintro w' ⟨s0, s1, s2, s3⟩
                                      go_simp
                                      with_reducible rfl
                                    rotate_left
                                    · simp only [Act.put, List.setIfInBounds_toArray, List.set_cons_zero, List.set_cons_succ, i64_w, i32_w]
                                      rfl
                                    refine take_ (i := 12) (N := some 65) (v := ?_) (a' := ?_) #[true, true, true, true, true, true, true, false, true, true, true, true, true, false, false, false, false, false, false, false, false, false, false, false, false, false, false, false, false, false] rfl rfl (take_ofW HT_.out HW_.out (by kernel_rfl)) (fun _ _ _ h => h) (Or.inl ⟨by rfl, ?_⟩) hHeld ?_ ?_
                                    rotate_left
                                    · rintro w' ⟨s0, s1, s2, s3⟩
                                      go_simp
                                      with_reducible rfl
                                    rotate_left
                                    · simp only [Act.put, List.setIfInBounds_toArray, List.set_cons_zero, List.set_cons_succ, i64_w, i32_w]
                                      rfl
                                    refine one_ (i := 7) (N := some 60) #[true, true, true, true, true, true, true, true, true, true, true, true, true, false, false, false, false, false, false, false, false, false, false, false, false, false, false, false, false, false] rfl rfl (one_of HT_.out (by kernel_rfl)) (by decide) (fun K hK => ?_)
                                    refine goes_ Try.func29 (by kernel_rfl) rfl #[.string ((rd_T47 t320 x48_4).f0)] (by rfl) rfl rfl (by (try simp only [List.map_toArray, List.map_cons, List.map_nil]); first | done | rfl | (simp only [List.length_drop, List.length_take]; rfl)) ?_
                                    with_reducible refine (laws_low.calls ((rd_T47 t320 x48_4).f0) t325 _ A39.out).mono ?_
                                    rintro e w60 ⟨rfl, hb⟩
                                    refine ⟨_, rfl, ?_⟩
                                    have n0_ := Aside0.mk (Kd.R_below (by (with_reducible repeat (first | apply Kd.R_alloc | apply Kd.R_drewN | apply Kd.R_drew)); exact HO_46.out) hb)
                                    have n1_ := Aside0.mk (blk_below (g := gb324) (o := .cells #[.string ((rd_T47 t320 x48_4).f0), .string ((rd_T47 t320 x48_4).f1)] 47 (0, 0)) (by (with_reducible repeat (first | refine blk_drewN ?_ _ | refine blk_drew ?_ | refine blk_alloc ?_ _)); exact BK324.out) hb)
                                    have n2_ := Aside0.mk (below_step (by repeat (first | (with_reducible first | exact HB.out | apply below_alloc | apply pw_below_drewN | apply below_drew1 | refine below_set ?_ GE324.out) | exact HB.out)) hb)
                                    clear HO_46
                                    clear BK324
                                    clear HB
                                    have HO_46 := n0_
                                    have BK324 := n1_
                                    have HB := n2_
                                    clear n0_ n1_ n2_
                                    (try clear hb)
                                    (try clear hb2)
                                    (try clear hk)
                                    (try clear hi)
                                    refine hK.out _ _ ⟨(blk_cell BK324.out 0).trans rfl, (blk_cell BK324.out 1).trans rfl, ((HB.out.cell (World.block_lt_of_cell? w _ hw326_0)).trans hw326_0), ((HB.out.cell (World.block_lt_of_cell? w _ hw326_1)).trans hw326_1)⟩ (fun hHeld => ?_)
                                    clear hK K
                                    refine norm_ (a' := ?_) ?_ ?_
                                    rotate_left
                                    · show Act.put _ (some 60) _ = _
                                      simp only [Act.put, List.setIfInBounds_toArray, List.set_cons_zero, List.set_cons_succ, i64_w, i32_w]
                                      rfl
                                    refine one_ (i := 13) (N := some 66) #[true, true, true, true, true, true, true, true, true, true, true, true, true, true, false, false, false, false, false, false, false, false, false, false, false, false, false, false, false, false] rfl rfl (one_of HT_.out (by kernel_rfl)) (by decide) (fun K hK => ?_)
                                    refine goes_ Try.func29 (by kernel_rfl) rfl #[.string ((rd_T47 l0 x48_4).f0)] (by rfl) rfl rfl (by (try simp only [List.map_toArray, List.map_cons, List.map_nil]); first | done | rfl | (simp only [List.length_drop, List.length_take]; rfl)) ?_
                                    with_reducible refine (laws_low.calls ((rd_T47 l0 x48_4).f0) t327 _ A41.out).mono ?_
                                    rintro e w61 ⟨rfl, hb⟩
                                    refine ⟨_, rfl, ?_⟩
                                    have n0_ := Aside0.mk (Kd.R_below (by (with_reducible repeat (first | apply Kd.R_alloc | apply Kd.R_drewN | apply Kd.R_drew)); exact HO_46.out) hb)
                                    have n1_ := Aside0.mk (blk_below (g := gb324) (o := .cells #[.string ((rd_T47 t320 x48_4).f0), .string ((rd_T47 t320 x48_4).f1)] 47 (0, 0)) (by (with_reducible repeat (first | refine blk_drewN ?_ _ | refine blk_drew ?_ | refine blk_alloc ?_ _)); exact BK324.out) hb)
                                    have n2_ := Aside0.mk (below_step (by repeat (first | (with_reducible first | exact HB.out | apply below_alloc | apply pw_below_drewN | apply below_drew1 | refine below_set ?_ GE324.out) | exact HB.out)) hb)
                                    clear HO_46
                                    clear BK324
                                    clear HB
                                    have HO_46 := n0_
                                    have BK324 := n1_
                                    have HB := n2_
                                    clear n0_ n1_ n2_
                                    (try clear hb)
                                    (try clear hb2)
                                    (try clear hk)
                                    (try clear hi)
                                    refine hK.out _ _ ⟨(blk_cell BK324.out 0).trans rfl, (blk_cell BK324.out 1).trans rfl, ((HB.out.cell (World.block_lt_of_cell? w _ hw326_0)).trans hw326_0), ((HB.out.cell (World.block_lt_of_cell? w _ hw326_1)).trans hw326_1)⟩ (fun hHeld => ?_)
                                    clear hK K
                                    refine norm_ (a' := ?_) ?_ ?_
                                    rotate_left
                                    · show Act.put _ (some 66) _ = _
                                      simp only [Act.put, List.setIfInBounds_toArray, List.set_cons_zero, List.set_cons_succ, i64_w, i32_w]
                                      rfl
                                    refine pure_ (i := 14) (N := some 67) (v := ?_) (a' := ?_) #[true, true, true, true, true, true, true, true, true, true, true, true, true, true, true, false, false, false, false, false, false, false, false, false, false, false, false, false, false, false] rfl rfl (any_of HT_.out (by kernel_rfl)) (fun _ _ _ h => h) (Or.inl ⟨by rfl, ?_⟩) ?_ ?_
                                    rotate_left
                                    · intro w'
                                      go_simp
                                      with_reducible rfl
                                    rotate_left
                                    · simp only [Act.put, List.setIfInBounds_toArray, List.set_cons_zero, List.set_cons_succ, i64_w, i32_w]
                                      rfl
                                    refine pure_ (i := 15) (N := some 68) (v := ?_) (a' := ?_) #[true, true, true, true, true, true, true, true, true, true, true, true, true, true, true, true, false, false, false, false, false, false, false, false, false, false, false, false, false, false] rfl rfl (any_of HT_.out (by kernel_rfl)) (fun _ _ _ h => h) (Or.inl ⟨by rfl, ?_⟩) ?_ ?_
                                    rotate_left
                                    · intro w'
                                      go_simp
                                      with_reducible rfl
                                    rotate_left
                                    · simp only [Act.put, List.setIfInBounds_toArray, List.set_cons_zero, List.set_cons_succ, i64_w, i32_w]
                                      rfl
                                    refine pure_ (i := 16) (N := some 69) (v := ?_) (a' := ?_) #[true, true, true, true, true, true, true, true, true, true, true, true, true, true, true, true, true, false, false, false, false, false, false, false, false, false, false, false, false, false] rfl rfl (any_of HT_.out (by kernel_rfl)) (fun _ _ _ h => h) (Or.inl ⟨by rfl, ?_⟩) ?_ ?_
                                    rotate_left
                                    · intro w'
                                      go_simp
                                      with_reducible rfl
                                    rotate_left
                                    · simp only [Act.put, List.setIfInBounds_toArray, List.set_cons_zero, List.set_cons_succ, i64_w, i32_w]
                                      rfl
                                    refine pure_ (i := 17) (N := some 70) (v := undef) (a' := ?_) #[true, true, true, true, true, true, true, true, true, true, true, true, true, true, true, true, true, true, false, false, false, false, false, false, false, false, false, false, false, false] rfl rfl (any_of HT_.out (by kernel_rfl)) (fun _ _ _ h => h) (Or.inr ⟨by rfl, rfl⟩) ?_ ?_
                                    rotate_left
                                    · simp only [Act.put, List.setIfInBounds_toArray, List.set_cons_zero, List.set_cons_succ, i64_w, i32_w]
                                      rfl
                                    refine pure_ (i := 18) (N := some 71) (v := undef) (a' := ?_) #[true, true, true, true, true, true, true, true, true, true, true, true, true, true, true, true, true, true, true, false, false, false, false, false, false, false, false, false, false, false] rfl rfl (any_of HT_.out (by kernel_rfl)) (fun _ _ _ h => h) (Or.inr ⟨by rfl, rfl⟩) ?_ ?_
                                    rotate_left
                                    · simp only [Act.put, List.setIfInBounds_toArray, List.set_cons_zero, List.set_cons_succ, i64_w, i32_w]
                                      rfl
                                    refine pure_ (i := 19) (N := some 72) (v := undef) (a' := ?_) #[true, true, true, true, true, true, true, true, true, true, true, true, true, true, true, true, true, true, true, true, false, false, false, false, false, false, false, false, false, false] rfl rfl (any_of HT_.out (by kernel_rfl)) (fun _ _ _ h => h) (Or.inr ⟨by rfl, rfl⟩) ?_ ?_
                                    rotate_left
                                    · simp only [Act.put, List.setIfInBounds_toArray, List.set_cons_zero, List.set_cons_succ, i64_w, i32_w]
                                      rfl
                                    refine pure_ (i := 20) (N := some 73) (v := undef) (a' := ?_) #[true, true, true, true, true, true, true, true, true, true, true, true, true, true, true, true, true, true, true, true, true, false, false, false, false, false, false, false, false, false] rfl rfl (any_of HT_.out (by kernel_rfl)) (fun _ _ _ h => h) (Or.inr ⟨by rfl, rfl⟩) ?_ ?_
                                    rotate_left
                                    · simp only [Act.put, List.setIfInBounds_toArray, List.set_cons_zero, List.set_cons_succ, i64_w, i32_w]
                                      rfl
                                    refine pure_ (i := 21) (N := some 74) (v := undef) (a' := ?_) #[true, true, true, true, true, true, true, true, true, true, true, true, true, true, true, true, true, true, true, true, true, true, false, false, false, false, false, false, false, false] rfl rfl (any_of HT_.out (by kernel_rfl)) (fun _ _ _ h => h) (Or.inr ⟨by rfl, rfl⟩) ?_ ?_
                                    rotate_left
                                    · simp only [Act.put, List.setIfInBounds_toArray, List.set_cons_zero, List.set_cons_succ, i64_w, i32_w]
                                      rfl
                                    refine pure_ (i := 22) (N := some 75) (v := undef) (a' := ?_) #[true, true, true, true, true, true, true, true, true, true, true, true, true, true, true, true, true, true, true, true, true, true, true, false, false, false, false, false, false, false] rfl rfl (any_of HT_.out (by kernel_rfl)) (fun _ _ _ h => h) (Or.inr ⟨by rfl, rfl⟩) ?_ ?_
                                    rotate_left
                                    · simp only [Act.put, List.setIfInBounds_toArray, List.set_cons_zero, List.set_cons_succ, i64_w, i32_w]
                                      rfl
                                    refine pure_ (i := 23) (N := some 76) (v := undef) (a' := ?_) #[true, true, true, true, true, true, true, true, true, true, true, true, true, true, true, true, true, true, true, true, true, true, true, true, false, false, false, false, false, false] rfl rfl (any_of HT_.out (by kernel_rfl)) (fun _ _ _ h => h) (Or.inr ⟨by rfl, rfl⟩) ?_ ?_
                                    rotate_left
                                    · simp only [Act.put, List.setIfInBounds_toArray, List.set_cons_zero, List.set_cons_succ, i64_w, i32_w]
                                      rfl
                                    refine pure_ (i := 24) (N := some 77) (v := undef) (a' := ?_) #[true, true, true, true, true, true, true, true, true, true, true, true, true, true, true, true, true, true, true, true, true, true, true, true, true, false, false, false, false, false] rfl rfl (any_of HT_.out (by kernel_rfl)) (fun _ _ _ h => h) (Or.inr ⟨by rfl, rfl⟩) ?_ ?_
                                    rotate_left
                                    · simp only [Act.put, List.setIfInBounds_toArray, List.set_cons_zero, List.set_cons_succ, i64_w, i32_w]
                                      rfl
                                    refine pure_ (i := 25) (N := some 78) (v := undef) (a' := ?_) #[true, true, true, true, true, true, true, true, true, true, true, true, true, true, true, true, true, true, true, true, true, true, true, true, true, true, false, false, false, false] rfl rfl (any_of HT_.out (by kernel_rfl)) (fun _ _ _ h => h) (Or.inr ⟨by rfl, rfl⟩) ?_ ?_
                                    rotate_left
                                    · simp only [Act.put, List.setIfInBounds_toArray, List.set_cons_zero, List.set_cons_succ, i64_w, i32_w]
                                      rfl
                                    refine pure_ (i := 26) (N := some 79) (v := undef) (a' := ?_) #[true, true, true, true, true, true, true, true, true, true, true, true, true, true, true, true, true, true, true, true, true, true, true, true, true, true, true, false, false, false] rfl rfl (any_of HT_.out (by kernel_rfl)) (fun _ _ _ h => h) (Or.inr ⟨by rfl, rfl⟩) ?_ ?_
                                    rotate_left
                                    · simp only [Act.put, List.setIfInBounds_toArray, List.set_cons_zero, List.set_cons_succ, i64_w, i32_w]
                                      rfl
                                    refine pure_ (i := 27) (N := some 80) (v := undef) (a' := ?_) #[true, true, true, true, true, true, true, true, true, true, true, true, true, true, true, true, true, true, true, true, true, true, true, true, true, true, true, true, false, false] rfl rfl (any_of HT_.out (by kernel_rfl)) (fun _ _ _ h => h) (Or.inr ⟨by rfl, rfl⟩) ?_ ?_
                                    rotate_left
                                    · simp only [Act.put, List.setIfInBounds_toArray, List.set_cons_zero, List.set_cons_succ, i64_w, i32_w]
                                      rfl
                                    refine pure_ (i := 28) (N := some 81) (v := undef) (a' := ?_) #[true, true, true, true, true, true, true, true, true, true, true, true, true, true, true, true, true, true, true, true, true, true, true, true, true, true, true, true, true, false] rfl rfl (any_of HT_.out (by kernel_rfl)) (fun _ _ _ h => h) (Or.inr ⟨by rfl, rfl⟩) ?_ ?_
                                    rotate_left
                                    · simp only [Act.put, List.setIfInBounds_toArray, List.set_cons_zero, List.set_cons_succ, i64_w, i32_w]
                                      rfl
                                    refine pure_ (i := 29) (N := some 82) (v := ?_) (a' := ?_) #[true, true, true, true, true, true, true, true, true, true, true, true, true, true, true, true, true, true, true, true, true, true, true, true, true, true, true, true, true, true] rfl rfl (any_of HT_.out (by kernel_rfl)) (fun _ _ _ h => h) (Or.inl ⟨by rfl, ?_⟩) ?_ ?_
                                    rotate_left
                                    · intro w'
                                      go_simp
                                      with_reducible rfl
                                    rotate_left
                                    · simp only [Act.put, List.setIfInBounds_toArray, List.set_cons_zero, List.set_cons_succ, i64_w, i32_w]
                                      rfl
                                    refine done_ (done_of HT_.out (by kernel_rfl)) ?_
                                    try go_wp2
                                    go_ret
                                    exact ⟨by first | rfl | (simp [errW_none, errW_some] <;> rfl) | (simp [*, errW_none, errW_some] <;> rfl), by repeat (first | (with_reducible first | exact HB.out | apply below_alloc | apply pw_below_drewN | apply below_drew1 | refine below_set ?_ GE324.out) | exact HB.out)⟩
                                · rw [if_neg c40] at H
                                  exact absurd H (by simp)
                            · rw [if_neg c33] at H
                              exact absurd H (by simp)
                          · rw [if_neg c32] at H
                            exact absurd H (by simp)
                        · rw [if_neg c31] at H
                          have c31b0 : decide (x48_4 < (t320.length : Int)) = false := decide_eq_false c31
                          clear c31
                          replace H := Option.bind_eq_some_iff.mp H
                          obtain ⟨t329, A620, H⟩ := H
                          replace H : ((impl_Params.f k4 t329 (-1)).bind fun t330 => ((impl_Params.f k4 t329 a2).bind fun t333 => (if (t330.length : Int) = (l0.length : Int) then (if 0 ≤ (mn a2 (t330.length : Int)) then (if (mn a2 (t330.length : Int)) ≤ (t330.length : Int) then ((laws_samePairs.f k4 t333 (t330.take ((mn a2 (t330.length : Int)) : Int).toNat)).bind fun t340 => (some t340)) else (none)) else (none)) else (some false)))) = some r := H
                          have A62 := Aside0.mk A620
                          clear A620
                          replace H := Option.bind_eq_some_iff.mp H
                          obtain ⟨t330, A630, H⟩ := H
                          replace H : ((impl_Params.f k4 t329 a2).bind fun t333 => (if (t330.length : Int) = (l0.length : Int) then (if 0 ≤ (mn a2 (t330.length : Int)) then (if (mn a2 (t330.length : Int)) ≤ (t330.length : Int) then ((laws_samePairs.f k4 t333 (t330.take ((mn a2 (t330.length : Int)) : Int).toNat)).bind fun t340 => (some t340)) else (none)) else (none)) else (some false))) = some r := H
                          have A63 := Aside0.mk A630
                          clear A630
                          replace H := Option.bind_eq_some_iff.mp H
                          obtain ⟨t333, A640, H⟩ := H
                          replace H : (if (t330.length : Int) = (l0.length : Int) then (if 0 ≤ (mn a2 (t330.length : Int)) then (if (mn a2 (t330.length : Int)) ≤ (t330.length : Int) then ((laws_samePairs.f k4 t333 (t330.take ((mn a2 (t330.length : Int)) : Int).toNat)).bind fun t340 => (some t340)) else (none)) else (none)) else (some false)) = some r := H
                          have A64 := Aside0.mk A640
                          clear A640
                          by_cases c65 : (t330.length : Int) = (l0.length : Int)
                          · rw [if_pos c65] at H
                            have c65b0 : ((t330.length : Int) == (l0.length : Int)) = true := beq_iff_eq.mpr c65
                            have c65b1 : ((t330.length : Int) != (l0.length : Int)) = false := bne_eq_false_iff_eq.mpr c65
                            have c65b2 : (t330.length == l0.length) = true := by first | simpa using c65 | (simp at c65 ⊢; omega)
                            clear c65
                            obtain ⟨ji66, hji66⟩ : ∃ j_ : Int, (mn a2 (t330.length : Int)) = j_ := ⟨_, rfl⟩
                            replace H : (if 0 ≤ (ji66) then (if (ji66) ≤ (t330.length : Int) then ((laws_samePairs.f k4 t333 (t330.take ((ji66) : Int).toNat)).bind fun t340 => (some t340)) else (none)) else (none)) = some r := by first | (rw [hji66] at H; exact H) | (simp only [hji66] at H ⊢; exact H)
                            (try rw [hji66] at A62)
                            (try rw [hji66] at A63)
                            (try rw [hji66] at A64)
                            have hji66_ : (if (t330.length : Int) < a2 then (t330.length : Int) else a2) = ji66 := hji66
                            by_cases c67 : 0 ≤ (ji66)
                            · rw [if_pos c67] at H
                              have c67b0 := eq_true c67
                              have c67b1 : decide (0 ≤ (ji66)) = true := decide_eq_true c67
                              clear c67
                              by_cases c68 : (ji66) ≤ (t330.length : Int)
                              · rw [if_pos c68] at H
                                have c68b0 := eq_true c68
                                have c68b1 : decide ((ji66) ≤ (t330.length : Int)) = true := decide_eq_true c68
                                clear c68
                                obtain ⟨y336, hy336⟩ : ∃ y_ : List (S47), y_ = (t330.take ((ji66) : Int).toNat) := ⟨_, rfl⟩
                                replace H : ((laws_samePairs.f k4 t333 y336).bind fun t340 => (some t340)) = some r := by first | (rw [hy336]; with_reducible exact H) | (have H2_ := (Option.bind_some _ _).symm.trans H; rw [hy336]; with_reducible exact H2_) | (have H2_ := (Option.bind_some _ _).symm.trans H; with_reducible exact H2_) | with_reducible exact H | (rw [hy336]; exact H) | exact H
                                have Ny336 := Aside0.mk hy336
                                clear hy336
                                replace H := Option.bind_eq_some_iff.mp H
                                obtain ⟨t340, A690, H⟩ := H
                                replace H : (some t340) = some r := H
                                have A69 := Aside0.mk A690
                                clear A690
                                obtain rfl := Option.some.inj H
                                go_wp2_with (first | ((with_reducible refine gate_callee (f := 28) rfl ?_); refine goesL_ (some 85) rfl rfl Try.func28 (by kernel_rfl) rfl #[.slice A0 l0.length c0, .slice none 0 0] rfl (by (try simp only [List.map_toArray, List.map_cons, List.map_nil]); first | done | rfl | (simp only [List.length_drop, List.length_take]; rfl)) ?_; (refine (laws_given.calls k4 _ _ l0 _ _ ([] : List Int) t329 _ ?side1 ?side2 ?side3 ?side4 A62.out).mono ?_); (case side1 => repeat (first | exact (Kd.C_below HR0.out HB.out) | (with_reducible refine Kd.C_alloc ?_ _) | (with_reducible refine Kd.C_drewN ?_ _) | (with_reducible refine Kd.C_drew ?_))); (case side2 => exact HC0.out); (case side3 => exact Kd.C_nil _ _); (case side4 => exact Nat.le_refl _); rintro e w70 ⟨rfl, hb⟩; refine ⟨_, rfl, ?_⟩; have n0_ := Aside0.mk (Kd.R_below (by (with_reducible repeat (first | apply Kd.R_alloc | apply Kd.R_drewN | apply Kd.R_drew)); exact HO_46.out) hb); have n1_ := Aside0.mk (below_step (by repeat (first | (with_reducible first | exact HB.out | apply below_alloc | apply pw_below_drewN | apply below_drew1) | exact HB.out)) hb); clear HO_46; clear HB; have HO_46 := n0_; have HB := n1_; clear n0_ n1_; (try clear hb); (try clear hb2); (try clear hk); (try clear hi)) | ((with_reducible refine gate_callee (f := 26) rfl ?_); refine goesL_ (some 87) rfl rfl Try.func26 (by kernel_rfl) rfl #[.string t329, .int .i64 (-1)] rfl (by (try simp only [List.map_toArray, List.map_cons, List.map_nil]); first | done | rfl | (simp only [List.length_drop, List.length_take]; rfl)) ?_; (with_reducible refine (impl_Params.calls k4 t329 (-1) t330 _ A63.out).mono ?_); rintro e w71 ⟨v331, rfl, ho0, hb⟩; refine ⟨_, rfl, ?_⟩; have n0_ := Aside0.mk (Kd.R_elder' (by (with_reducible repeat (first | apply Kd.R_alloc | apply Kd.R_drewN | apply Kd.R_drew)); exact HO_46.out) (Kd.R_base ho0) hb); have n1_ := Aside0.mk (Kd.R_lower (Kd.R_new' ho0 (Kd.R_lt (by (with_reducible repeat (first | apply Kd.R_alloc | apply Kd.R_drewN | apply Kd.R_drew)); exact HO_46.out))) (below_size (by repeat (first | (with_reducible first | exact HB.out | apply below_alloc | apply pw_below_drewN | apply below_drew1) | exact HB.out)))); have n2_ := Aside0.mk (below_step (by repeat (first | (with_reducible first | exact HB.out | apply below_alloc | apply pw_below_drewN | apply below_drew1) | exact HB.out)) hb); clear HO_46; clear HB; have HO_46 := n0_; have HO332 := n1_; have HB := n2_; clear n0_ n1_ n2_; (try clear hb); (try clear hb2); (try clear hk); (try clear hi); (try clear ho0)) | ((with_reducible refine gate_callee (f := 26) rfl ?_); refine goesL_ (some 90) rfl rfl Try.func26 (by kernel_rfl) rfl #[.string t329, .int .i64 a2] rfl (by (try simp only [List.map_toArray, List.map_cons, List.map_nil]); first | done | rfl | (simp only [List.length_drop, List.length_take]; rfl)) ?_; (with_reducible refine (impl_Params.calls k4 t329 a2 t333 _ A64.out).mono ?_); rintro e w72 ⟨v334, rfl, ho0, hb⟩; refine ⟨_, rfl, ?_⟩; have n0_ := Aside0.mk (Kd.R_elder' (by (with_reducible repeat (first | apply Kd.R_alloc | apply Kd.R_drewN | apply Kd.R_drew)); exact HO_46.out) (Kd.R_base ho0) hb); have n1_ := Aside0.mk (Kd.R_elder' (by (with_reducible repeat (first | apply Kd.R_alloc | apply Kd.R_drewN | apply Kd.R_drew)); exact HO332.out) (Kd.R_base ho0) hb); have n2_ := Aside0.mk (Kd.R_lower (Kd.R_new' (Kd.R_new' ho0 (Kd.R_lt (by (with_reducible repeat (first | apply Kd.R_alloc | apply Kd.R_drewN | apply Kd.R_drew)); exact HO_46.out))) (Kd.R_lt (by (with_reducible repeat (first | apply Kd.R_alloc | apply Kd.R_drewN | apply Kd.R_drew)); exact HO332.out))) (below_size (by repeat (first | (with_reducible first | exact HB.out | apply below_alloc | apply pw_below_drewN | apply below_drew1) | exact HB.out)))); have n3_ := Aside0.mk (below_step (by repeat (first | (with_reducible first | exact HB.out | apply below_alloc | apply pw_below_drewN | apply below_drew1) | exact HB.out)) hb); clear HO_46; clear HO332; clear HB; have HO_46 := n0_; have HO332 := n1_; have HO335 := n2_; have HB := n3_; clear n0_ n1_ n2_ n3_; (try clear hb); (try clear hb2); (try clear hk); (try clear hi); (try clear ho0); obtain ⟨Ao73, co73, eo73⟩ := Kd.R_slice HO332.out; subst eo73; have q74 : ((ji66) : Int) ≤ ((t330.length : Int) : Int) := of_decide_eq_true (by first | (with_reducible assumption) | assumption); obtain ⟨i074, hi074, _, hsz74, _⟩ := info_parts info47; have hroom74 : t330.length ≤ co73 := (Kd.R_reads' HO332.out).2.1; have hC74 : Kd.C k47 _ Ao73 t330.length t330 := (Kd.R_reads' HO332.out).2.2; have hcut74 := cut_to (P := Try.prog) 43 47 .i64 Try.underlying43 hi074 Ao73 t330.length co73 (ji66) (of_decide_eq_true (by first | (with_reducible assumption) | assumption)) q74 hroom74; have hr74 := Kd.C_take (m := ((ji66) : Int).toNat) hC74 (by omega); have hy74 : y336.length = ((ji66) : Int).toNat := (by rw [Ny336.out, List.length_take]; omega); rw [← Ny336.out] at hr74; rw [← hy74] at hcut74; have HR339 := Aside0.mk hr74; have HC339 := Aside0.mk (show y336.length ≤ co73 from by omega); clear hr74 hC74 hroom74 hi074 hsz74; have KY74 := Aside0.mk hy74; clear hy74; have KL74 := Aside0.mk (show ((ji66) : Int).toNat ≤ t330.length from by omega); replace q74 := eq_true q74; obtain ⟨Ao75, co75, eo75⟩ := Kd.R_slice HO335.out; subst eo75) | (go_at_call 30; (with_reducible refine (laws_samePairs.calls k4 _ _ t333 _ _ y336 t340 _ ?side1 ?side2 ?side3 ?side4 A69.out).mono ?_); (case side1 => repeat (first | exact (Kd.R_reads' HO335.out).2.2 | (with_reducible refine Kd.C_alloc ?_ _) | (with_reducible refine Kd.C_drewN ?_ _) | (with_reducible refine Kd.C_drew ?_))); (case side2 => exact (Kd.R_reads' HO335.out).2.1); (case side3 => repeat (first | exact (by repeat (first | (with_reducible exact HR339.out) | (with_reducible refine Kd.C_alloc ?_ _) | (with_reducible refine Kd.C_drewN ?_ _) | (with_reducible refine Kd.C_drew ?_) | exact HR339.out)) | (with_reducible refine Kd.C_alloc ?_ _) | (with_reducible refine Kd.C_drewN ?_ _) | (with_reducible refine Kd.C_drew ?_))); (case side4 => exact HC339.out); rintro e w' ⟨rfl, ⟨nd, rfl⟩⟩))
                                go_ret
                                exact ⟨by first | rfl | (simp [errW_none, errW_some] <;> rfl) | (simp only [← hji66]; first | rfl | (simp [errW_none, errW_some] <;> rfl)) | (simp [*, errW_none, errW_some] <;> rfl), by repeat (first | (with_reducible first | exact HB.out | apply below_alloc | apply pw_below_drewN | apply below_drew1) | exact HB.out)⟩
                              · rw [if_neg c68] at H
                                exact absurd H (by simp)
                            · rw [if_neg c67] at H
                              exact absurd H (by simp)
                          · rw [if_neg c65] at H
                            have c65b0 : ((t330.length : Int) == (l0.length : Int)) = false := beq_eq_false_iff_ne.mpr c65
                            have c65b1 : ((t330.length : Int) != (l0.length : Int)) = true := bne_iff_ne.mpr c65
                            have c65b2 : (t330.length == l0.length) = false := by first | simpa using c65 | (simp at c65 ⊢; omega)
                            obtain rfl := Option.some.inj H
                            go_wp2_with (first | ((with_reducible refine gate_callee (f := 28) rfl ?_); refine goesL_ (some 85) rfl rfl Try.func28 (by kernel_rfl) rfl #[.slice A0 l0.length c0, .slice none 0 0] rfl (by (try simp only [List.map_toArray, List.map_cons, List.map_nil]); first | done | rfl | (simp only [List.length_drop, List.length_take]; rfl)) ?_; (refine (laws_given.calls k4 _ _ l0 _ _ ([] : List Int) t329 _ ?side1 ?side2 ?side3 ?side4 A62.out).mono ?_); (case side1 => repeat (first | exact (Kd.C_below HR0.out HB.out) | (with_reducible refine Kd.C_alloc ?_ _) | (with_reducible refine Kd.C_drewN ?_ _) | (with_reducible refine Kd.C_drew ?_))); (case side2 => exact HC0.out); (case side3 => exact Kd.C_nil _ _); (case side4 => exact Nat.le_refl _); rintro e w76 ⟨rfl, hb⟩; refine ⟨_, rfl, ?_⟩; have n0_ := Aside0.mk (Kd.R_below (by (with_reducible repeat (first | apply Kd.R_alloc | apply Kd.R_drewN | apply Kd.R_drew)); exact HO_46.out) hb); have n1_ := Aside0.mk (below_step (by repeat (first | (with_reducible first | exact HB.out | apply below_alloc | apply pw_below_drewN | apply below_drew1) | exact HB.out)) hb); clear HO_46; clear HB; have HO_46 := n0_; have HB := n1_; clear n0_ n1_; (try clear hb); (try clear hb2); (try clear hk); (try clear hi)) | ((with_reducible refine gate_callee (f := 26) rfl ?_); refine goesL_ (some 87) rfl rfl Try.func26 (by kernel_rfl) rfl #[.string t329, .int .i64 (-1)] rfl (by (try simp only [List.map_toArray, List.map_cons, List.map_nil]); first | done | rfl | (simp only [List.length_drop, List.length_take]; rfl)) ?_; (with_reducible refine (impl_Params.calls k4 t329 (-1) t330 _ A63.out).mono ?_); rintro e w77 ⟨v331, rfl, ho0, hb⟩; refine ⟨_, rfl, ?_⟩; have n0_ := Aside0.mk (Kd.R_elder' (by (with_reducible repeat (first | apply Kd.R_alloc | apply Kd.R_drewN | apply Kd.R_drew)); exact HO_46.out) (Kd.R_base ho0) hb); have n1_ := Aside0.mk (Kd.R_lower (Kd.R_new' ho0 (Kd.R_lt (by (with_reducible repeat (first | apply Kd.R_alloc | apply Kd.R_drewN | apply Kd.R_drew)); exact HO_46.out))) (below_size (by repeat (first | (with_reducible first | exact HB.out | apply below_alloc | apply pw_below_drewN | apply below_drew1) | exact HB.out)))); have n2_ := Aside0.mk (below_step (by repeat (first | (with_reducible first | exact HB.out | apply below_alloc | apply pw_below_drewN | apply below_drew1) | exact HB.out)) hb); clear HO_46; clear HB; have HO_46 := n0_; have HO332 := n1_; have HB := n2_; clear n0_ n1_ n2_; (try clear hb); (try clear hb2); (try clear hk); (try clear hi); (try clear ho0)) | ((with_reducible refine gate_callee (f := 26) rfl ?_); refine goesL_ (some 90) rfl rfl Try.func26 (by kernel_rfl) rfl #[.string t329, .int .i64 a2] rfl (by (try simp only [List.map_toArray, List.map_cons, List.map_nil]); first | done | rfl | (simp only [List.length_drop, List.length_take]; rfl)) ?_; (with_reducible refine (impl_Params.calls k4 t329 a2 t333 _ A64.out).mono ?_); rintro e w78 ⟨v334, rfl, ho0, hb⟩; refine ⟨_, rfl, ?_⟩; have n0_ := Aside0.mk (Kd.R_elder' (by (with_reducible repeat (first | apply Kd.R_alloc | apply Kd.R_drewN | apply Kd.R_drew)); exact HO_46.out) (Kd.R_base ho0) hb); have n1_ := Aside0.mk (Kd.R_elder' (by (with_reducible repeat (first | apply Kd.R_alloc | apply Kd.R_drewN | apply Kd.R_drew)); exact HO332.out) (Kd.R_base ho0) hb); have n2_ := Aside0.mk (Kd.R_lower (Kd.R_new' (Kd.R_new' ho0 (Kd.R_lt (by (with_reducible repeat (first | apply Kd.R_alloc | apply Kd.R_drewN | apply Kd.R_drew)); exact HO_46.out))) (Kd.R_lt (by (with_reducible repeat (first | apply Kd.R_alloc | apply Kd.R_drewN | apply Kd.R_drew)); exact HO332.out))) (below_size (by repeat (first | (with_reducible first | exact HB.out | apply below_alloc | apply pw_below_drewN | apply below_drew1) | exact HB.out)))); have n3_ := Aside0.mk (below_step (by repeat (first | (with_reducible first | exact HB.out | apply below_alloc | apply pw_below_drewN | apply below_drew1) | exact HB.out)) hb); clear HO_46; clear HO332; clear HB; have HO_46 := n0_; have HO332 := n1_; have HO335 := n2_; have HB := n3_; clear n0_ n1_ n2_ n3_; (try clear hb); (try clear hb2); (try clear hk); (try clear hi); (try clear ho0); obtain ⟨Ao79, co79, eo79⟩ := Kd.R_slice HO332.out; subst eo79))
                            go_ret
                            exact ⟨by first | rfl | (simp [errW_none, errW_some] <;> rfl) | (simp [*, errW_none, errW_some] <;> rfl), by repeat (first | (with_reducible first | exact HB.out | apply below_alloc | apply pw_below_drewN | apply below_drew1) | exact HB.out)⟩

def laws_FnParamsBackN.Pure : Prop := ∀ (l0 : List (S47)) (l1 : List Int) (a2 : Int), l0.length * 32 ≤ 140737488351232 → l1.length ≤ maxLen → l1.length * 1 ≤ 140737488351232 → (∀ x ∈ l1, (Lit.int .u8 x).wf = true) → (Lit.int .i64 a2).wf = true → ∃ k, laws_FnParamsBackN.f k l0 l1 a2 = some true

end Go.Proofs.Ytkbmababljcabaa.QA
