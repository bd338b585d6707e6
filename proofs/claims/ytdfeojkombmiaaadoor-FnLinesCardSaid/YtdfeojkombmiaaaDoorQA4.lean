/- Printed by wip/pr.py (a program of this repo over the print program of the kit). Not trusted: Lean checks it. -/
import Derived.Test.YtdfeojkombmiaaaDoorQA0
import Derived.Test.YtdfeojkombmiaaaDoorQA1
import Derived.Test.YtdfeojkombmiaaaDoorQA2
import Derived.Test.YtdfeojkombmiaaaDoorQA3
import Derived.Test.YtdfeojkombmiaaaDoorGNext
namespace Go.Proofs.YtdfeojkombmiaaaDoor.QA
open Go.Proofs.YtdfeojkombmiaaaDoor.Given
open Go.Proofs.YtdfeojkombmiaaaDoor.PrX
open Go.RowKit Go.Proofs.YtdfeojkombmiaaaDoorW.PrintWords Go.Proofs.YtdfeojkombmiaaaDoorW.PrintLast Go.Proofs.YtdfeojkombmiaaaDoorW.PrintMore
attribute [local go_sem] max2_int min2_int max_two min_two max_three min_three max_four min_four   -- for this text's walks alone
set_option linter.unusedVariables false
set_option linter.unusedSimpArgs false

/-! ### laws_FnLines: function 3 -/
mutual
def laws_FnLines.j0 : Nat → List ByteArray → List Int → Bool → Option (Bool)
  | 0, _, _, _ => none
  | k + 1, x0, x1, x26 => if x26 = true then (some true) else ((impl_NextLine.f (⟨#[97, 13, 10, 98]⟩ : ByteArray)).bind fun bt104 => (if bt104.2.2 = true then (if bt104.1.toList = ([97] : List UInt8) then (laws_FnLines.j1 k x0 x1 (bt104.2.1.toList != ([98] : List UInt8))) else (laws_FnLines.j1 k x0 x1 true)) else (laws_FnLines.j1 k x0 x1 true)))
def laws_FnLines.j1 : Nat → List ByteArray → List Int → Bool → Option (Bool)
  | 0, _, _, _ => none
  | k + 1, x0, x1, x41 => if x41 = true then (some false) else (if (x0.length : Int) > 20 then (laws_FnLines.j2 k x0 x1 true) else ((laws_short.f k x0).bind fun t107 => (laws_FnLines.j2 k x0 x1 (!t107))))
def laws_FnLines.j2 : Nat → List ByteArray → List Int → Bool → Option (Bool)
  | 0, _, _, _ => none
  | k + 1, x0, x1, x49 => if x49 = true then (some true) else (laws_FnLines.l0 k x0 x1 (⟨#[]⟩ : ByteArray) x0 (x0.length : Int) 0)
def laws_FnLines.l0 : Nat → List ByteArray → List Int → ByteArray → List ByteArray → Int → Int → Option (Bool)
  | 0, _, _, _, _, _, _ => none
  | k + 1, x0, x1, x8, x50, x51, x52 => if x52 < x51 then (if 0 ≤ x52 then (if x52 < (x50.length : Int) then ((laws_holds.f k (rdOf ByteArray.empty x50 x52) 10).bind fun t109 => (if t109 = true then (laws_FnLines.j4 k x0 x1 x8 x52 (rdOf ByteArray.empty x50 x52) x50 x51 x52 true) else (if (rdOf ByteArray.empty x50 x52).toList = ([] : List UInt8) then (laws_FnLines.j4 k x0 x1 x8 x52 (rdOf ByteArray.empty x50 x52) x50 x51 x52 false) else (if 0 ≤ (wrap64 (((rdOf ByteArray.empty x50 x52).size : Int) - 1)) then (if (wrap64 (((rdOf ByteArray.empty x50 x52).size : Int) - 1)) < ((rdOf ByteArray.empty x50 x52).size : Int) then (laws_FnLines.j4 k x0 x1 x8 x52 (rdOf ByteArray.empty x50 x52) x50 x51 x52 ((bt (rdOf ByteArray.empty x50 x52) (wrap64 (((rdOf ByteArray.empty x50 x52).size : Int) - 1))) == 13)) else (none)) else (none))))) else (none)) else (none)) else (laws_FnLines.l1 k x8 x0 (x0.length : Int) 0)
def laws_FnLines.j4 : Nat → List ByteArray → List Int → ByteArray → Int → ByteArray → List ByteArray → Int → Int → Bool → Option (Bool)
  | 0, _, _, _, _, _, _, _, _, _ => none
  | k + 1, x0, x1, x8, x9, x10, x50, x51, x52, x70 => if x70 = true then (some true) else (if x8.size + x10.size ≤ 9223372036854775807 then (if x9 < (x1.length : Int) then (if 0 ≤ x9 then (if (Int.tmod (rd x1 x9) 2) = 1 then (if (x8 ++ x10).size + 1 ≤ 9223372036854775807 then (if ((x8 ++ x10) ++ (⟨#[13]⟩ : ByteArray)).size + 1 ≤ 9223372036854775807 then (laws_FnLines.l0 k x0 x1 (((x8 ++ x10) ++ (⟨#[13]⟩ : ByteArray)) ++ (⟨#[10]⟩ : ByteArray)) x50 x51 (wrap64 (x52 + 1))) else (none)) else (none)) else (if (x8 ++ x10).size + 1 ≤ 9223372036854775807 then (laws_FnLines.l0 k x0 x1 ((x8 ++ x10) ++ (⟨#[10]⟩ : ByteArray)) x50 x51 (wrap64 (x52 + 1))) else (none))) else (none)) else (if (x8 ++ x10).size + 1 ≤ 9223372036854775807 then (laws_FnLines.l0 k x0 x1 ((x8 ++ x10) ++ (⟨#[10]⟩ : ByteArray)) x50 x51 (wrap64 (x52 + 1))) else (none))) else (none))
def laws_FnLines.l1 : Nat → ByteArray → List ByteArray → Int → Int → Option (Bool)
  | 0, _, _, _, _ => none
  | k + 1, x8, x91, x92, x93 => if x93 < x92 then (if 0 ≤ x93 then (if x93 < (x91.length : Int) then ((impl_NextLine.f x8).bind fun bt112 => (if bt112.2.2 = true then (if bt112.1.toList = (rdOf ByteArray.empty x91 x93).toList then (laws_FnLines.l1 k bt112.2.1 x91 x92 (wrap64 (x93 + 1))) else (some false)) else (some false))) else (none)) else (none)) else ((impl_NextLine.f x8).bind fun bt115 => (if bt115.2.2 = true then (some false) else (some (x8.toList == ([] : List UInt8)))))
end
def laws_FnLines.f (k : Nat) (l0 : List ByteArray) (l1 : List Int) : Option (Bool) := (laws_zzFits6.f k l0).bind fun t103 => (if t103 = true then (laws_FnLines.j0 k l0 l1 (decide ((l1.length : Int) > 2147483647))) else (laws_FnLines.j0 k l0 l1 true))
theorem laws_FnLines.mono_l : ∀ k, (∀ y0 y1 y2, LeO (laws_FnLines.j0 k y0 y1 y2) (laws_FnLines.j0 (k + 1) y0 y1 y2)) ∧ (∀ y0 y1 y2, LeO (laws_FnLines.j1 k y0 y1 y2) (laws_FnLines.j1 (k + 1) y0 y1 y2)) ∧ (∀ y0 y1 y2, LeO (laws_FnLines.j2 k y0 y1 y2) (laws_FnLines.j2 (k + 1) y0 y1 y2)) ∧ (∀ y0 y1 y2 y3 y4 y5, LeO (laws_FnLines.l0 k y0 y1 y2 y3 y4 y5) (laws_FnLines.l0 (k + 1) y0 y1 y2 y3 y4 y5)) ∧ (∀ y0 y1 y2 y3 y4 y5 y6 y7 y8, LeO (laws_FnLines.j4 k y0 y1 y2 y3 y4 y5 y6 y7 y8) (laws_FnLines.j4 (k + 1) y0 y1 y2 y3 y4 y5 y6 y7 y8)) ∧ (∀ y0 y1 y2 y3, LeO (laws_FnLines.l1 k y0 y1 y2 y3) (laws_FnLines.l1 (k + 1) y0 y1 y2 y3))
  | 0 => ⟨fun _ _ _ r h => by simp [laws_FnLines.j0] at h, fun _ _ _ r h => by simp [laws_FnLines.j1] at h, fun _ _ _ r h => by simp [laws_FnLines.j2] at h, fun _ _ _ _ _ _ r h => by simp [laws_FnLines.l0] at h, fun _ _ _ _ _ _ _ _ _ r h => by simp [laws_FnLines.j4] at h, fun _ _ _ _ r h => by simp [laws_FnLines.l1] at h⟩
  | k + 1 => by
    obtain ⟨ih0, ih1, ih2, ih3, ih4, ih5⟩ := laws_FnLines.mono_l k
    refine ⟨?_, ?_, ?_, ?_, ?_, ?_⟩
    · intro y0 y1 y2
      unfold laws_FnLines.j0
      repeat' first
      | (with_reducible exact ih0 _ _ _)
      | (with_reducible exact ih1 _ _ _)
      | (with_reducible exact ih2 _ _ _)
      | (with_reducible exact ih3 _ _ _ _ _ _)
      | (with_reducible exact ih4 _ _ _ _ _ _ _ _ _)
      | (with_reducible exact ih5 _ _ _ _)
      | (with_reducible exact laws_holds.mono _ _ _)
      | (with_reducible exact laws_short.mono _ _)
      | (with_reducible exact laws_zzFits6.mono _ _)
      | (with_reducible exact LeO.refl _)
      | (with_reducible exact LeO.none _)
      | (with_reducible refine LeO.ite ?_ ?_)
      | (with_reducible refine LeO.bind ?_ (fun _ => ?_))
      | exact ih0 _ _ _
      | exact ih1 _ _ _
      | exact ih2 _ _ _
      | exact ih3 _ _ _ _ _ _
      | exact ih4 _ _ _ _ _ _ _ _ _
      | exact ih5 _ _ _ _
      | exact laws_holds.mono _ _ _
      | exact laws_short.mono _ _
      | exact laws_zzFits6.mono _ _
      | exact LeO.none _
      | refine LeO.ite ?_ ?_
      | refine LeO.bind ?_ (fun _ => ?_)
    · intro y0 y1 y2
      unfold laws_FnLines.j1
      repeat' first
      | (with_reducible exact ih0 _ _ _)
      | (with_reducible exact ih1 _ _ _)
      | (with_reducible exact ih2 _ _ _)
      | (with_reducible exact ih3 _ _ _ _ _ _)
      | (with_reducible exact ih4 _ _ _ _ _ _ _ _ _)
      | (with_reducible exact ih5 _ _ _ _)
      | (with_reducible exact laws_holds.mono _ _ _)
      | (with_reducible exact laws_short.mono _ _)
      | (with_reducible exact laws_zzFits6.mono _ _)
      | (with_reducible exact LeO.refl _)
      | (with_reducible exact LeO.none _)
      | (with_reducible refine LeO.ite ?_ ?_)
      | (with_reducible refine LeO.bind ?_ (fun _ => ?_))
      | exact ih0 _ _ _
      | exact ih1 _ _ _
      | exact ih2 _ _ _
      | exact ih3 _ _ _ _ _ _
      | exact ih4 _ _ _ _ _ _ _ _ _
      | exact ih5 _ _ _ _
      | exact laws_holds.mono _ _ _
      | exact laws_short.mono _ _
      | exact laws_zzFits6.mono _ _
      | exact LeO.none _
      | refine LeO.ite ?_ ?_
      | refine LeO.bind ?_ (fun _ => ?_)
    · intro y0 y1 y2
      unfold laws_FnLines.j2
      repeat' first
      | (with_reducible exact ih0 _ _ _)
      | (with_reducible exact ih1 _ _ _)
      | (with_reducible exact ih2 _ _ _)
      | (with_reducible exact ih3 _ _ _ _ _ _)
      | (with_reducible exact ih4 _ _ _ _ _ _ _ _ _)
      | (with_reducible exact ih5 _ _ _ _)
      | (with_reducible exact laws_holds.mono _ _ _)
      | (with_reducible exact laws_short.mono _ _)
      | (with_reducible exact laws_zzFits6.mono _ _)
      | (with_reducible exact LeO.refl _)
      | (with_reducible exact LeO.none _)
      | (with_reducible refine LeO.ite ?_ ?_)
      | (with_reducible refine LeO.bind ?_ (fun _ => ?_))
      | exact ih0 _ _ _
      | exact ih1 _ _ _
      | exact ih2 _ _ _
      | exact ih3 _ _ _ _ _ _
      | exact ih4 _ _ _ _ _ _ _ _ _
      | exact ih5 _ _ _ _
      | exact laws_holds.mono _ _ _
      | exact laws_short.mono _ _
      | exact laws_zzFits6.mono _ _
      | exact LeO.none _
      | refine LeO.ite ?_ ?_
      | refine LeO.bind ?_ (fun _ => ?_)
    · intro y0 y1 y2 y3 y4 y5
      unfold laws_FnLines.l0
      repeat' first
      | (with_reducible exact ih0 _ _ _)
      | (with_reducible exact ih1 _ _ _)
      | (with_reducible exact ih2 _ _ _)
      | (with_reducible exact ih3 _ _ _ _ _ _)
      | (with_reducible exact ih4 _ _ _ _ _ _ _ _ _)
      | (with_reducible exact ih5 _ _ _ _)
      | (with_reducible exact laws_holds.mono _ _ _)
      | (with_reducible exact laws_short.mono _ _)
      | (with_reducible exact laws_zzFits6.mono _ _)
      | (with_reducible exact LeO.refl _)
      | (with_reducible exact LeO.none _)
      | (with_reducible refine LeO.ite ?_ ?_)
      | (with_reducible refine LeO.bind ?_ (fun _ => ?_))
      | exact ih0 _ _ _
      | exact ih1 _ _ _
      | exact ih2 _ _ _
      | exact ih3 _ _ _ _ _ _
      | exact ih4 _ _ _ _ _ _ _ _ _
      | exact ih5 _ _ _ _
      | exact laws_holds.mono _ _ _
      | exact laws_short.mono _ _
      | exact laws_zzFits6.mono _ _
      | exact LeO.none _
      | refine LeO.ite ?_ ?_
      | refine LeO.bind ?_ (fun _ => ?_)
    · intro y0 y1 y2 y3 y4 y5 y6 y7 y8
      unfold laws_FnLines.j4
      repeat' first
      | (with_reducible exact ih0 _ _ _)
      | (with_reducible exact ih1 _ _ _)
      | (with_reducible exact ih2 _ _ _)
      | (with_reducible exact ih3 _ _ _ _ _ _)
      | (with_reducible exact ih4 _ _ _ _ _ _ _ _ _)
      | (with_reducible exact ih5 _ _ _ _)
      | (with_reducible exact laws_holds.mono _ _ _)
      | (with_reducible exact laws_short.mono _ _)
      | (with_reducible exact laws_zzFits6.mono _ _)
      | (with_reducible exact LeO.refl _)
      | (with_reducible exact LeO.none _)
      | (with_reducible refine LeO.ite ?_ ?_)
      | (with_reducible refine LeO.bind ?_ (fun _ => ?_))
      | exact ih0 _ _ _
      | exact ih1 _ _ _
      | exact ih2 _ _ _
      | exact ih3 _ _ _ _ _ _
      | exact ih4 _ _ _ _ _ _ _ _ _
      | exact ih5 _ _ _ _
      | exact laws_holds.mono _ _ _
      | exact laws_short.mono _ _
      | exact laws_zzFits6.mono _ _
      | exact LeO.none _
      | refine LeO.ite ?_ ?_
      | refine LeO.bind ?_ (fun _ => ?_)
    · intro y0 y1 y2 y3
      unfold laws_FnLines.l1
      repeat' first
      | (with_reducible exact ih0 _ _ _)
      | (with_reducible exact ih1 _ _ _)
      | (with_reducible exact ih2 _ _ _)
      | (with_reducible exact ih3 _ _ _ _ _ _)
      | (with_reducible exact ih4 _ _ _ _ _ _ _ _ _)
      | (with_reducible exact ih5 _ _ _ _)
      | (with_reducible exact laws_holds.mono _ _ _)
      | (with_reducible exact laws_short.mono _ _)
      | (with_reducible exact laws_zzFits6.mono _ _)
      | (with_reducible exact LeO.refl _)
      | (with_reducible exact LeO.none _)
      | (with_reducible refine LeO.ite ?_ ?_)
      | (with_reducible refine LeO.bind ?_ (fun _ => ?_))
      | exact ih0 _ _ _
      | exact ih1 _ _ _
      | exact ih2 _ _ _
      | exact ih3 _ _ _ _ _ _
      | exact ih4 _ _ _ _ _ _ _ _ _
      | exact ih5 _ _ _ _
      | exact laws_holds.mono _ _ _
      | exact laws_short.mono _ _
      | exact laws_zzFits6.mono _ _
      | exact LeO.none _
      | refine LeO.ite ?_ ?_
      | refine LeO.bind ?_ (fun _ => ?_)
theorem laws_FnLines.mono : ∀ a0 a1 k, LeO (laws_FnLines.f k a0 a1) (laws_FnLines.f (k + 1) a0 a1) := by
  intro a0 a1 k
  obtain ⟨ih0, ih1, ih2, ih3, ih4, ih5⟩ := laws_FnLines.mono_l k
  unfold laws_FnLines.f
  repeat' first
      | (with_reducible exact ih0 _ _ _)
      | (with_reducible exact ih1 _ _ _)
      | (with_reducible exact ih2 _ _ _)
      | (with_reducible exact ih3 _ _ _ _ _ _)
      | (with_reducible exact ih4 _ _ _ _ _ _ _ _ _)
      | (with_reducible exact ih5 _ _ _ _)
      | (with_reducible exact laws_holds.mono _ _ _)
      | (with_reducible exact laws_short.mono _ _)
      | (with_reducible exact laws_zzFits6.mono _ _)
      | (with_reducible exact LeO.refl _)
      | (with_reducible exact LeO.none _)
      | (with_reducible refine LeO.ite ?_ ?_)
      | (with_reducible refine LeO.bind ?_ (fun _ => ?_))
      | exact ih0 _ _ _
      | exact ih1 _ _ _
      | exact ih2 _ _ _
      | exact ih3 _ _ _ _ _ _
      | exact ih4 _ _ _ _ _ _ _ _ _
      | exact ih5 _ _ _ _
      | exact laws_holds.mono _ _ _
      | exact laws_short.mono _ _
      | exact laws_zzFits6.mono _ _
      | exact LeO.none _
      | refine LeO.ite ?_ ?_
      | refine LeO.bind ?_ (fun _ => ?_)
set_option maxHeartbeats 8000000 in
set_option maxRecDepth 100000 in
theorem laws_FnLines.calls (k : Nat) (A0 : Option Addr) (c0 : Nat) (l0 : List ByteArray) (A1 : Option Addr) (c1 : Nat) (l1 : List Int) (r : Bool) (w : World) (hr0 : Kd.C Kd.string w A0 l0.length l0) (hc0 : l0.length ≤ c0) (hr1 : Kd.C (Kd.int .u8) w A1 l1.length l1) (hc1 : l1.length ≤ c1) (hg : GlS [0] w) (h : laws_FnLines.f k l0 l1 = some r) :
    Calls Tryd.prog 3 #[.slice A0 l0.length c0, .slice A1 l1.length c1] w fun e w' => e = .returned (.bool r) ∧ Below w.heap.size w w' := by
  have HG_ := Aside0.mk hg
  clear hg
  have HR0 := Aside0.mk hr0
  have HC0 := Aside0.mk hc0
  clear hr0 hc0
  have HR1 := Aside0.mk hr1
  have HC1 := Aside0.mk hc1
  clear hr1 hc1
  have HB := Aside0.mk (Below.refl w.heap.size w)
  have H : ((laws_zzFits6.f k l0).bind fun t103 => (if t103 = true then (laws_FnLines.j0 k l0 l1 (decide ((l1.length : Int) > 2147483647))) else (laws_FnLines.j0 k l0 l1 true))) = some r := h
  clear h
  have HC3 := Aside0.mk H
  clear H
  go_enter Tryd.func3, Tryd.ntmps3
  go_upto_region 1 with (fail)
  go_cut [26] (fun v26 wc => ∃ (kq : Nat) (x26_2 : Bool), v26 = .bool x26_2 ∧ Aside0 (laws_FnLines.j0 kq l0 l1 x26_2 = some r) ∧ Aside0 (kq ≤ k) ∧ Aside0 (Below w.heap.size w wc))
  case first =>
    have H := HC3.out
    clear HC3
    replace H := Option.bind_eq_some_iff.mp H
    obtain ⟨t103, A40, H⟩ := H
    replace H : (if t103 = true then (laws_FnLines.j0 k l0 l1 (decide ((l1.length : Int) > 2147483647))) else (laws_FnLines.j0 k l0 l1 true)) = some r := H
    have A4 := Aside0.mk A40
    clear A40
    by_cases c5 : t103 = true
    · subst c5
      have H1 : (laws_FnLines.j0 k l0 l1 (decide ((l1.length : Int) > 2147483647))) = some r := by rw [if_pos rfl] at H; exact H
      clear H
      have H := H1
      clear H1
      have H' := Aside0.mk H
      clear H
      go_wp2_with (first | ((with_reducible refine gate_callee (f := 5) rfl ?_); refine goesL_ (some 20) rfl rfl Tryd.func5 (by kernel_rfl) rfl #[.slice A0 l0.length c0] rfl (by (try simp only [List.map_toArray, List.map_cons, List.map_nil]); first | done | rfl | (simp only [List.length_drop, List.length_take]; rfl)) ?_; (with_reducible refine (laws_zzFits6.calls k _ _ l0 true _ ?side1 ?side2 A4.out).mono ?_); (case side1 => repeat (first | exact (Kd.C_below HR0.out HB.out) | (with_reducible refine Kd.C_alloc ?_ _) | (with_reducible refine Kd.C_drewN ?_ _) | (with_reducible refine Kd.C_drew ?_))); (case side2 => exact HC0.out); rintro e w' ⟨rfl, ⟨nd, rfl⟩⟩; refine ⟨_, rfl, ?_⟩))
      go_meet
      case rel => exact ⟨_, (decide ((l1.length : Int) > 2147483647)), (by first | rfl | (simp; done) | (rw [prx_ne]; first | done | rfl) | (simp [*]; done)), H', ⟨by first | omega | exact Nat.le_refl _⟩, ⟨by repeat (first | (with_reducible first | exact HB.out | apply below_alloc | apply pw_below_drewN | apply below_drew1) | exact HB.out)⟩⟩
    · replace c5 := Bool.eq_false_iff.mpr c5
      subst c5
      have H1 : (laws_FnLines.j0 k l0 l1 true) = some r := by rw [if_neg (show ¬ (false = true) by decide)] at H; exact H
      clear H
      have H := H1
      clear H1
      have H' := Aside0.mk H
      clear H
      go_wp2_with (first | ((with_reducible refine gate_callee (f := 5) rfl ?_); refine goesL_ (some 20) rfl rfl Tryd.func5 (by kernel_rfl) rfl #[.slice A0 l0.length c0] rfl (by (try simp only [List.map_toArray, List.map_cons, List.map_nil]); first | done | rfl | (simp only [List.length_drop, List.length_take]; rfl)) ?_; (with_reducible refine (laws_zzFits6.calls k _ _ l0 false _ ?side1 ?side2 A4.out).mono ?_); (case side1 => repeat (first | exact (Kd.C_below HR0.out HB.out) | (with_reducible refine Kd.C_alloc ?_ _) | (with_reducible refine Kd.C_drewN ?_ _) | (with_reducible refine Kd.C_drew ?_))); (case side2 => exact HC0.out); rintro e w' ⟨rfl, ⟨nd, rfl⟩⟩; refine ⟨_, rfl, ?_⟩))
      go_meet
      case rel => exact ⟨_, (true), (by first | rfl | (simp; done) | (rw [prx_ne]; first | done | rfl) | (simp [*]; done)), H', ⟨by first | omega | exact Nat.le_refl _⟩, ⟨by repeat (first | (with_reducible first | exact HB.out | apply below_alloc | apply pw_below_drewN | apply below_drew1) | exact HB.out)⟩⟩
  case rest =>
    clear HC3
    try clear c1
    try clear p2
    try clear c3
    try clear c5
    obtain ⟨kq, x26_2, rfl, HA, HJ2, HB⟩ := hcut
    cases kq with
    | zero => exact absurd HA.out (by simp [laws_FnLines.j0])
    | succ kj2 =>
      have H := HA.out
      clear HA
      simp only [laws_FnLines.j0] at H
      by_cases c6 : x26_2 = true
      · subst c6
        have H1 : (some true) = some r := by rw [if_pos rfl] at H; exact H
        clear H
        have H := H1
        clear H1
        obtain rfl := Option.some.inj H
        go_wp2
        go_ret
        exact ⟨by first | rfl | (simp [errW_none, errW_some] <;> rfl) | (simp [*, errW_none, errW_some] <;> rfl), by repeat (first | (with_reducible first | exact HB.out | apply below_alloc | apply pw_below_drewN | apply below_drew1) | exact HB.out)⟩
      · replace c6 := Bool.eq_false_iff.mpr c6
        subst c6
        have H1 : ((impl_NextLine.f (⟨#[97, 13, 10, 98]⟩ : ByteArray)).bind fun bt104 => (if bt104.2.2 = true then (if bt104.1.toList = ([97] : List UInt8) then (laws_FnLines.j1 kj2 l0 l1 (bt104.2.1.toList != ([98] : List UInt8))) else (laws_FnLines.j1 kj2 l0 l1 true)) else (laws_FnLines.j1 kj2 l0 l1 true))) = some r := by rw [if_neg (show ¬ (false = true) by decide)] at H; exact H
        clear H
        have H := H1
        clear H1
        replace H := Option.bind_eq_some_iff.mp H
        obtain ⟨⟨t104, t105, t106⟩, A70, H⟩ := H
        replace H : (if t106 = true then (if t104.toList = ([97] : List UInt8) then (laws_FnLines.j1 kj2 l0 l1 (t105.toList != ([98] : List UInt8))) else (laws_FnLines.j1 kj2 l0 l1 true)) else (laws_FnLines.j1 kj2 l0 l1 true)) = some r := H
        have A7 := Aside0.mk A70
        clear A70
        have HC8 := Aside0.mk H
        clear H
        go_upto_region 4 with (first | ((with_reducible refine gate_callee (f := 6) rfl ?_); refine goesL_ (some 28) rfl rfl Tryd.func6 (by kernel_rfl) rfl #[.string (⟨#[97, 13, 10, 98]⟩ : ByteArray)] rfl (by (try simp only [List.map_toArray, List.map_cons, List.map_nil]); first | done | rfl | (simp only [List.length_drop, List.length_take]; rfl)) ?_; (with_reducible refine (impl_NextLine.calls (⟨#[97, 13, 10, 98]⟩ : ByteArray) t104 t105 t106 _ (GlS.at HG_.out (by first | exact HB.out | (repeat (first | (with_reducible first | exact HB.out | exact Below.refl _ _ | apply below_alloc | apply pw_below_drewN | apply below_drew1) | exact HB.out))) (by decide)) A7.out).mono ?_); rintro e w9 ⟨rfl, hb⟩; refine ⟨_, rfl, ?_⟩; have n0_ := Aside0.mk (below_step (by repeat (first | (with_reducible first | exact HB.out | apply below_alloc | apply pw_below_drewN | apply below_drew1) | exact HB.out)) hb); clear HB; have HB := n0_; clear n0_; (try clear hb); (try clear hb2); (try clear hk); (try clear hi)))
        (try simp only [Act.put, List.setIfInBounds_toArray, List.set_cons_zero, List.set_cons_succ])
        go_cut [41] (fun v41 wc => ∃ (kq : Nat) (x41_7 : Bool), v41 = .bool x41_7 ∧ Aside0 (laws_FnLines.j1 kq l0 l1 x41_7 = some r) ∧ Aside0 (kq ≤ kj2) ∧ Aside0 (Below w.heap.size w wc))
        case first =>
          have H := HC8.out
          clear HC8
          by_cases c10 : t106 = true
          · subst c10
            have H1 : (if t104.toList = ([97] : List UInt8) then (laws_FnLines.j1 kj2 l0 l1 (t105.toList != ([98] : List UInt8))) else (laws_FnLines.j1 kj2 l0 l1 true)) = some r := by rw [if_pos rfl] at H; exact H
            clear H
            have H := H1
            clear H1
            by_cases c11 : t104.toList = ([97] : List UInt8)
            · rw [if_pos c11] at H
              have c11b0 : (t104.toList == ([97] : List UInt8)) = true := beq_iff_eq.mpr c11
              have c11b1 : (t104.toList != ([97] : List UInt8)) = false := bne_eq_false_iff_eq.mpr c11
              clear c11
              (first | rw [c11b0] | (simp only [i64_w, i32_w]; rw [c11b0]) | skip)
              have H' := Aside0.mk H
              clear H
              go_wp2
              go_meet
              case rel => exact ⟨_, ((t105.toList != ([98] : List UInt8))), (by first | rfl | (simp; done) | (rw [prx_ne]; first | done | rfl) | (simp [*]; done)), H', ⟨by have := HJ2.out; first | omega | exact Nat.le_refl _⟩, ⟨by repeat (first | (with_reducible first | exact HB.out | apply below_alloc | apply pw_below_drewN | apply below_drew1) | exact HB.out)⟩⟩
            · rw [if_neg c11] at H
              have c11b0 : (t104.toList == ([97] : List UInt8)) = false := beq_eq_false_iff_ne.mpr c11
              have c11b1 : (t104.toList != ([97] : List UInt8)) = true := bne_iff_ne.mpr c11
              (first | rw [c11b0] | (simp only [i64_w, i32_w]; rw [c11b0]) | skip)
              have H' := Aside0.mk H
              clear H
              go_wp2
              go_meet
              case rel => exact ⟨_, (true), (by first | rfl | (simp; done) | (rw [prx_ne]; first | done | rfl) | (simp [*]; done)), H', ⟨by have := HJ2.out; first | omega | exact Nat.le_refl _⟩, ⟨by repeat (first | (with_reducible first | exact HB.out | apply below_alloc | apply pw_below_drewN | apply below_drew1) | exact HB.out)⟩⟩
          · replace c10 := Bool.eq_false_iff.mpr c10
            subst c10
            have H1 : (laws_FnLines.j1 kj2 l0 l1 true) = some r := by rw [if_neg (show ¬ (false = true) by decide)] at H; exact H
            clear H
            have H := H1
            clear H1
            have H' := Aside0.mk H
            clear H
            go_wp2
            go_meet
            case rel => exact ⟨_, (true), (by first | rfl | (simp; done) | (rw [prx_ne]; first | done | rfl) | (simp [*]; done)), H', ⟨by have := HJ2.out; first | omega | exact Nat.le_refl _⟩, ⟨by repeat (first | (with_reducible first | exact HB.out | apply below_alloc | apply pw_below_drewN | apply below_drew1) | exact HB.out)⟩⟩
        case rest =>
          clear HC8
          try clear c1
          try clear p2
          try clear c3
          try clear c5
          try clear c6
          try clear c10
          try clear c11
          try clear c11b0
          try clear c11b1
          try clear p2
          obtain ⟨kq, x41_7, rfl, HA, HJ7, HB⟩ := hcut
          cases kq with
          | zero => exact absurd HA.out (by simp [laws_FnLines.j1])
          | succ kj7 =>
            have H := HA.out
            clear HA
            simp only [laws_FnLines.j1] at H
            by_cases c12 : x41_7 = true
            · subst c12
              have H1 : (some false) = some r := by rw [if_pos rfl] at H; exact H
              clear H
              have H := H1
              clear H1
              obtain rfl := Option.some.inj H
              go_wp2
              go_ret
              exact ⟨by first | rfl | (simp [errW_none, errW_some] <;> rfl) | (simp [*, errW_none, errW_some] <;> rfl), by repeat (first | (with_reducible first | exact HB.out | apply below_alloc | apply pw_below_drewN | apply below_drew1) | exact HB.out)⟩
            · replace c12 := Bool.eq_false_iff.mpr c12
              subst c12
              have H1 : (if (l0.length : Int) > 20 then (laws_FnLines.j2 kj7 l0 l1 true) else ((laws_short.f kj7 l0).bind fun t107 => (laws_FnLines.j2 kj7 l0 l1 (!t107)))) = some r := by rw [if_neg (show ¬ (false = true) by decide)] at H; exact H
              clear H
              have H := H1
              clear H1
              have HC13 := Aside0.mk H
              clear H
              go_upto_region 6 with (fail)
              go_cut [49] (fun v49 wc => ∃ (kq : Nat) (x49_12 : Bool), v49 = .bool x49_12 ∧ Aside0 (laws_FnLines.j2 kq l0 l1 x49_12 = some r) ∧ Aside0 (kq ≤ kj7) ∧ Aside0 (Below w.heap.size w wc))
              case first =>
                have H := HC13.out
                clear HC13
                by_cases c14 : (l0.length : Int) > 20
                · rw [if_pos c14] at H
                  have c14b0 : decide (20 < (l0.length : Int)) = true := decide_eq_true c14
                  have c14b1 : decide (20 < l0.length) = true := decide_eq_true (by omega)
                  clear c14
                  (first | rw [c14b0] | (simp only [i64_w, i32_w]; rw [c14b0]) | skip)
                  have H' := Aside0.mk H
                  clear H
                  go_wp2
                  go_meet
                  case rel => exact ⟨_, (true), (by first | rfl | (simp; done) | (rw [prx_ne]; first | done | rfl) | (simp [*]; done)), H', ⟨by have := HJ2.out; have := HJ7.out; first | omega | exact Nat.le_refl _⟩, ⟨by repeat (first | (with_reducible first | exact HB.out | apply below_alloc | apply pw_below_drewN | apply below_drew1) | exact HB.out)⟩⟩
                · rw [if_neg c14] at H
                  have c14b0 : decide (20 < (l0.length : Int)) = false := decide_eq_false c14
                  have c14b1 : decide (20 < l0.length) = false := decide_eq_false (by omega)
                  clear c14
                  (first | rw [c14b0] | (simp only [i64_w, i32_w]; rw [c14b0]) | skip)
                  replace H := Option.bind_eq_some_iff.mp H
                  obtain ⟨t107, A150, H⟩ := H
                  replace H : (laws_FnLines.j2 kj7 l0 l1 (!t107)) = some r := H
                  have A15 := Aside0.mk A150
                  clear A150
                  have H' := Aside0.mk H
                  clear H
                  go_wp2_with (first | (go_at_call 7; (with_reducible refine (laws_short.calls kj7 _ _ l0 t107 _ ?side1 ?side2 A15.out).mono ?_); (case side1 => repeat (first | exact (Kd.C_below HR0.out HB.out) | (with_reducible refine Kd.C_alloc ?_ _) | (with_reducible refine Kd.C_drewN ?_ _) | (with_reducible refine Kd.C_drew ?_))); (case side2 => exact HC0.out); rintro e w' ⟨rfl, ⟨nd, rfl⟩⟩))
                  go_meet
                  case rel => exact ⟨_, (!t107), (by first | rfl | (simp; done) | (rw [prx_ne]; first | done | rfl) | (simp [*]; done)), H', ⟨by have := HJ2.out; have := HJ7.out; first | omega | exact Nat.le_refl _⟩, ⟨by repeat (first | (with_reducible first | exact HB.out | apply below_alloc | apply pw_below_drewN | apply below_drew1) | exact HB.out)⟩⟩
              case rest =>
                clear HC13
                try clear c1
                try clear p2
                try clear c3
                try clear c5
                try clear c6
                try clear c10
                try clear c11
                try clear c11b0
                try clear c11b1
                try clear c12
                try clear c14
                try clear c14b0
                try clear c14b1
                try clear p2
                obtain ⟨kq, x49_12, rfl, HA, HJ12, HB⟩ := hcut
                cases kq with
                | zero => exact absurd HA.out (by simp [laws_FnLines.j2])
                | succ kj12 =>
                  have H := HA.out
                  clear HA
                  simp only [laws_FnLines.j2] at H
                  by_cases c16 : x49_12 = true
                  · subst c16
                    have H1 : (some true) = some r := by rw [if_pos rfl] at H; exact H
                    clear H
                    have H := H1
                    clear H1
                    obtain rfl := Option.some.inj H
                    go_wp2
                    go_ret
                    exact ⟨by first | rfl | (simp [errW_none, errW_some] <;> rfl) | (simp [*, errW_none, errW_some] <;> rfl), by repeat (first | (with_reducible first | exact HB.out | apply below_alloc | apply pw_below_drewN | apply below_drew1) | exact HB.out)⟩
                  · replace c16 := Bool.eq_false_iff.mpr c16
                    subst c16
                    have H1 : (laws_FnLines.l0 kj12 l0 l1 (⟨#[]⟩ : ByteArray) l0 (l0.length : Int) 0) = some r := by rw [if_neg (show ¬ (false = true) by decide)] at H; exact H
                    clear H
                    have H := H1
                    clear H1
                    have H' := Aside0.mk H
                    clear H
                    go_wp2
                    go_loopg [8, 52] kj12 (fun kq v8 v52 w' => ∃ (x8_4 : ByteArray) (x52_4 : Int), v8 = .string x8_4 ∧ v52 = .int .i64 x52_4 ∧ Aside0 (laws_FnLines.l0 kq l0 l1 x8_4 l0 (l0.length : Int) x52_4 = some r) ∧ Aside0 (kq ≤ kj12) ∧ Aside0 (Below w.heap.size w w'))
                    case atStart => exact ⟨((⟨#[]⟩ : ByteArray)), (0), (by first | rfl | (simp; done) | (rw [prx_ne]; first | done | rfl) | (simp [*]; done)), (by first | rfl | (simp; done) | (rw [prx_ne]; first | done | rfl) | (simp [*]; done)), H', ⟨Nat.le_refl _⟩, ⟨by repeat (first | (with_reducible first | exact HB.out | apply below_alloc | apply pw_below_drewN | apply below_drew1) | exact HB.out)⟩⟩
                    case round =>
                      clear H'
                      try clear c1
                      try clear p2
                      try clear c3
                      try clear c5
                      try clear c6
                      try clear c10
                      try clear c11
                      try clear c11b0
                      try clear c11b1
                      try clear c12
                      try clear c14
                      try clear c14b0
                      try clear c14b1
                      try clear c16
                      try clear p2
                      obtain ⟨x8_4, x52_4, rfl, rfl, HA, HK4, HB⟩ := hrel
                      cases gk with
                      | zero => exact absurd HA.out (by simp [laws_FnLines.l0])
                      | succ k4 =>
                        have H := HA.out
                        clear HA
                        simp only [laws_FnLines.l0] at H
                        by_cases c17 : x52_4 < (l0.length : Int)
                        · rw [if_pos c17] at H
                          have c17b0 : decide (x52_4 < (l0.length : Int)) = true := decide_eq_true c17
                          clear c17
                          by_cases c18 : 0 ≤ x52_4
                          · rw [if_pos c18] at H
                            have c18b0 : decide (0 ≤ x52_4) = true := decide_eq_true c18
                            clear c18
                            by_cases c19 : x52_4 < (l0.length : Int)
                            · rw [if_pos c19] at H
                              have c19b0 : decide (x52_4 < (l0.length : Int)) = true := decide_eq_true c19
                              clear c19
                              have HC20 := Aside0.mk H
                              clear H
                              have p108 : 0 ≤ (x52_4 : Int) := of_decide_eq_true (by first | (with_reducible assumption) | assumption)
                              have q108 : x52_4 < (l0.length : Int) := of_decide_eq_true (by first | (with_reducible assumption) | assumption)
                              obtain ⟨ad108, e108, hx108_0⟩ := Kd.at_string HR0.out x52_4 p108 q108
                              cases e108
                              replace hx108_0 := (HB.out.cell (World.block_lt_of_cell? w _ hx108_0)).trans hx108_0
                              replace p108 := eq_true p108
                              replace q108 := eq_true q108
                              go_upto_region 12 with (fail)
                              go_cut [70] (fun v70 wc => ∃ (kq : Nat) (x70_19 : Bool), v70 = .bool x70_19 ∧ Aside0 (laws_FnLines.j4 kq l0 l1 x8_4 x52_4 (rdOf ByteArray.empty l0 x52_4) l0 (l0.length : Int) x52_4 x70_19 = some r) ∧ Aside0 (kq ≤ k4) ∧ Aside0 (Below w.heap.size w wc))
                              case first =>
                                have H := HC20.out
                                clear HC20
                                replace H := Option.bind_eq_some_iff.mp H
                                obtain ⟨t109, A210, H⟩ := H
                                replace H : (if t109 = true then (laws_FnLines.j4 k4 l0 l1 x8_4 x52_4 (rdOf ByteArray.empty l0 x52_4) l0 (l0.length : Int) x52_4 true) else (if (rdOf ByteArray.empty l0 x52_4).toList = ([] : List UInt8) then (laws_FnLines.j4 k4 l0 l1 x8_4 x52_4 (rdOf ByteArray.empty l0 x52_4) l0 (l0.length : Int) x52_4 false) else (if 0 ≤ (wrap64 (((rdOf ByteArray.empty l0 x52_4).size : Int) - 1)) then (if (wrap64 (((rdOf ByteArray.empty l0 x52_4).size : Int) - 1)) < ((rdOf ByteArray.empty l0 x52_4).size : Int) then (laws_FnLines.j4 k4 l0 l1 x8_4 x52_4 (rdOf ByteArray.empty l0 x52_4) l0 (l0.length : Int) x52_4 ((bt (rdOf ByteArray.empty l0 x52_4) (wrap64 (((rdOf ByteArray.empty l0 x52_4).size : Int) - 1))) == 13)) else (none)) else (none)))) = some r := H
                                have A21 := Aside0.mk A210
                                clear A210
                                by_cases c22 : t109 = true
                                · subst c22
                                  have H1 : (laws_FnLines.j4 k4 l0 l1 x8_4 x52_4 (rdOf ByteArray.empty l0 x52_4) l0 (l0.length : Int) x52_4 true) = some r := by rw [if_pos rfl] at H; exact H
                                  clear H
                                  have H := H1
                                  clear H1
                                  have H' := Aside0.mk H
                                  clear H
                                  go_wp2_with (first | ((with_reducible refine gate_callee (f := 8) rfl ?_); refine goesL_ (some 58) rfl rfl Tryd.func8 (by kernel_rfl) rfl #[.string (rdOf ByteArray.empty l0 x52_4), .int .u8 10] rfl (by (try simp only [List.map_toArray, List.map_cons, List.map_nil]); first | done | rfl | (simp only [List.length_drop, List.length_take]; rfl)) ?_; (with_reducible refine (laws_holds.calls k4 (rdOf ByteArray.empty l0 x52_4) 10 true _ A21.out).mono ?_); rintro e w' ⟨rfl, ⟨nd, rfl⟩⟩; refine ⟨_, rfl, ?_⟩))
                                  go_meet
                                  case rel => exact ⟨_, (true), (by first | rfl | (simp; done) | (rw [prx_ne]; first | done | rfl) | (simp [*]; done)), H', ⟨by have := HJ2.out; have := HJ7.out; have := HJ12.out; have := HK4.out; first | omega | exact Nat.le_refl _⟩, ⟨by repeat (first | (with_reducible first | exact HB.out | apply below_alloc | apply pw_below_drewN | apply below_drew1) | exact HB.out)⟩⟩
                                · replace c22 := Bool.eq_false_iff.mpr c22
                                  subst c22
                                  have H1 : (if (rdOf ByteArray.empty l0 x52_4).toList = ([] : List UInt8) then (laws_FnLines.j4 k4 l0 l1 x8_4 x52_4 (rdOf ByteArray.empty l0 x52_4) l0 (l0.length : Int) x52_4 false) else (if 0 ≤ (wrap64 (((rdOf ByteArray.empty l0 x52_4).size : Int) - 1)) then (if (wrap64 (((rdOf ByteArray.empty l0 x52_4).size : Int) - 1)) < ((rdOf ByteArray.empty l0 x52_4).size : Int) then (laws_FnLines.j4 k4 l0 l1 x8_4 x52_4 (rdOf ByteArray.empty l0 x52_4) l0 (l0.length : Int) x52_4 ((bt (rdOf ByteArray.empty l0 x52_4) (wrap64 (((rdOf ByteArray.empty l0 x52_4).size : Int) - 1))) == 13)) else (none)) else (none))) = some r := by rw [if_neg (show ¬ (false = true) by decide)] at H; exact H
                                  clear H
                                  have H := H1
                                  clear H1
                                  by_cases c23 : (rdOf ByteArray.empty l0 x52_4).toList = ([] : List UInt8)
                                  · rw [if_pos c23] at H
                                    have c23b0 : ((rdOf ByteArray.empty l0 x52_4).toList == ([] : List UInt8)) = true := beq_iff_eq.mpr c23
                                    have c23b1 : ((rdOf ByteArray.empty l0 x52_4).toList != ([] : List UInt8)) = false := bne_eq_false_iff_eq.mpr c23
                                    clear c23
                                    (first | rw [c23b0] | (simp only [i64_w, i32_w]; rw [c23b0]) | skip)
                                    have H' := Aside0.mk H
                                    clear H
                                    go_wp2_with (first | ((with_reducible refine gate_callee (f := 8) rfl ?_); refine goesL_ (some 58) rfl rfl Tryd.func8 (by kernel_rfl) rfl #[.string (rdOf ByteArray.empty l0 x52_4), .int .u8 10] rfl (by (try simp only [List.map_toArray, List.map_cons, List.map_nil]); first | done | rfl | (simp only [List.length_drop, List.length_take]; rfl)) ?_; (with_reducible refine (laws_holds.calls k4 (rdOf ByteArray.empty l0 x52_4) 10 false _ A21.out).mono ?_); rintro e w' ⟨rfl, ⟨nd, rfl⟩⟩; refine ⟨_, rfl, ?_⟩))
                                    go_meet
                                    case rel => exact ⟨_, (false), (by first | rfl | (simp; done) | (rw [prx_ne]; first | done | rfl) | (simp [*]; done)), H', ⟨by have := HJ2.out; have := HJ7.out; have := HJ12.out; have := HK4.out; first | omega | exact Nat.le_refl _⟩, ⟨by repeat (first | (with_reducible first | exact HB.out | apply below_alloc | apply pw_below_drewN | apply below_drew1) | exact HB.out)⟩⟩
                                  · rw [if_neg c23] at H
                                    have c23b0 : ((rdOf ByteArray.empty l0 x52_4).toList == ([] : List UInt8)) = false := beq_eq_false_iff_ne.mpr c23
                                    have c23b1 : ((rdOf ByteArray.empty l0 x52_4).toList != ([] : List UInt8)) = true := bne_iff_ne.mpr c23
                                    (first | rw [c23b0] | (simp only [i64_w, i32_w]; rw [c23b0]) | skip)
                                    obtain ⟨ji24, hji24⟩ : ∃ j_ : Int, (wrap64 (((rdOf ByteArray.empty l0 x52_4).size : Int) - 1)) = j_ := ⟨_, rfl⟩
                                    replace H : (if 0 ≤ (ji24) then (if (ji24) < ((rdOf ByteArray.empty l0 x52_4).size : Int) then (laws_FnLines.j4 k4 l0 l1 x8_4 x52_4 (rdOf ByteArray.empty l0 x52_4) l0 (l0.length : Int) x52_4 ((bt (rdOf ByteArray.empty l0 x52_4) (ji24)) == 13)) else (none)) else (none)) = some r := by first | (rw [hji24] at H; exact H) | (simp only [hji24] at H ⊢; exact H)
                                    (try rw [hji24] at A21)
                                    have hji24w : (IntKind.i64.wrap (((rdOf ByteArray.empty l0 x52_4).size : Int) - 1)) = ji24 := (i64_w _).trans hji24
                                    by_cases c25 : 0 ≤ (ji24)
                                    · rw [if_pos c25] at H
                                      have c25b0 : decide (0 ≤ (ji24)) = true := decide_eq_true c25
                                      clear c25
                                      by_cases c26 : (ji24) < ((rdOf ByteArray.empty l0 x52_4).size : Int)
                                      · rw [if_pos c26] at H
                                        have c26b0 : decide ((ji24) < ((rdOf ByteArray.empty l0 x52_4).size : Int)) = true := decide_eq_true c26
                                        clear c26
                                        have H' := Aside0.mk H
                                        clear H
                                        go_wp2_with (first | ((with_reducible refine gate_callee (f := 8) rfl ?_); refine goesL_ (some 58) rfl rfl Tryd.func8 (by kernel_rfl) rfl #[.string (rdOf ByteArray.empty l0 x52_4), .int .u8 10] rfl (by (try simp only [List.map_toArray, List.map_cons, List.map_nil]); first | done | rfl | (simp only [List.length_drop, List.length_take]; rfl)) ?_; (with_reducible refine (laws_holds.calls k4 (rdOf ByteArray.empty l0 x52_4) 10 false _ A21.out).mono ?_); rintro e w' ⟨rfl, ⟨nd, rfl⟩⟩; refine ⟨_, rfl, ?_⟩; have p27 : 0 ≤ ((ji24) : Int) := of_decide_eq_true (by first | (with_reducible assumption) | assumption); have q27 : (ji24) < ((rdOf ByteArray.empty l0 x52_4).size : Int) := of_decide_eq_true (by first | (with_reducible assumption) | assumption); have hx27 := bt_at (rdOf ByteArray.empty l0 x52_4) (ji24); replace p27 := eq_true p27; replace q27 := eq_true q27))
                                        go_meet
                                        case rel => exact ⟨_, (((bt (rdOf ByteArray.empty l0 x52_4) (ji24)) == 13)), (by first | rfl | (simp; done) | (simp only [← hji24] <;> (first | rfl | simp)) | (rw [prx_ne]; first | done | rfl) | (simp [*]; done)), H', ⟨by have := HJ2.out; have := HJ7.out; have := HJ12.out; have := HK4.out; first | omega | exact Nat.le_refl _⟩, ⟨by repeat (first | (with_reducible first | exact HB.out | apply below_alloc | apply pw_below_drewN | apply below_drew1) | exact HB.out)⟩⟩
                                      · rw [if_neg c26] at H
                                        exact absurd H (by simp)
                                    · rw [if_neg c25] at H
                                      exact absurd H (by simp)
                              case rest =>
                                clear HC20
                                try clear c1
                                try clear p1
                                try clear q1
                                try clear hx1
                                try clear c2
                                try clear p2
                                try clear q2
                                try clear hx2
                                try clear c3
                                try clear c5
                                try clear c6
                                try clear p6
                                try clear c8
                                try clear c10
                                try clear p10
                                try clear q10
                                try clear hx10
                                try clear c11
                                try clear c11b0
                                try clear c11b1
                                try clear c12
                                try clear c14
                                try clear c14b0
                                try clear c14b1
                                try clear c16
                                try clear c17
                                try clear c17b0
                                try clear c18
                                try clear c18b0
                                try clear c19
                                try clear c19b0
                                try clear c22
                                try clear c23
                                try clear c23b0
                                try clear c23b1
                                try clear c25
                                try clear c25b0
                                try clear c26
                                try clear c26b0
                                try clear p27
                                try clear q27
                                try clear hx27
                                try clear hx108_0
                                try clear p108
                                try clear p2
                                try clear p27
                                try clear q108
                                try clear q27
                                obtain ⟨kq, x70_19, rfl, HA, HJ19, HB⟩ := hcut
                                cases kq with
                                | zero => exact absurd HA.out (by simp [laws_FnLines.j4])
                                | succ kj19 =>
                                  have H := HA.out
                                  clear HA
                                  simp only [laws_FnLines.j4] at H
                                  by_cases c28 : x70_19 = true
                                  · subst c28
                                    have H1 : (some true) = some r := by rw [if_pos rfl] at H; exact H
                                    clear H
                                    have H := H1
                                    clear H1
                                    obtain rfl := Option.some.inj H
                                    go_wp2
                                    go_ret
                                    exact ⟨by first | rfl | (simp [errW_none, errW_some] <;> rfl) | (simp [*, errW_none, errW_some] <;> rfl), by repeat (first | (with_reducible first | exact HB.out | apply below_alloc | apply pw_below_drewN | apply below_drew1) | exact HB.out)⟩
                                  · replace c28 := Bool.eq_false_iff.mpr c28
                                    subst c28
                                    have H1 : (if x8_4.size + (rdOf ByteArray.empty l0 x52_4).size ≤ 9223372036854775807 then (if x52_4 < (l1.length : Int) then (if 0 ≤ x52_4 then (if (Int.tmod (rd l1 x52_4) 2) = 1 then (if (x8_4 ++ (rdOf ByteArray.empty l0 x52_4)).size + 1 ≤ 9223372036854775807 then (if ((x8_4 ++ (rdOf ByteArray.empty l0 x52_4)) ++ (⟨#[13]⟩ : ByteArray)).size + 1 ≤ 9223372036854775807 then (laws_FnLines.l0 kj19 l0 l1 (((x8_4 ++ (rdOf ByteArray.empty l0 x52_4)) ++ (⟨#[13]⟩ : ByteArray)) ++ (⟨#[10]⟩ : ByteArray)) l0 (l0.length : Int) (wrap64 (x52_4 + 1))) else (none)) else (none)) else (if (x8_4 ++ (rdOf ByteArray.empty l0 x52_4)).size + 1 ≤ 9223372036854775807 then (laws_FnLines.l0 kj19 l0 l1 ((x8_4 ++ (rdOf ByteArray.empty l0 x52_4)) ++ (⟨#[10]⟩ : ByteArray)) l0 (l0.length : Int) (wrap64 (x52_4 + 1))) else (none))) else (none)) else (if (x8_4 ++ (rdOf ByteArray.empty l0 x52_4)).size + 1 ≤ 9223372036854775807 then (laws_FnLines.l0 kj19 l0 l1 ((x8_4 ++ (rdOf ByteArray.empty l0 x52_4)) ++ (⟨#[10]⟩ : ByteArray)) l0 (l0.length : Int) (wrap64 (x52_4 + 1))) else (none))) else (none)) = some r := by rw [if_neg (show ¬ (false = true) by decide)] at H; exact H
                                    clear H
                                    have H := H1
                                    clear H1
                                    by_cases c29 : x8_4.size + (rdOf ByteArray.empty l0 x52_4).size ≤ 9223372036854775807
                                    · rw [if_pos c29] at H
                                      have c29b0 := eq_true c29
                                      have c29b1 : decide (x8_4.size + (rdOf ByteArray.empty l0 x52_4).size ≤ 9223372036854775807) = true := decide_eq_true c29
                                      try have c29b2 : (9223372036854775807 < x8_4.size + (rdOf ByteArray.empty l0 x52_4).size) = False := eq_false (Nat.not_lt.2 c29)
                                      try (have c29b3 := c29; simp only [ByteArray.size_append, prx_sz, List.length_cons, List.length_nil] at c29b3)
                                      by_cases c30 : x52_4 < (l1.length : Int)
                                      · rw [if_pos c30] at H
                                        have c30b0 : decide (x52_4 < (l1.length : Int)) = true := decide_eq_true c30
                                        clear c30
                                        by_cases c31 : 0 ≤ x52_4
                                        · rw [if_pos c31] at H
                                          have c31b0 : decide (0 ≤ x52_4) = true := decide_eq_true c31
                                          clear c31
                                          by_cases c32 : (Int.tmod (rd l1 x52_4) 2) = 1
                                          · rw [if_pos c32] at H
                                            have c32b0 : ((Int.tmod (rd l1 x52_4) 2) == 1) = true := beq_iff_eq.mpr c32
                                            have c32b1 : ((Int.tmod (rd l1 x52_4) 2) != 1) = false := bne_eq_false_iff_eq.mpr c32
                                            clear c32
                                            by_cases c33 : (x8_4 ++ (rdOf ByteArray.empty l0 x52_4)).size + 1 ≤ 9223372036854775807
                                            · rw [if_pos c33] at H
                                              have c33b0 := eq_true c33
                                              have c33b1 : decide ((x8_4 ++ (rdOf ByteArray.empty l0 x52_4)).size + 1 ≤ 9223372036854775807) = true := decide_eq_true c33
                                              try have c33b2 : (9223372036854775807 < (x8_4 ++ (rdOf ByteArray.empty l0 x52_4)).size + 1) = False := eq_false (Nat.not_lt.2 c33)
                                              try (have c33b3 := c33; simp only [ByteArray.size_append, prx_sz, List.length_cons, List.length_nil] at c33b3)
                                              by_cases c34 : ((x8_4 ++ (rdOf ByteArray.empty l0 x52_4)) ++ (⟨#[13]⟩ : ByteArray)).size + 1 ≤ 9223372036854775807
                                              · rw [if_pos c34] at H
                                                have c34b0 := eq_true c34
                                                have c34b1 : decide (((x8_4 ++ (rdOf ByteArray.empty l0 x52_4)) ++ (⟨#[13]⟩ : ByteArray)).size + 1 ≤ 9223372036854775807) = true := decide_eq_true c34
                                                try have c34b2 : (9223372036854775807 < ((x8_4 ++ (rdOf ByteArray.empty l0 x52_4)) ++ (⟨#[13]⟩ : ByteArray)).size + 1) = False := eq_false (Nat.not_lt.2 c34)
                                                try (have c34b3 := c34; simp only [ByteArray.size_append, prx_sz, List.length_cons, List.length_nil] at c34b3)
                                                have H' := Aside0.mk H
                                                clear H
                                                have p110 : 0 ≤ (x52_4 : Int) := of_decide_eq_true (by first | (with_reducible assumption) | assumption)
                                                have q110 : x52_4 < (l1.length : Int) := of_decide_eq_true (by first | (with_reducible assumption) | assumption)
                                                obtain ⟨ad110, e110, hx110_0⟩ := Kd.at_int HR1.out x52_4 p110 q110
                                                cases e110
                                                replace hx110_0 := (HB.out.cell (World.block_lt_of_cell? w _ hx110_0)).trans hx110_0
                                                replace p110 := eq_true p110
                                                replace q110 := eq_true q110
                                                go_wp2
                                                go_roundg kj19
                                                case measure => have := HJ2.out; have := HJ7.out; have := HJ12.out; have := HK4.out; have := HJ19.out; omega
                                                case rel => exact ⟨(((x8_4 ++ (rdOf ByteArray.empty l0 x52_4)) ++ (⟨#[13]⟩ : ByteArray)) ++ (⟨#[10]⟩ : ByteArray)), (wrap64 (x52_4 + 1)), (by first | rfl | (simp; done) | (rw [prx_ne]; first | done | rfl) | (simp [*]; done)), (by first | rfl | (simp; done) | (rw [prx_ne]; first | done | rfl) | (simp [*]; done)), H', ⟨by have := HJ2.out; have := HJ7.out; have := HJ12.out; have := HK4.out; have := HJ19.out; omega⟩, ⟨by repeat (first | (with_reducible first | exact HB.out | apply below_alloc | apply pw_below_drewN | apply below_drew1) | exact HB.out)⟩⟩
                                              · rw [if_neg c34] at H
                                                exact absurd H (by simp)
                                            · rw [if_neg c33] at H
                                              exact absurd H (by simp)
                                          · rw [if_neg c32] at H
                                            have c32b0 : ((Int.tmod (rd l1 x52_4) 2) == 1) = false := beq_eq_false_iff_ne.mpr c32
                                            have c32b1 : ((Int.tmod (rd l1 x52_4) 2) != 1) = true := bne_iff_ne.mpr c32
                                            by_cases c35 : (x8_4 ++ (rdOf ByteArray.empty l0 x52_4)).size + 1 ≤ 9223372036854775807
                                            · rw [if_pos c35] at H
                                              have c35b0 := eq_true c35
                                              have c35b1 : decide ((x8_4 ++ (rdOf ByteArray.empty l0 x52_4)).size + 1 ≤ 9223372036854775807) = true := decide_eq_true c35
                                              try have c35b2 : (9223372036854775807 < (x8_4 ++ (rdOf ByteArray.empty l0 x52_4)).size + 1) = False := eq_false (Nat.not_lt.2 c35)
                                              try (have c35b3 := c35; simp only [ByteArray.size_append, prx_sz, List.length_cons, List.length_nil] at c35b3)
                                              have H' := Aside0.mk H
                                              clear H
                                              have p110 : 0 ≤ (x52_4 : Int) := of_decide_eq_true (by first | (with_reducible assumption) | assumption)
                                              have q110 : x52_4 < (l1.length : Int) := of_decide_eq_true (by first | (with_reducible assumption) | assumption)
                                              obtain ⟨ad110, e110, hx110_0⟩ := Kd.at_int HR1.out x52_4 p110 q110
                                              cases e110
                                              replace hx110_0 := (HB.out.cell (World.block_lt_of_cell? w _ hx110_0)).trans hx110_0
                                              replace p110 := eq_true p110
                                              replace q110 := eq_true q110
                                              go_wp2
                                              go_roundg kj19
                                              case measure => have := HJ2.out; have := HJ7.out; have := HJ12.out; have := HK4.out; have := HJ19.out; omega
                                              case rel => exact ⟨((x8_4 ++ (rdOf ByteArray.empty l0 x52_4)) ++ (⟨#[10]⟩ : ByteArray)), (wrap64 (x52_4 + 1)), (by first | rfl | (simp; done) | (rw [prx_ne]; first | done | rfl) | (simp [*]; done)), (by first | rfl | (simp; done) | (rw [prx_ne]; first | done | rfl) | (simp [*]; done)), H', ⟨by have := HJ2.out; have := HJ7.out; have := HJ12.out; have := HK4.out; have := HJ19.out; omega⟩, ⟨by repeat (first | (with_reducible first | exact HB.out | apply below_alloc | apply pw_below_drewN | apply below_drew1) | exact HB.out)⟩⟩
                                            · rw [if_neg c35] at H
                                              exact absurd H (by simp)
                                        · rw [if_neg c31] at H
                                          exact absurd H (by simp)
                                      · rw [if_neg c30] at H
                                        have c30b0 : decide (x52_4 < (l1.length : Int)) = false := decide_eq_false c30
                                        clear c30
                                        by_cases c36 : (x8_4 ++ (rdOf ByteArray.empty l0 x52_4)).size + 1 ≤ 9223372036854775807
                                        · rw [if_pos c36] at H
                                          have c36b0 := eq_true c36
                                          have c36b1 : decide ((x8_4 ++ (rdOf ByteArray.empty l0 x52_4)).size + 1 ≤ 9223372036854775807) = true := decide_eq_true c36
                                          try have c36b2 : (9223372036854775807 < (x8_4 ++ (rdOf ByteArray.empty l0 x52_4)).size + 1) = False := eq_false (Nat.not_lt.2 c36)
                                          try (have c36b3 := c36; simp only [ByteArray.size_append, prx_sz, List.length_cons, List.length_nil] at c36b3)
                                          have H' := Aside0.mk H
                                          clear H
                                          go_wp2
                                          go_roundg kj19
                                          case measure => have := HJ2.out; have := HJ7.out; have := HJ12.out; have := HK4.out; have := HJ19.out; omega
                                          case rel => exact ⟨((x8_4 ++ (rdOf ByteArray.empty l0 x52_4)) ++ (⟨#[10]⟩ : ByteArray)), (wrap64 (x52_4 + 1)), (by first | rfl | (simp; done) | (rw [prx_ne]; first | done | rfl) | (simp [*]; done)), (by first | rfl | (simp; done) | (rw [prx_ne]; first | done | rfl) | (simp [*]; done)), H', ⟨by have := HJ2.out; have := HJ7.out; have := HJ12.out; have := HK4.out; have := HJ19.out; omega⟩, ⟨by repeat (first | (with_reducible first | exact HB.out | apply below_alloc | apply pw_below_drewN | apply below_drew1) | exact HB.out)⟩⟩
                                        · rw [if_neg c36] at H
                                          exact absurd H (by simp)
                                    · rw [if_neg c29] at H
                                      exact absurd H (by simp)
                            · rw [if_neg c19] at H
                              exact absurd H (by simp)
                          · rw [if_neg c18] at H
                            exact absurd H (by simp)
                        · rw [if_neg c17] at H
                          have c17b0 : decide (x52_4 < (l0.length : Int)) = false := decide_eq_false c17
                          clear c17
                          have H' := Aside0.mk H
                          clear H
                          go_wp2
                          go_loopg [8, 93] k4 (fun kq v8 v93 w' => ∃ (x8_5 : ByteArray) (x93_5 : Int), v8 = .string x8_5 ∧ v93 = .int .i64 x93_5 ∧ Aside0 (laws_FnLines.l1 kq x8_5 l0 (l0.length : Int) x93_5 = some r) ∧ Aside0 (kq ≤ k4) ∧ Aside0 (Below w.heap.size w w'))
                          case atStart => exact ⟨(x8_4), (0), (by first | rfl | (simp; done) | (rw [prx_ne]; first | done | rfl) | (simp [*]; done)), (by first | rfl | (simp; done) | (rw [prx_ne]; first | done | rfl) | (simp [*]; done)), H', ⟨Nat.le_refl _⟩, ⟨by repeat (first | (with_reducible first | exact HB.out | apply below_alloc | apply pw_below_drewN | apply below_drew1) | exact HB.out)⟩⟩
                          case round =>
                            clear H'
                            try clear c1
                            try clear p1
                            try clear q1
                            try clear hx1
                            try clear c2
                            try clear p2
                            try clear q2
                            try clear hx2
                            try clear c3
                            try clear c5
                            try clear c6
                            try clear p6
                            try clear c8
                            try clear c10
                            try clear p10
                            try clear q10
                            try clear hx10
                            try clear c11
                            try clear c11b0
                            try clear c11b1
                            try clear p11
                            try clear q11
                            try clear hx11
                            try clear c12
                            try clear c14
                            try clear c14b0
                            try clear c14b1
                            try clear c16
                            try clear c17
                            try clear c17b0
                            try clear c18
                            try clear c18b0
                            try clear c19
                            try clear c19b0
                            try clear c22
                            try clear c23
                            try clear c23b0
                            try clear c23b1
                            try clear c25
                            try clear c25b0
                            try clear c26
                            try clear c26b0
                            try clear p27
                            try clear q27
                            try clear hx27
                            try clear c28
                            try clear c29
                            try clear c29b0
                            try clear c29b1
                            try clear c29b2
                            try clear c30
                            try clear c30b0
                            try clear c31
                            try clear c31b0
                            try clear c32
                            try clear c32b0
                            try clear c32b1
                            try clear c33
                            try clear c33b0
                            try clear c33b1
                            try clear c33b2
                            try clear c34
                            try clear c34b0
                            try clear c34b1
                            try clear c34b2
                            try clear c35
                            try clear c35b0
                            try clear c35b1
                            try clear c35b2
                            try clear c36
                            try clear c36b0
                            try clear c36b1
                            try clear c36b2
                            try clear hx108_0
                            try clear hx110_0
                            try clear p1
                            try clear p10
                            try clear p108
                            try clear p110
                            try clear p2
                            try clear p27
                            try clear p6
                            try clear q1
                            try clear q10
                            try clear q108
                            try clear q110
                            try clear q2
                            try clear q27
                            obtain ⟨x8_5, x93_5, rfl, rfl, HA, HK5, HB⟩ := hrel
                            cases gk with
                            | zero => exact absurd HA.out (by simp [laws_FnLines.l1])
                            | succ k5 =>
                              have H := HA.out
                              clear HA
                              simp only [laws_FnLines.l1] at H
                              by_cases c37 : x93_5 < (l0.length : Int)
                              · rw [if_pos c37] at H
                                have c37b0 : decide (x93_5 < (l0.length : Int)) = true := decide_eq_true c37
                                clear c37
                                by_cases c38 : 0 ≤ x93_5
                                · rw [if_pos c38] at H
                                  have c38b0 : decide (0 ≤ x93_5) = true := decide_eq_true c38
                                  clear c38
                                  by_cases c39 : x93_5 < (l0.length : Int)
                                  · rw [if_pos c39] at H
                                    have c39b0 : decide (x93_5 < (l0.length : Int)) = true := decide_eq_true c39
                                    clear c39
                                    replace H := Option.bind_eq_some_iff.mp H
                                    obtain ⟨⟨t112, t113, t114⟩, A400, H⟩ := H
                                    replace H : (if t114 = true then (if t112.toList = (rdOf ByteArray.empty l0 x93_5).toList then (laws_FnLines.l1 k5 t113 l0 (l0.length : Int) (wrap64 (x93_5 + 1))) else (some false)) else (some false)) = some r := H
                                    have A40 := Aside0.mk A400
                                    clear A400
                                    by_cases c41 : t114 = true
                                    · subst c41
                                      have H1 : (if t112.toList = (rdOf ByteArray.empty l0 x93_5).toList then (laws_FnLines.l1 k5 t113 l0 (l0.length : Int) (wrap64 (x93_5 + 1))) else (some false)) = some r := by rw [if_pos rfl] at H; exact H
                                      clear H
                                      have H := H1
                                      clear H1
                                      by_cases c42 : t112.toList = (rdOf ByteArray.empty l0 x93_5).toList
                                      · rw [if_pos c42] at H
                                        have c42b0 : (t112.toList == (rdOf ByteArray.empty l0 x93_5).toList) = true := beq_iff_eq.mpr c42
                                        have c42b1 : (t112.toList != (rdOf ByteArray.empty l0 x93_5).toList) = false := bne_eq_false_iff_eq.mpr c42
                                        clear c42
                                        have H' := Aside0.mk H
                                        clear H
                                        have p111 : 0 ≤ (x93_5 : Int) := of_decide_eq_true (by first | (with_reducible assumption) | assumption)
                                        have q111 : x93_5 < (l0.length : Int) := of_decide_eq_true (by first | (with_reducible assumption) | assumption)
                                        obtain ⟨ad111, e111, hx111_0⟩ := Kd.at_string HR0.out x93_5 p111 q111
                                        cases e111
                                        replace hx111_0 := (HB.out.cell (World.block_lt_of_cell? w _ hx111_0)).trans hx111_0
                                        replace p111 := eq_true p111
                                        replace q111 := eq_true q111
                                        go_wp2_with (first | ((with_reducible refine gate_callee (f := 6) rfl ?_); refine goesL_ (some 99) rfl rfl Tryd.func6 (by kernel_rfl) rfl #[.string x8_5] rfl (by (try simp only [List.map_toArray, List.map_cons, List.map_nil]); first | done | rfl | (simp only [List.length_drop, List.length_take]; rfl)) ?_; (with_reducible refine (impl_NextLine.calls x8_5 t112 t113 true _ (GlS.at HG_.out (by first | exact HB.out | (repeat (first | (with_reducible first | exact HB.out | exact Below.refl _ _ | apply below_alloc | apply pw_below_drewN | apply below_drew1) | exact HB.out))) (by decide)) A40.out).mono ?_); rintro e w43 ⟨rfl, hb⟩; refine ⟨_, rfl, ?_⟩; have n0_ := Aside0.mk (below_step (by repeat (first | (with_reducible first | exact HB.out | apply below_alloc | apply pw_below_drewN | apply below_drew1) | exact HB.out)) hb); clear HB; have HB := n0_; clear n0_; (try clear hb); (try clear hb2); (try clear hk); (try clear hi)))
                                        go_roundg k5
                                        case measure => have := HJ2.out; have := HJ7.out; have := HJ12.out; have := HK4.out; have := HK5.out; omega
                                        case rel => exact ⟨(t113), (wrap64 (x93_5 + 1)), (by first | rfl | (simp; done) | (rw [prx_ne]; first | done | rfl) | (simp [*]; done)), (by first | rfl | (simp; done) | (rw [prx_ne]; first | done | rfl) | (simp [*]; done)), H', ⟨by have := HJ2.out; have := HJ7.out; have := HJ12.out; have := HK4.out; have := HK5.out; omega⟩, ⟨by repeat (first | (with_reducible first | exact HB.out | apply below_alloc | apply pw_below_drewN | apply below_drew1) | exact HB.out)⟩⟩
                                      · rw [if_neg c42] at H
                                        have c42b0 : (t112.toList == (rdOf ByteArray.empty l0 x93_5).toList) = false := beq_eq_false_iff_ne.mpr c42
                                        have c42b1 : (t112.toList != (rdOf ByteArray.empty l0 x93_5).toList) = true := bne_iff_ne.mpr c42
                                        obtain rfl := Option.some.inj H
                                        have p111 : 0 ≤ (x93_5 : Int) := of_decide_eq_true (by first | (with_reducible assumption) | assumption)
                                        have q111 : x93_5 < (l0.length : Int) := of_decide_eq_true (by first | (with_reducible assumption) | assumption)
                                        obtain ⟨ad111, e111, hx111_0⟩ := Kd.at_string HR0.out x93_5 p111 q111
                                        cases e111
                                        replace hx111_0 := (HB.out.cell (World.block_lt_of_cell? w _ hx111_0)).trans hx111_0
                                        replace p111 := eq_true p111
                                        replace q111 := eq_true q111
                                        go_wp2_with (first | ((with_reducible refine gate_callee (f := 6) rfl ?_); refine goesL_ (some 99) rfl rfl Tryd.func6 (by kernel_rfl) rfl #[.string x8_5] rfl (by (try simp only [List.map_toArray, List.map_cons, List.map_nil]); first | done | rfl | (simp only [List.length_drop, List.length_take]; rfl)) ?_; (with_reducible refine (impl_NextLine.calls x8_5 t112 t113 true _ (GlS.at HG_.out (by first | exact HB.out | (repeat (first | (with_reducible first | exact HB.out | exact Below.refl _ _ | apply below_alloc | apply pw_below_drewN | apply below_drew1) | exact HB.out))) (by decide)) A40.out).mono ?_); rintro e w44 ⟨rfl, hb⟩; refine ⟨_, rfl, ?_⟩; have n0_ := Aside0.mk (below_step (by repeat (first | (with_reducible first | exact HB.out | apply below_alloc | apply pw_below_drewN | apply below_drew1) | exact HB.out)) hb); clear HB; have HB := n0_; clear n0_; (try clear hb); (try clear hb2); (try clear hk); (try clear hi)))
                                        go_ret
                                        exact ⟨by first | rfl | (simp [errW_none, errW_some] <;> rfl) | (simp [*, errW_none, errW_some] <;> rfl), by repeat (first | (with_reducible first | exact HB.out | apply below_alloc | apply pw_below_drewN | apply below_drew1) | exact HB.out)⟩
                                    · replace c41 := Bool.eq_false_iff.mpr c41
                                      subst c41
                                      have H1 : (some false) = some r := by rw [if_neg (show ¬ (false = true) by decide)] at H; exact H
                                      clear H
                                      have H := H1
                                      clear H1
                                      obtain rfl := Option.some.inj H
                                      have p111 : 0 ≤ (x93_5 : Int) := of_decide_eq_true (by first | (with_reducible assumption) | assumption)
                                      have q111 : x93_5 < (l0.length : Int) := of_decide_eq_true (by first | (with_reducible assumption) | assumption)
                                      obtain ⟨ad111, e111, hx111_0⟩ := Kd.at_string HR0.out x93_5 p111 q111
                                      cases e111
                                      replace hx111_0 := (HB.out.cell (World.block_lt_of_cell? w _ hx111_0)).trans hx111_0
                                      replace p111 := eq_true p111
                                      replace q111 := eq_true q111
                                      go_wp2_with (first | ((with_reducible refine gate_callee (f := 6) rfl ?_); refine goesL_ (some 99) rfl rfl Tryd.func6 (by kernel_rfl) rfl #[.string x8_5] rfl (by (try simp only [List.map_toArray, List.map_cons, List.map_nil]); first | done | rfl | (simp only [List.length_drop, List.length_take]; rfl)) ?_; (with_reducible refine (impl_NextLine.calls x8_5 t112 t113 false _ (GlS.at HG_.out (by first | exact HB.out | (repeat (first | (with_reducible first | exact HB.out | exact Below.refl _ _ | apply below_alloc | apply pw_below_drewN | apply below_drew1) | exact HB.out))) (by decide)) A40.out).mono ?_); rintro e w45 ⟨rfl, hb⟩; refine ⟨_, rfl, ?_⟩; have n0_ := Aside0.mk (below_step (by repeat (first | (with_reducible first | exact HB.out | apply below_alloc | apply pw_below_drewN | apply below_drew1) | exact HB.out)) hb); clear HB; have HB := n0_; clear n0_; (try clear hb); (try clear hb2); (try clear hk); (try clear hi)))
                                      go_ret
                                      exact ⟨by first | rfl | (simp [errW_none, errW_some] <;> rfl) | (simp [*, errW_none, errW_some] <;> rfl), by repeat (first | (with_reducible first | exact HB.out | apply below_alloc | apply pw_below_drewN | apply below_drew1) | exact HB.out)⟩
                                  · rw [if_neg c39] at H
                                    exact absurd H (by simp)
                                · rw [if_neg c38] at H
                                  exact absurd H (by simp)
                              · rw [if_neg c37] at H
                                have c37b0 : decide (x93_5 < (l0.length : Int)) = false := decide_eq_false c37
                                clear c37
                                replace H := Option.bind_eq_some_iff.mp H
                                obtain ⟨⟨t115, t116, t117⟩, A460, H⟩ := H
                                replace H : (if t117 = true then (some false) else (some (x8_5.toList == ([] : List UInt8)))) = some r := H
                                have A46 := Aside0.mk A460
                                clear A460
                                by_cases c47 : t117 = true
                                · subst c47
                                  have H1 : (some false) = some r := by rw [if_pos rfl] at H; exact H
                                  clear H
                                  have H := H1
                                  clear H1
                                  obtain rfl := Option.some.inj H
                                  go_wp2_with (first | ((with_reducible refine gate_callee (f := 6) rfl ?_); refine goesL_ (some 114) rfl rfl Tryd.func6 (by kernel_rfl) rfl #[.string x8_5] rfl (by (try simp only [List.map_toArray, List.map_cons, List.map_nil]); first | done | rfl | (simp only [List.length_drop, List.length_take]; rfl)) ?_; (with_reducible refine (impl_NextLine.calls x8_5 t115 t116 true _ (GlS.at HG_.out (by first | exact HB.out | (repeat (first | (with_reducible first | exact HB.out | exact Below.refl _ _ | apply below_alloc | apply pw_below_drewN | apply below_drew1) | exact HB.out))) (by decide)) A46.out).mono ?_); rintro e w48 ⟨rfl, hb⟩; refine ⟨_, rfl, ?_⟩; have n0_ := Aside0.mk (below_step (by repeat (first | (with_reducible first | exact HB.out | apply below_alloc | apply pw_below_drewN | apply below_drew1) | exact HB.out)) hb); clear HB; have HB := n0_; clear n0_; (try clear hb); (try clear hb2); (try clear hk); (try clear hi)))
                                  go_ret
                                  exact ⟨by first | rfl | (simp [errW_none, errW_some] <;> rfl) | (simp [*, errW_none, errW_some] <;> rfl), by repeat (first | (with_reducible first | exact HB.out | apply below_alloc | apply pw_below_drewN | apply below_drew1) | exact HB.out)⟩
                                · replace c47 := Bool.eq_false_iff.mpr c47
                                  subst c47
                                  have H1 : (some (x8_5.toList == ([] : List UInt8))) = some r := by rw [if_neg (show ¬ (false = true) by decide)] at H; exact H
                                  clear H
                                  have H := H1
                                  clear H1
                                  obtain rfl := Option.some.inj H
                                  go_wp2_with (first | ((with_reducible refine gate_callee (f := 6) rfl ?_); refine goesL_ (some 114) rfl rfl Tryd.func6 (by kernel_rfl) rfl #[.string x8_5] rfl (by (try simp only [List.map_toArray, List.map_cons, List.map_nil]); first | done | rfl | (simp only [List.length_drop, List.length_take]; rfl)) ?_; (with_reducible refine (impl_NextLine.calls x8_5 t115 t116 false _ (GlS.at HG_.out (by first | exact HB.out | (repeat (first | (with_reducible first | exact HB.out | exact Below.refl _ _ | apply below_alloc | apply pw_below_drewN | apply below_drew1) | exact HB.out))) (by decide)) A46.out).mono ?_); rintro e w49 ⟨rfl, hb⟩; refine ⟨_, rfl, ?_⟩; have n0_ := Aside0.mk (below_step (by repeat (first | (with_reducible first | exact HB.out | apply below_alloc | apply pw_below_drewN | apply below_drew1) | exact HB.out)) hb); clear HB; have HB := n0_; clear n0_; (try clear hb); (try clear hb2); (try clear hk); (try clear hi)))
                                  go_ret
                                  exact ⟨by first | rfl | (simp [errW_none, errW_some] <;> rfl) | (simp [*, errW_none, errW_some] <;> rfl), by repeat (first | (with_reducible first | exact HB.out | apply below_alloc | apply pw_below_drewN | apply below_drew1) | exact HB.out)⟩

/-- THE ONE PURE STATEMENT of laws_FnLines: yours. -/
def laws_FnLines.Pure : Prop := ∀ (l0 : List ByteArray) (l1 : List Int), l0.length * 16 ≤ 140737488351232 → l1.length ≤ maxLen → l1.length * 1 ≤ 140737488351232 → (∀ x ∈ l1, (Lit.int .u8 x).wf = true) → ∃ k, laws_FnLines.f k l0 l1 = some true
theorem laws_FnLines.walk (P : laws_FnLines.Pure) (a0 : Option Addr) (cap0 : Nat) (l0 : List ByteArray) (a1 : Option Addr) (len1 cap1 : Nat) (z1 : List Int) (w : World) (w0 : Kd.C Kd.string w a0 l0.length l0) (y0 : l0.length ≤ cap0) (m0 : l0.length * 16 ≤ 140737488351232) (w1 : (a1 = none ∧ len1 = 0 ∧ cap1 = 0 ∧ z1 = []) ∨ ∃ x, a1 = some x ∧ len1 ≤ cap1 ∧ cap1 ≤ maxLen ∧ z1.length = cap1 ∧ (∀ i, i < z1.length → w.cell? (x.add i) = some (.int .u8 (z1.getD i 0))) ∧ ∀ n ∈ z1, (Lit.int .u8 n).wf = true) (y1 : len1 * 1 ≤ 140737488351232) (hg : GlS [0] w) :
    Calls Tryd.prog 3 #[.slice a0 l0.length cap0, .slice a1 len1 cap1] w fun e w' => e = .returned (.bool true) ∧ Below w.heap.size w w' := by
  obtain ⟨l1, rfl, hr1, hm1, hw1, hc1⟩ := ReadsInt.ofRowC w1
  obtain ⟨k, h⟩ := P l0 l1 m0 hm1 y1 hw1
  refine (laws_FnLines.calls k _ _ l0 _ _ l1 true w w0 y0 (Kd.C_of_reads (d := (0 : Int)) (h1 := fun _ => rfl) hr1) hc1 hg h).mono ?_
  rintro e w' ⟨rfl, hd⟩
  exact ⟨rfl, hd⟩

end Go.Proofs.YtdfeojkombmiaaaDoor.QA
