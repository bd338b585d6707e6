/- Printed by wip/pr.py (a program of this repo over the print program of the kit). Not trusted: Lean checks it. -/
import Derived.Test.YtkbmababljcabaaQA0
import Derived.Test.YtkbmababljcabaaQA1
import Derived.Test.YtkbmababljcabaaQA3
import Derived.Test.YtkbmababljcabaaQA5
import Derived.Test.YtkbmababljcabaaQA6
import Derived.Test.YtkbmababljcabaaQA7
namespace Go.Proofs.Ytkbmababljcabaa.QA
open Go.Proofs.Ytkbmababljcabaa.Given
open Go.Proofs.Ytkbmababljcabaa.PrX
open Go.RowKit Go.Proofs.YtkbmababljcabaaW.PrintWords Go.Proofs.YtkbmababljcabaaW.PrintLast Go.Proofs.YtkbmababljcabaaW.PrintMore
attribute [local go_sem] max2_int min2_int max_two min_two max_three min_three max_four min_four   -- for this text's walks alone
set_option linter.unusedVariables false
set_option linter.unusedSimpArgs false

attribute [local go_sem high] eqA26
/-! ### laws_FnSortedAll: function 3 -/
mutual
def laws_FnSortedAll.j0 : Nat → List (S26) → Bool → Option (Bool)
  | 0, _, _ => none
  | k + 1, x0, x26 => if x26 = true then (some false) else (if (x0.length : Int) > 30 then (some true) else (laws_FnSortedAll.l0 k ([] : List (S26)) x0 (x0.length : Int) 0))
def laws_FnSortedAll.l0 : Nat → List (S26) → List (S26) → Int → Int → Option (Bool)
  | 0, _, _, _, _ => none
  | k + 1, x4, x30, x31, x32 => if x32 < x31 then (if 0 ≤ x32 then (if x32 < (x30.length : Int) then (if ((rd_T26 x30 x32).f1) < 0 then (some true) else (if ((rd_T26 x30 x32).f1) > 1000 then (some true) else (if ((rd_T26 x30 x32).f2) < 0 then (some true) else (if ((rd_T26 x30 x32).f2) > 4 then (some true) else ((laws_short.f k (([(rd_T26 x30 x32).f0] : List ByteArray))).bind fun t134 => (if t134 = true then (if x4.length < 2513169434916 then (laws_FnSortedAll.l0 k (x4 ++ [(⟨(rd_T26 x30 x32).f0, (rd_T26 x30 x32).f1, (rd_T26 x30 x32).f2, wrap64 (x32 + 1), (⟨#[]⟩ : ByteArray)⟩ : S26)]) x30 x31 (wrap64 (x32 + 1))) else (none)) else (some true))))))) else (none)) else (none)) else ((impl_SortAccepted.f k x4).bind fun t138 => (if (t138.length : Int) = (x4.length : Int) then (laws_FnSortedAll.l1 k x4 t138 t138 (t138.length : Int) 0) else (some false)))
def laws_FnSortedAll.l1 : Nat → List (S26) → List (S26) → List (S26) → Int → Int → Option (Bool)
  | 0, _, _, _, _, _ => none
  | k + 1, x4, x7, x78, x79, x80 => if x80 < x79 then (if 0 ≤ x80 then (if x80 < (x78.length : Int) then (if ((rd_T26 x78 x80).f3) < 1 then (laws_FnSortedAll.j3 k x4 x7 x80 x78 x79 x80 true ((rd_T26 x78 x80).f0) ((rd_T26 x78 x80).f1) ((rd_T26 x78 x80).f2) ((rd_T26 x78 x80).f3) ((rd_T26 x78 x80).f4)) else (if ((rd_T26 x78 x80).f3) > (x4.length : Int) then (laws_FnSortedAll.j3 k x4 x7 x80 x78 x79 x80 true ((rd_T26 x78 x80).f0) ((rd_T26 x78 x80).f1) ((rd_T26 x78 x80).f2) ((rd_T26 x78 x80).f3) ((rd_T26 x78 x80).f4)) else (if 0 ≤ (wrap64 (((rd_T26 x78 x80).f3) - 1)) then (if (wrap64 (((rd_T26 x78 x80).f3) - 1)) < (x4.length : Int) then (laws_FnSortedAll.j3 k x4 x7 x80 x78 x79 x80 (!((((rd_T26 x4 (wrap64 (((rd_T26 x78 x80).f3) - 1))).f0).toList) == (((rd_T26 x78 x80).f0).toList)) || (!(((rd_T26 x4 (wrap64 (((rd_T26 x78 x80).f3) - 1))).f1) == ((rd_T26 x78 x80).f1)) || (!(((rd_T26 x4 (wrap64 (((rd_T26 x78 x80).f3) - 1))).f2) == ((rd_T26 x78 x80).f2)) || (!(((rd_T26 x4 (wrap64 (((rd_T26 x78 x80).f3) - 1))).f3) == ((rd_T26 x78 x80).f3)) || (!((((rd_T26 x4 (wrap64 (((rd_T26 x78 x80).f3) - 1))).f4).toList) == (((rd_T26 x78 x80).f4).toList))))))) ((rd_T26 x78 x80).f0) ((rd_T26 x78 x80).f1) ((rd_T26 x78 x80).f2) ((rd_T26 x78 x80).f3) ((rd_T26 x78 x80).f4)) else (none)) else (none)))) else (none)) else (none)) else (some true)
def laws_FnSortedAll.j3 : Nat → List (S26) → List (S26) → Int → List (S26) → Int → Int → Bool → ByteArray → Int → Int → Int → ByteArray → Option (Bool)
  | 0, _, _, _, _, _, _, _, _, _, _, _, _ => none
  | k + 1, x4, x7, x8, x78, x79, x80, x104, x143000, x143001, x143002, x143003, x143004 => if x104 = true then (some false) else (if x8 > 0 then (if 0 ≤ (wrap64 (x8 - 1)) then (if (wrap64 (x8 - 1)) < (x7.length : Int) then ((laws_ahead.f x143000 x143001 x143002 x143003 x143004 ((rd_T26 x7 (wrap64 (x8 - 1))).f0) ((rd_T26 x7 (wrap64 (x8 - 1))).f1) ((rd_T26 x7 (wrap64 (x8 - 1))).f2) ((rd_T26 x7 (wrap64 (x8 - 1))).f3) ((rd_T26 x7 (wrap64 (x8 - 1))).f4)).bind fun t145 => (if t145 = true then (some false) else ((laws_ahead.f ((rd_T26 x7 (wrap64 (x8 - 1))).f0) ((rd_T26 x7 (wrap64 (x8 - 1))).f1) ((rd_T26 x7 (wrap64 (x8 - 1))).f2) ((rd_T26 x7 (wrap64 (x8 - 1))).f3) ((rd_T26 x7 (wrap64 (x8 - 1))).f4) x143000 x143001 x143002 x143003 x143004).bind fun t147 => (if t147 = true then (laws_FnSortedAll.l1 k x4 x7 x78 x79 (wrap64 (x80 + 1))) else (if x143003 ≤ ((rd_T26 x7 (wrap64 (x8 - 1))).f3) then (some false) else (laws_FnSortedAll.l1 k x4 x7 x78 x79 (wrap64 (x80 + 1)))))))) else (none)) else (none)) else (laws_FnSortedAll.l1 k x4 x7 x78 x79 (wrap64 (x80 + 1))))
end
def laws_FnSortedAll.f (k : Nat) (l0 : List (S26)) : Option (Bool) := (laws_zzFits7.f k l0).bind fun t121 => (if t121 = true then ((impl_SortAccepted.f k (([(⟨(⟨#[97]⟩ : ByteArray), 1, 0, 1, (⟨#[]⟩ : ByteArray)⟩ : S26), (⟨(⟨#[98]⟩ : ByteArray), 2, 0, 2, (⟨#[]⟩ : ByteArray)⟩ : S26)] : List (S26)))).bind fun t125 => (if (t125.length : Int) = 2 then (if 0 < (t125.length : Int) then (laws_FnSortedAll.j0 k l0 (((rd_T26 t125 0).f0).toList != ([98] : List UInt8))) else (none)) else (laws_FnSortedAll.j0 k l0 true))) else (some true))
theorem laws_FnSortedAll.mono_l : ∀ k, (∀ y0 y1, LeO (laws_FnSortedAll.j0 k y0 y1) (laws_FnSortedAll.j0 (k + 1) y0 y1)) ∧ (∀ y0 y1 y2 y3, LeO (laws_FnSortedAll.l0 k y0 y1 y2 y3) (laws_FnSortedAll.l0 (k + 1) y0 y1 y2 y3)) ∧ (∀ y0 y1 y2 y3 y4, LeO (laws_FnSortedAll.l1 k y0 y1 y2 y3 y4) (laws_FnSortedAll.l1 (k + 1) y0 y1 y2 y3 y4)) ∧ (∀ y0 y1 y2 y3 y4 y5 y6 y7 y8 y9 y10 y11, LeO (laws_FnSortedAll.j3 k y0 y1 y2 y3 y4 y5 y6 y7 y8 y9 y10 y11) (laws_FnSortedAll.j3 (k + 1) y0 y1 y2 y3 y4 y5 y6 y7 y8 y9 y10 y11))
  | 0 => ⟨fun _ _ r h => by simp [laws_FnSortedAll.j0] at h, fun _ _ _ _ r h => by simp [laws_FnSortedAll.l0] at h, fun _ _ _ _ _ r h => by simp [laws_FnSortedAll.l1] at h, fun _ _ _ _ _ _ _ _ _ _ _ _ r h => by simp [laws_FnSortedAll.j3] at h⟩
  | k + 1 => by
    obtain ⟨ih0, ih1, ih2, ih3⟩ := laws_FnSortedAll.mono_l k
    refine ⟨?_, ?_, ?_, ?_⟩
    · intro y0 y1
      unfold laws_FnSortedAll.j0
      repeat' first
      | (with_reducible exact ih0 _ _)
      | (with_reducible exact ih1 _ _ _ _)
      | (with_reducible exact ih2 _ _ _ _ _)
      | (with_reducible exact ih3 _ _ _ _ _ _ _ _ _ _ _ _)
      | (with_reducible exact impl_SortAccepted.mono _ _)
      | (with_reducible exact laws_short.mono _ _)
      | (with_reducible exact laws_zzFits7.mono _ _)
      | (with_reducible exact LeO.refl _)
      | (with_reducible exact LeO.none _)
      | (with_reducible refine LeO.ite ?_ ?_)
      | (with_reducible refine LeO.bind ?_ (fun _ => ?_))
      | exact ih0 _ _
      | exact ih1 _ _ _ _
      | exact ih2 _ _ _ _ _
      | exact ih3 _ _ _ _ _ _ _ _ _ _ _ _
      | exact impl_SortAccepted.mono _ _
      | exact laws_short.mono _ _
      | exact laws_zzFits7.mono _ _
      | exact LeO.none _
      | refine LeO.ite ?_ ?_
      | refine LeO.bind ?_ (fun _ => ?_)
    · intro y0 y1 y2 y3
      unfold laws_FnSortedAll.l0
      repeat' first
      | (with_reducible exact ih0 _ _)
      | (with_reducible exact ih1 _ _ _ _)
      | (with_reducible exact ih2 _ _ _ _ _)
      | (with_reducible exact ih3 _ _ _ _ _ _ _ _ _ _ _ _)
      | (with_reducible exact impl_SortAccepted.mono _ _)
      | (with_reducible exact laws_short.mono _ _)
      | (with_reducible exact laws_zzFits7.mono _ _)
      | (with_reducible exact LeO.refl _)
      | (with_reducible exact LeO.none _)
      | (with_reducible refine LeO.ite ?_ ?_)
      | (with_reducible refine LeO.bind ?_ (fun _ => ?_))
      | exact ih0 _ _
      | exact ih1 _ _ _ _
      | exact ih2 _ _ _ _ _
      | exact ih3 _ _ _ _ _ _ _ _ _ _ _ _
      | exact impl_SortAccepted.mono _ _
      | exact laws_short.mono _ _
      | exact laws_zzFits7.mono _ _
      | exact LeO.none _
      | refine LeO.ite ?_ ?_
      | refine LeO.bind ?_ (fun _ => ?_)
    · intro y0 y1 y2 y3 y4
      unfold laws_FnSortedAll.l1
      repeat' first
      | (with_reducible exact ih0 _ _)
      | (with_reducible exact ih1 _ _ _ _)
      | (with_reducible exact ih2 _ _ _ _ _)
      | (with_reducible exact ih3 _ _ _ _ _ _ _ _ _ _ _ _)
      | (with_reducible exact impl_SortAccepted.mono _ _)
      | (with_reducible exact laws_short.mono _ _)
      | (with_reducible exact laws_zzFits7.mono _ _)
      | (with_reducible exact LeO.refl _)
      | (with_reducible exact LeO.none _)
      | (with_reducible refine LeO.ite ?_ ?_)
      | (with_reducible refine LeO.bind ?_ (fun _ => ?_))
      | exact ih0 _ _
      | exact ih1 _ _ _ _
      | exact ih2 _ _ _ _ _
      | exact ih3 _ _ _ _ _ _ _ _ _ _ _ _
      | exact impl_SortAccepted.mono _ _
      | exact laws_short.mono _ _
      | exact laws_zzFits7.mono _ _
      | exact LeO.none _
      | refine LeO.ite ?_ ?_
      | refine LeO.bind ?_ (fun _ => ?_)
    · intro y0 y1 y2 y3 y4 y5 y6 y7 y8 y9 y10 y11
      unfold laws_FnSortedAll.j3
      repeat' first
      | (with_reducible exact ih0 _ _)
      | (with_reducible exact ih1 _ _ _ _)
      | (with_reducible exact ih2 _ _ _ _ _)
      | (with_reducible exact ih3 _ _ _ _ _ _ _ _ _ _ _ _)
      | (with_reducible exact impl_SortAccepted.mono _ _)
      | (with_reducible exact laws_short.mono _ _)
      | (with_reducible exact laws_zzFits7.mono _ _)
      | (with_reducible exact LeO.refl _)
      | (with_reducible exact LeO.none _)
      | (with_reducible refine LeO.ite ?_ ?_)
      | (with_reducible refine LeO.bind ?_ (fun _ => ?_))
      | exact ih0 _ _
      | exact ih1 _ _ _ _
      | exact ih2 _ _ _ _ _
      | exact ih3 _ _ _ _ _ _ _ _ _ _ _ _
      | exact impl_SortAccepted.mono _ _
      | exact laws_short.mono _ _
      | exact laws_zzFits7.mono _ _
      | exact LeO.none _
      | refine LeO.ite ?_ ?_
      | refine LeO.bind ?_ (fun _ => ?_)
theorem laws_FnSortedAll.mono : ∀ a0 k, LeO (laws_FnSortedAll.f k a0) (laws_FnSortedAll.f (k + 1) a0) := by
  intro a0 k
  obtain ⟨ih0, ih1, ih2, ih3⟩ := laws_FnSortedAll.mono_l k
  unfold laws_FnSortedAll.f
  repeat' first
      | (with_reducible exact ih0 _ _)
      | (with_reducible exact ih1 _ _ _ _)
      | (with_reducible exact ih2 _ _ _ _ _)
      | (with_reducible exact ih3 _ _ _ _ _ _ _ _ _ _ _ _)
      | (with_reducible exact impl_SortAccepted.mono _ _)
      | (with_reducible exact laws_short.mono _ _)
      | (with_reducible exact laws_zzFits7.mono _ _)
      | (with_reducible exact LeO.refl _)
      | (with_reducible exact LeO.none _)
      | (with_reducible refine LeO.ite ?_ ?_)
      | (with_reducible refine LeO.bind ?_ (fun _ => ?_))
      | exact ih0 _ _
      | exact ih1 _ _ _ _
      | exact ih2 _ _ _ _ _
      | exact ih3 _ _ _ _ _ _ _ _ _ _ _ _
      | exact impl_SortAccepted.mono _ _
      | exact laws_short.mono _ _
      | exact laws_zzFits7.mono _ _
      | exact LeO.none _
      | refine LeO.ite ?_ ?_
      | refine LeO.bind ?_ (fun _ => ?_)
def laws_FnSortedAll.T23 : Bool × List (List Nat × List Nat) := (true, [([], []), ([0], [0]), ([1], [1]), ([2], [2]), ([3], [3]), ([4, 3], [3, 4]), ([3], [3]), ([6, 3], [3, 6]), ([5, 7, 3], [3, 5, 7]), ([3, 8], [3, 8]), ([9, 3], [9]), ([10], [10]), ([10], [10]), ([12, 10], [10, 12]), ([13, 10], [10, 13]), ([11, 14, 10], [10, 11, 14]), ([15, 10], [10, 15]), ([10], [10]), ([16, 17, 10], [10, 16, 17]), ([10, 18], [10, 18])])
def laws_FnSortedAll.B23 : List Nat := [0, 1, 3, 7, 15, 31, 15, 79, 255, 511, 1023, 2047, 2047, 6143, 14335, 32767, 65535, 2047, 262143, 524287]
theorem laws_FnSortedAll.tab23 : rtab .any (opsOf Try.f3 23) = laws_FnSortedAll.T23 := by kernel_rfl
theorem laws_FnSortedAll.bits23 : waitsOk laws_FnSortedAll.T23.2 laws_FnSortedAll.B23 = true := by kernel_rfl
def laws_FnSortedAll.T25 : Bool × List (List Nat × List Nat) := (true, [([], []), ([0], [0]), ([1], [1]), ([2], [2]), ([2], [2]), ([2], [2]), ([5, 2], [2, 5]), ([4, 6, 2], [2, 4, 6]), ([7, 2], [2, 7]), ([3, 8, 2, 2], [2, 3, 8]), ([9, 9, 2], [2, 9]), ([10], [10]), ([10], [10]), ([12, 10], [10, 12]), ([11, 13, 10], [10, 11, 13]), ([14, 10], [10, 14]), ([10], [10]), ([15, 16, 10, 10], [10, 15, 16]), ([17, 10], [10, 17]), ([18, 17, 10], [10, 18]), ([19], [19]), ([20, 19], [19, 20]), ([19], [19]), ([19], [19]), ([23, 19], [19, 23]), ([22, 24, 19], [19, 22, 24]), ([25, 19], [19, 25]), ([26, 19], [19, 26]), ([21, 27, 19], [19, 21, 27]), ([19, 28, 10], [10, 19, 28]), ([10, 29, 2], [2, 10, 29]), ([2, 30], [2, 30])])
def laws_FnSortedAll.B25 : List Nat := [0, 1, 3, 7, 7, 7, 39, 119, 247, 511, 1023, 2047, 2047, 6143, 16383, 32767, 2047, 131071, 262143, 524287, 1048575, 2097151, 1048575, 1048575, 9437183, 30408703, 63963135, 131071999, 268435455, 536870911, 1073741823, 2147483647]
theorem laws_FnSortedAll.tab25 : rtab .any (opsOf Try.f3 25) = laws_FnSortedAll.T25 := by kernel_rfl
theorem laws_FnSortedAll.bits25 : waitsOk laws_FnSortedAll.T25.2 laws_FnSortedAll.B25 = true := by kernel_rfl
set_option maxHeartbeats 8000000 in
set_option maxRecDepth 100000 in
theorem laws_FnSortedAll.calls (k : Nat) (A0 : Option Addr) (c0 : Nat) (l0 : List (S26)) (r : Bool) (w : World) (hr0 : Kd.C k26 w A0 l0.length l0) (hc0 : l0.length ≤ c0) (hrt : r = true) (h : laws_FnSortedAll.f k l0 = some r) :
    Calls Try.prog 3 #[.slice A0 l0.length c0] w fun e w' => e = .returned (.bool r) ∧ Below w.heap.size w w' := by
 have HRT_ := Aside0.mk hrt
 clear hrt
 have hu26 := Try.underlying26
 have HR0 := Aside0.mk hr0
 have HC0 := Aside0.mk hc0
 clear hr0 hc0
 have HB := Aside0.mk (Below.refl w.heap.size w)
 have H : ((laws_zzFits7.f k l0).bind fun t121 => (if t121 = true then ((impl_SortAccepted.f k (([(⟨(⟨#[97]⟩ : ByteArray), 1, 0, 1, (⟨#[]⟩ : ByteArray)⟩ : S26), (⟨(⟨#[98]⟩ : ByteArray), 2, 0, 2, (⟨#[]⟩ : ByteArray)⟩ : S26)] : List (S26)))).bind fun t125 => (if (t125.length : Int) = 2 then (if 0 < (t125.length : Int) then (laws_FnSortedAll.j0 k l0 (((rd_T26 t125 0).f0).toList != ([98] : List UInt8))) else (none)) else (laws_FnSortedAll.j0 k l0 true))) else (some true))) = some r := h
 clear h
 replace H := Option.bind_eq_some_iff.mp H
 obtain ⟨t121, A20, H⟩ := H
 replace H : (if t121 = true then ((impl_SortAccepted.f k (([(⟨(⟨#[97]⟩ : ByteArray), 1, 0, 1, (⟨#[]⟩ : ByteArray)⟩ : S26), (⟨(⟨#[98]⟩ : ByteArray), 2, 0, 2, (⟨#[]⟩ : ByteArray)⟩ : S26)] : List (S26)))).bind fun t125 => (if (t125.length : Int) = 2 then (if 0 < (t125.length : Int) then (laws_FnSortedAll.j0 k l0 (((rd_T26 t125 0).f0).toList != ([98] : List UInt8))) else (none)) else (laws_FnSortedAll.j0 k l0 true))) else (some true)) = some r := H
 have A2 := Aside0.mk A20
 clear A20
 by_cases c3 : t121 = true
 ·subst c3
  have H1 : ((impl_SortAccepted.f k (([(⟨(⟨#[97]⟩ : ByteArray), 1, 0, 1, (⟨#[]⟩ : ByteArray)⟩ : S26), (⟨(⟨#[98]⟩ : ByteArray), 2, 0, 2, (⟨#[]⟩ : ByteArray)⟩ : S26)] : List (S26)))).bind fun t125 => (if (t125.length : Int) = 2 then (if 0 < (t125.length : Int) then (laws_FnSortedAll.j0 k l0 (((rd_T26 t125 0).f0).toList != ([98] : List UInt8))) else (none)) else (laws_FnSortedAll.j0 k l0 true))) = some r := by rw [if_pos rfl] at H; exact H
  clear H
  have H := H1
  clear H1
  obtain ⟨y122, hy122⟩ : ∃ y_ : List (S26), y_ = (([(⟨(⟨#[97]⟩ : ByteArray), 1, 0, 1, (⟨#[]⟩ : ByteArray)⟩ : S26), (⟨(⟨#[98]⟩ : ByteArray), 2, 0, 2, (⟨#[]⟩ : ByteArray)⟩ : S26)] : List (S26))) := ⟨_, rfl⟩
  replace H : ((impl_SortAccepted.f k y122).bind fun t125 => (if (t125.length : Int) = 2 then (if 0 < (t125.length : Int) then (laws_FnSortedAll.j0 k l0 (((rd_T26 t125 0).f0).toList != ([98] : List UInt8))) else (none)) else (laws_FnSortedAll.j0 k l0 true))) = some r := by first | (rw [hy122]; with_reducible exact H) | (have H2_ := (Option.bind_some _ _).symm.trans H; rw [hy122]; with_reducible exact H2_) | (have H2_ := (Option.bind_some _ _).symm.trans H; with_reducible exact H2_) | with_reducible exact H | (rw [hy122]; exact H) | exact H
  have Ny122 := Aside0.mk hy122
  clear hy122
  replace H := Option.bind_eq_some_iff.mp H
  obtain ⟨t125, A40, H⟩ := H
  replace H : (if (t125.length : Int) = 2 then (if 0 < (t125.length : Int) then (laws_FnSortedAll.j0 k l0 (((rd_T26 t125 0).f0).toList != ([98] : List UInt8))) else (none)) else (laws_FnSortedAll.j0 k l0 true)) = some r := H
  have A4 := Aside0.mk A40
  clear A40
  have HC5 := Aside0.mk H
  clear H
  go_enter Try.func3, Try.ntmps3
  go_upto_region 4 with (first | ((with_reducible refine gate_callee (f := 13) rfl ?_); refine goesL_ (some 11) rfl rfl Try.func13 (by kernel_rfl) rfl #[.slice A0 l0.length c0] rfl (by (try simp only [List.map_toArray, List.map_cons, List.map_nil]); first | done | rfl | (simp only [List.length_drop, List.length_take]; rfl)) ?_; (with_reducible refine (laws_zzFits7.calls k _ _ l0 true _ ?side1 ?side2 A2.out).mono ?_); (case side1 => repeat (first | exact HR0.out | (with_reducible refine Kd.C_alloc ?_ _) | (with_reducible refine Kd.C_drewN ?_ _) | (with_reducible refine Kd.C_drew ?_))); (case side2 => exact HC0.out); rintro e w6 ⟨rfl, hb⟩; refine ⟨_, rfl, ?_⟩; have n0_ := Aside0.mk (below_step (by repeat (first | (with_reducible first | exact HB.out | apply below_alloc | apply pw_below_drewN | apply below_drew1) | exact HB.out)) hb); clear HB; have HB := n0_; clear n0_; (try clear hb); (try clear hb2); (try clear hk); (try clear hi)) | ((with_reducible refine gate_dst (N := 15) rfl ?_); (try (refine gate_guard (by rfl) ?_; dsimp only)); refine Kd.R_lit k26 _ 26 ?hg (N := 15) ?hd (xs := ([(⟨(⟨#[97]⟩ : ByteArray), 1, 0, 1, (⟨#[]⟩ : ByteArray)⟩ : S26), (⟨(⟨#[98]⟩ : ByteArray), 2, 0, 2, (⟨#[]⟩ : ByteArray)⟩ : S26)] : List (S26))) (inner := [.string (⟨#[97]⟩ : ByteArray), .int .i64 1, .int .i64 0, .int .i64 1, .string (⟨#[]⟩ : ByteArray), .string (⟨#[98]⟩ : ByteArray), .int .i64 2, .int .i64 0, .int .i64 2, .string (⟨#[]⟩ : ByteArray)]) (ok := fun _ => True) (okp := fun _ => True) ?hr ?hp (fun _ hk => hk) trivial (Below.refl _ _) (Nat.le_refl _) (by simp) ?_; (case hd => rfl); (case hg => rfl); (case hr => first | (go_simp; done) | (go_simp; rfl)); (case hp => exact (Reps.c5 (show Kd.M k26 _ _ _ (⟨(⟨#[97]⟩ : ByteArray), 1, 0, 1, (⟨#[]⟩ : ByteArray)⟩ : S26) [.string (⟨#[97]⟩ : ByteArray), .int .i64 1, .int .i64 0, .int .i64 1, .string (⟨#[]⟩ : ByteArray)] from (k26_mkM _ _ _ (⟨(⟨#[97]⟩ : ByteArray), 1, 0, 1, (⟨#[]⟩ : ByteArray)⟩ : S26) )) (Reps.c5 (show Kd.M k26 _ _ _ (⟨(⟨#[98]⟩ : ByteArray), 2, 0, 2, (⟨#[]⟩ : ByteArray)⟩ : S26) [.string (⟨#[98]⟩ : ByteArray), .int .i64 2, .int .i64 0, .int .i64 2, .string (⟨#[]⟩ : ByteArray)] from (k26_mkM _ _ _ (⟨(⟨#[98]⟩ : ByteArray), 2, 0, 2, (⟨#[]⟩ : ByteArray)⟩ : S26) )) (Reps.none _ _)))); intro v123 w7 ho8 hb hg_ hnew_; clear hg_ hnew_; (first | rw [← Ny122.out] at ho8 | (simp only [Int.reduceToNat] at ho8; rw [← Ny122.out] at ho8)); have n0_ := Aside0.mk (Kd.R_lower ho8 (below_size (by repeat (first | (with_reducible first | exact HB.out | apply below_alloc | apply pw_below_drewN | apply below_drew1) | exact HB.out)))); have n1_ := Aside0.mk (below_step (by repeat (first | (with_reducible first | exact HB.out | apply below_alloc | apply pw_below_drewN | apply below_drew1) | exact HB.out)) hb); clear HB; have HO124 := n0_; have HB := n1_; clear n0_ n1_; clear hb ho8; obtain ⟨Ao9, co9, eo9⟩ := Kd.R_slice HO124.out; subst eo9) | ((with_reducible refine gate_callee (f := 14) rfl ?_); refine goesL_ (some 16) rfl rfl Try.func14 (by kernel_rfl) rfl #[.slice Ao9 y122.length co9] rfl (by (try simp only [List.map_toArray, List.map_cons, List.map_nil]); first | done | rfl | (simp only [List.length_drop, List.length_take]; rfl)) ?_; (with_reducible refine (impl_SortAccepted.calls k _ _ y122 t125 _ ?side1 ?side2 A4.out).mono ?_); (case side1 => repeat (first | exact (Kd.R_reads' HO124.out).2.2 | (with_reducible refine Kd.C_alloc ?_ _) | (with_reducible refine Kd.C_drewN ?_ _) | (with_reducible refine Kd.C_drew ?_))); (case side2 => exact (Kd.R_reads' HO124.out).2.1); rintro e w10 ⟨v126, rfl, ho0, hb⟩; refine ⟨_, rfl, ?_⟩; have n0_ := Aside0.mk (Kd.R_elder' (by (with_reducible repeat (first | apply Kd.R_alloc | apply Kd.R_drewN | apply Kd.R_drew)); exact HO124.out) (Kd.R_base ho0) hb); have n1_ := Aside0.mk (Kd.R_lower (Kd.R_new' ho0 (Kd.R_lt (by (with_reducible repeat (first | apply Kd.R_alloc | apply Kd.R_drewN | apply Kd.R_drew)); exact HO124.out))) (below_size (by repeat (first | (with_reducible first | exact HB.out | apply below_alloc | apply pw_below_drewN | apply below_drew1) | exact HB.out)))); have n2_ := Aside0.mk (below_step (by repeat (first | (with_reducible first | exact HB.out | apply below_alloc | apply pw_below_drewN | apply below_drew1) | exact HB.out)) hb); clear HO124; clear HB; have HO124 := n0_; have HO127 := n1_; have HB := n2_; clear n0_ n1_ n2_; (try clear hb); (try clear hb2); (try clear hk); (try clear hi); (try clear ho0)))
  (try simp only [Act.put, List.setIfInBounds_toArray, List.set_cons_zero, List.set_cons_succ])
  go_cut [26] (fun v26 wc => ∃ (kq : Nat) (x26_4 : Bool), v26 = .bool x26_4 ∧ Aside0 (laws_FnSortedAll.j0 kq l0 x26_4 = some r) ∧ Aside0 (kq ≤ k) ∧ Aside0 (Below w.heap.size w wc))
  case first =>
   have H := HC5.out
   clear HC5
   by_cases c11 : (t125.length : Int) = 2
   ·rw [if_pos c11] at H
    have c11b0 : ((t125.length : Int) == 2) = true := beq_iff_eq.mpr c11
    have c11b1 : ((t125.length : Int) != 2) = false := bne_eq_false_iff_eq.mpr c11
    clear c11
    (first | rw [c11b0] | (simp only [i64_w, i32_w]; rw [c11b0]) | skip)
    by_cases c12 : 0 < (t125.length : Int)
    ·rw [if_pos c12] at H
     have c12b0 : decide (0 < (t125.length : Int)) = true := decide_eq_true c12
     have c12b1 : decide (0 < t125.length) = true := decide_eq_true (by omega)
     clear c12
     have H' := Aside0.mk H
     clear H
     obtain ⟨Ao13, co13, eo13⟩ := Kd.R_slice HO127.out
     subst eo13
     have p128 : 0 ≤ (0 : Int) := (by omega)
     have q128 : 0 < (t125.length : Int) := of_decide_eq_true (by first | (with_reducible assumption) | assumption)
     obtain ⟨ad128, e128, hx128_0, hx128_1, hx128_2, hx128_3, hx128_4⟩ := at_T26 (Kd.R_reads' HO127.out).2.2 0 p128 q128
     cases e128
     have qi128 : (0 < t125.length) = True := eq_true (by omega)
     (try rw [show ((0 : Int)).toNat = 0 from rfl] at hx128_0)
     (try rw [show 0 * 5 = 0 from rfl] at hx128_0)
     (try rw [Addr.add_zero'] at hx128_0)
     (try rw [show ((0 : Int)).toNat = 0 from rfl] at hx128_1)
     (try rw [show 0 * 5 = 0 from rfl] at hx128_1)
     (try rw [Addr.add_zero'] at hx128_1)
     (try rw [show ((0 : Int)).toNat = 0 from rfl] at hx128_2)
     (try rw [show 0 * 5 = 0 from rfl] at hx128_2)
     (try rw [Addr.add_zero'] at hx128_2)
     (try rw [show ((0 : Int)).toNat = 0 from rfl] at hx128_3)
     (try rw [show 0 * 5 = 0 from rfl] at hx128_3)
     (try rw [Addr.add_zero'] at hx128_3)
     (try rw [show ((0 : Int)).toNat = 0 from rfl] at hx128_4)
     (try rw [show 0 * 5 = 0 from rfl] at hx128_4)
     (try rw [Addr.add_zero'] at hx128_4)
     replace p128 := eq_true p128
     replace q128 := eq_true q128
     go_wp2
     go_meet
     case rel => exact ⟨_, ((((rd_T26 t125 0).f0).toList != ([98] : List UInt8))), (by first | rfl | (simp; done) | (rw [prx_ne]; first | done | rfl) | (simp [*]; done)), H', ⟨by first | omega | exact Nat.le_refl _⟩, ⟨by repeat (first | (with_reducible first | exact HB.out | apply below_alloc | apply pw_below_drewN | apply below_drew1) | exact HB.out)⟩⟩
    ·rw [if_neg c12] at H
     exact absurd H (by simp)
   ·rw [if_neg c11] at H
    have c11b0 : ((t125.length : Int) == 2) = false := beq_eq_false_iff_ne.mpr c11
    have c11b1 : ((t125.length : Int) != 2) = true := bne_iff_ne.mpr c11
    (first | rw [c11b0] | (simp only [i64_w, i32_w]; rw [c11b0]) | skip)
    have H' := Aside0.mk H
    clear H
    obtain ⟨Ao14, co14, eo14⟩ := Kd.R_slice HO127.out
    subst eo14
    go_wp2
    go_meet
    case rel => exact ⟨_, (true), (by first | rfl | (simp; done) | (rw [prx_ne]; first | done | rfl) | (simp [*]; done)), H', ⟨by first | omega | exact Nat.le_refl _⟩, ⟨by repeat (first | (with_reducible first | exact HB.out | apply below_alloc | apply pw_below_drewN | apply below_drew1) | exact HB.out)⟩⟩
  case rest =>
   clear HC5
   try clear c1
   try clear p1
   try clear q1
   try clear hx1
   try clear qi1
   try clear p2
   try clear c3
   try clear c5
   try clear c11
   try clear c11b0
   try clear c11b1
   try clear c12
   try clear c12b0
   try clear c12b1
   try clear p12
   try clear q12
   try clear hx12
   try clear qi12
   try clear c13
   try clear c14
   try clear hx128_0
   try clear hx128_1
   try clear hx128_2
   try clear hx128_3
   try clear hx128_4
   try clear p128
   try clear q128
   obtain ⟨kq, x26_4, rfl, HA, HJ4, HB⟩ := hcut
   cases kq with
   | zero => exact absurd HA.out (by simp [laws_FnSortedAll.j0])
   | succ kj4 =>
    have H := HA.out
    clear HA
    simp only [laws_FnSortedAll.j0] at H
    by_cases c15 : x26_4 = true
    ·subst c15
     have H1 : (some false) = some r := by rw [if_pos rfl] at H; exact H
     clear H
     have H := H1
     clear H1
     exact absurd ((Option.some.inj H).trans HRT_.out) (by decide)
    ·replace c15 := Bool.eq_false_iff.mpr c15
     subst c15
     have H1 : (if (l0.length : Int) > 30 then (some true) else (laws_FnSortedAll.l0 kj4 ([] : List (S26)) l0 (l0.length : Int) 0)) = some r := by rw [if_neg (show ¬ (false = true) by decide)] at H; exact H
     clear H
     have H := H1
     clear H1
     by_cases c16 : (l0.length : Int) > 30
     ·rw [if_pos c16] at H
      have c16b0 : decide (30 < (l0.length : Int)) = true := decide_eq_true c16
      have c16b1 : decide (30 < l0.length) = true := decide_eq_true (by omega)
      clear c16
      obtain rfl := Option.some.inj H
      go_wp2
      go_ret
      exact ⟨by first | rfl | (simp [errW_none, errW_some] <;> rfl) | (simp [*, errW_none, errW_some] <;> rfl), by repeat (first | (with_reducible first | exact HB.out | apply below_alloc | apply pw_below_drewN | apply below_drew1) | exact HB.out)⟩
     ·rw [if_neg c16] at H
      have c16b0 : decide (30 < (l0.length : Int)) = false := decide_eq_false c16
      have c16b1 : decide (30 < l0.length) = false := decide_eq_false (by omega)
      clear c16
      have H' := Aside0.mk H
      clear H
      go_wp2
      go_loopg [4, 32] kj4 (fun kq v4 v32 w' => ∃ (x4_2 : List (S26)) (x32_2 : Int), v32 = .int .i64 x32_2 ∧ Aside0 (laws_FnSortedAll.l0 kq x4_2 l0 (l0.length : Int) x32_2 = some r) ∧ Aside0 (kq ≤ kj4) ∧ Aside0 (Kd.R k26 26 w' w.heap.size (fun _ => True) v4 x4_2) ∧ Aside0 (Below w.heap.size w w'))
      case atStart => exact ⟨(([] : List (S26))), (0), (by first | rfl | (simp; done) | (rw [prx_ne]; first | done | rfl) | (simp [*]; done)), H', ⟨Nat.le_refl _⟩, ⟨by first | exact Kd.R_nil _ _ _ _ _ | exact Kd.N_nil _ _ _ _ _ | exact Kd.V_nil _ _ _ _ _ | exact Kd.Q_nil _ _ _ _ _ | exact Kd.S_nil _ _ _ _ _⟩, ⟨by repeat (first | (with_reducible first | exact HB.out | apply below_alloc | apply pw_below_drewN | apply below_drew1) | exact HB.out)⟩⟩
      case round =>
       clear H'
       try clear c1
       try clear p1
       try clear q1
       try clear hx1
       try clear qi1
       try clear p2
       try clear c3
       try clear c5
       try clear c11
       try clear c11b0
       try clear c11b1
       try clear c12
       try clear c12b0
       try clear c12b1
       try clear p12
       try clear q12
       try clear hx12
       try clear qi12
       try clear c13
       try clear c14
       try clear c15
       try clear c16
       try clear c16b0
       try clear c16b1
       try clear hx128_0
       try clear hx128_1
       try clear hx128_2
       try clear hx128_3
       try clear hx128_4
       try clear p1
       try clear p12
       try clear p128
       try clear p2
       try clear q1
       try clear q12
       try clear q128
       obtain ⟨x4_2, x32_2, rfl, HA, HK2, HO_4, HB⟩ := hrel
       cases gk with
       | zero => exact absurd HA.out (by simp [laws_FnSortedAll.l0])
       | succ k2 =>
        have H := HA.out
        clear HA
        simp only [laws_FnSortedAll.l0] at H
        by_cases c17 : x32_2 < (l0.length : Int)
        ·rw [if_pos c17] at H
         have c17b0 : decide (x32_2 < (l0.length : Int)) = true := decide_eq_true c17
         clear c17
         by_cases c18 : 0 ≤ x32_2
         ·rw [if_pos c18] at H
          have c18b0 : decide (0 ≤ x32_2) = true := decide_eq_true c18
          clear c18
          by_cases c19 : x32_2 < (l0.length : Int)
          ·rw [if_pos c19] at H
           have c19b0 : decide (x32_2 < (l0.length : Int)) = true := decide_eq_true c19
           clear c19
           by_cases c20 : ((rd_T26 l0 x32_2).f1) < 0
           ·rw [if_pos c20] at H
            have c20b0 : decide (((rd_T26 l0 x32_2).f1) < 0) = true := decide_eq_true c20
            clear c20
            obtain rfl := Option.some.inj H
            have p129 : 0 ≤ (x32_2 : Int) := of_decide_eq_true (by first | (with_reducible assumption) | assumption)
            have q129 : x32_2 < (l0.length : Int) := of_decide_eq_true (by first | (with_reducible assumption) | assumption)
            obtain ⟨ad129, e129, hx129_0, hx129_1, hx129_2, hx129_3, hx129_4⟩ := at_T26 HR0.out x32_2 p129 q129
            cases e129
            replace hx129_0 := (HB.out.cell (World.block_lt_of_cell? w _ hx129_0)).trans hx129_0
            replace hx129_1 := (HB.out.cell (World.block_lt_of_cell? w _ hx129_1)).trans hx129_1
            replace hx129_2 := (HB.out.cell (World.block_lt_of_cell? w _ hx129_2)).trans hx129_2
            replace hx129_3 := (HB.out.cell (World.block_lt_of_cell? w _ hx129_3)).trans hx129_3
            replace hx129_4 := (HB.out.cell (World.block_lt_of_cell? w _ hx129_4)).trans hx129_4
            replace p129 := eq_true p129
            replace q129 := eq_true q129
            go_wp2_with (first | ((with_reducible refine gate_dst (N := 6) rfl ?_); (try (refine gate_guard (by rfl) ?_; dsimp only)); refine box_event ?hg (N := 6) ?hd (cs := #[.string (⟨#[]⟩ : ByteArray), .int .i64 0, .int .i64 0, .int .i64 0, .string (⟨#[]⟩ : ByteArray)]) (t := 26) ?hr ?_; (case hd => rfl); (case hg => rfl); (case hr => first | (go_simp; done) | (go_simp; rfl)); intro gb130 hg w21 hbox hb; have n0_ := Aside0.mk (Kd.R_below (Kd.R_elderB (by (with_reducible repeat (first | apply Kd.R_alloc | apply Kd.R_drewN | apply Kd.R_drew)); exact HO_4.out) gb130 (Nat.le_of_eq hg.symm)) hb); have n1_ := Aside0.mk (below_step (by repeat (first | (with_reducible first | exact HB.out | apply below_alloc | apply pw_below_drewN | apply below_drew1) | exact HB.out)) hb); have n2_ := Aside0.mk (hbox); have n3_ := Aside0.mk ((by rw [hg]; exact (below_size (by repeat (first | (with_reducible first | exact HB.out | apply below_alloc | apply pw_below_drewN | apply below_drew1) | exact HB.out))) : w.heap.size ≤ gb130)); have n4_ := Aside0.mk ((by rw [hg]; exact (below_size (by repeat (first | (with_reducible first | exact HB.out | apply below_alloc | apply pw_below_drewN | apply below_drew1) | exact HB.out))) : w.heap.size ≤ gb130)); clear HO_4; clear HB; have HO_4 := n0_; have HB := n1_; have BK130 := n2_; have GW130 := n3_; have GE130 := n4_; clear n0_ n1_ n2_ n3_ n4_; clear hb hbox hg; have hcz22_0 : w21.cell? ⟨gb130, 0, none⟩ = some (.string (⟨#[]⟩ : ByteArray)) := (blk_cell BK130.out 0).trans rfl; have hcz22_1 : w21.cell? ⟨gb130, 1, none⟩ = some (.int .i64 0) := (blk_cell BK130.out 1).trans rfl; have hcz22_2 : w21.cell? ⟨gb130, 2, none⟩ = some (.int .i64 0) := (blk_cell BK130.out 2).trans rfl; have hcz22_3 : w21.cell? ⟨gb130, 3, none⟩ = some (.int .i64 0) := (blk_cell BK130.out 3).trans rfl; have hcz22_4 : w21.cell? ⟨gb130, 4, none⟩ = some (.string (⟨#[]⟩ : ByteArray)) := (blk_cell BK130.out 4).trans rfl; have hfz22_0 := blk_frozen BK130.out 0; have hfz22_1 := blk_frozen BK130.out 1; have hfz22_2 := blk_frozen BK130.out 2; have hfz22_3 := blk_frozen BK130.out 3; have hfz22_4 := blk_frozen BK130.out 4))
            go_ret
            exact ⟨by first | rfl | (simp [errW_none, errW_some] <;> rfl) | (simp [*, errW_none, errW_some] <;> rfl), by repeat (first | (with_reducible first | exact HB.out | apply below_alloc | apply pw_below_drewN | apply below_drew1 | refine below_set ?_ GE130.out) | exact HB.out)⟩
           ·rw [if_neg c20] at H
            have c20b0 : decide (((rd_T26 l0 x32_2).f1) < 0) = false := decide_eq_false c20
            clear c20
            by_cases c23 : ((rd_T26 l0 x32_2).f1) > 1000
            ·rw [if_pos c23] at H
             have c23b0 : decide (1000 < ((rd_T26 l0 x32_2).f1)) = true := decide_eq_true c23
             clear c23
             obtain rfl := Option.some.inj H
             have p129 : 0 ≤ (x32_2 : Int) := of_decide_eq_true (by first | (with_reducible assumption) | assumption)
             have q129 : x32_2 < (l0.length : Int) := of_decide_eq_true (by first | (with_reducible assumption) | assumption)
             obtain ⟨ad129, e129, hx129_0, hx129_1, hx129_2, hx129_3, hx129_4⟩ := at_T26 HR0.out x32_2 p129 q129
             cases e129
             replace hx129_0 := (HB.out.cell (World.block_lt_of_cell? w _ hx129_0)).trans hx129_0
             replace hx129_1 := (HB.out.cell (World.block_lt_of_cell? w _ hx129_1)).trans hx129_1
             replace hx129_2 := (HB.out.cell (World.block_lt_of_cell? w _ hx129_2)).trans hx129_2
             replace hx129_3 := (HB.out.cell (World.block_lt_of_cell? w _ hx129_3)).trans hx129_3
             replace hx129_4 := (HB.out.cell (World.block_lt_of_cell? w _ hx129_4)).trans hx129_4
             replace p129 := eq_true p129
             replace q129 := eq_true q129
             go_wp2_with (first | ((with_reducible refine gate_dst (N := 6) rfl ?_); (try (refine gate_guard (by rfl) ?_; dsimp only)); refine box_event ?hg (N := 6) ?hd (cs := #[.string (⟨#[]⟩ : ByteArray), .int .i64 0, .int .i64 0, .int .i64 0, .string (⟨#[]⟩ : ByteArray)]) (t := 26) ?hr ?_; (case hd => rfl); (case hg => rfl); (case hr => first | (go_simp; done) | (go_simp; rfl)); intro gb130 hg w24 hbox hb; have n0_ := Aside0.mk (Kd.R_below (Kd.R_elderB (by (with_reducible repeat (first | apply Kd.R_alloc | apply Kd.R_drewN | apply Kd.R_drew)); exact HO_4.out) gb130 (Nat.le_of_eq hg.symm)) hb); have n1_ := Aside0.mk (below_step (by repeat (first | (with_reducible first | exact HB.out | apply below_alloc | apply pw_below_drewN | apply below_drew1) | exact HB.out)) hb); have n2_ := Aside0.mk (hbox); have n3_ := Aside0.mk ((by rw [hg]; exact (below_size (by repeat (first | (with_reducible first | exact HB.out | apply below_alloc | apply pw_below_drewN | apply below_drew1) | exact HB.out))) : w.heap.size ≤ gb130)); have n4_ := Aside0.mk ((by rw [hg]; exact (below_size (by repeat (first | (with_reducible first | exact HB.out | apply below_alloc | apply pw_below_drewN | apply below_drew1) | exact HB.out))) : w.heap.size ≤ gb130)); clear HO_4; clear HB; have HO_4 := n0_; have HB := n1_; have BK130 := n2_; have GW130 := n3_; have GE130 := n4_; clear n0_ n1_ n2_ n3_ n4_; clear hb hbox hg; have hcz25_0 : w24.cell? ⟨gb130, 0, none⟩ = some (.string (⟨#[]⟩ : ByteArray)) := (blk_cell BK130.out 0).trans rfl; have hcz25_1 : w24.cell? ⟨gb130, 1, none⟩ = some (.int .i64 0) := (blk_cell BK130.out 1).trans rfl; have hcz25_2 : w24.cell? ⟨gb130, 2, none⟩ = some (.int .i64 0) := (blk_cell BK130.out 2).trans rfl; have hcz25_3 : w24.cell? ⟨gb130, 3, none⟩ = some (.int .i64 0) := (blk_cell BK130.out 3).trans rfl; have hcz25_4 : w24.cell? ⟨gb130, 4, none⟩ = some (.string (⟨#[]⟩ : ByteArray)) := (blk_cell BK130.out 4).trans rfl; have hfz25_0 := blk_frozen BK130.out 0; have hfz25_1 := blk_frozen BK130.out 1; have hfz25_2 := blk_frozen BK130.out 2; have hfz25_3 := blk_frozen BK130.out 3; have hfz25_4 := blk_frozen BK130.out 4))
             go_ret
             exact ⟨by first | rfl | (simp [errW_none, errW_some] <;> rfl) | (simp [*, errW_none, errW_some] <;> rfl), by repeat (first | (with_reducible first | exact HB.out | apply below_alloc | apply pw_below_drewN | apply below_drew1 | refine below_set ?_ GE130.out) | exact HB.out)⟩
            ·rw [if_neg c23] at H
             have c23b0 : decide (1000 < ((rd_T26 l0 x32_2).f1)) = false := decide_eq_false c23
             clear c23
             by_cases c26 : ((rd_T26 l0 x32_2).f2) < 0
             ·rw [if_pos c26] at H
              have c26b0 : decide (((rd_T26 l0 x32_2).f2) < 0) = true := decide_eq_true c26
              clear c26
              obtain rfl := Option.some.inj H
              have p129 : 0 ≤ (x32_2 : Int) := of_decide_eq_true (by first | (with_reducible assumption) | assumption)
              have q129 : x32_2 < (l0.length : Int) := of_decide_eq_true (by first | (with_reducible assumption) | assumption)
              obtain ⟨ad129, e129, hx129_0, hx129_1, hx129_2, hx129_3, hx129_4⟩ := at_T26 HR0.out x32_2 p129 q129
              cases e129
              replace hx129_0 := (HB.out.cell (World.block_lt_of_cell? w _ hx129_0)).trans hx129_0
              replace hx129_1 := (HB.out.cell (World.block_lt_of_cell? w _ hx129_1)).trans hx129_1
              replace hx129_2 := (HB.out.cell (World.block_lt_of_cell? w _ hx129_2)).trans hx129_2
              replace hx129_3 := (HB.out.cell (World.block_lt_of_cell? w _ hx129_3)).trans hx129_3
              replace hx129_4 := (HB.out.cell (World.block_lt_of_cell? w _ hx129_4)).trans hx129_4
              replace p129 := eq_true p129
              replace q129 := eq_true q129
              go_wp2_with (first | ((with_reducible refine gate_dst (N := 6) rfl ?_); (try (refine gate_guard (by rfl) ?_; dsimp only)); refine box_event ?hg (N := 6) ?hd (cs := #[.string (⟨#[]⟩ : ByteArray), .int .i64 0, .int .i64 0, .int .i64 0, .string (⟨#[]⟩ : ByteArray)]) (t := 26) ?hr ?_; (case hd => rfl); (case hg => rfl); (case hr => first | (go_simp; done) | (go_simp; rfl)); intro gb130 hg w27 hbox hb; have n0_ := Aside0.mk (Kd.R_below (Kd.R_elderB (by (with_reducible repeat (first | apply Kd.R_alloc | apply Kd.R_drewN | apply Kd.R_drew)); exact HO_4.out) gb130 (Nat.le_of_eq hg.symm)) hb); have n1_ := Aside0.mk (below_step (by repeat (first | (with_reducible first | exact HB.out | apply below_alloc | apply pw_below_drewN | apply below_drew1) | exact HB.out)) hb); have n2_ := Aside0.mk (hbox); have n3_ := Aside0.mk ((by rw [hg]; exact (below_size (by repeat (first | (with_reducible first | exact HB.out | apply below_alloc | apply pw_below_drewN | apply below_drew1) | exact HB.out))) : w.heap.size ≤ gb130)); have n4_ := Aside0.mk ((by rw [hg]; exact (below_size (by repeat (first | (with_reducible first | exact HB.out | apply below_alloc | apply pw_below_drewN | apply below_drew1) | exact HB.out))) : w.heap.size ≤ gb130)); clear HO_4; clear HB; have HO_4 := n0_; have HB := n1_; have BK130 := n2_; have GW130 := n3_; have GE130 := n4_; clear n0_ n1_ n2_ n3_ n4_; clear hb hbox hg; have hcz28_0 : w27.cell? ⟨gb130, 0, none⟩ = some (.string (⟨#[]⟩ : ByteArray)) := (blk_cell BK130.out 0).trans rfl; have hcz28_1 : w27.cell? ⟨gb130, 1, none⟩ = some (.int .i64 0) := (blk_cell BK130.out 1).trans rfl; have hcz28_2 : w27.cell? ⟨gb130, 2, none⟩ = some (.int .i64 0) := (blk_cell BK130.out 2).trans rfl; have hcz28_3 : w27.cell? ⟨gb130, 3, none⟩ = some (.int .i64 0) := (blk_cell BK130.out 3).trans rfl; have hcz28_4 : w27.cell? ⟨gb130, 4, none⟩ = some (.string (⟨#[]⟩ : ByteArray)) := (blk_cell BK130.out 4).trans rfl; have hfz28_0 := blk_frozen BK130.out 0; have hfz28_1 := blk_frozen BK130.out 1; have hfz28_2 := blk_frozen BK130.out 2; have hfz28_3 := blk_frozen BK130.out 3; have hfz28_4 := blk_frozen BK130.out 4))
              go_ret
              exact ⟨by first | rfl | (simp [errW_none, errW_some] <;> rfl) | (simp [*, errW_none, errW_some] <;> rfl), by repeat (first | (with_reducible first | exact HB.out | apply below_alloc | apply pw_below_drewN | apply below_drew1 | refine below_set ?_ GE130.out) | exact HB.out)⟩
             ·rw [if_neg c26] at H
              have c26b0 : decide (((rd_T26 l0 x32_2).f2) < 0) = false := decide_eq_false c26
              clear c26
              by_cases c29 : ((rd_T26 l0 x32_2).f2) > 4
              ·rw [if_pos c29] at H
               have c29b0 : decide (4 < ((rd_T26 l0 x32_2).f2)) = true := decide_eq_true c29
               clear c29
               obtain rfl := Option.some.inj H
               have p129 : 0 ≤ (x32_2 : Int) := of_decide_eq_true (by first | (with_reducible assumption) | assumption)
               have q129 : x32_2 < (l0.length : Int) := of_decide_eq_true (by first | (with_reducible assumption) | assumption)
               obtain ⟨ad129, e129, hx129_0, hx129_1, hx129_2, hx129_3, hx129_4⟩ := at_T26 HR0.out x32_2 p129 q129
               cases e129
               replace hx129_0 := (HB.out.cell (World.block_lt_of_cell? w _ hx129_0)).trans hx129_0
               replace hx129_1 := (HB.out.cell (World.block_lt_of_cell? w _ hx129_1)).trans hx129_1
               replace hx129_2 := (HB.out.cell (World.block_lt_of_cell? w _ hx129_2)).trans hx129_2
               replace hx129_3 := (HB.out.cell (World.block_lt_of_cell? w _ hx129_3)).trans hx129_3
               replace hx129_4 := (HB.out.cell (World.block_lt_of_cell? w _ hx129_4)).trans hx129_4
               replace p129 := eq_true p129
               replace q129 := eq_true q129
               go_wp2_with (first | ((with_reducible refine gate_dst (N := 6) rfl ?_); (try (refine gate_guard (by rfl) ?_; dsimp only)); refine box_event ?hg (N := 6) ?hd (cs := #[.string (⟨#[]⟩ : ByteArray), .int .i64 0, .int .i64 0, .int .i64 0, .string (⟨#[]⟩ : ByteArray)]) (t := 26) ?hr ?_; (case hd => rfl); (case hg => rfl); (case hr => first | (go_simp; done) | (go_simp; rfl)); intro gb130 hg w30 hbox hb; have n0_ := Aside0.mk (Kd.R_below (Kd.R_elderB (by (with_reducible repeat (first | apply Kd.R_alloc | apply Kd.R_drewN | apply Kd.R_drew)); exact HO_4.out) gb130 (Nat.le_of_eq hg.symm)) hb); have n1_ := Aside0.mk (below_step (by repeat (first | (with_reducible first | exact HB.out | apply below_alloc | apply pw_below_drewN | apply below_drew1) | exact HB.out)) hb); have n2_ := Aside0.mk (hbox); have n3_ := Aside0.mk ((by rw [hg]; exact (below_size (by repeat (first | (with_reducible first | exact HB.out | apply below_alloc | apply pw_below_drewN | apply below_drew1) | exact HB.out))) : w.heap.size ≤ gb130)); have n4_ := Aside0.mk ((by rw [hg]; exact (below_size (by repeat (first | (with_reducible first | exact HB.out | apply below_alloc | apply pw_below_drewN | apply below_drew1) | exact HB.out))) : w.heap.size ≤ gb130)); clear HO_4; clear HB; have HO_4 := n0_; have HB := n1_; have BK130 := n2_; have GW130 := n3_; have GE130 := n4_; clear n0_ n1_ n2_ n3_ n4_; clear hb hbox hg; have hcz31_0 : w30.cell? ⟨gb130, 0, none⟩ = some (.string (⟨#[]⟩ : ByteArray)) := (blk_cell BK130.out 0).trans rfl; have hcz31_1 : w30.cell? ⟨gb130, 1, none⟩ = some (.int .i64 0) := (blk_cell BK130.out 1).trans rfl; have hcz31_2 : w30.cell? ⟨gb130, 2, none⟩ = some (.int .i64 0) := (blk_cell BK130.out 2).trans rfl; have hcz31_3 : w30.cell? ⟨gb130, 3, none⟩ = some (.int .i64 0) := (blk_cell BK130.out 3).trans rfl; have hcz31_4 : w30.cell? ⟨gb130, 4, none⟩ = some (.string (⟨#[]⟩ : ByteArray)) := (blk_cell BK130.out 4).trans rfl; have hfz31_0 := blk_frozen BK130.out 0; have hfz31_1 := blk_frozen BK130.out 1; have hfz31_2 := blk_frozen BK130.out 2; have hfz31_3 := blk_frozen BK130.out 3; have hfz31_4 := blk_frozen BK130.out 4))
               go_ret
               exact ⟨by first | rfl | (simp [errW_none, errW_some] <;> rfl) | (simp [*, errW_none, errW_some] <;> rfl), by repeat (first | (with_reducible first | exact HB.out | apply below_alloc | apply pw_below_drewN | apply below_drew1 | refine below_set ?_ GE130.out) | exact HB.out)⟩
              ·rw [if_neg c29] at H
               have c29b0 : decide (4 < ((rd_T26 l0 x32_2).f2)) = false := decide_eq_false c29
               clear c29
               obtain ⟨y131, hy131⟩ : ∃ y_ : List ByteArray, y_ = (([(rd_T26 l0 x32_2).f0] : List ByteArray)) := ⟨_, rfl⟩
               replace H : ((laws_short.f k2 y131).bind fun t134 => (if t134 = true then (if x4_2.length < 2513169434916 then (laws_FnSortedAll.l0 k2 (x4_2 ++ [(⟨(rd_T26 l0 x32_2).f0, (rd_T26 l0 x32_2).f1, (rd_T26 l0 x32_2).f2, wrap64 (x32_2 + 1), (⟨#[]⟩ : ByteArray)⟩ : S26)]) l0 (l0.length : Int) (wrap64 (x32_2 + 1))) else (none)) else (some true))) = some r := by first | (rw [hy131]; with_reducible exact H) | (have H2_ := (Option.bind_some _ _).symm.trans H; rw [hy131]; with_reducible exact H2_) | (have H2_ := (Option.bind_some _ _).symm.trans H; with_reducible exact H2_) | with_reducible exact H | (rw [hy131]; exact H) | exact H
               have Ny131 := Aside0.mk hy131
               clear hy131
               replace H := Option.bind_eq_some_iff.mp H
               obtain ⟨t134, A320, H⟩ := H
               replace H : (if t134 = true then (if x4_2.length < 2513169434916 then (laws_FnSortedAll.l0 k2 (x4_2 ++ [(⟨(rd_T26 l0 x32_2).f0, (rd_T26 l0 x32_2).f1, (rd_T26 l0 x32_2).f2, wrap64 (x32_2 + 1), (⟨#[]⟩ : ByteArray)⟩ : S26)]) l0 (l0.length : Int) (wrap64 (x32_2 + 1))) else (none)) else (some true)) = some r := H
               have A32 := Aside0.mk A320
               clear A320
               by_cases c33 : t134 = true
               ·subst c33
                have H1 : (if x4_2.length < 2513169434916 then (laws_FnSortedAll.l0 k2 (x4_2 ++ [(⟨(rd_T26 l0 x32_2).f0, (rd_T26 l0 x32_2).f1, (rd_T26 l0 x32_2).f2, wrap64 (x32_2 + 1), (⟨#[]⟩ : ByteArray)⟩ : S26)]) l0 (l0.length : Int) (wrap64 (x32_2 + 1))) else (none)) = some r := by rw [if_pos rfl] at H; exact H
                clear H
                have H := H1
                clear H1
                by_cases c34 : x4_2.length < 2513169434916
                ·rw [if_pos c34] at H
                 have LMc34 := Aside0.mk c34
                 clear c34
                 obtain ⟨y135, hy135⟩ : ∃ y_ : List (S26), y_ = (x4_2 ++ [(⟨(rd_T26 l0 x32_2).f0, (rd_T26 l0 x32_2).f1, (rd_T26 l0 x32_2).f2, wrap64 (x32_2 + 1), (⟨#[]⟩ : ByteArray)⟩ : S26)]) := ⟨_, rfl⟩
                 replace H : (laws_FnSortedAll.l0 k2 y135 l0 (l0.length : Int) (wrap64 (x32_2 + 1))) = some r := by first | (rw [hy135]; with_reducible exact H) | (have H2_ := (Option.bind_some _ _).symm.trans H; rw [hy135]; with_reducible exact H2_) | (have H2_ := (Option.bind_some _ _).symm.trans H; with_reducible exact H2_) | with_reducible exact H | (rw [hy135]; exact H) | exact H
                 have Ny135 := Aside0.mk hy135
                 clear hy135
                 have H' := Aside0.mk H
                 clear H
                 have p129 : 0 ≤ (x32_2 : Int) := of_decide_eq_true (by first | (with_reducible assumption) | assumption)
                 have q129 : x32_2 < (l0.length : Int) := of_decide_eq_true (by first | (with_reducible assumption) | assumption)
                 obtain ⟨ad129, e129, hx129_0, hx129_1, hx129_2, hx129_3, hx129_4⟩ := at_T26 HR0.out x32_2 p129 q129
                 cases e129
                 replace hx129_0 := (HB.out.cell (World.block_lt_of_cell? w _ hx129_0)).trans hx129_0
                 replace hx129_1 := (HB.out.cell (World.block_lt_of_cell? w _ hx129_1)).trans hx129_1
                 replace hx129_2 := (HB.out.cell (World.block_lt_of_cell? w _ hx129_2)).trans hx129_2
                 replace hx129_3 := (HB.out.cell (World.block_lt_of_cell? w _ hx129_3)).trans hx129_3
                 replace hx129_4 := (HB.out.cell (World.block_lt_of_cell? w _ hx129_4)).trans hx129_4
                 replace p129 := eq_true p129
                 replace q129 := eq_true q129
                 go_wp2_with (first | ((with_reducible refine gate_dst (N := 6) rfl ?_); (try (refine gate_guard (by rfl) ?_; dsimp only)); refine box_event ?hg (N := 6) ?hd (cs := #[.string (⟨#[]⟩ : ByteArray), .int .i64 0, .int .i64 0, .int .i64 0, .string (⟨#[]⟩ : ByteArray)]) (t := 26) ?hr ?_; (case hd => rfl); (case hg => rfl); (case hr => first | (go_simp; done) | (go_simp; rfl)); intro gb130 hg w35 hbox hb; have n0_ := Aside0.mk (Kd.R_below (Kd.R_elderB (by (with_reducible repeat (first | apply Kd.R_alloc | apply Kd.R_drewN | apply Kd.R_drew)); exact HO_4.out) gb130 (Nat.le_of_eq hg.symm)) hb); have n1_ := Aside0.mk (below_step (by repeat (first | (with_reducible first | exact HB.out | apply below_alloc | apply pw_below_drewN | apply below_drew1) | exact HB.out)) hb); have n2_ := Aside0.mk (hbox); have n3_ := Aside0.mk ((by rw [hg]; exact (below_size (by repeat (first | (with_reducible first | exact HB.out | apply below_alloc | apply pw_below_drewN | apply below_drew1) | exact HB.out))) : w.heap.size ≤ gb130)); have n4_ := Aside0.mk ((by rw [hg]; exact (below_size (by repeat (first | (with_reducible first | exact HB.out | apply below_alloc | apply pw_below_drewN | apply below_drew1) | exact HB.out))) : w.heap.size ≤ gb130)); clear HO_4; clear HB; have HO_4 := n0_; have HB := n1_; have BK130 := n2_; have GW130 := n3_; have GE130 := n4_; clear n0_ n1_ n2_ n3_ n4_; clear hb hbox hg; have hcz36_0 : w35.cell? ⟨gb130, 0, none⟩ = some (.string (⟨#[]⟩ : ByteArray)) := (blk_cell BK130.out 0).trans rfl; have hcz36_1 : w35.cell? ⟨gb130, 1, none⟩ = some (.int .i64 0) := (blk_cell BK130.out 1).trans rfl; have hcz36_2 : w35.cell? ⟨gb130, 2, none⟩ = some (.int .i64 0) := (blk_cell BK130.out 2).trans rfl; have hcz36_3 : w35.cell? ⟨gb130, 3, none⟩ = some (.int .i64 0) := (blk_cell BK130.out 3).trans rfl; have hcz36_4 : w35.cell? ⟨gb130, 4, none⟩ = some (.string (⟨#[]⟩ : ByteArray)) := (blk_cell BK130.out 4).trans rfl; have hfz36_0 := blk_frozen BK130.out 0; have hfz36_1 := blk_frozen BK130.out 1; have hfz36_2 := blk_frozen BK130.out 2; have hfz36_3 := blk_frozen BK130.out 3; have hfz36_4 := blk_frozen BK130.out 4) | ((with_reducible refine gate_dst (N := 58) rfl ?_); (try (refine gate_guard (by rfl) ?_; dsimp only)); refine Kd.R_lit Kd.string _ 9 ?hg (N := 58) ?hd (xs := ([(rd_T26 l0 x32_2).f0] : List ByteArray)) (inner := [.string ((rd_T26 l0 x32_2).f0)]) (ok := fun _ => True) (okp := fun _ => True) ?hr ?hp (fun _ hk => hk) trivial (Below.refl _ _) (Nat.le_refl _) (by simp) ?_; (case hd => rfl); (case hg => rfl); (case hr => first | (go_simp; done) | (go_simp; rfl)); (case hp => exact (Reps.one (show Kd.M Kd.string _ _ _ ((rd_T26 l0 x32_2).f0) [.string ((rd_T26 l0 x32_2).f0)] from rfl) (Reps.none _ _))); intro v132 w37 ho38 hb hg_ hnew_; clear hg_ hnew_; (first | rw [← Ny131.out] at ho38 | (simp only [Int.reduceToNat] at ho38; rw [← Ny131.out] at ho38)); have n0_ := Aside0.mk (Kd.R_below (by (with_reducible repeat (first | apply Kd.R_alloc | apply Kd.R_drewN | apply Kd.R_drew)); exact (Kd.R_mono (Kd.R_far (p := ⟨gb130, 4, none⟩) (Kd.R_far (p := ⟨gb130, 3, none⟩) (Kd.R_far (p := ⟨gb130, 2, none⟩) (Kd.R_far (p := ⟨gb130, 1, none⟩) (Kd.R_far (p := ⟨gb130, 0, none⟩) (Kd.R_mono HO_4.out (fun k_ hk => (⟨hk, by first | exact hk.2 | exact hk⟩ : _ ∧ k_ ≠ gb130))) (fun _ hk => hk.2) (.string ((rd_T26 l0 x32_2).f0))) (fun _ hk => hk.2) (.int .i64 ((rd_T26 l0 x32_2).f1))) (fun _ hk => hk.2) (.int .i64 ((rd_T26 l0 x32_2).f2))) (fun _ hk => hk.2) (.int .i64 ((rd_T26 l0 x32_2).f3))) (fun _ hk => hk.2) (.string ((rd_T26 l0 x32_2).f4))) (fun _ h_ => h_.1))) hb); have n1_ := Aside0.mk (Kd.R_lower ho38 (below_size (by repeat (first | (with_reducible first | exact HB.out | apply below_alloc | apply pw_below_drewN | apply below_drew1 | refine below_set ?_ GE130.out) | exact HB.out)))); have n2_ := Aside0.mk (blk_below (g := gb130) (o := .cells #[.string ((rd_T26 l0 x32_2).f0), .int .i64 ((rd_T26 l0 x32_2).f1), .int .i64 ((rd_T26 l0 x32_2).f2), .int .i64 ((rd_T26 l0 x32_2).f3), .string ((rd_T26 l0 x32_2).f4)] 26 (0, 0)) (by (with_reducible repeat (first | refine blk_drewN ?_ _ | refine blk_drew ?_ | refine blk_alloc ?_ _)); refine blk_put (cs := #[.string ((rd_T26 l0 x32_2).f0), .int .i64 ((rd_T26 l0 x32_2).f1), .int .i64 ((rd_T26 l0 x32_2).f2), .int .i64 ((rd_T26 l0 x32_2).f3), .string (⟨#[]⟩ : ByteArray)]) ?_ 4 _ rfl; (with_reducible repeat (first | refine blk_drewN ?_ _ | refine blk_drew ?_ | refine blk_alloc ?_ _)); refine blk_put (cs := #[.string ((rd_T26 l0 x32_2).f0), .int .i64 ((rd_T26 l0 x32_2).f1), .int .i64 ((rd_T26 l0 x32_2).f2), .int .i64 0, .string (⟨#[]⟩ : ByteArray)]) ?_ 3 _ rfl; (with_reducible repeat (first | refine blk_drewN ?_ _ | refine blk_drew ?_ | refine blk_alloc ?_ _)); refine blk_put (cs := #[.string ((rd_T26 l0 x32_2).f0), .int .i64 ((rd_T26 l0 x32_2).f1), .int .i64 0, .int .i64 0, .string (⟨#[]⟩ : ByteArray)]) ?_ 2 _ rfl; (with_reducible repeat (first | refine blk_drewN ?_ _ | refine blk_drew ?_ | refine blk_alloc ?_ _)); refine blk_put (cs := #[.string ((rd_T26 l0 x32_2).f0), .int .i64 0, .int .i64 0, .int .i64 0, .string (⟨#[]⟩ : ByteArray)]) ?_ 1 _ rfl; (with_reducible repeat (first | refine blk_drewN ?_ _ | refine blk_drew ?_ | refine blk_alloc ?_ _)); refine blk_put (cs := #[.string (⟨#[]⟩ : ByteArray), .int .i64 0, .int .i64 0, .int .i64 0, .string (⟨#[]⟩ : ByteArray)]) ?_ 0 _ rfl; (with_reducible repeat (first | refine blk_drewN ?_ _ | refine blk_drew ?_ | refine blk_alloc ?_ _)); exact BK130.out) hb); have n3_ := Aside0.mk (below_step (by repeat (first | (with_reducible first | exact HB.out | apply below_alloc | apply pw_below_drewN | apply below_drew1 | refine below_set ?_ GE130.out) | exact HB.out)) hb); clear HO_4; clear BK130; clear HB; have HO_4 := n0_; have HO133 := n1_; have BK130 := n2_; have HB := n3_; clear n0_ n1_ n2_ n3_; clear hb ho38; obtain ⟨Ao39, co39, eo39⟩ := Kd.R_slice HO133.out; subst eo39) | (go_at_call 15; (with_reducible refine (laws_short.calls k2 _ _ y131 true _ ?side1 ?side2 A32.out).mono ?_); (case side1 => repeat (first | exact (Kd.R_reads' HO133.out).2.2 | (with_reducible refine Kd.C_alloc ?_ _) | (with_reducible refine Kd.C_drewN ?_ _) | (with_reducible refine Kd.C_drew ?_))); (case side2 => exact (Kd.R_reads' HO133.out).2.1); rintro e w' ⟨rfl, ⟨nd, rfl⟩⟩; (try (rw [drewN_self w37]; generalize hq_ : World.drewN w37 _ = w37; have n0_ : Aside0 (Kd.R Kd.string 9 w37 w.heap.size (fun _ => True) (.slice Ao39 y131.length co39) y131) := ⟨by rw [← hq_]; exact (by (with_reducible repeat (first | apply Kd.R_alloc | apply Kd.R_drewN | apply Kd.R_drew)); exact HO133.out)⟩; have n1_ : Aside0 (Kd.R k26 26 w37 w.heap.size (fun k_ => k_ ≠ gb130) u4 x4_2) := ⟨by rw [← hq_]; exact (by (with_reducible repeat (first | apply Kd.R_alloc | apply Kd.R_drewN | apply Kd.R_drew)); exact Kd.R_mono HO_4.out (fun _ hk => hk.2))⟩; have n2_ : Aside0 (w37.heap[gb130]? = some (.cells #[.string ((rd_T26 l0 x32_2).f0), .int .i64 ((rd_T26 l0 x32_2).f1), .int .i64 ((rd_T26 l0 x32_2).f2), .int .i64 ((rd_T26 l0 x32_2).f3), .string ((rd_T26 l0 x32_2).f4)] 26 (0, 0))) := ⟨by rw [← hq_]; exact (by (with_reducible repeat (first | refine blk_drewN ?_ _ | refine blk_drew ?_ | refine blk_alloc ?_ _)); exact BK130.out)⟩; have n3_ : Aside0 (Below w.heap.size w w37) := ⟨by rw [← hq_]; exact (by repeat (first | (with_reducible first | exact HB.out | apply below_alloc | apply pw_below_drewN | apply below_drew1 | refine below_set ?_ GE130.out) | exact HB.out))⟩; clear HO133 HO_4 BK130 HB hq_; have HO133 := n0_; have HO_4 := n1_; have BK130 := n2_; have HB := n3_; clear n0_ n1_ n2_ n3_)); have hcz40_0 : w37.cell? ⟨gb130, 0, none⟩ = some (.string ((rd_T26 l0 x32_2).f0)) := (blk_cell BK130.out 0).trans rfl; have hcz40_1 : w37.cell? ⟨gb130, 1, none⟩ = some (.int .i64 ((rd_T26 l0 x32_2).f1)) := (blk_cell BK130.out 1).trans rfl; have hcz40_2 : w37.cell? ⟨gb130, 2, none⟩ = some (.int .i64 ((rd_T26 l0 x32_2).f2)) := (blk_cell BK130.out 2).trans rfl; have hcz40_3 : w37.cell? ⟨gb130, 3, none⟩ = some (.int .i64 ((rd_T26 l0 x32_2).f3)) := (blk_cell BK130.out 3).trans rfl; have hcz40_4 : w37.cell? ⟨gb130, 4, none⟩ = some (.string ((rd_T26 l0 x32_2).f4)) := (blk_cell BK130.out 4).trans rfl; have hfz40_0 := blk_frozen BK130.out 0; have hfz40_1 := blk_frozen BK130.out 1; have hfz40_2 := blk_frozen BK130.out 2; have hfz40_3 := blk_frozen BK130.out 3; have hfz40_4 := blk_frozen BK130.out 4) | ((with_reducible refine gate_builtin (b := .append) (xs := #[.tmp 66, .tmp 68]) rfl ?_); (try (refine gate_guard (by rfl) ?_; dsimp only)); at_builtin; refine Kd.R_append k26 (w0 := w) w.heap.size rfl (.tmp 66) (.tmp 68) 22 26 (.agg #[(.string ⟨#[]⟩), (.int .i64 0), (.int .i64 0), (.int .i64 0), (.string ⟨#[]⟩)]) 56 rfl Try.underlying22 info26 rfl (by decide) (by omega) u4 x4_2 (⟨(rd_T26 l0 x32_2).f0, (rd_T26 l0 x32_2).f1, (rd_T26 l0 x32_2).f2, wrap64 (x32_2 + 1), (⟨#[]⟩ : ByteArray)⟩ : S26) [.string ((rd_T26 l0 x32_2).f0), .int .i64 ((rd_T26 l0 x32_2).f1), .int .i64 ((rd_T26 l0 x32_2).f2), .int .i64 (wrap64 (x32_2 + 1)), .string (⟨#[]⟩ : ByteArray)] (fun k_ => k_ ≠ gb130) (fun _ => False) rfl (by first | (go_simp; done) | (go_simp; rfl)) ?aP (fun _ hk => hk.elim) ?aF ?aO ?aB ?aS ?aL ?_; (case aP => exact k26_mkM _ _ _ (⟨(rd_T26 l0 x32_2).f0, (rd_T26 l0 x32_2).f1, (rd_T26 l0 x32_2).f2, wrap64 (x32_2 + 1), (⟨#[]⟩ : ByteArray)⟩ : S26)); (case aB => exact (by repeat (first | (with_reducible first | exact HB.out | apply below_alloc | apply pw_below_drewN | apply below_drew1 | refine below_set ?_ GE130.out) | exact HB.out))); (case aF => exact (fun k_ hk => Kd.freshB (g := gb130) (o := .cells #[.string ((rd_T26 l0 x32_2).f0), .int .i64 ((rd_T26 l0 x32_2).f1), .int .i64 ((rd_T26 l0 x32_2).f2), .int .i64 (wrap64 (x32_2 + 1)), .string (⟨#[]⟩ : ByteArray)] 26 (0, 0)) (by (with_reducible repeat (first | refine blk_drewN ?_ _ | refine blk_drew ?_ | refine blk_alloc ?_ _)); refine blk_put (cs := #[.string ((rd_T26 l0 x32_2).f0), .int .i64 ((rd_T26 l0 x32_2).f1), .int .i64 ((rd_T26 l0 x32_2).f2), .int .i64 (wrap64 (x32_2 + 1)), .string ((rd_T26 l0 x32_2).f4)]) ?_ 4 _ rfl; (with_reducible repeat (first | refine blk_drewN ?_ _ | refine blk_drew ?_ | refine blk_alloc ?_ _)); refine blk_put (cs := #[.string ((rd_T26 l0 x32_2).f0), .int .i64 ((rd_T26 l0 x32_2).f1), .int .i64 ((rd_T26 l0 x32_2).f2), .int .i64 ((rd_T26 l0 x32_2).f3), .string ((rd_T26 l0 x32_2).f4)]) ?_ 3 _ rfl; (with_reducible repeat (first | refine blk_drewN ?_ _ | refine blk_drew ?_ | refine blk_alloc ?_ _)); exact BK130.out) k_ hk)); (case aO => exact (by (with_reducible repeat (first | apply Kd.R_alloc | apply Kd.R_drewN | apply Kd.R_drew)); exact Kd.R_mono (Kd.R_far (p := ⟨gb130, 4, none⟩) (Kd.R_far (p := ⟨gb130, 3, none⟩) (Kd.R_mono HO_4.out (fun k_ hk => (⟨hk, by first | exact hk.2 | exact hk⟩ : _ ∧ k_ ≠ gb130))) (fun _ hk => hk.2) (.int .i64 (wrap64 (x32_2 + 1)))) (fun _ hk => hk.2) (.string (⟨#[]⟩ : ByteArray))) (fun _ hk => by first | exact hk.1.2 | exact hk.1))); (case aS => exact (below_size (by repeat (first | (with_reducible first | exact HB.out | apply below_alloc | apply pw_below_drewN | apply below_drew1 | refine below_set ?_ GE130.out) | exact HB.out)))); (case aL => have := LMc34.out; omega); intro v136 w41 ho hb hg hat; rw [← Ny135.out] at ho; have n0_ := Aside0.mk (blk_grown (g := gb130) (o := .cells #[.string ((rd_T26 l0 x32_2).f0), .int .i64 ((rd_T26 l0 x32_2).f1), .int .i64 ((rd_T26 l0 x32_2).f2), .int .i64 (wrap64 (x32_2 + 1)), .string (⟨#[]⟩ : ByteArray)] 26 (0, 0)) (by (with_reducible repeat (first | refine blk_drewN ?_ _ | refine blk_drew ?_ | refine blk_alloc ?_ _)); refine blk_put (cs := #[.string ((rd_T26 l0 x32_2).f0), .int .i64 ((rd_T26 l0 x32_2).f1), .int .i64 ((rd_T26 l0 x32_2).f2), .int .i64 (wrap64 (x32_2 + 1)), .string ((rd_T26 l0 x32_2).f4)]) ?_ 4 _ rfl; (with_reducible repeat (first | refine blk_drewN ?_ _ | refine blk_drew ?_ | refine blk_alloc ?_ _)); refine blk_put (cs := #[.string ((rd_T26 l0 x32_2).f0), .int .i64 ((rd_T26 l0 x32_2).f1), .int .i64 ((rd_T26 l0 x32_2).f2), .int .i64 ((rd_T26 l0 x32_2).f3), .string ((rd_T26 l0 x32_2).f4)]) ?_ 3 _ rfl; (with_reducible repeat (first | refine blk_drewN ?_ _ | refine blk_drew ?_ | refine blk_alloc ?_ _)); exact BK130.out) hg (Kd.R_away HO_4.out (fun _ hk => by first | exact hk.2 | exact hk))); have n1_ := Aside0.mk (Kd.R_over' (by (with_reducible repeat (first | apply Kd.R_alloc | apply Kd.R_drewN | apply Kd.R_drew)); exact (Kd.R_mono (Kd.R_far (p := ⟨gb130, 4, none⟩) (Kd.R_far (p := ⟨gb130, 3, none⟩) (Kd.R_types HO133.out BK130.out (by decide)) (fun _ hk => hk.2) (.int .i64 (wrap64 (x32_2 + 1)))) (fun _ hk => hk.2) (.string (⟨#[]⟩ : ByteArray))) (fun _ h_ => h_.1))) (Kd.R_typed (by (with_reducible repeat (first | apply Kd.R_alloc | apply Kd.R_drewN | apply Kd.R_drew)); exact (Kd.R_mono (Kd.R_far (p := ⟨gb130, 4, none⟩) (Kd.R_far (p := ⟨gb130, 3, none⟩) (Kd.R_mono HO_4.out (fun k_ hk => (⟨hk, by first | exact hk.2 | exact hk⟩ : _ ∧ k_ ≠ gb130))) (fun _ hk => hk.2) (.int .i64 (wrap64 (x32_2 + 1)))) (fun _ hk => hk.2) (.string (⟨#[]⟩ : ByteArray))) (fun _ h_ => h_.1)))) (by decide) hg); have n2_ := Aside0.mk (hb); have n3_ := Aside0.mk (ho); clear BK130; clear HO133; clear HB; clear HO_4; have BK130 := n0_; have HO133 := n1_; have HB := n2_; have HO137 := n3_; clear n0_ n1_ n2_ n3_; clear ho hb hg hat))
                 go_roundg k2
                 case measure => have := HJ4.out; have := HK2.out; omega
                 case rel => exact ⟨(y135), (wrap64 (x32_2 + 1)), (by first | rfl | (simp; done) | (rw [prx_ne]; first | done | rfl) | (simp [*]; done)), H', ⟨by have := HJ4.out; have := HK2.out; omega⟩, ⟨by (with_reducible repeat (first | apply Kd.R_alloc | apply Kd.R_drewN | apply Kd.R_drew)); exact Kd.R_mono HO137.out (fun _ hk => trivial)⟩, ⟨by repeat (first | (with_reducible first | exact HB.out | apply below_alloc | apply pw_below_drewN | apply below_drew1 | refine below_set ?_ GE130.out) | exact HB.out)⟩⟩
                ·rw [if_neg c34] at H
                 exact absurd H (by simp)
               ·replace c33 := Bool.eq_false_iff.mpr c33
                subst c33
                have H1 : (some true) = some r := by rw [if_neg (show ¬ (false = true) by decide)] at H; exact H
                clear H
                have H := H1
                clear H1
                obtain rfl := Option.some.inj H
                have p129 : 0 ≤ (x32_2 : Int) := of_decide_eq_true (by first | (with_reducible assumption) | assumption)
                have q129 : x32_2 < (l0.length : Int) := of_decide_eq_true (by first | (with_reducible assumption) | assumption)
                obtain ⟨ad129, e129, hx129_0, hx129_1, hx129_2, hx129_3, hx129_4⟩ := at_T26 HR0.out x32_2 p129 q129
                cases e129
                replace hx129_0 := (HB.out.cell (World.block_lt_of_cell? w _ hx129_0)).trans hx129_0
                replace hx129_1 := (HB.out.cell (World.block_lt_of_cell? w _ hx129_1)).trans hx129_1
                replace hx129_2 := (HB.out.cell (World.block_lt_of_cell? w _ hx129_2)).trans hx129_2
                replace hx129_3 := (HB.out.cell (World.block_lt_of_cell? w _ hx129_3)).trans hx129_3
                replace hx129_4 := (HB.out.cell (World.block_lt_of_cell? w _ hx129_4)).trans hx129_4
                replace p129 := eq_true p129
                replace q129 := eq_true q129
                go_wp2_with (first | ((with_reducible refine gate_dst (N := 6) rfl ?_); (try (refine gate_guard (by rfl) ?_; dsimp only)); refine box_event ?hg (N := 6) ?hd (cs := #[.string (⟨#[]⟩ : ByteArray), .int .i64 0, .int .i64 0, .int .i64 0, .string (⟨#[]⟩ : ByteArray)]) (t := 26) ?hr ?_; (case hd => rfl); (case hg => rfl); (case hr => first | (go_simp; done) | (go_simp; rfl)); intro gb130 hg w42 hbox hb; have n0_ := Aside0.mk (Kd.R_below (Kd.R_elderB (by (with_reducible repeat (first | apply Kd.R_alloc | apply Kd.R_drewN | apply Kd.R_drew)); exact HO_4.out) gb130 (Nat.le_of_eq hg.symm)) hb); have n1_ := Aside0.mk (below_step (by repeat (first | (with_reducible first | exact HB.out | apply below_alloc | apply pw_below_drewN | apply below_drew1) | exact HB.out)) hb); have n2_ := Aside0.mk (hbox); have n3_ := Aside0.mk ((by rw [hg]; exact (below_size (by repeat (first | (with_reducible first | exact HB.out | apply below_alloc | apply pw_below_drewN | apply below_drew1) | exact HB.out))) : w.heap.size ≤ gb130)); have n4_ := Aside0.mk ((by rw [hg]; exact (below_size (by repeat (first | (with_reducible first | exact HB.out | apply below_alloc | apply pw_below_drewN | apply below_drew1) | exact HB.out))) : w.heap.size ≤ gb130)); clear HO_4; clear HB; have HO_4 := n0_; have HB := n1_; have BK130 := n2_; have GW130 := n3_; have GE130 := n4_; clear n0_ n1_ n2_ n3_ n4_; clear hb hbox hg; have hcz43_0 : w42.cell? ⟨gb130, 0, none⟩ = some (.string (⟨#[]⟩ : ByteArray)) := (blk_cell BK130.out 0).trans rfl; have hcz43_1 : w42.cell? ⟨gb130, 1, none⟩ = some (.int .i64 0) := (blk_cell BK130.out 1).trans rfl; have hcz43_2 : w42.cell? ⟨gb130, 2, none⟩ = some (.int .i64 0) := (blk_cell BK130.out 2).trans rfl; have hcz43_3 : w42.cell? ⟨gb130, 3, none⟩ = some (.int .i64 0) := (blk_cell BK130.out 3).trans rfl; have hcz43_4 : w42.cell? ⟨gb130, 4, none⟩ = some (.string (⟨#[]⟩ : ByteArray)) := (blk_cell BK130.out 4).trans rfl; have hfz43_0 := blk_frozen BK130.out 0; have hfz43_1 := blk_frozen BK130.out 1; have hfz43_2 := blk_frozen BK130.out 2; have hfz43_3 := blk_frozen BK130.out 3; have hfz43_4 := blk_frozen BK130.out 4) | ((with_reducible refine gate_dst (N := 58) rfl ?_); (try (refine gate_guard (by rfl) ?_; dsimp only)); refine Kd.R_lit Kd.string _ 9 ?hg (N := 58) ?hd (xs := ([(rd_T26 l0 x32_2).f0] : List ByteArray)) (inner := [.string ((rd_T26 l0 x32_2).f0)]) (ok := fun _ => True) (okp := fun _ => True) ?hr ?hp (fun _ hk => hk) trivial (Below.refl _ _) (Nat.le_refl _) (by simp) ?_; (case hd => rfl); (case hg => rfl); (case hr => first | (go_simp; done) | (go_simp; rfl)); (case hp => exact (Reps.one (show Kd.M Kd.string _ _ _ ((rd_T26 l0 x32_2).f0) [.string ((rd_T26 l0 x32_2).f0)] from rfl) (Reps.none _ _))); intro v132 w44 ho45 hb hg_ hnew_; clear hg_ hnew_; (first | rw [← Ny131.out] at ho45 | (simp only [Int.reduceToNat] at ho45; rw [← Ny131.out] at ho45)); have n0_ := Aside0.mk (Kd.R_below (by (with_reducible repeat (first | apply Kd.R_alloc | apply Kd.R_drewN | apply Kd.R_drew)); exact (Kd.R_mono (Kd.R_far (p := ⟨gb130, 4, none⟩) (Kd.R_far (p := ⟨gb130, 3, none⟩) (Kd.R_far (p := ⟨gb130, 2, none⟩) (Kd.R_far (p := ⟨gb130, 1, none⟩) (Kd.R_far (p := ⟨gb130, 0, none⟩) (Kd.R_mono HO_4.out (fun k_ hk => (⟨hk, by first | exact hk.2 | exact hk⟩ : _ ∧ k_ ≠ gb130))) (fun _ hk => hk.2) (.string ((rd_T26 l0 x32_2).f0))) (fun _ hk => hk.2) (.int .i64 ((rd_T26 l0 x32_2).f1))) (fun _ hk => hk.2) (.int .i64 ((rd_T26 l0 x32_2).f2))) (fun _ hk => hk.2) (.int .i64 ((rd_T26 l0 x32_2).f3))) (fun _ hk => hk.2) (.string ((rd_T26 l0 x32_2).f4))) (fun _ h_ => h_.1))) hb); have n1_ := Aside0.mk (Kd.R_lower ho45 (below_size (by repeat (first | (with_reducible first | exact HB.out | apply below_alloc | apply pw_below_drewN | apply below_drew1 | refine below_set ?_ GE130.out) | exact HB.out)))); have n2_ := Aside0.mk (blk_below (g := gb130) (o := .cells #[.string ((rd_T26 l0 x32_2).f0), .int .i64 ((rd_T26 l0 x32_2).f1), .int .i64 ((rd_T26 l0 x32_2).f2), .int .i64 ((rd_T26 l0 x32_2).f3), .string ((rd_T26 l0 x32_2).f4)] 26 (0, 0)) (by (with_reducible repeat (first | refine blk_drewN ?_ _ | refine blk_drew ?_ | refine blk_alloc ?_ _)); refine blk_put (cs := #[.string ((rd_T26 l0 x32_2).f0), .int .i64 ((rd_T26 l0 x32_2).f1), .int .i64 ((rd_T26 l0 x32_2).f2), .int .i64 ((rd_T26 l0 x32_2).f3), .string (⟨#[]⟩ : ByteArray)]) ?_ 4 _ rfl; (with_reducible repeat (first | refine blk_drewN ?_ _ | refine blk_drew ?_ | refine blk_alloc ?_ _)); refine blk_put (cs := #[.string ((rd_T26 l0 x32_2).f0), .int .i64 ((rd_T26 l0 x32_2).f1), .int .i64 ((rd_T26 l0 x32_2).f2), .int .i64 0, .string (⟨#[]⟩ : ByteArray)]) ?_ 3 _ rfl; (with_reducible repeat (first | refine blk_drewN ?_ _ | refine blk_drew ?_ | refine blk_alloc ?_ _)); refine blk_put (cs := #[.string ((rd_T26 l0 x32_2).f0), .int .i64 ((rd_T26 l0 x32_2).f1), .int .i64 0, .int .i64 0, .string (⟨#[]⟩ : ByteArray)]) ?_ 2 _ rfl; (with_reducible repeat (first | refine blk_drewN ?_ _ | refine blk_drew ?_ | refine blk_alloc ?_ _)); refine blk_put (cs := #[.string ((rd_T26 l0 x32_2).f0), .int .i64 0, .int .i64 0, .int .i64 0, .string (⟨#[]⟩ : ByteArray)]) ?_ 1 _ rfl; (with_reducible repeat (first | refine blk_drewN ?_ _ | refine blk_drew ?_ | refine blk_alloc ?_ _)); refine blk_put (cs := #[.string (⟨#[]⟩ : ByteArray), .int .i64 0, .int .i64 0, .int .i64 0, .string (⟨#[]⟩ : ByteArray)]) ?_ 0 _ rfl; (with_reducible repeat (first | refine blk_drewN ?_ _ | refine blk_drew ?_ | refine blk_alloc ?_ _)); exact BK130.out) hb); have n3_ := Aside0.mk (below_step (by repeat (first | (with_reducible first | exact HB.out | apply below_alloc | apply pw_below_drewN | apply below_drew1 | refine below_set ?_ GE130.out) | exact HB.out)) hb); clear HO_4; clear BK130; clear HB; have HO_4 := n0_; have HO133 := n1_; have BK130 := n2_; have HB := n3_; clear n0_ n1_ n2_ n3_; clear hb ho45; obtain ⟨Ao46, co46, eo46⟩ := Kd.R_slice HO133.out; subst eo46) | (go_at_call 15; (with_reducible refine (laws_short.calls k2 _ _ y131 false _ ?side1 ?side2 A32.out).mono ?_); (case side1 => repeat (first | exact (Kd.R_reads' HO133.out).2.2 | (with_reducible refine Kd.C_alloc ?_ _) | (with_reducible refine Kd.C_drewN ?_ _) | (with_reducible refine Kd.C_drew ?_))); (case side2 => exact (Kd.R_reads' HO133.out).2.1); rintro e w' ⟨rfl, ⟨nd, rfl⟩⟩))
                go_ret
                exact ⟨by first | rfl | (simp [errW_none, errW_some] <;> rfl) | (simp [*, errW_none, errW_some] <;> rfl), by repeat (first | (with_reducible first | exact HB.out | apply below_alloc | apply pw_below_drewN | apply below_drew1 | refine below_set ?_ GE130.out) | exact HB.out)⟩
          ·rw [if_neg c19] at H
           exact absurd H (by simp)
         ·rw [if_neg c18] at H
          exact absurd H (by simp)
        ·rw [if_neg c17] at H
         have c17b0 : decide (x32_2 < (l0.length : Int)) = false := decide_eq_false c17
         clear c17
         replace H := Option.bind_eq_some_iff.mp H
         obtain ⟨t138, A470, H⟩ := H
         replace H : (if (t138.length : Int) = (x4_2.length : Int) then (laws_FnSortedAll.l1 k2 x4_2 t138 t138 (t138.length : Int) 0) else (some false)) = some r := H
         have A47 := Aside0.mk A470
         clear A470
         by_cases c48 : (t138.length : Int) = (x4_2.length : Int)
         ·rw [if_pos c48] at H
          have c48b0 : ((t138.length : Int) == (x4_2.length : Int)) = true := beq_iff_eq.mpr c48
          have c48b1 : ((t138.length : Int) != (x4_2.length : Int)) = false := bne_eq_false_iff_eq.mpr c48
          have c48b2 : (t138.length == x4_2.length) = true := by first | simpa using c48 | (simp at c48 ⊢; omega)
          clear c48
          have H' := Aside0.mk H
          clear H
          obtain ⟨Ao49, co49, eo49⟩ := Kd.R_slice HO_4.out
          subst eo49
          go_wp2_with (first | ((with_reducible refine gate_callee (f := 14) rfl ?_); refine goesL_ (some 72) rfl rfl Try.func14 (by kernel_rfl) rfl #[.slice Ao49 x4_2.length co49] rfl (by (try simp only [List.map_toArray, List.map_cons, List.map_nil]); first | done | rfl | (simp only [List.length_drop, List.length_take]; rfl)) ?_; (with_reducible refine (impl_SortAccepted.calls k2 _ _ x4_2 t138 _ ?side1 ?side2 A47.out).mono ?_); (case side1 => repeat (first | exact (Kd.R_reads' HO_4.out).2.2 | (with_reducible refine Kd.C_alloc ?_ _) | (with_reducible refine Kd.C_drewN ?_ _) | (with_reducible refine Kd.C_drew ?_))); (case side2 => exact (Kd.R_reads' HO_4.out).2.1); rintro e w50 ⟨v139, rfl, ho0, hb⟩; refine ⟨_, rfl, ?_⟩; have n0_ := Aside0.mk (Kd.R_elder' (by (with_reducible repeat (first | apply Kd.R_alloc | apply Kd.R_drewN | apply Kd.R_drew)); exact HO_4.out) (Kd.R_base ho0) hb); have n1_ := Aside0.mk (Kd.R_lower (Kd.R_new' ho0 (Kd.R_lt (by (with_reducible repeat (first | apply Kd.R_alloc | apply Kd.R_drewN | apply Kd.R_drew)); exact HO_4.out))) (below_size (by repeat (first | (with_reducible first | exact HB.out | apply below_alloc | apply pw_below_drewN | apply below_drew1) | exact HB.out)))); have n2_ := Aside0.mk (below_step (by repeat (first | (with_reducible first | exact HB.out | apply below_alloc | apply pw_below_drewN | apply below_drew1) | exact HB.out)) hb); clear HO_4; clear HB; have HO_4 := n0_; have HO140 := n1_; have HB := n2_; clear n0_ n1_ n2_; (try clear hb); (try clear hb2); (try clear hk); (try clear hi); (try clear ho0); obtain ⟨Ao51, co51, eo51⟩ := Kd.R_slice HO140.out; subst eo51))
          go_loopg [80] k2 (fun kq v80 w' => ∃ (x80_3 : Int), v80 = .int .i64 x80_3 ∧ Aside0 (laws_FnSortedAll.l1 kq x4_2 t138 t138 (t138.length : Int) x80_3 = some r) ∧ Aside0 (kq ≤ k2) ∧ Aside0 (Kd.R k26 26 w' w.heap.size (fun k_ => some k_ ≠ ((.slice Ao51 t138.length co51) : Value).ownBlock ∧ some k_ ≠ ((.slice Ao51 t138.length co51) : Value).ownBlock) (.slice Ao49 x4_2.length co49) x4_2) ∧ Aside0 (Kd.R k26 26 w' w.heap.size (fun k_ => some k_ ≠ ((.slice Ao49 x4_2.length co49) : Value).ownBlock) (.slice Ao51 t138.length co51) t138) ∧ Aside0 (Kd.R k26 26 w' w.heap.size (fun k_ => some k_ ≠ ((.slice Ao49 x4_2.length co49) : Value).ownBlock) (.slice Ao51 t138.length co51) t138) ∧ Aside0 (Below w.heap.size w w'))
          case atStart => exact ⟨(0), (by first | rfl | (simp; done) | (rw [prx_ne]; first | done | rfl) | (simp [*]; done)), H', ⟨Nat.le_refl _⟩, ⟨by (with_reducible repeat (first | apply Kd.R_alloc | apply Kd.R_drewN | apply Kd.R_drew)); exact Kd.R_mono HO_4.out (fun _ hk => ⟨hk.2, hk.2⟩)⟩, ⟨by (with_reducible repeat (first | apply Kd.R_alloc | apply Kd.R_drewN | apply Kd.R_drew)); exact Kd.R_mono HO140.out (fun _ hk => hk.2)⟩, ⟨by (with_reducible repeat (first | apply Kd.R_alloc | apply Kd.R_drewN | apply Kd.R_drew)); exact Kd.R_mono HO140.out (fun _ hk => hk.2)⟩, ⟨by repeat (first | (with_reducible first | exact HB.out | apply below_alloc | apply pw_below_drewN | apply below_drew1) | exact HB.out)⟩⟩
          case round =>
           clear H'
           try clear c1
           try clear p1
           try clear q1
           try clear hx1
           try clear qi1
           try clear c2
           try clear p2
           try clear c3
           try clear c4
           try clear c5
           try clear p6
           try clear c11
           try clear c11b0
           try clear c11b1
           try clear c12
           try clear c12b0
           try clear c12b1
           try clear p12
           try clear q12
           try clear hx12
           try clear qi12
           try clear c13
           try clear c14
           try clear c15
           try clear c16
           try clear c16b0
           try clear c16b1
           try clear c17
           try clear c17b0
           try clear c18
           try clear c18b0
           try clear c19
           try clear c19b0
           try clear c20
           try clear c20b0
           try clear c23
           try clear c23b0
           try clear c26
           try clear c26b0
           try clear c29
           try clear c29b0
           try clear c33
           try clear c34
           try clear c48
           try clear c48b0
           try clear c48b1
           try clear c48b2
           try clear hcz22_0
           try clear hcz22_1
           try clear hcz22_2
           try clear hcz22_3
           try clear hcz22_4
           try clear hcz25_0
           try clear hcz25_1
           try clear hcz25_2
           try clear hcz25_3
           try clear hcz25_4
           try clear hcz28_0
           try clear hcz28_1
           try clear hcz28_2
           try clear hcz28_3
           try clear hcz28_4
           try clear hcz31_0
           try clear hcz31_1
           try clear hcz31_2
           try clear hcz31_3
           try clear hcz31_4
           try clear hcz36_0
           try clear hcz36_1
           try clear hcz36_2
           try clear hcz36_3
           try clear hcz36_4
           try clear hcz40_0
           try clear hcz40_1
           try clear hcz40_2
           try clear hcz40_3
           try clear hcz40_4
           try clear hcz43_0
           try clear hcz43_1
           try clear hcz43_2
           try clear hcz43_3
           try clear hcz43_4
           try clear hfz22_0
           try clear hfz22_1
           try clear hfz22_2
           try clear hfz22_3
           try clear hfz22_4
           try clear hfz25_0
           try clear hfz25_1
           try clear hfz25_2
           try clear hfz25_3
           try clear hfz25_4
           try clear hfz28_0
           try clear hfz28_1
           try clear hfz28_2
           try clear hfz28_3
           try clear hfz28_4
           try clear hfz31_0
           try clear hfz31_1
           try clear hfz31_2
           try clear hfz31_3
           try clear hfz31_4
           try clear hfz36_0
           try clear hfz36_1
           try clear hfz36_2
           try clear hfz36_3
           try clear hfz36_4
           try clear hfz40_0
           try clear hfz40_1
           try clear hfz40_2
           try clear hfz40_3
           try clear hfz40_4
           try clear hfz43_0
           try clear hfz43_1
           try clear hfz43_2
           try clear hfz43_3
           try clear hfz43_4
           try clear hx128_0
           try clear hx128_1
           try clear hx128_2
           try clear hx128_3
           try clear hx128_4
           try clear hx129_0
           try clear hx129_1
           try clear hx129_2
           try clear hx129_3
           try clear hx129_4
           try clear p1
           try clear p12
           try clear p128
           try clear p129
           try clear p2
           try clear q1
           try clear q12
           try clear q128
           try clear q129
           obtain ⟨x80_3, rfl, HA, HK3, HO_4, HO_7, HO_78, HB⟩ := hrel
           cases gk with
           | zero => exact absurd HA.out (by simp [laws_FnSortedAll.l1])
           | succ k3 =>
            have H := HA.out
            clear HA
            simp only [laws_FnSortedAll.l1] at H
            by_cases c52 : x80_3 < (t138.length : Int)
            ·rw [if_pos c52] at H
             have c52b0 : decide (x80_3 < (t138.length : Int)) = true := decide_eq_true c52
             clear c52
             by_cases c53 : 0 ≤ x80_3
             ·rw [if_pos c53] at H
              have c53b0 : decide (0 ≤ x80_3) = true := decide_eq_true c53
              clear c53
              by_cases c54 : x80_3 < (t138.length : Int)
              ·rw [if_pos c54] at H
               have c54b0 : decide (x80_3 < (t138.length : Int)) = true := decide_eq_true c54
               clear c54
               have HC55 := Aside0.mk H
               clear H
               have p141 : 0 ≤ (x80_3 : Int) := of_decide_eq_true (by first | (with_reducible assumption) | assumption)
               have q141 : x80_3 < (t138.length : Int) := of_decide_eq_true (by first | (with_reducible assumption) | assumption)
               obtain ⟨ad141, e141, hx141_0, hx141_1, hx141_2, hx141_3, hx141_4⟩ := at_T26 (Kd.R_reads' HO_78.out).2.2 x80_3 p141 q141
               cases e141
               replace p141 := eq_true p141
               replace q141 := eq_true q141
               go_upto_region 23 with (first | ((with_reducible refine gate_dst (N := 9) rfl ?_); (try (refine gate_guard (by rfl) ?_; dsimp only)); refine box_event ?hg (N := 9) ?hd (cs := #[.string (⟨#[]⟩ : ByteArray), .int .i64 0, .int .i64 0, .int .i64 0, .string (⟨#[]⟩ : ByteArray)]) (t := 26) ?hr ?_; (case hd => rfl); (case hg => rfl); (case hr => first | (go_simp; done) | (go_simp; rfl)); intro gb142 hg w56 hbox hb; have n0_ := Aside0.mk (Kd.R_below (Kd.R_elderB (by (with_reducible repeat (first | apply Kd.R_alloc | apply Kd.R_drewN | apply Kd.R_drew)); exact HO_4.out) gb142 (Nat.le_of_eq hg.symm)) hb); have n1_ := Aside0.mk (Kd.R_below (Kd.R_elderB (by (with_reducible repeat (first | apply Kd.R_alloc | apply Kd.R_drewN | apply Kd.R_drew)); exact HO_7.out) gb142 (Nat.le_of_eq hg.symm)) hb); have n2_ := Aside0.mk (Kd.R_below (Kd.R_elderB (by (with_reducible repeat (first | apply Kd.R_alloc | apply Kd.R_drewN | apply Kd.R_drew)); exact HO_78.out) gb142 (Nat.le_of_eq hg.symm)) hb); have n3_ := Aside0.mk (below_step (by repeat (first | (with_reducible first | exact HB.out | apply below_alloc | apply pw_below_drewN | apply below_drew1) | exact HB.out)) hb); have n4_ := Aside0.mk (hbox); have n5_ := Aside0.mk ((by rw [hg]; exact (below_size (by repeat (first | (with_reducible first | exact HB.out | apply below_alloc | apply pw_below_drewN | apply below_drew1) | exact HB.out))) : w.heap.size ≤ gb142)); have n6_ := Aside0.mk ((by rw [hg]; exact (below_size (by repeat (first | (with_reducible first | exact HB.out | apply below_alloc | apply pw_below_drewN | apply below_drew1) | exact HB.out))) : w.heap.size ≤ gb142)); clear HO_4; clear HO_7; clear HO_78; clear HB; have HO_4 := n0_; have HO_7 := n1_; have HO_78 := n2_; have HB := n3_; have BK142 := n4_; have GW142 := n5_; have GE142 := n6_; clear n0_ n1_ n2_ n3_ n4_ n5_ n6_; clear hb hbox hg; have hcz57_0 : w56.cell? ⟨gb142, 0, none⟩ = some (.string (⟨#[]⟩ : ByteArray)) := (blk_cell BK142.out 0).trans rfl; have hcz57_1 : w56.cell? ⟨gb142, 1, none⟩ = some (.int .i64 0) := (blk_cell BK142.out 1).trans rfl; have hcz57_2 : w56.cell? ⟨gb142, 2, none⟩ = some (.int .i64 0) := (blk_cell BK142.out 2).trans rfl; have hcz57_3 : w56.cell? ⟨gb142, 3, none⟩ = some (.int .i64 0) := (blk_cell BK142.out 3).trans rfl; have hcz57_4 : w56.cell? ⟨gb142, 4, none⟩ = some (.string (⟨#[]⟩ : ByteArray)) := (blk_cell BK142.out 4).trans rfl; have hfz57_0 := blk_frozen BK142.out 0; have hfz57_1 := blk_frozen BK142.out 1; have hfz57_2 := blk_frozen BK142.out 2; have hfz57_3 := blk_frozen BK142.out 3; have hfz57_4 := blk_frozen BK142.out 4))
               (try simp only [Act.put, List.setIfInBounds_toArray, List.set_cons_zero, List.set_cons_succ])
               go_cut [104] (fun v104 wc => ∃ (kq : Nat) (x104_54 : Bool), v104 = .bool x104_54 ∧ Aside0 (laws_FnSortedAll.j3 kq x4_2 t138 x80_3 t138 (t138.length : Int) x80_3 x104_54 ((rd_T26 t138 x80_3).f0) ((rd_T26 t138 x80_3).f1) ((rd_T26 t138 x80_3).f2) ((rd_T26 t138 x80_3).f3) ((rd_T26 t138 x80_3).f4) = some r) ∧ Aside0 (kq ≤ k3) ∧ Aside0 (Kd.R k26 26 wc w.heap.size (fun k_ => some k_ ≠ ((.slice (some ad141) t138.length co51) : Value).ownBlock ∧ some k_ ≠ ((.slice (some ad141) t138.length co51) : Value).ownBlock ∧ k_ ≠ gb142) (.slice Ao49 x4_2.length co49) x4_2) ∧ Aside0 (Kd.R k26 26 wc w.heap.size (fun k_ => some k_ ≠ ((.slice Ao49 x4_2.length co49) : Value).ownBlock ∧ k_ ≠ gb142) (.slice (some ad141) t138.length co51) t138) ∧ Aside0 (Kd.R k26 26 wc w.heap.size (fun k_ => some k_ ≠ ((.slice Ao49 x4_2.length co49) : Value).ownBlock ∧ k_ ≠ gb142) (.slice (some ad141) t138.length co51) t138) ∧ Aside0 (wc.heap[gb142]? = some (.cells #[.string ((rd_T26 t138 x80_3).f0), .int .i64 ((rd_T26 t138 x80_3).f1), .int .i64 ((rd_T26 t138 x80_3).f2), .int .i64 ((rd_T26 t138 x80_3).f3), .string ((rd_T26 t138 x80_3).f4)] 26 (0, 0))) ∧ Aside0 (Below w.heap.size w wc))
               case first =>
                have H := HC55.out
                clear HC55
                by_cases c58 : ((rd_T26 t138 x80_3).f3) < 1
                ·rw [if_pos c58] at H
                 have c58b0 : decide (((rd_T26 t138 x80_3).f3) < 1) = true := decide_eq_true c58
                 clear c58
                 (first | rw [c58b0] | (simp only [i64_w, i32_w]; rw [c58b0]) | skip)
                 have H' := Aside0.mk H
                 clear H
                 try go_wp2
                 have n0_ : Aside0 (Kd.R k26 26 (((((w56.setCell ⟨gb142, 0, none⟩ (.string ((rd_T26 t138 x80_3).f0))).setCell ⟨gb142, 1, none⟩ (.int .i64 ((rd_T26 t138 x80_3).f1))).setCell ⟨gb142, 2, none⟩ (.int .i64 ((rd_T26 t138 x80_3).f2))).setCell ⟨gb142, 3, none⟩ (.int .i64 ((rd_T26 t138 x80_3).f3))).setCell ⟨gb142, 4, none⟩ (.string ((rd_T26 t138 x80_3).f4))) w.heap.size (fun k_ => some k_ ≠ (.slice (some ad141) t138.length co51 : Value).ownBlock ∧ some k_ ≠ (.slice (some ad141) t138.length co51 : Value).ownBlock ∧ k_ ≠ gb142) (.slice Ao49 x4_2.length co49) x4_2) := ⟨by (with_reducible repeat (first | apply Kd.R_alloc | apply Kd.R_drewN | apply Kd.R_drew)); exact Kd.R_mono (Kd.R_far (p := ⟨gb142, 4, none⟩) (Kd.R_far (p := ⟨gb142, 3, none⟩) (Kd.R_far (p := ⟨gb142, 2, none⟩) (Kd.R_far (p := ⟨gb142, 1, none⟩) (Kd.R_far (p := ⟨gb142, 0, none⟩) (Kd.R_mono HO_4.out (fun k_ hk => (⟨hk, by first | exact hk.2 | exact hk⟩ : _ ∧ k_ ≠ gb142))) (fun _ hk => hk.2) (.string ((rd_T26 t138 x80_3).f0))) (fun _ hk => hk.2) (.int .i64 ((rd_T26 t138 x80_3).f1))) (fun _ hk => hk.2) (.int .i64 ((rd_T26 t138 x80_3).f2))) (fun _ hk => hk.2) (.int .i64 ((rd_T26 t138 x80_3).f3))) (fun _ hk => hk.2) (.string ((rd_T26 t138 x80_3).f4))) (fun _ hk => ⟨hk.1.1.1, ⟨hk.1.1.2, hk.1.2⟩⟩)⟩
                 have n1_ : Aside0 (Kd.R k26 26 (((((w56.setCell ⟨gb142, 0, none⟩ (.string ((rd_T26 t138 x80_3).f0))).setCell ⟨gb142, 1, none⟩ (.int .i64 ((rd_T26 t138 x80_3).f1))).setCell ⟨gb142, 2, none⟩ (.int .i64 ((rd_T26 t138 x80_3).f2))).setCell ⟨gb142, 3, none⟩ (.int .i64 ((rd_T26 t138 x80_3).f3))).setCell ⟨gb142, 4, none⟩ (.string ((rd_T26 t138 x80_3).f4))) w.heap.size (fun k_ => some k_ ≠ (.slice Ao49 x4_2.length co49 : Value).ownBlock ∧ k_ ≠ gb142) (.slice (some ad141) t138.length co51) t138) := ⟨by (with_reducible repeat (first | apply Kd.R_alloc | apply Kd.R_drewN | apply Kd.R_drew)); exact Kd.R_mono (Kd.R_far (p := ⟨gb142, 4, none⟩) (Kd.R_far (p := ⟨gb142, 3, none⟩) (Kd.R_far (p := ⟨gb142, 2, none⟩) (Kd.R_far (p := ⟨gb142, 1, none⟩) (Kd.R_far (p := ⟨gb142, 0, none⟩) (Kd.R_mono HO_7.out (fun k_ hk => (⟨hk, by first | exact hk.2 | exact hk⟩ : _ ∧ k_ ≠ gb142))) (fun _ hk => hk.2) (.string ((rd_T26 t138 x80_3).f0))) (fun _ hk => hk.2) (.int .i64 ((rd_T26 t138 x80_3).f1))) (fun _ hk => hk.2) (.int .i64 ((rd_T26 t138 x80_3).f2))) (fun _ hk => hk.2) (.int .i64 ((rd_T26 t138 x80_3).f3))) (fun _ hk => hk.2) (.string ((rd_T26 t138 x80_3).f4))) (fun _ hk => ⟨hk.1.1, hk.1.2⟩)⟩
                 have n2_ : Aside0 (Kd.R k26 26 (((((w56.setCell ⟨gb142, 0, none⟩ (.string ((rd_T26 t138 x80_3).f0))).setCell ⟨gb142, 1, none⟩ (.int .i64 ((rd_T26 t138 x80_3).f1))).setCell ⟨gb142, 2, none⟩ (.int .i64 ((rd_T26 t138 x80_3).f2))).setCell ⟨gb142, 3, none⟩ (.int .i64 ((rd_T26 t138 x80_3).f3))).setCell ⟨gb142, 4, none⟩ (.string ((rd_T26 t138 x80_3).f4))) w.heap.size (fun k_ => some k_ ≠ (.slice Ao49 x4_2.length co49 : Value).ownBlock ∧ k_ ≠ gb142) (.slice (some ad141) t138.length co51) t138) := ⟨by (with_reducible repeat (first | apply Kd.R_alloc | apply Kd.R_drewN | apply Kd.R_drew)); exact Kd.R_mono (Kd.R_far (p := ⟨gb142, 4, none⟩) (Kd.R_far (p := ⟨gb142, 3, none⟩) (Kd.R_far (p := ⟨gb142, 2, none⟩) (Kd.R_far (p := ⟨gb142, 1, none⟩) (Kd.R_far (p := ⟨gb142, 0, none⟩) (Kd.R_mono HO_78.out (fun k_ hk => (⟨hk, by first | exact hk.2 | exact hk⟩ : _ ∧ k_ ≠ gb142))) (fun _ hk => hk.2) (.string ((rd_T26 t138 x80_3).f0))) (fun _ hk => hk.2) (.int .i64 ((rd_T26 t138 x80_3).f1))) (fun _ hk => hk.2) (.int .i64 ((rd_T26 t138 x80_3).f2))) (fun _ hk => hk.2) (.int .i64 ((rd_T26 t138 x80_3).f3))) (fun _ hk => hk.2) (.string ((rd_T26 t138 x80_3).f4))) (fun _ hk => ⟨hk.1.1, hk.1.2⟩)⟩
                 have n3_ : Aside0 ((((((w56.setCell ⟨gb142, 0, none⟩ (.string ((rd_T26 t138 x80_3).f0))).setCell ⟨gb142, 1, none⟩ (.int .i64 ((rd_T26 t138 x80_3).f1))).setCell ⟨gb142, 2, none⟩ (.int .i64 ((rd_T26 t138 x80_3).f2))).setCell ⟨gb142, 3, none⟩ (.int .i64 ((rd_T26 t138 x80_3).f3))).setCell ⟨gb142, 4, none⟩ (.string ((rd_T26 t138 x80_3).f4))).heap[gb142]? = some (.cells #[.string ((rd_T26 t138 x80_3).f0), .int .i64 ((rd_T26 t138 x80_3).f1), .int .i64 ((rd_T26 t138 x80_3).f2), .int .i64 ((rd_T26 t138 x80_3).f3), .string ((rd_T26 t138 x80_3).f4)] 26 (0, 0))) := ⟨by (with_reducible repeat (first | refine blk_drewN ?_ _ | refine blk_drew ?_ | refine blk_alloc ?_ _)); refine blk_put (cs := #[.string ((rd_T26 t138 x80_3).f0), .int .i64 ((rd_T26 t138 x80_3).f1), .int .i64 ((rd_T26 t138 x80_3).f2), .int .i64 ((rd_T26 t138 x80_3).f3), .string (⟨#[]⟩ : ByteArray)]) ?_ 4 _ rfl; (with_reducible repeat (first | refine blk_drewN ?_ _ | refine blk_drew ?_ | refine blk_alloc ?_ _)); refine blk_put (cs := #[.string ((rd_T26 t138 x80_3).f0), .int .i64 ((rd_T26 t138 x80_3).f1), .int .i64 ((rd_T26 t138 x80_3).f2), .int .i64 0, .string (⟨#[]⟩ : ByteArray)]) ?_ 3 _ rfl; (with_reducible repeat (first | refine blk_drewN ?_ _ | refine blk_drew ?_ | refine blk_alloc ?_ _)); refine blk_put (cs := #[.string ((rd_T26 t138 x80_3).f0), .int .i64 ((rd_T26 t138 x80_3).f1), .int .i64 0, .int .i64 0, .string (⟨#[]⟩ : ByteArray)]) ?_ 2 _ rfl; (with_reducible repeat (first | refine blk_drewN ?_ _ | refine blk_drew ?_ | refine blk_alloc ?_ _)); refine blk_put (cs := #[.string ((rd_T26 t138 x80_3).f0), .int .i64 0, .int .i64 0, .int .i64 0, .string (⟨#[]⟩ : ByteArray)]) ?_ 1 _ rfl; (with_reducible repeat (first | refine blk_drewN ?_ _ | refine blk_drew ?_ | refine blk_alloc ?_ _)); refine blk_put (cs := #[.string (⟨#[]⟩ : ByteArray), .int .i64 0, .int .i64 0, .int .i64 0, .string (⟨#[]⟩ : ByteArray)]) ?_ 0 _ rfl; (with_reducible repeat (first | refine blk_drewN ?_ _ | refine blk_drew ?_ | refine blk_alloc ?_ _)); exact BK142.out⟩
                 have n4_ : Aside0 (Below w.heap.size w (((((w56.setCell ⟨gb142, 0, none⟩ (.string ((rd_T26 t138 x80_3).f0))).setCell ⟨gb142, 1, none⟩ (.int .i64 ((rd_T26 t138 x80_3).f1))).setCell ⟨gb142, 2, none⟩ (.int .i64 ((rd_T26 t138 x80_3).f2))).setCell ⟨gb142, 3, none⟩ (.int .i64 ((rd_T26 t138 x80_3).f3))).setCell ⟨gb142, 4, none⟩ (.string ((rd_T26 t138 x80_3).f4)))) := ⟨by repeat (first | (with_reducible first | exact HB.out | apply below_alloc | apply pw_below_drewN | apply below_drew1 | refine below_set ?_ GE142.out) | exact HB.out)⟩
                 (try clear HO_4)
                 (try clear HO_7)
                 (try clear HO_78)
                 (try clear BK142)
                 (try clear HB)
                 generalize (((((w56.setCell ⟨gb142, 0, none⟩ (.string ((rd_T26 t138 x80_3).f0))).setCell ⟨gb142, 1, none⟩ (.int .i64 ((rd_T26 t138 x80_3).f1))).setCell ⟨gb142, 2, none⟩ (.int .i64 ((rd_T26 t138 x80_3).f2))).setCell ⟨gb142, 3, none⟩ (.int .i64 ((rd_T26 t138 x80_3).f3))).setCell ⟨gb142, 4, none⟩ (.string ((rd_T26 t138 x80_3).f4))) = w59 at n0_ n1_ n2_ n3_ n4_ ⊢
                 have HO_4 := n0_
                 have HO_7 := n1_
                 have HO_78 := n2_
                 have BK142 := n3_
                 have HB := n4_
                 clear n0_ n1_ n2_ n3_ n4_
                 have n0_ := Aside0.mk (Kd.R_drew HO_4.out)
                 have n1_ := Aside0.mk (Kd.R_drew HO_7.out)
                 have n2_ := Aside0.mk (Kd.R_drew HO_78.out)
                 have n3_ := Aside0.mk (blk_drew BK142.out)
                 have n4_ := Aside0.mk (below_drew1 HB.out)
                 clear HO_4
                 clear HO_7
                 clear HO_78
                 clear BK142
                 clear HB
                 have HO_4 := n0_
                 have HO_7 := n1_
                 have HO_78 := n2_
                 have BK142 := n3_
                 have HB := n4_
                 clear n0_ n1_ n2_ n3_ n4_
                 refine start_ (n := 20) (S := fun w' => w'.cell? ⟨gb142, 0, none⟩ = some (.string ((rd_T26 t138 x80_3).f0)) ∧ w'.cell? ⟨gb142, 1, none⟩ = some (.int .i64 ((rd_T26 t138 x80_3).f1)) ∧ w'.cell? ⟨gb142, 2, none⟩ = some (.int .i64 ((rd_T26 t138 x80_3).f2)) ∧ w'.cell? ⟨gb142, 3, none⟩ = some (.int .i64 ((rd_T26 t138 x80_3).f3)) ∧ w'.cell? ⟨gb142, 4, none⟩ = some (.string ((rd_T26 t138 x80_3).f4))) (ds := []) #[false, false, false, false, false, false, false, false, false, false, false, false, false, false, false, false, false, false, false, false] (by kernel_rfl) rfl rfl ⟨(blk_cell BK142.out 0).trans rfl, (blk_cell BK142.out 1).trans rfl, (blk_cell BK142.out 2).trans rfl, (blk_cell BK142.out 3).trans rfl, (blk_cell BK142.out 4).trans rfl⟩ (fun hHeld => ?_); refine with_tabW laws_FnSortedAll.tab23 laws_FnSortedAll.bits23 (fun HT_ HW_ => ?_)
                 generalize w59.drew = w60 at HO_4 HO_7 HO_78 BK142 HB hHeld ⊢
                 refine pure_ (i := 0) (N := some 85) (v := ?_) (a' := ?_) #[true, false, false, false, false, false, false, false, false, false, false, false, false, false, false, false, false, false, false, false] rfl rfl (any_of HT_.out (by kernel_rfl)) (fun _ _ _ h => h) (Or.inl ⟨by rfl, ?_⟩) ?_ ?_
                 rotate_left
                 ·intro w'
                  go_simp
                  with_reducible rfl
                 rotate_left
                 ·simp only [Act.put, List.setIfInBounds_toArray, List.set_cons_zero, List.set_cons_succ, i64_w, i32_w]
                  rfl
                 refine take_ (i := 1) (N := some 86) (v := ?_) (a' := ?_) #[true, true, false, false, false, false, false, false, false, false, false, false, false, false, false, false, false, false, false, false] rfl rfl (take_ofW HT_.out HW_.out (by kernel_rfl)) (fun _ _ _ h => h) (Or.inl ⟨by rfl, ?_⟩) hHeld ?_ ?_
                 rotate_left
                 ·rintro w' ⟨s0, s1, s2, s3, s4⟩
                  go_simp
                  with_reducible rfl
                 rotate_left
                 ·simp only [Act.put, List.setIfInBounds_toArray, List.set_cons_zero, List.set_cons_succ, i64_w, i32_w]
                  rfl
                 refine pure_ (i := 2) (N := some 87) (v := ?_) (a' := ?_) #[true, true, true, false, false, false, false, false, false, false, false, false, false, false, false, false, false, false, false, false] rfl rfl (any_of HT_.out (by kernel_rfl)) (fun _ _ _ h => h) (Or.inl ⟨by rfl, ?_⟩) ?_ ?_
                 rotate_left
                 ·intro w'
                  go_simp
                  with_reducible rfl
                 rotate_left
                 ·simp only [Act.put, List.setIfInBounds_toArray, List.set_cons_zero, List.set_cons_succ, i64_w, i32_w]
                  rfl
                 refine pure_ (i := 3) (N := some 88) (v := ?_) (a' := ?_) #[true, true, true, true, false, false, false, false, false, false, false, false, false, false, false, false, false, false, false, false] rfl rfl (any_of HT_.out (by kernel_rfl)) (fun _ _ _ h => h) (Or.inl ⟨by rfl, ?_⟩) ?_ ?_
                 rotate_left
                 ·intro w'
                  go_simp
                  with_reducible rfl
                 rotate_left
                 ·simp only [Act.put, List.setIfInBounds_toArray, List.set_cons_zero, List.set_cons_succ, i64_w, i32_w]
                  rfl
                 refine pure_ (i := 4) (N := some 89) (v := undef) (a' := ?_) #[true, true, true, true, true, false, false, false, false, false, false, false, false, false, false, false, false, false, false, false] rfl rfl (any_of HT_.out (by kernel_rfl)) (fun _ _ _ h => h) (Or.inr ⟨by rfl, rfl⟩) ?_ ?_
                 rotate_left
                 ·simp only [Act.put, List.setIfInBounds_toArray, List.set_cons_zero, List.set_cons_succ, i64_w, i32_w]
                  rfl
                 refine pure_ (i := 5) (N := some 90) (v := undef) (a' := ?_) #[true, true, true, true, true, true, false, false, false, false, false, false, false, false, false, false, false, false, false, false] rfl rfl (any_of HT_.out (by kernel_rfl)) (fun _ _ _ h => h) (Or.inr ⟨by rfl, rfl⟩) ?_ ?_
                 rotate_left
                 ·simp only [Act.put, List.setIfInBounds_toArray, List.set_cons_zero, List.set_cons_succ, i64_w, i32_w]
                  rfl
                 refine pure_ (i := 6) (N := some 91) (v := undef) (a' := ?_) #[true, true, true, true, true, true, true, false, false, false, false, false, false, false, false, false, false, false, false, false] rfl rfl (any_of HT_.out (by kernel_rfl)) (fun _ _ _ h => h) (Or.inr ⟨by rfl, rfl⟩) ?_ ?_
                 rotate_left
                 ·simp only [Act.put, List.setIfInBounds_toArray, List.set_cons_zero, List.set_cons_succ, i64_w, i32_w]
                  rfl
                 refine pure_ (i := 7) (N := some 92) (v := undef) (a' := ?_) #[true, true, true, true, true, true, true, true, false, false, false, false, false, false, false, false, false, false, false, false] rfl rfl (any_of HT_.out (by kernel_rfl)) (fun _ _ _ h => h) (Or.inr ⟨by rfl, rfl⟩) ?_ ?_
                 rotate_left
                 ·simp only [Act.put, List.setIfInBounds_toArray, List.set_cons_zero, List.set_cons_succ, i64_w, i32_w]
                  rfl
                 refine pure_ (i := 8) (N := some 93) (v := undef) (a' := ?_) #[true, true, true, true, true, true, true, true, true, false, false, false, false, false, false, false, false, false, false, false] rfl rfl (any_of HT_.out (by kernel_rfl)) (fun _ _ _ h => h) (Or.inr ⟨by rfl, rfl⟩) ?_ ?_
                 rotate_left
                 ·simp only [Act.put, List.setIfInBounds_toArray, List.set_cons_zero, List.set_cons_succ, i64_w, i32_w]
                  rfl
                 refine pure_ (i := 9) (N := some 94) (v := ?_) (a' := ?_) #[true, true, true, true, true, true, true, true, true, true, false, false, false, false, false, false, false, false, false, false] rfl rfl (any_of HT_.out (by kernel_rfl)) (fun _ _ _ h => h) (Or.inl ⟨by rfl, ?_⟩) ?_ ?_
                 rotate_left
                 ·intro w'
                  go_simp
                  with_reducible rfl
                 rotate_left
                 ·simp only [Act.put, List.setIfInBounds_toArray, List.set_cons_zero, List.set_cons_succ, i64_w, i32_w]
                  rfl
                 refine pure_ (i := 10) (N := some 95) (v := ?_) (a' := ?_) #[true, true, true, true, true, true, true, true, true, true, true, false, false, false, false, false, false, false, false, false] rfl rfl (any_of HT_.out (by kernel_rfl)) (fun _ _ _ h => h) (Or.inl ⟨by rfl, ?_⟩) ?_ ?_
                 rotate_left
                 ·intro w'
                  go_simp
                  with_reducible rfl
                 rotate_left
                 ·simp only [Act.put, List.setIfInBounds_toArray, List.set_cons_zero, List.set_cons_succ, i64_w, i32_w]
                  rfl
                 refine pure_ (i := 11) (N := some 96) (v := undef) (a' := ?_) #[true, true, true, true, true, true, true, true, true, true, true, true, false, false, false, false, false, false, false, false] rfl rfl (any_of HT_.out (by kernel_rfl)) (fun _ _ _ h => h) (Or.inr ⟨by rfl, rfl⟩) ?_ ?_
                 rotate_left
                 ·simp only [Act.put, List.setIfInBounds_toArray, List.set_cons_zero, List.set_cons_succ, i64_w, i32_w]
                  rfl
                 refine pure_ (i := 12) (N := some 97) (v := undef) (a' := ?_) #[true, true, true, true, true, true, true, true, true, true, true, true, true, false, false, false, false, false, false, false] rfl rfl (any_of HT_.out (by kernel_rfl)) (fun _ _ _ h => h) (Or.inr ⟨by rfl, rfl⟩) ?_ ?_
                 rotate_left
                 ·simp only [Act.put, List.setIfInBounds_toArray, List.set_cons_zero, List.set_cons_succ, i64_w, i32_w]
                  rfl
                 refine pure_ (i := 13) (N := some 98) (v := undef) (a' := ?_) #[true, true, true, true, true, true, true, true, true, true, true, true, true, true, false, false, false, false, false, false] rfl rfl (any_of HT_.out (by kernel_rfl)) (fun _ _ _ h => h) (Or.inr ⟨by rfl, rfl⟩) ?_ ?_
                 rotate_left
                 ·simp only [Act.put, List.setIfInBounds_toArray, List.set_cons_zero, List.set_cons_succ, i64_w, i32_w]
                  rfl
                 refine pure_ (i := 14) (N := some 99) (v := undef) (a' := ?_) #[true, true, true, true, true, true, true, true, true, true, true, true, true, true, true, false, false, false, false, false] rfl rfl (any_of HT_.out (by kernel_rfl)) (fun _ _ _ h => h) (Or.inr ⟨by rfl, rfl⟩) ?_ ?_
                 rotate_left
                 ·simp only [Act.put, List.setIfInBounds_toArray, List.set_cons_zero, List.set_cons_succ, i64_w, i32_w]
                  rfl
                 refine pure_ (i := 15) (N := some 100) (v := undef) (a' := ?_) #[true, true, true, true, true, true, true, true, true, true, true, true, true, true, true, true, false, false, false, false] rfl rfl (any_of HT_.out (by kernel_rfl)) (fun _ _ _ h => h) (Or.inr ⟨by rfl, rfl⟩) ?_ ?_
                 rotate_left
                 ·simp only [Act.put, List.setIfInBounds_toArray, List.set_cons_zero, List.set_cons_succ, i64_w, i32_w]
                  rfl
                 refine pure_ (i := 16) (N := some 101) (v := undef) (a' := ?_) #[true, true, true, true, true, true, true, true, true, true, true, true, true, true, true, true, true, false, false, false] rfl rfl (any_of HT_.out (by kernel_rfl)) (fun _ _ _ h => h) (Or.inr ⟨by rfl, rfl⟩) ?_ ?_
                 rotate_left
                 ·simp only [Act.put, List.setIfInBounds_toArray, List.set_cons_zero, List.set_cons_succ, i64_w, i32_w]
                  rfl
                 refine pure_ (i := 17) (N := some 102) (v := undef) (a' := ?_) #[true, true, true, true, true, true, true, true, true, true, true, true, true, true, true, true, true, true, false, false] rfl rfl (any_of HT_.out (by kernel_rfl)) (fun _ _ _ h => h) (Or.inr ⟨by rfl, rfl⟩) ?_ ?_
                 rotate_left
                 ·simp only [Act.put, List.setIfInBounds_toArray, List.set_cons_zero, List.set_cons_succ, i64_w, i32_w]
                  rfl
                 refine pure_ (i := 18) (N := some 103) (v := undef) (a' := ?_) #[true, true, true, true, true, true, true, true, true, true, true, true, true, true, true, true, true, true, true, false] rfl rfl (any_of HT_.out (by kernel_rfl)) (fun _ _ _ h => h) (Or.inr ⟨by rfl, rfl⟩) ?_ ?_
                 rotate_left
                 ·simp only [Act.put, List.setIfInBounds_toArray, List.set_cons_zero, List.set_cons_succ, i64_w, i32_w]
                  rfl
                 refine pure_ (i := 19) (N := some 104) (v := ?_) (a' := ?_) #[true, true, true, true, true, true, true, true, true, true, true, true, true, true, true, true, true, true, true, true] rfl rfl (any_of HT_.out (by kernel_rfl)) (fun _ _ _ h => h) (Or.inl ⟨by rfl, ?_⟩) ?_ ?_
                 rotate_left
                 ·intro w'
                  go_simp
                  with_reducible rfl
                 rotate_left
                 ·simp only [Act.put, List.setIfInBounds_toArray, List.set_cons_zero, List.set_cons_succ, i64_w, i32_w]
                  rfl
                 refine done_ (done_of HT_.out (by kernel_rfl)) ?_
                 try go_wp2
                 go_meet
                 case rel => exact ⟨_, (true), (by first | rfl | (simp; done) | (rw [prx_ne]; first | done | rfl) | (simp [*]; done)), H', ⟨by have := HJ4.out; have := HK2.out; have := HK3.out; first | omega | exact Nat.le_refl _⟩, ⟨by (with_reducible repeat (first | apply Kd.R_alloc | apply Kd.R_drewN | apply Kd.R_drew)); exact HO_4.out⟩, ⟨by (with_reducible repeat (first | apply Kd.R_alloc | apply Kd.R_drewN | apply Kd.R_drew)); exact HO_7.out⟩, ⟨by (with_reducible repeat (first | apply Kd.R_alloc | apply Kd.R_drewN | apply Kd.R_drew)); exact HO_78.out⟩, ⟨by (with_reducible repeat (first | refine blk_drewN ?_ _ | refine blk_drew ?_ | refine blk_alloc ?_ _)); exact BK142.out⟩, ⟨by repeat (first | (with_reducible first | exact HB.out | apply below_alloc | apply pw_below_drewN | apply below_drew1 | refine below_set ?_ GE142.out) | exact HB.out)⟩⟩
                ·rw [if_neg c58] at H
                 have c58b0 : decide (((rd_T26 t138 x80_3).f3) < 1) = false := decide_eq_false c58
                 clear c58
                 (first | rw [c58b0] | (simp only [i64_w, i32_w]; rw [c58b0]) | skip)
                 by_cases c61 : ((rd_T26 t138 x80_3).f3) > (x4_2.length : Int)
                 ·rw [if_pos c61] at H
                  have c61b0 : decide ((x4_2.length : Int) < ((rd_T26 t138 x80_3).f3)) = true := decide_eq_true c61
                  clear c61
                  have H' := Aside0.mk H
                  clear H
                  try go_wp2
                  have n0_ : Aside0 (Kd.R k26 26 (((((w56.setCell ⟨gb142, 0, none⟩ (.string ((rd_T26 t138 x80_3).f0))).setCell ⟨gb142, 1, none⟩ (.int .i64 ((rd_T26 t138 x80_3).f1))).setCell ⟨gb142, 2, none⟩ (.int .i64 ((rd_T26 t138 x80_3).f2))).setCell ⟨gb142, 3, none⟩ (.int .i64 ((rd_T26 t138 x80_3).f3))).setCell ⟨gb142, 4, none⟩ (.string ((rd_T26 t138 x80_3).f4))) w.heap.size (fun k_ => some k_ ≠ (.slice (some ad141) t138.length co51 : Value).ownBlock ∧ some k_ ≠ (.slice (some ad141) t138.length co51 : Value).ownBlock ∧ k_ ≠ gb142) (.slice Ao49 x4_2.length co49) x4_2) := ⟨by (with_reducible repeat (first | apply Kd.R_alloc | apply Kd.R_drewN | apply Kd.R_drew)); exact Kd.R_mono (Kd.R_far (p := ⟨gb142, 4, none⟩) (Kd.R_far (p := ⟨gb142, 3, none⟩) (Kd.R_far (p := ⟨gb142, 2, none⟩) (Kd.R_far (p := ⟨gb142, 1, none⟩) (Kd.R_far (p := ⟨gb142, 0, none⟩) (Kd.R_mono HO_4.out (fun k_ hk => (⟨hk, by first | exact hk.2 | exact hk⟩ : _ ∧ k_ ≠ gb142))) (fun _ hk => hk.2) (.string ((rd_T26 t138 x80_3).f0))) (fun _ hk => hk.2) (.int .i64 ((rd_T26 t138 x80_3).f1))) (fun _ hk => hk.2) (.int .i64 ((rd_T26 t138 x80_3).f2))) (fun _ hk => hk.2) (.int .i64 ((rd_T26 t138 x80_3).f3))) (fun _ hk => hk.2) (.string ((rd_T26 t138 x80_3).f4))) (fun _ hk => ⟨hk.1.1.1, ⟨hk.1.1.2, hk.1.2⟩⟩)⟩
                  have n1_ : Aside0 (Kd.R k26 26 (((((w56.setCell ⟨gb142, 0, none⟩ (.string ((rd_T26 t138 x80_3).f0))).setCell ⟨gb142, 1, none⟩ (.int .i64 ((rd_T26 t138 x80_3).f1))).setCell ⟨gb142, 2, none⟩ (.int .i64 ((rd_T26 t138 x80_3).f2))).setCell ⟨gb142, 3, none⟩ (.int .i64 ((rd_T26 t138 x80_3).f3))).setCell ⟨gb142, 4, none⟩ (.string ((rd_T26 t138 x80_3).f4))) w.heap.size (fun k_ => some k_ ≠ (.slice Ao49 x4_2.length co49 : Value).ownBlock ∧ k_ ≠ gb142) (.slice (some ad141) t138.length co51) t138) := ⟨by (with_reducible repeat (first | apply Kd.R_alloc | apply Kd.R_drewN | apply Kd.R_drew)); exact Kd.R_mono (Kd.R_far (p := ⟨gb142, 4, none⟩) (Kd.R_far (p := ⟨gb142, 3, none⟩) (Kd.R_far (p := ⟨gb142, 2, none⟩) (Kd.R_far (p := ⟨gb142, 1, none⟩) (Kd.R_far (p := ⟨gb142, 0, none⟩) (Kd.R_mono HO_7.out (fun k_ hk => (⟨hk, by first | exact hk.2 | exact hk⟩ : _ ∧ k_ ≠ gb142))) (fun _ hk => hk.2) (.string ((rd_T26 t138 x80_3).f0))) (fun _ hk => hk.2) (.int .i64 ((rd_T26 t138 x80_3).f1))) (fun _ hk => hk.2) (.int .i64 ((rd_T26 t138 x80_3).f2))) (fun _ hk => hk.2) (.int .i64 ((rd_T26 t138 x80_3).f3))) (fun _ hk => hk.2) (.string ((rd_T26 t138 x80_3).f4))) (fun _ hk => ⟨hk.1.1, hk.1.2⟩)⟩
                  have n2_ : Aside0 (Kd.R k26 26 (((((w56.setCell ⟨gb142, 0, none⟩ (.string ((rd_T26 t138 x80_3).f0))).setCell ⟨gb142, 1, none⟩ (.int .i64 ((rd_T26 t138 x80_3).f1))).setCell ⟨gb142, 2, none⟩ (.int .i64 ((rd_T26 t138 x80_3).f2))).setCell ⟨gb142, 3, none⟩ (.int .i64 ((rd_T26 t138 x80_3).f3))).setCell ⟨gb142, 4, none⟩ (.string ((rd_T26 t138 x80_3).f4))) w.heap.size (fun k_ => some k_ ≠ (.slice Ao49 x4_2.length co49 : Value).ownBlock ∧ k_ ≠ gb142) (.slice (some ad141) t138.length co51) t138) := ⟨by (with_reducible repeat (first | apply Kd.R_alloc | apply Kd.R_drewN | apply Kd.R_drew)); exact Kd.R_mono (Kd.R_far (p := ⟨gb142, 4, none⟩) (Kd.R_far (p := ⟨gb142, 3, none⟩) (Kd.R_far (p := ⟨gb142, 2, none⟩) (Kd.R_far (p := ⟨gb142, 1, none⟩) (Kd.R_far (p := ⟨gb142, 0, none⟩) (Kd.R_mono HO_78.out (fun k_ hk => (⟨hk, by first | exact hk.2 | exact hk⟩ : _ ∧ k_ ≠ gb142))) (fun _ hk => hk.2) (.string ((rd_T26 t138 x80_3).f0))) (fun _ hk => hk.2) (.int .i64 ((rd_T26 t138 x80_3).f1))) (fun _ hk => hk.2) (.int .i64 ((rd_T26 t138 x80_3).f2))) (fun _ hk => hk.2) (.int .i64 ((rd_T26 t138 x80_3).f3))) (fun _ hk => hk.2) (.string ((rd_T26 t138 x80_3).f4))) (fun _ hk => ⟨hk.1.1, hk.1.2⟩)⟩
                  have n3_ : Aside0 ((((((w56.setCell ⟨gb142, 0, none⟩ (.string ((rd_T26 t138 x80_3).f0))).setCell ⟨gb142, 1, none⟩ (.int .i64 ((rd_T26 t138 x80_3).f1))).setCell ⟨gb142, 2, none⟩ (.int .i64 ((rd_T26 t138 x80_3).f2))).setCell ⟨gb142, 3, none⟩ (.int .i64 ((rd_T26 t138 x80_3).f3))).setCell ⟨gb142, 4, none⟩ (.string ((rd_T26 t138 x80_3).f4))).heap[gb142]? = some (.cells #[.string ((rd_T26 t138 x80_3).f0), .int .i64 ((rd_T26 t138 x80_3).f1), .int .i64 ((rd_T26 t138 x80_3).f2), .int .i64 ((rd_T26 t138 x80_3).f3), .string ((rd_T26 t138 x80_3).f4)] 26 (0, 0))) := ⟨by (with_reducible repeat (first | refine blk_drewN ?_ _ | refine blk_drew ?_ | refine blk_alloc ?_ _)); refine blk_put (cs := #[.string ((rd_T26 t138 x80_3).f0), .int .i64 ((rd_T26 t138 x80_3).f1), .int .i64 ((rd_T26 t138 x80_3).f2), .int .i64 ((rd_T26 t138 x80_3).f3), .string (⟨#[]⟩ : ByteArray)]) ?_ 4 _ rfl; (with_reducible repeat (first | refine blk_drewN ?_ _ | refine blk_drew ?_ | refine blk_alloc ?_ _)); refine blk_put (cs := #[.string ((rd_T26 t138 x80_3).f0), .int .i64 ((rd_T26 t138 x80_3).f1), .int .i64 ((rd_T26 t138 x80_3).f2), .int .i64 0, .string (⟨#[]⟩ : ByteArray)]) ?_ 3 _ rfl; (with_reducible repeat (first | refine blk_drewN ?_ _ | refine blk_drew ?_ | refine blk_alloc ?_ _)); refine blk_put (cs := #[.string ((rd_T26 t138 x80_3).f0), .int .i64 ((rd_T26 t138 x80_3).f1), .int .i64 0, .int .i64 0, .string (⟨#[]⟩ : ByteArray)]) ?_ 2 _ rfl; (with_reducible repeat (first | refine blk_drewN ?_ _ | refine blk_drew ?_ | refine blk_alloc ?_ _)); refine blk_put (cs := #[.string ((rd_T26 t138 x80_3).f0), .int .i64 0, .int .i64 0, .int .i64 0, .string (⟨#[]⟩ : ByteArray)]) ?_ 1 _ rfl; (with_reducible repeat (first | refine blk_drewN ?_ _ | refine blk_drew ?_ | refine blk_alloc ?_ _)); refine blk_put (cs := #[.string (⟨#[]⟩ : ByteArray), .int .i64 0, .int .i64 0, .int .i64 0, .string (⟨#[]⟩ : ByteArray)]) ?_ 0 _ rfl; (with_reducible repeat (first | refine blk_drewN ?_ _ | refine blk_drew ?_ | refine blk_alloc ?_ _)); exact BK142.out⟩
                  have n4_ : Aside0 (Below w.heap.size w (((((w56.setCell ⟨gb142, 0, none⟩ (.string ((rd_T26 t138 x80_3).f0))).setCell ⟨gb142, 1, none⟩ (.int .i64 ((rd_T26 t138 x80_3).f1))).setCell ⟨gb142, 2, none⟩ (.int .i64 ((rd_T26 t138 x80_3).f2))).setCell ⟨gb142, 3, none⟩ (.int .i64 ((rd_T26 t138 x80_3).f3))).setCell ⟨gb142, 4, none⟩ (.string ((rd_T26 t138 x80_3).f4)))) := ⟨by repeat (first | (with_reducible first | exact HB.out | apply below_alloc | apply pw_below_drewN | apply below_drew1 | refine below_set ?_ GE142.out) | exact HB.out)⟩
                  (try clear HO_4)
                  (try clear HO_7)
                  (try clear HO_78)
                  (try clear BK142)
                  (try clear HB)
                  generalize (((((w56.setCell ⟨gb142, 0, none⟩ (.string ((rd_T26 t138 x80_3).f0))).setCell ⟨gb142, 1, none⟩ (.int .i64 ((rd_T26 t138 x80_3).f1))).setCell ⟨gb142, 2, none⟩ (.int .i64 ((rd_T26 t138 x80_3).f2))).setCell ⟨gb142, 3, none⟩ (.int .i64 ((rd_T26 t138 x80_3).f3))).setCell ⟨gb142, 4, none⟩ (.string ((rd_T26 t138 x80_3).f4))) = w62 at n0_ n1_ n2_ n3_ n4_ ⊢
                  have HO_4 := n0_
                  have HO_7 := n1_
                  have HO_78 := n2_
                  have BK142 := n3_
                  have HB := n4_
                  clear n0_ n1_ n2_ n3_ n4_
                  have n0_ := Aside0.mk (Kd.R_drew HO_4.out)
                  have n1_ := Aside0.mk (Kd.R_drew HO_7.out)
                  have n2_ := Aside0.mk (Kd.R_drew HO_78.out)
                  have n3_ := Aside0.mk (blk_drew BK142.out)
                  have n4_ := Aside0.mk (below_drew1 HB.out)
                  clear HO_4
                  clear HO_7
                  clear HO_78
                  clear BK142
                  clear HB
                  have HO_4 := n0_
                  have HO_7 := n1_
                  have HO_78 := n2_
                  have BK142 := n3_
                  have HB := n4_
                  clear n0_ n1_ n2_ n3_ n4_
                  refine start_ (n := 20) (S := fun w' => w'.cell? ⟨gb142, 0, none⟩ = some (.string ((rd_T26 t138 x80_3).f0)) ∧ w'.cell? ⟨gb142, 1, none⟩ = some (.int .i64 ((rd_T26 t138 x80_3).f1)) ∧ w'.cell? ⟨gb142, 2, none⟩ = some (.int .i64 ((rd_T26 t138 x80_3).f2)) ∧ w'.cell? ⟨gb142, 3, none⟩ = some (.int .i64 ((rd_T26 t138 x80_3).f3)) ∧ w'.cell? ⟨gb142, 4, none⟩ = some (.string ((rd_T26 t138 x80_3).f4))) (ds := []) #[false, false, false, false, false, false, false, false, false, false, false, false, false, false, false, false, false, false, false, false] (by kernel_rfl) rfl rfl ⟨(blk_cell BK142.out 0).trans rfl, (blk_cell BK142.out 1).trans rfl, (blk_cell BK142.out 2).trans rfl, (blk_cell BK142.out 3).trans rfl, (blk_cell BK142.out 4).trans rfl⟩ (fun hHeld => ?_); refine with_tabW laws_FnSortedAll.tab23 laws_FnSortedAll.bits23 (fun HT_ HW_ => ?_)
                  generalize w62.drew = w63 at HO_4 HO_7 HO_78 BK142 HB hHeld ⊢
                  refine pure_ (i := 0) (N := some 85) (v := ?_) (a' := ?_) #[true, false, false, false, false, false, false, false, false, false, false, false, false, false, false, false, false, false, false, false] rfl rfl (any_of HT_.out (by kernel_rfl)) (fun _ _ _ h => h) (Or.inl ⟨by rfl, ?_⟩) ?_ ?_
                  rotate_left
                  ·intro w'
                   go_simp
                   with_reducible rfl
                  rotate_left
                  ·simp only [Act.put, List.setIfInBounds_toArray, List.set_cons_zero, List.set_cons_succ, i64_w, i32_w]
                   rfl
                  refine take_ (i := 1) (N := some 86) (v := ?_) (a' := ?_) #[true, true, false, false, false, false, false, false, false, false, false, false, false, false, false, false, false, false, false, false] rfl rfl (take_ofW HT_.out HW_.out (by kernel_rfl)) (fun _ _ _ h => h) (Or.inl ⟨by rfl, ?_⟩) hHeld ?_ ?_
                  rotate_left
                  ·rintro w' ⟨s0, s1, s2, s3, s4⟩
                   go_simp
                   with_reducible rfl
                  rotate_left
                  ·simp only [Act.put, List.setIfInBounds_toArray, List.set_cons_zero, List.set_cons_succ, i64_w, i32_w]
                   rfl
                  refine pure_ (i := 2) (N := some 87) (v := ?_) (a' := ?_) #[true, true, true, false, false, false, false, false, false, false, false, false, false, false, false, false, false, false, false, false] rfl rfl (any_of HT_.out (by kernel_rfl)) (fun _ _ _ h => h) (Or.inl ⟨by rfl, ?_⟩) ?_ ?_
                  rotate_left
                  ·intro w'
                   go_simp
                   with_reducible rfl
                  rotate_left
                  ·simp only [Act.put, List.setIfInBounds_toArray, List.set_cons_zero, List.set_cons_succ, i64_w, i32_w]
                   rfl
                  refine pure_ (i := 3) (N := some 88) (v := ?_) (a' := ?_) #[true, true, true, true, false, false, false, false, false, false, false, false, false, false, false, false, false, false, false, false] rfl rfl (any_of HT_.out (by kernel_rfl)) (fun _ _ _ h => h) (Or.inl ⟨by rfl, ?_⟩) ?_ ?_
                  rotate_left
                  ·intro w'
                   go_simp
                   with_reducible rfl
                  rotate_left
                  ·simp only [Act.put, List.setIfInBounds_toArray, List.set_cons_zero, List.set_cons_succ, i64_w, i32_w]
                   rfl
                  refine pure_ (i := 4) (N := some 89) (v := ?_) (a' := ?_) #[true, true, true, true, true, false, false, false, false, false, false, false, false, false, false, false, false, false, false, false] rfl rfl (any_of HT_.out (by kernel_rfl)) (fun _ _ _ h => h) (Or.inl ⟨by rfl, ?_⟩) ?_ ?_
                  rotate_left
                  ·intro w'
                   go_simp
                   with_reducible rfl
                  rotate_left
                  ·simp only [Act.put, List.setIfInBounds_toArray, List.set_cons_zero, List.set_cons_succ, i64_w, i32_w]
                   rfl
                  refine pure_ (i := 6) (N := some 91) (v := ?_) (a' := ?_) #[true, true, true, true, true, false, true, false, false, false, false, false, false, false, false, false, false, false, false, false] rfl rfl (any_of HT_.out (by kernel_rfl)) (fun _ _ _ h => h) (Or.inl ⟨by rfl, ?_⟩) ?_ ?_
                  rotate_left
                  ·intro w'
                   go_simp
                   with_reducible rfl
                  rotate_left
                  ·simp only [Act.put, List.setIfInBounds_toArray, List.set_cons_zero, List.set_cons_succ, i64_w, i32_w]
                   rfl
                  refine pure_ (i := 7) (N := some 92) (v := ?_) (a' := ?_) #[true, true, true, true, true, false, true, true, false, false, false, false, false, false, false, false, false, false, false, false] rfl rfl (any_of HT_.out (by kernel_rfl)) (fun _ _ _ h => h) (Or.inl ⟨by rfl, ?_⟩) ?_ ?_
                  rotate_left
                  ·intro w'
                   go_simp
                   with_reducible rfl
                  rotate_left
                  ·simp only [Act.put, List.setIfInBounds_toArray, List.set_cons_zero, List.set_cons_succ, i64_w, i32_w]
                   rfl
                  refine take_ (i := 5) (N := some 90) (v := ?_) (a' := ?_) #[true, true, true, true, true, true, true, true, false, false, false, false, false, false, false, false, false, false, false, false] rfl rfl (take_ofW HT_.out HW_.out (by kernel_rfl)) (fun _ _ _ h => h) (Or.inl ⟨by rfl, ?_⟩) hHeld ?_ ?_
                  rotate_left
                  ·rintro w' ⟨s0, s1, s2, s3, s4⟩
                   go_simp
                   with_reducible rfl
                  rotate_left
                  ·simp only [Act.put, List.setIfInBounds_toArray, List.set_cons_zero, List.set_cons_succ, i64_w, i32_w]
                   rfl
                  refine pure_ (i := 8) (N := some 93) (v := ?_) (a' := ?_) #[true, true, true, true, true, true, true, true, true, false, false, false, false, false, false, false, false, false, false, false] rfl rfl (any_of HT_.out (by kernel_rfl)) (fun _ _ _ h => h) (Or.inl ⟨by rfl, ?_⟩) ?_ ?_
                  rotate_left
                  ·intro w'
                   go_simp
                   with_reducible rfl
                  rotate_left
                  ·simp only [Act.put, List.setIfInBounds_toArray, List.set_cons_zero, List.set_cons_succ, i64_w, i32_w]
                   rfl
                  refine pure_ (i := 9) (N := some 94) (v := ?_) (a' := ?_) #[true, true, true, true, true, true, true, true, true, true, false, false, false, false, false, false, false, false, false, false] rfl rfl (any_of HT_.out (by kernel_rfl)) (fun _ _ _ h => h) (Or.inl ⟨by rfl, ?_⟩) ?_ ?_
                  rotate_left
                  ·intro w'
                   go_simp
                   with_reducible rfl
                  rotate_left
                  ·simp only [Act.put, List.setIfInBounds_toArray, List.set_cons_zero, List.set_cons_succ, i64_w, i32_w]
                   rfl
                  refine pure_ (i := 10) (N := some 95) (v := ?_) (a' := ?_) #[true, true, true, true, true, true, true, true, true, true, true, false, false, false, false, false, false, false, false, false] rfl rfl (any_of HT_.out (by kernel_rfl)) (fun _ _ _ h => h) (Or.inl ⟨by rfl, ?_⟩) ?_ ?_
                  rotate_left
                  ·intro w'
                   go_simp
                   with_reducible rfl
                  rotate_left
                  ·simp only [Act.put, List.setIfInBounds_toArray, List.set_cons_zero, List.set_cons_succ, i64_w, i32_w]
                   rfl
                  refine pure_ (i := 11) (N := some 96) (v := undef) (a' := ?_) #[true, true, true, true, true, true, true, true, true, true, true, true, false, false, false, false, false, false, false, false] rfl rfl (any_of HT_.out (by kernel_rfl)) (fun _ _ _ h => h) (Or.inr ⟨by rfl, rfl⟩) ?_ ?_
                  rotate_left
                  ·simp only [Act.put, List.setIfInBounds_toArray, List.set_cons_zero, List.set_cons_succ, i64_w, i32_w]
                   rfl
                  refine pure_ (i := 12) (N := some 97) (v := undef) (a' := ?_) #[true, true, true, true, true, true, true, true, true, true, true, true, true, false, false, false, false, false, false, false] rfl rfl (any_of HT_.out (by kernel_rfl)) (fun _ _ _ h => h) (Or.inr ⟨by rfl, rfl⟩) ?_ ?_
                  rotate_left
                  ·simp only [Act.put, List.setIfInBounds_toArray, List.set_cons_zero, List.set_cons_succ, i64_w, i32_w]
                   rfl
                  refine pure_ (i := 13) (N := some 98) (v := undef) (a' := ?_) #[true, true, true, true, true, true, true, true, true, true, true, true, true, true, false, false, false, false, false, false] rfl rfl (any_of HT_.out (by kernel_rfl)) (fun _ _ _ h => h) (Or.inr ⟨by rfl, rfl⟩) ?_ ?_
                  rotate_left
                  ·simp only [Act.put, List.setIfInBounds_toArray, List.set_cons_zero, List.set_cons_succ, i64_w, i32_w]
                   rfl
                  refine pure_ (i := 14) (N := some 99) (v := undef) (a' := ?_) #[true, true, true, true, true, true, true, true, true, true, true, true, true, true, true, false, false, false, false, false] rfl rfl (any_of HT_.out (by kernel_rfl)) (fun _ _ _ h => h) (Or.inr ⟨by rfl, rfl⟩) ?_ ?_
                  rotate_left
                  ·simp only [Act.put, List.setIfInBounds_toArray, List.set_cons_zero, List.set_cons_succ, i64_w, i32_w]
                   rfl
                  refine pure_ (i := 15) (N := some 100) (v := undef) (a' := ?_) #[true, true, true, true, true, true, true, true, true, true, true, true, true, true, true, true, false, false, false, false] rfl rfl (any_of HT_.out (by kernel_rfl)) (fun _ _ _ h => h) (Or.inr ⟨by rfl, rfl⟩) ?_ ?_
                  rotate_left
                  ·simp only [Act.put, List.setIfInBounds_toArray, List.set_cons_zero, List.set_cons_succ, i64_w, i32_w]
                   rfl
                  refine pure_ (i := 16) (N := some 101) (v := undef) (a' := ?_) #[true, true, true, true, true, true, true, true, true, true, true, true, true, true, true, true, true, false, false, false] rfl rfl (any_of HT_.out (by kernel_rfl)) (fun _ _ _ h => h) (Or.inr ⟨by rfl, rfl⟩) ?_ ?_
                  rotate_left
                  ·simp only [Act.put, List.setIfInBounds_toArray, List.set_cons_zero, List.set_cons_succ, i64_w, i32_w]
                   rfl
                  refine pure_ (i := 17) (N := some 102) (v := undef) (a' := ?_) #[true, true, true, true, true, true, true, true, true, true, true, true, true, true, true, true, true, true, false, false] rfl rfl (any_of HT_.out (by kernel_rfl)) (fun _ _ _ h => h) (Or.inr ⟨by rfl, rfl⟩) ?_ ?_
                  rotate_left
                  ·simp only [Act.put, List.setIfInBounds_toArray, List.set_cons_zero, List.set_cons_succ, i64_w, i32_w]
                   rfl
                  refine pure_ (i := 18) (N := some 103) (v := undef) (a' := ?_) #[true, true, true, true, true, true, true, true, true, true, true, true, true, true, true, true, true, true, true, false] rfl rfl (any_of HT_.out (by kernel_rfl)) (fun _ _ _ h => h) (Or.inr ⟨by rfl, rfl⟩) ?_ ?_
                  rotate_left
                  ·simp only [Act.put, List.setIfInBounds_toArray, List.set_cons_zero, List.set_cons_succ, i64_w, i32_w]
                   rfl
                  refine pure_ (i := 19) (N := some 104) (v := ?_) (a' := ?_) #[true, true, true, true, true, true, true, true, true, true, true, true, true, true, true, true, true, true, true, true] rfl rfl (any_of HT_.out (by kernel_rfl)) (fun _ _ _ h => h) (Or.inl ⟨by rfl, ?_⟩) ?_ ?_
                  rotate_left
                  ·intro w'
                   go_simp
                   with_reducible rfl
                  rotate_left
                  ·simp only [Act.put, List.setIfInBounds_toArray, List.set_cons_zero, List.set_cons_succ, i64_w, i32_w]
                   rfl
                  refine done_ (done_of HT_.out (by kernel_rfl)) ?_
                  try go_wp2
                  go_meet
                  case rel => exact ⟨_, (true), (by first | rfl | (simp; done) | (rw [prx_ne]; first | done | rfl) | (simp [*]; done)), H', ⟨by have := HJ4.out; have := HK2.out; have := HK3.out; first | omega | exact Nat.le_refl _⟩, ⟨by (with_reducible repeat (first | apply Kd.R_alloc | apply Kd.R_drewN | apply Kd.R_drew)); exact HO_4.out⟩, ⟨by (with_reducible repeat (first | apply Kd.R_alloc | apply Kd.R_drewN | apply Kd.R_drew)); exact HO_7.out⟩, ⟨by (with_reducible repeat (first | apply Kd.R_alloc | apply Kd.R_drewN | apply Kd.R_drew)); exact HO_78.out⟩, ⟨by (with_reducible repeat (first | refine blk_drewN ?_ _ | refine blk_drew ?_ | refine blk_alloc ?_ _)); exact BK142.out⟩, ⟨by repeat (first | (with_reducible first | exact HB.out | apply below_alloc | apply pw_below_drewN | apply below_drew1 | refine below_set ?_ GE142.out) | exact HB.out)⟩⟩
                 ·rw [if_neg c61] at H
                  have c61b0 : decide ((x4_2.length : Int) < ((rd_T26 t138 x80_3).f3)) = false := decide_eq_false c61
                  clear c61
                  obtain ⟨ji64, hji64⟩ : ∃ j_ : Int, (wrap64 (((rd_T26 t138 x80_3).f3) - 1)) = j_ := ⟨_, rfl⟩
                  replace H : (if 0 ≤ (ji64) then (if (ji64) < (x4_2.length : Int) then (laws_FnSortedAll.j3 k3 x4_2 t138 x80_3 t138 (t138.length : Int) x80_3 (!((((rd_T26 x4_2 (ji64)).f0).toList) == (((rd_T26 t138 x80_3).f0).toList)) || (!(((rd_T26 x4_2 (ji64)).f1) == ((rd_T26 t138 x80_3).f1)) || (!(((rd_T26 x4_2 (ji64)).f2) == ((rd_T26 t138 x80_3).f2)) || (!(((rd_T26 x4_2 (ji64)).f3) == ((rd_T26 t138 x80_3).f3)) || (!((((rd_T26 x4_2 (ji64)).f4).toList) == (((rd_T26 t138 x80_3).f4).toList))))))) ((rd_T26 t138 x80_3).f0) ((rd_T26 t138 x80_3).f1) ((rd_T26 t138 x80_3).f2) ((rd_T26 t138 x80_3).f3) ((rd_T26 t138 x80_3).f4)) else (none)) else (none)) = some r := by first | (rw [hji64] at H; exact H) | (simp only [hji64] at H ⊢; exact H)
                  have hji64w : (IntKind.i64.wrap (((rd_T26 t138 x80_3).f3) - 1)) = ji64 := (i64_w _).trans hji64
                  by_cases c65 : 0 ≤ (ji64)
                  ·rw [if_pos c65] at H
                   have c65b0 : decide (0 ≤ (ji64)) = true := decide_eq_true c65
                   clear c65
                   by_cases c66 : (ji64) < (x4_2.length : Int)
                   ·rw [if_pos c66] at H
                    have c66b0 : decide ((ji64) < (x4_2.length : Int)) = true := decide_eq_true c66
                    clear c66
                    have H' := Aside0.mk H
                    clear H
                    try go_wp2
                    have n0_ : Aside0 (Kd.R k26 26 (((((w56.setCell ⟨gb142, 0, none⟩ (.string ((rd_T26 t138 x80_3).f0))).setCell ⟨gb142, 1, none⟩ (.int .i64 ((rd_T26 t138 x80_3).f1))).setCell ⟨gb142, 2, none⟩ (.int .i64 ((rd_T26 t138 x80_3).f2))).setCell ⟨gb142, 3, none⟩ (.int .i64 ((rd_T26 t138 x80_3).f3))).setCell ⟨gb142, 4, none⟩ (.string ((rd_T26 t138 x80_3).f4))) w.heap.size (fun k_ => some k_ ≠ (.slice (some ad141) t138.length co51 : Value).ownBlock ∧ some k_ ≠ (.slice (some ad141) t138.length co51 : Value).ownBlock ∧ k_ ≠ gb142) (.slice Ao49 x4_2.length co49) x4_2) := ⟨by (with_reducible repeat (first | apply Kd.R_alloc | apply Kd.R_drewN | apply Kd.R_drew)); exact Kd.R_mono (Kd.R_far (p := ⟨gb142, 4, none⟩) (Kd.R_far (p := ⟨gb142, 3, none⟩) (Kd.R_far (p := ⟨gb142, 2, none⟩) (Kd.R_far (p := ⟨gb142, 1, none⟩) (Kd.R_far (p := ⟨gb142, 0, none⟩) (Kd.R_mono HO_4.out (fun k_ hk => (⟨hk, by first | exact hk.2 | exact hk⟩ : _ ∧ k_ ≠ gb142))) (fun _ hk => hk.2) (.string ((rd_T26 t138 x80_3).f0))) (fun _ hk => hk.2) (.int .i64 ((rd_T26 t138 x80_3).f1))) (fun _ hk => hk.2) (.int .i64 ((rd_T26 t138 x80_3).f2))) (fun _ hk => hk.2) (.int .i64 ((rd_T26 t138 x80_3).f3))) (fun _ hk => hk.2) (.string ((rd_T26 t138 x80_3).f4))) (fun _ hk => ⟨hk.1.1.1, ⟨hk.1.1.2, hk.1.2⟩⟩)⟩
                    have n1_ : Aside0 (Kd.R k26 26 (((((w56.setCell ⟨gb142, 0, none⟩ (.string ((rd_T26 t138 x80_3).f0))).setCell ⟨gb142, 1, none⟩ (.int .i64 ((rd_T26 t138 x80_3).f1))).setCell ⟨gb142, 2, none⟩ (.int .i64 ((rd_T26 t138 x80_3).f2))).setCell ⟨gb142, 3, none⟩ (.int .i64 ((rd_T26 t138 x80_3).f3))).setCell ⟨gb142, 4, none⟩ (.string ((rd_T26 t138 x80_3).f4))) w.heap.size (fun k_ => some k_ ≠ (.slice Ao49 x4_2.length co49 : Value).ownBlock ∧ k_ ≠ gb142) (.slice (some ad141) t138.length co51) t138) := ⟨by (with_reducible repeat (first | apply Kd.R_alloc | apply Kd.R_drewN | apply Kd.R_drew)); exact Kd.R_mono (Kd.R_far (p := ⟨gb142, 4, none⟩) (Kd.R_far (p := ⟨gb142, 3, none⟩) (Kd.R_far (p := ⟨gb142, 2, none⟩) (Kd.R_far (p := ⟨gb142, 1, none⟩) (Kd.R_far (p := ⟨gb142, 0, none⟩) (Kd.R_mono HO_7.out (fun k_ hk => (⟨hk, by first | exact hk.2 | exact hk⟩ : _ ∧ k_ ≠ gb142))) (fun _ hk => hk.2) (.string ((rd_T26 t138 x80_3).f0))) (fun _ hk => hk.2) (.int .i64 ((rd_T26 t138 x80_3).f1))) (fun _ hk => hk.2) (.int .i64 ((rd_T26 t138 x80_3).f2))) (fun _ hk => hk.2) (.int .i64 ((rd_T26 t138 x80_3).f3))) (fun _ hk => hk.2) (.string ((rd_T26 t138 x80_3).f4))) (fun _ hk => ⟨hk.1.1, hk.1.2⟩)⟩
                    have n2_ : Aside0 (Kd.R k26 26 (((((w56.setCell ⟨gb142, 0, none⟩ (.string ((rd_T26 t138 x80_3).f0))).setCell ⟨gb142, 1, none⟩ (.int .i64 ((rd_T26 t138 x80_3).f1))).setCell ⟨gb142, 2, none⟩ (.int .i64 ((rd_T26 t138 x80_3).f2))).setCell ⟨gb142, 3, none⟩ (.int .i64 ((rd_T26 t138 x80_3).f3))).setCell ⟨gb142, 4, none⟩ (.string ((rd_T26 t138 x80_3).f4))) w.heap.size (fun k_ => some k_ ≠ (.slice Ao49 x4_2.length co49 : Value).ownBlock ∧ k_ ≠ gb142) (.slice (some ad141) t138.length co51) t138) := ⟨by (with_reducible repeat (first | apply Kd.R_alloc | apply Kd.R_drewN | apply Kd.R_drew)); exact Kd.R_mono (Kd.R_far (p := ⟨gb142, 4, none⟩) (Kd.R_far (p := ⟨gb142, 3, none⟩) (Kd.R_far (p := ⟨gb142, 2, none⟩) (Kd.R_far (p := ⟨gb142, 1, none⟩) (Kd.R_far (p := ⟨gb142, 0, none⟩) (Kd.R_mono HO_78.out (fun k_ hk => (⟨hk, by first | exact hk.2 | exact hk⟩ : _ ∧ k_ ≠ gb142))) (fun _ hk => hk.2) (.string ((rd_T26 t138 x80_3).f0))) (fun _ hk => hk.2) (.int .i64 ((rd_T26 t138 x80_3).f1))) (fun _ hk => hk.2) (.int .i64 ((rd_T26 t138 x80_3).f2))) (fun _ hk => hk.2) (.int .i64 ((rd_T26 t138 x80_3).f3))) (fun _ hk => hk.2) (.string ((rd_T26 t138 x80_3).f4))) (fun _ hk => ⟨hk.1.1, hk.1.2⟩)⟩
                    have n3_ : Aside0 ((((((w56.setCell ⟨gb142, 0, none⟩ (.string ((rd_T26 t138 x80_3).f0))).setCell ⟨gb142, 1, none⟩ (.int .i64 ((rd_T26 t138 x80_3).f1))).setCell ⟨gb142, 2, none⟩ (.int .i64 ((rd_T26 t138 x80_3).f2))).setCell ⟨gb142, 3, none⟩ (.int .i64 ((rd_T26 t138 x80_3).f3))).setCell ⟨gb142, 4, none⟩ (.string ((rd_T26 t138 x80_3).f4))).heap[gb142]? = some (.cells #[.string ((rd_T26 t138 x80_3).f0), .int .i64 ((rd_T26 t138 x80_3).f1), .int .i64 ((rd_T26 t138 x80_3).f2), .int .i64 ((rd_T26 t138 x80_3).f3), .string ((rd_T26 t138 x80_3).f4)] 26 (0, 0))) := ⟨by (with_reducible repeat (first | refine blk_drewN ?_ _ | refine blk_drew ?_ | refine blk_alloc ?_ _)); refine blk_put (cs := #[.string ((rd_T26 t138 x80_3).f0), .int .i64 ((rd_T26 t138 x80_3).f1), .int .i64 ((rd_T26 t138 x80_3).f2), .int .i64 ((rd_T26 t138 x80_3).f3), .string (⟨#[]⟩ : ByteArray)]) ?_ 4 _ rfl; (with_reducible repeat (first | refine blk_drewN ?_ _ | refine blk_drew ?_ | refine blk_alloc ?_ _)); refine blk_put (cs := #[.string ((rd_T26 t138 x80_3).f0), .int .i64 ((rd_T26 t138 x80_3).f1), .int .i64 ((rd_T26 t138 x80_3).f2), .int .i64 0, .string (⟨#[]⟩ : ByteArray)]) ?_ 3 _ rfl; (with_reducible repeat (first | refine blk_drewN ?_ _ | refine blk_drew ?_ | refine blk_alloc ?_ _)); refine blk_put (cs := #[.string ((rd_T26 t138 x80_3).f0), .int .i64 ((rd_T26 t138 x80_3).f1), .int .i64 0, .int .i64 0, .string (⟨#[]⟩ : ByteArray)]) ?_ 2 _ rfl; (with_reducible repeat (first | refine blk_drewN ?_ _ | refine blk_drew ?_ | refine blk_alloc ?_ _)); refine blk_put (cs := #[.string ((rd_T26 t138 x80_3).f0), .int .i64 0, .int .i64 0, .int .i64 0, .string (⟨#[]⟩ : ByteArray)]) ?_ 1 _ rfl; (with_reducible repeat (first | refine blk_drewN ?_ _ | refine blk_drew ?_ | refine blk_alloc ?_ _)); refine blk_put (cs := #[.string (⟨#[]⟩ : ByteArray), .int .i64 0, .int .i64 0, .int .i64 0, .string (⟨#[]⟩ : ByteArray)]) ?_ 0 _ rfl; (with_reducible repeat (first | refine blk_drewN ?_ _ | refine blk_drew ?_ | refine blk_alloc ?_ _)); exact BK142.out⟩
                    have n4_ : Aside0 (Below w.heap.size w (((((w56.setCell ⟨gb142, 0, none⟩ (.string ((rd_T26 t138 x80_3).f0))).setCell ⟨gb142, 1, none⟩ (.int .i64 ((rd_T26 t138 x80_3).f1))).setCell ⟨gb142, 2, none⟩ (.int .i64 ((rd_T26 t138 x80_3).f2))).setCell ⟨gb142, 3, none⟩ (.int .i64 ((rd_T26 t138 x80_3).f3))).setCell ⟨gb142, 4, none⟩ (.string ((rd_T26 t138 x80_3).f4)))) := ⟨by repeat (first | (with_reducible first | exact HB.out | apply below_alloc | apply pw_below_drewN | apply below_drew1 | refine below_set ?_ GE142.out) | exact HB.out)⟩
                    (try clear HO_4)
                    (try clear HO_7)
                    (try clear HO_78)
                    (try clear BK142)
                    (try clear HB)
                    generalize (((((w56.setCell ⟨gb142, 0, none⟩ (.string ((rd_T26 t138 x80_3).f0))).setCell ⟨gb142, 1, none⟩ (.int .i64 ((rd_T26 t138 x80_3).f1))).setCell ⟨gb142, 2, none⟩ (.int .i64 ((rd_T26 t138 x80_3).f2))).setCell ⟨gb142, 3, none⟩ (.int .i64 ((rd_T26 t138 x80_3).f3))).setCell ⟨gb142, 4, none⟩ (.string ((rd_T26 t138 x80_3).f4))) = w67 at n0_ n1_ n2_ n3_ n4_ ⊢
                    have HO_4 := n0_
                    have HO_7 := n1_
                    have HO_78 := n2_
                    have BK142 := n3_
                    have HB := n4_
                    clear n0_ n1_ n2_ n3_ n4_
                    have n0_ := Aside0.mk (Kd.R_drew HO_4.out)
                    have n1_ := Aside0.mk (Kd.R_drew HO_7.out)
                    have n2_ := Aside0.mk (Kd.R_drew HO_78.out)
                    have n3_ := Aside0.mk (blk_drew BK142.out)
                    have n4_ := Aside0.mk (below_drew1 HB.out)
                    clear HO_4
                    clear HO_7
                    clear HO_78
                    clear BK142
                    clear HB
                    have HO_4 := n0_
                    have HO_7 := n1_
                    have HO_78 := n2_
                    have BK142 := n3_
                    have HB := n4_
                    clear n0_ n1_ n2_ n3_ n4_
                    have p143 : 0 ≤ ((ji64) : Int) := of_decide_eq_true (by first | (with_reducible assumption) | assumption)
                    have q143 : (ji64) < (x4_2.length : Int) := of_decide_eq_true (by first | (with_reducible assumption) | assumption)
                    obtain ⟨ad143, e143, hx143_0, hx143_1, hx143_2, hx143_3, hx143_4⟩ := at_T26 (Kd.R_reads' HO_4.out).2.2 (ji64) p143 q143
                    cases e143
                    replace p143 := eq_true p143
                    replace q143 := eq_true q143
                    refine start_ (n := 20) (S := fun w' => w'.cell? ⟨gb142, 0, none⟩ = some (.string ((rd_T26 t138 x80_3).f0)) ∧ w'.cell? ⟨gb142, 1, none⟩ = some (.int .i64 ((rd_T26 t138 x80_3).f1)) ∧ w'.cell? ⟨gb142, 2, none⟩ = some (.int .i64 ((rd_T26 t138 x80_3).f2)) ∧ w'.cell? ⟨gb142, 3, none⟩ = some (.int .i64 ((rd_T26 t138 x80_3).f3)) ∧ w'.cell? ⟨gb142, 4, none⟩ = some (.string ((rd_T26 t138 x80_3).f4)) ∧ w'.cell? (ad143.add (((ji64)).toNat * 5)) = some (.string ((rd_T26 x4_2 (ji64)).f0)) ∧ w'.cell? ⟨(ad143.add (((ji64)).toNat * 5)).block, (ad143.add (((ji64)).toNat * 5)).off + 1, none⟩ = some (.int .i64 ((rd_T26 x4_2 (ji64)).f1)) ∧ w'.cell? ⟨(ad143.add (((ji64)).toNat * 5)).block, (ad143.add (((ji64)).toNat * 5)).off + 2, none⟩ = some (.int .i64 ((rd_T26 x4_2 (ji64)).f2)) ∧ w'.cell? ⟨(ad143.add (((ji64)).toNat * 5)).block, (ad143.add (((ji64)).toNat * 5)).off + 3, none⟩ = some (.int .i64 ((rd_T26 x4_2 (ji64)).f3)) ∧ w'.cell? ⟨(ad143.add (((ji64)).toNat * 5)).block, (ad143.add (((ji64)).toNat * 5)).off + 4, none⟩ = some (.string ((rd_T26 x4_2 (ji64)).f4))) (ds := []) #[false, false, false, false, false, false, false, false, false, false, false, false, false, false, false, false, false, false, false, false] (by kernel_rfl) rfl rfl ⟨(blk_cell BK142.out 0).trans rfl, (blk_cell BK142.out 1).trans rfl, (blk_cell BK142.out 2).trans rfl, (blk_cell BK142.out 3).trans rfl, (blk_cell BK142.out 4).trans rfl, hx143_0, hx143_1, hx143_2, hx143_3, hx143_4⟩ (fun hHeld => ?_); refine with_tabW laws_FnSortedAll.tab23 laws_FnSortedAll.bits23 (fun HT_ HW_ => ?_)
                    generalize w67.drew = w68 at HO_4 HO_7 HO_78 BK142 HB hx143_0 hx143_1 hx143_2 hx143_3 hx143_4 hHeld ⊢
                    refine pure_ (i := 0) (N := some 85) (v := ?_) (a' := ?_) #[true, false, false, false, false, false, false, false, false, false, false, false, false, false, false, false, false, false, false, false] rfl rfl (any_of HT_.out (by kernel_rfl)) (fun _ _ _ h => h) (Or.inl ⟨by rfl, ?_⟩) ?_ ?_
                    rotate_left
                    ·intro w'
                     go_simp
                     with_reducible rfl
                    rotate_left
                    ·simp only [Act.put, List.setIfInBounds_toArray, List.set_cons_zero, List.set_cons_succ, i64_w, i32_w]
                     rfl
                    refine take_ (i := 1) (N := some 86) (v := ?_) (a' := ?_) #[true, true, false, false, false, false, false, false, false, false, false, false, false, false, false, false, false, false, false, false] rfl rfl (take_ofW HT_.out HW_.out (by kernel_rfl)) (fun _ _ _ h => h) (Or.inl ⟨by rfl, ?_⟩) hHeld ?_ ?_
                    rotate_left
                    ·rintro w' ⟨s0, s1, s2, s3, s4, s5, s6, s7, s8, s9⟩
                     go_simp
                     with_reducible rfl
                    rotate_left
                    ·simp only [Act.put, List.setIfInBounds_toArray, List.set_cons_zero, List.set_cons_succ, i64_w, i32_w]
                     rfl
                    refine pure_ (i := 2) (N := some 87) (v := ?_) (a' := ?_) #[true, true, true, false, false, false, false, false, false, false, false, false, false, false, false, false, false, false, false, false] rfl rfl (any_of HT_.out (by kernel_rfl)) (fun _ _ _ h => h) (Or.inl ⟨by rfl, ?_⟩) ?_ ?_
                    rotate_left
                    ·intro w'
                     go_simp
                     with_reducible rfl
                    rotate_left
                    ·simp only [Act.put, List.setIfInBounds_toArray, List.set_cons_zero, List.set_cons_succ, i64_w, i32_w]
                     rfl
                    refine pure_ (i := 3) (N := some 88) (v := ?_) (a' := ?_) #[true, true, true, true, false, false, false, false, false, false, false, false, false, false, false, false, false, false, false, false] rfl rfl (any_of HT_.out (by kernel_rfl)) (fun _ _ _ h => h) (Or.inl ⟨by rfl, ?_⟩) ?_ ?_
                    rotate_left
                    ·intro w'
                     go_simp
                     with_reducible rfl
                    rotate_left
                    ·simp only [Act.put, List.setIfInBounds_toArray, List.set_cons_zero, List.set_cons_succ, i64_w, i32_w]
                     rfl
                    refine pure_ (i := 4) (N := some 89) (v := ?_) (a' := ?_) #[true, true, true, true, true, false, false, false, false, false, false, false, false, false, false, false, false, false, false, false] rfl rfl (any_of HT_.out (by kernel_rfl)) (fun _ _ _ h => h) (Or.inl ⟨by rfl, ?_⟩) ?_ ?_
                    rotate_left
                    ·intro w'
                     go_simp
                     with_reducible rfl
                    rotate_left
                    ·simp only [Act.put, List.setIfInBounds_toArray, List.set_cons_zero, List.set_cons_succ, i64_w, i32_w]
                     rfl
                    refine pure_ (i := 6) (N := some 91) (v := ?_) (a' := ?_) #[true, true, true, true, true, false, true, false, false, false, false, false, false, false, false, false, false, false, false, false] rfl rfl (any_of HT_.out (by kernel_rfl)) (fun _ _ _ h => h) (Or.inl ⟨by rfl, ?_⟩) ?_ ?_
                    rotate_left
                    ·intro w'
                     go_simp
                     with_reducible rfl
                    rotate_left
                    ·simp only [Act.put, List.setIfInBounds_toArray, List.set_cons_zero, List.set_cons_succ, i64_w, i32_w]
                     rfl
                    refine pure_ (i := 7) (N := some 92) (v := ?_) (a' := ?_) #[true, true, true, true, true, false, true, true, false, false, false, false, false, false, false, false, false, false, false, false] rfl rfl (any_of HT_.out (by kernel_rfl)) (fun _ _ _ h => h) (Or.inl ⟨by rfl, ?_⟩) ?_ ?_
                    rotate_left
                    ·intro w'
                     go_simp
                     with_reducible rfl
                    rotate_left
                    ·simp only [Act.put, List.setIfInBounds_toArray, List.set_cons_zero, List.set_cons_succ, i64_w, i32_w]
                     rfl
                    refine take_ (i := 5) (N := some 90) (v := ?_) (a' := ?_) #[true, true, true, true, true, true, true, true, false, false, false, false, false, false, false, false, false, false, false, false] rfl rfl (take_ofW HT_.out HW_.out (by kernel_rfl)) (fun _ _ _ h => h) (Or.inl ⟨by rfl, ?_⟩) hHeld ?_ ?_
                    rotate_left
                    ·rintro w' ⟨s0, s1, s2, s3, s4, s5, s6, s7, s8, s9⟩
                     go_simp
                     with_reducible rfl
                    rotate_left
                    ·simp only [Act.put, List.setIfInBounds_toArray, List.set_cons_zero, List.set_cons_succ, i64_w, i32_w]
                     rfl
                    refine pure_ (i := 8) (N := some 93) (v := ?_) (a' := ?_) #[true, true, true, true, true, true, true, true, true, false, false, false, false, false, false, false, false, false, false, false] rfl rfl (any_of HT_.out (by kernel_rfl)) (fun _ _ _ h => h) (Or.inl ⟨by rfl, ?_⟩) ?_ ?_
                    rotate_left
                    ·intro w'
                     go_simp
                     with_reducible rfl
                    rotate_left
                    ·simp only [Act.put, List.setIfInBounds_toArray, List.set_cons_zero, List.set_cons_succ, i64_w, i32_w]
                     rfl
                    refine pure_ (i := 9) (N := some 94) (v := ?_) (a' := ?_) #[true, true, true, true, true, true, true, true, true, true, false, false, false, false, false, false, false, false, false, false] rfl rfl (any_of HT_.out (by kernel_rfl)) (fun _ _ _ h => h) (Or.inl ⟨by rfl, ?_⟩) ?_ ?_
                    rotate_left
                    ·intro w'
                     go_simp
                     with_reducible rfl
                    rotate_left
                    ·simp only [Act.put, List.setIfInBounds_toArray, List.set_cons_zero, List.set_cons_succ, i64_w, i32_w]
                     rfl
                    refine pure_ (i := 10) (N := some 95) (v := ?_) (a' := ?_) #[true, true, true, true, true, true, true, true, true, true, true, false, false, false, false, false, false, false, false, false] rfl rfl (any_of HT_.out (by kernel_rfl)) (fun _ _ _ h => h) (Or.inl ⟨by rfl, ?_⟩) ?_ ?_
                    rotate_left
                    ·intro w'
                     go_simp
                     with_reducible rfl
                    rotate_left
                    ·simp only [Act.put, List.setIfInBounds_toArray, List.set_cons_zero, List.set_cons_succ, i64_w, i32_w]
                     rfl
                    refine pure_ (i := 11) (N := some 96) (v := ?_) (a' := ?_) #[true, true, true, true, true, true, true, true, true, true, true, true, false, false, false, false, false, false, false, false] rfl rfl (any_of HT_.out (by kernel_rfl)) (fun _ _ _ h => h) (Or.inl ⟨by rfl, ?_⟩) ?_ ?_
                    rotate_left
                    ·intro w'
                     go_simp
                     with_reducible rfl
                    rotate_left
                    ·simp only [Act.put, List.setIfInBounds_toArray, List.set_cons_zero, List.set_cons_succ, i64_w, i32_w]
                     rfl
                    refine pure_ (i := 12) (N := some 97) (v := ?_) (a' := ?_) #[true, true, true, true, true, true, true, true, true, true, true, true, true, false, false, false, false, false, false, false] rfl rfl (any_of HT_.out (by kernel_rfl)) (fun _ _ _ h => h) (Or.inl ⟨by rfl, ?_⟩) ?_ ?_
                    rotate_left
                    ·intro w'
                     go_simp
                     with_reducible rfl
                    rotate_left
                    ·simp only [Act.put, List.setIfInBounds_toArray, List.set_cons_zero, List.set_cons_succ, i64_w, i32_w]
                     rfl
                    refine take_ (i := 13) (N := some 98) (v := ?_) (a' := ?_) #[true, true, true, true, true, true, true, true, true, true, true, true, true, true, false, false, false, false, false, false] rfl rfl (take_ofW HT_.out HW_.out (by kernel_rfl)) (fun _ _ _ h => h) (Or.inl ⟨by rfl, ?_⟩) hHeld ?_ ?_
                    rotate_left
                    ·rintro w' ⟨s0, s1, s2, s3, s4, s5, s6, s7, s8, s9⟩
                     go_simp
                     with_reducible rfl
                    rotate_left
                    ·simp only [Act.put, List.setIfInBounds_toArray, List.set_cons_zero, List.set_cons_succ, i64_w, i32_w]
                     rfl
                    refine pure_ (i := 14) (N := some 99) (v := ?_) (a' := ?_) #[true, true, true, true, true, true, true, true, true, true, true, true, true, true, true, false, false, false, false, false] rfl rfl (any_of HT_.out (by kernel_rfl)) (fun _ _ _ h => h) (Or.inl ⟨by rfl, ?_⟩) ?_ ?_
                    rotate_left
                    ·intro w'
                     go_simp
                     with_reducible rfl
                    rotate_left
                    ·simp only [Act.put, List.setIfInBounds_toArray, List.set_cons_zero, List.set_cons_succ, i64_w, i32_w]
                     rfl
                    refine pure_ (i := 15) (N := some 100) (v := ?_) (a' := ?_) #[true, true, true, true, true, true, true, true, true, true, true, true, true, true, true, true, false, false, false, false] rfl rfl (any_of HT_.out (by kernel_rfl)) (fun _ _ _ h => h) (Or.inl ⟨by rfl, ?_⟩) ?_ ?_
                    rotate_left
                    ·intro w'
                     go_simp
                     with_reducible rfl
                    rotate_left
                    ·simp only [Act.put, List.setIfInBounds_toArray, List.set_cons_zero, List.set_cons_succ, i64_w, i32_w]
                     rfl
                    refine take_ (i := 16) (N := some 101) (v := ?_) (a' := ?_) #[true, true, true, true, true, true, true, true, true, true, true, true, true, true, true, true, true, false, false, false] rfl rfl (take_ofW HT_.out HW_.out (by kernel_rfl)) (fun _ _ _ h => h) (Or.inl ⟨by rfl, ?_⟩) hHeld ?_ ?_
                    rotate_left
                    ·rintro w' ⟨s0, s1, s2, s3, s4, s5, s6, s7, s8, s9⟩
                     go_simp
                     with_reducible rfl
                    rotate_left
                    ·simp only [Act.put, List.setIfInBounds_toArray, List.set_cons_zero, List.set_cons_succ, i64_w, i32_w]
                     rfl
                    refine take_ (i := 17) (N := some 102) (v := ?_) (a' := ?_) #[true, true, true, true, true, true, true, true, true, true, true, true, true, true, true, true, true, true, false, false] rfl rfl (take_ofW HT_.out HW_.out (by kernel_rfl)) (fun _ _ _ h => h) (Or.inl ⟨by rfl, ?_⟩) hHeld ?_ ?_
                    rotate_left
                    ·rintro w' ⟨s0, s1, s2, s3, s4, s5, s6, s7, s8, s9⟩
                     go_simp
                     with_reducible rfl
                    rotate_left
                    ·simp only [Act.put, List.setIfInBounds_toArray, List.set_cons_zero, List.set_cons_succ, i64_w, i32_w]
                     rfl
                    refine pure_ (i := 18) (N := some 103) (v := ?_) (a' := ?_) #[true, true, true, true, true, true, true, true, true, true, true, true, true, true, true, true, true, true, true, false] rfl rfl (any_of HT_.out (by kernel_rfl)) (fun _ _ _ h => h) (Or.inl ⟨by rfl, ?_⟩) ?_ ?_
                    rotate_left
                    ·intro w'
                     go_simp
                     with_reducible rfl
                    rotate_left
                    ·simp only [Act.put, List.setIfInBounds_toArray, List.set_cons_zero, List.set_cons_succ, i64_w, i32_w]
                     rfl
                    refine pure_ (i := 19) (N := some 104) (v := ?_) (a' := ?_) #[true, true, true, true, true, true, true, true, true, true, true, true, true, true, true, true, true, true, true, true] rfl rfl (any_of HT_.out (by kernel_rfl)) (fun _ _ _ h => h) (Or.inl ⟨by rfl, ?_⟩) ?_ ?_
                    rotate_left
                    ·intro w'
                     go_simp
                     with_reducible rfl
                    rotate_left
                    ·simp only [Act.put, List.setIfInBounds_toArray, List.set_cons_zero, List.set_cons_succ, i64_w, i32_w]
                     rfl
                    refine done_ (done_of HT_.out (by kernel_rfl)) ?_
                    try go_wp2
                    go_meet
                    case rel => exact ⟨_, ((!((((rd_T26 x4_2 (ji64)).f0).toList) == (((rd_T26 t138 x80_3).f0).toList)) || (!(((rd_T26 x4_2 (ji64)).f1) == ((rd_T26 t138 x80_3).f1)) || (!(((rd_T26 x4_2 (ji64)).f2) == ((rd_T26 t138 x80_3).f2)) || (!(((rd_T26 x4_2 (ji64)).f3) == ((rd_T26 t138 x80_3).f3)) || (!((((rd_T26 x4_2 (ji64)).f4).toList) == (((rd_T26 t138 x80_3).f4).toList)))))))), (by first | rfl | (simp; done) | (simp only [← hji64] <;> (first | rfl | simp)) | (rw [prx_ne]; first | done | rfl) | (simp [*]; done)), H', ⟨by have := HJ4.out; have := HK2.out; have := HK3.out; first | omega | exact Nat.le_refl _⟩, ⟨by (with_reducible repeat (first | apply Kd.R_alloc | apply Kd.R_drewN | apply Kd.R_drew)); exact HO_4.out⟩, ⟨by (with_reducible repeat (first | apply Kd.R_alloc | apply Kd.R_drewN | apply Kd.R_drew)); exact HO_7.out⟩, ⟨by (with_reducible repeat (first | apply Kd.R_alloc | apply Kd.R_drewN | apply Kd.R_drew)); exact HO_78.out⟩, ⟨by (with_reducible repeat (first | refine blk_drewN ?_ _ | refine blk_drew ?_ | refine blk_alloc ?_ _)); exact BK142.out⟩, ⟨by repeat (first | (with_reducible first | exact HB.out | apply below_alloc | apply pw_below_drewN | apply below_drew1 | refine below_set ?_ GE142.out) | exact HB.out)⟩⟩
                   ·rw [if_neg c66] at H
                    exact absurd H (by simp)
                  ·rw [if_neg c65] at H
                   exact absurd H (by simp)
               case rest =>
                clear HC55
                try clear p1
                try clear q1
                try clear hx1
                try clear p2
                try clear c5
                try clear c6
                try clear p6
                try clear p12
                try clear q12
                try clear p14
                try clear q14
                try clear hx14
                try clear c52
                try clear c52b0
                try clear c53
                try clear c53b0
                try clear c54
                try clear c54b0
                try clear c58
                try clear c58b0
                try clear c61
                try clear c61b0
                try clear p64
                try clear c65
                try clear c65b0
                try clear c66
                try clear c66b0
                try clear hcz57_0
                try clear hcz57_1
                try clear hcz57_2
                try clear hcz57_3
                try clear hcz57_4
                try clear hfz57_0
                try clear hfz57_1
                try clear hfz57_2
                try clear hfz57_3
                try clear hfz57_4
                try clear hx141_0
                try clear hx141_1
                try clear hx141_2
                try clear hx141_3
                try clear hx141_4
                try clear hx143_0
                try clear hx143_1
                try clear hx143_2
                try clear hx143_3
                try clear hx143_4
                try clear p129
                try clear p141
                try clear p143
                try clear p2
                try clear q1
                try clear q12
                try clear q128
                try clear q129
                try clear q141
                try clear q143
                obtain ⟨kq, x104_54, rfl, HA, HJ54, HO_4, HO_7, HO_78, BK142, HB⟩ := hcut
                cases kq with
                | zero => exact absurd HA.out (by simp [laws_FnSortedAll.j3])
                | succ kj54 =>
                 have H := HA.out
                 clear HA
                 simp only [laws_FnSortedAll.j3] at H
                 by_cases c69 : x104_54 = true
                 ·subst c69
                  have H1 : (some false) = some r := by rw [if_pos rfl] at H; exact H
                  clear H
                  have H := H1
                  clear H1
                  exact absurd ((Option.some.inj H).trans HRT_.out) (by decide)
                 ·replace c69 := Bool.eq_false_iff.mpr c69
                  subst c69
                  have H1 : (if x80_3 > 0 then (if 0 ≤ (wrap64 (x80_3 - 1)) then (if (wrap64 (x80_3 - 1)) < (t138.length : Int) then ((laws_ahead.f ((rd_T26 t138 x80_3).f0) ((rd_T26 t138 x80_3).f1) ((rd_T26 t138 x80_3).f2) ((rd_T26 t138 x80_3).f3) ((rd_T26 t138 x80_3).f4) ((rd_T26 t138 (wrap64 (x80_3 - 1))).f0) ((rd_T26 t138 (wrap64 (x80_3 - 1))).f1) ((rd_T26 t138 (wrap64 (x80_3 - 1))).f2) ((rd_T26 t138 (wrap64 (x80_3 - 1))).f3) ((rd_T26 t138 (wrap64 (x80_3 - 1))).f4)).bind fun t145 => (if t145 = true then (some false) else ((laws_ahead.f ((rd_T26 t138 (wrap64 (x80_3 - 1))).f0) ((rd_T26 t138 (wrap64 (x80_3 - 1))).f1) ((rd_T26 t138 (wrap64 (x80_3 - 1))).f2) ((rd_T26 t138 (wrap64 (x80_3 - 1))).f3) ((rd_T26 t138 (wrap64 (x80_3 - 1))).f4) ((rd_T26 t138 x80_3).f0) ((rd_T26 t138 x80_3).f1) ((rd_T26 t138 x80_3).f2) ((rd_T26 t138 x80_3).f3) ((rd_T26 t138 x80_3).f4)).bind fun t147 => (if t147 = true then (laws_FnSortedAll.l1 kj54 x4_2 t138 t138 (t138.length : Int) (wrap64 (x80_3 + 1))) else (if ((rd_T26 t138 x80_3).f3) ≤ ((rd_T26 t138 (wrap64 (x80_3 - 1))).f3) then (some false) else (laws_FnSortedAll.l1 kj54 x4_2 t138 t138 (t138.length : Int) (wrap64 (x80_3 + 1)))))))) else (none)) else (none)) else (laws_FnSortedAll.l1 kj54 x4_2 t138 t138 (t138.length : Int) (wrap64 (x80_3 + 1)))) = some r := by rw [if_neg (show ¬ (false = true) by decide)] at H; exact H
                  clear H
                  have H := H1
                  clear H1
                  by_cases c70 : x80_3 > 0
                  ·rw [if_pos c70] at H
                   have c70b0 : decide (0 < x80_3) = true := decide_eq_true c70
                   clear c70
                   obtain ⟨ji71, hji71⟩ : ∃ j_ : Int, (wrap64 (x80_3 - 1)) = j_ := ⟨_, rfl⟩
                   replace H : (if 0 ≤ (ji71) then (if (ji71) < (t138.length : Int) then ((laws_ahead.f ((rd_T26 t138 x80_3).f0) ((rd_T26 t138 x80_3).f1) ((rd_T26 t138 x80_3).f2) ((rd_T26 t138 x80_3).f3) ((rd_T26 t138 x80_3).f4) ((rd_T26 t138 (ji71)).f0) ((rd_T26 t138 (ji71)).f1) ((rd_T26 t138 (ji71)).f2) ((rd_T26 t138 (ji71)).f3) ((rd_T26 t138 (ji71)).f4)).bind fun t145 => (if t145 = true then (some false) else ((laws_ahead.f ((rd_T26 t138 (ji71)).f0) ((rd_T26 t138 (ji71)).f1) ((rd_T26 t138 (ji71)).f2) ((rd_T26 t138 (ji71)).f3) ((rd_T26 t138 (ji71)).f4) ((rd_T26 t138 x80_3).f0) ((rd_T26 t138 x80_3).f1) ((rd_T26 t138 x80_3).f2) ((rd_T26 t138 x80_3).f3) ((rd_T26 t138 x80_3).f4)).bind fun t147 => (if t147 = true then (laws_FnSortedAll.l1 kj54 x4_2 t138 t138 (t138.length : Int) (wrap64 (x80_3 + 1))) else (if ((rd_T26 t138 x80_3).f3) ≤ ((rd_T26 t138 (ji71)).f3) then (some false) else (laws_FnSortedAll.l1 kj54 x4_2 t138 t138 (t138.length : Int) (wrap64 (x80_3 + 1)))))))) else (none)) else (none)) = some r := by first | (rw [hji71] at H; exact H) | (simp only [hji71] at H ⊢; exact H)
                   have hji71w : (IntKind.i64.wrap (x80_3 - 1)) = ji71 := (i64_w _).trans hji71
                   by_cases c72 : 0 ≤ (ji71)
                   ·rw [if_pos c72] at H
                    have c72b0 : decide (0 ≤ (ji71)) = true := decide_eq_true c72
                    clear c72
                    by_cases c73 : (ji71) < (t138.length : Int)
                    ·rw [if_pos c73] at H
                     have c73b0 : decide ((ji71) < (t138.length : Int)) = true := decide_eq_true c73
                     clear c73
                     replace H := Option.bind_eq_some_iff.mp H
                     obtain ⟨t145, A740, H⟩ := H
                     replace H : (if t145 = true then (some false) else ((laws_ahead.f ((rd_T26 t138 (ji71)).f0) ((rd_T26 t138 (ji71)).f1) ((rd_T26 t138 (ji71)).f2) ((rd_T26 t138 (ji71)).f3) ((rd_T26 t138 (ji71)).f4) ((rd_T26 t138 x80_3).f0) ((rd_T26 t138 x80_3).f1) ((rd_T26 t138 x80_3).f2) ((rd_T26 t138 x80_3).f3) ((rd_T26 t138 x80_3).f4)).bind fun t147 => (if t147 = true then (laws_FnSortedAll.l1 kj54 x4_2 t138 t138 (t138.length : Int) (wrap64 (x80_3 + 1))) else (if ((rd_T26 t138 x80_3).f3) ≤ ((rd_T26 t138 (ji71)).f3) then (some false) else (laws_FnSortedAll.l1 kj54 x4_2 t138 t138 (t138.length : Int) (wrap64 (x80_3 + 1))))))) = some r := H
                     have A74 := Aside0.mk A740
                     clear A740
                     by_cases c75 : t145 = true
                     ·subst c75
                      have H1 : (some false) = some r := by rw [if_pos rfl] at H; exact H
                      clear H
                      have H := H1
                      clear H1
                      exact absurd ((Option.some.inj H).trans HRT_.out) (by decide)
                     ·replace c75 := Bool.eq_false_iff.mpr c75
                      subst c75
                      have H1 : ((laws_ahead.f ((rd_T26 t138 (ji71)).f0) ((rd_T26 t138 (ji71)).f1) ((rd_T26 t138 (ji71)).f2) ((rd_T26 t138 (ji71)).f3) ((rd_T26 t138 (ji71)).f4) ((rd_T26 t138 x80_3).f0) ((rd_T26 t138 x80_3).f1) ((rd_T26 t138 x80_3).f2) ((rd_T26 t138 x80_3).f3) ((rd_T26 t138 x80_3).f4)).bind fun t147 => (if t147 = true then (laws_FnSortedAll.l1 kj54 x4_2 t138 t138 (t138.length : Int) (wrap64 (x80_3 + 1))) else (if ((rd_T26 t138 x80_3).f3) ≤ ((rd_T26 t138 (ji71)).f3) then (some false) else (laws_FnSortedAll.l1 kj54 x4_2 t138 t138 (t138.length : Int) (wrap64 (x80_3 + 1)))))) = some r := by rw [if_neg (show ¬ (false = true) by decide)] at H; exact H
                      clear H
                      have H := H1
                      clear H1
                      replace H := Option.bind_eq_some_iff.mp H
                      obtain ⟨t147, A780, H⟩ := H
                      replace H : (if t147 = true then (laws_FnSortedAll.l1 kj54 x4_2 t138 t138 (t138.length : Int) (wrap64 (x80_3 + 1))) else (if ((rd_T26 t138 x80_3).f3) ≤ ((rd_T26 t138 (ji71)).f3) then (some false) else (laws_FnSortedAll.l1 kj54 x4_2 t138 t138 (t138.length : Int) (wrap64 (x80_3 + 1))))) = some r := H
                      have A78 := Aside0.mk A780
                      clear A780
                      by_cases c79 : t147 = true
                      ·subst c79
                       have H1 : (laws_FnSortedAll.l1 kj54 x4_2 t138 t138 (t138.length : Int) (wrap64 (x80_3 + 1))) = some r := by rw [if_pos rfl] at H; exact H
                       clear H
                       have H := H1
                       clear H1
                       have H' := Aside0.mk H
                       clear H
                       try go_wp2
                       have n0_ := Aside0.mk (Kd.R_drew HO_4.out)
                       have n1_ := Aside0.mk (Kd.R_drew HO_7.out)
                       have n2_ := Aside0.mk (Kd.R_drew HO_78.out)
                       have n3_ := Aside0.mk (blk_drew BK142.out)
                       have n4_ := Aside0.mk (below_drew1 HB.out)
                       clear HO_4
                       clear HO_7
                       clear HO_78
                       clear BK142
                       clear HB
                       have HO_4 := n0_
                       have HO_7 := n1_
                       have HO_78 := n2_
                       have BK142 := n3_
                       have HB := n4_
                       clear n0_ n1_ n2_ n3_ n4_
                       have p144 : 0 ≤ ((ji71) : Int) := of_decide_eq_true (by first | (with_reducible assumption) | assumption)
                       have q144 : (ji71) < (t138.length : Int) := of_decide_eq_true (by first | (with_reducible assumption) | assumption)
                       obtain ⟨ad144, e144, hx144_0, hx144_1, hx144_2, hx144_3, hx144_4⟩ := at_T26 (Kd.R_reads' HO_7.out).2.2 (ji71) p144 q144
                       obtain rfl : ad141 = ad144 := (by injection e144)
                       replace p144 := eq_true p144
                       replace q144 := eq_true q144
                       have p146 : 0 ≤ ((ji71) : Int) := of_decide_eq_true (by first | (with_reducible assumption) | assumption)
                       have q146 : (ji71) < (t138.length : Int) := of_decide_eq_true (by first | (with_reducible assumption) | assumption)
                       obtain ⟨ad146, e146, hx146_0, hx146_1, hx146_2, hx146_3, hx146_4⟩ := at_T26 (Kd.R_reads' HO_7.out).2.2 (ji71) p146 q146
                       obtain rfl : ad141 = ad146 := (by injection e146)
                       replace p146 := eq_true p146
                       replace q146 := eq_true q146
                       refine start_ (n := 32) (S := fun w' => w'.cell? ⟨gb142, 0, none⟩ = some (.string ((rd_T26 t138 x80_3).f0)) ∧ w'.cell? ⟨gb142, 1, none⟩ = some (.int .i64 ((rd_T26 t138 x80_3).f1)) ∧ w'.cell? ⟨gb142, 2, none⟩ = some (.int .i64 ((rd_T26 t138 x80_3).f2)) ∧ w'.cell? ⟨gb142, 3, none⟩ = some (.int .i64 ((rd_T26 t138 x80_3).f3)) ∧ w'.cell? ⟨gb142, 4, none⟩ = some (.string ((rd_T26 t138 x80_3).f4)) ∧ w'.cell? (ad141.add (((ji71)).toNat * 5)) = some (.string ((rd_T26 t138 (ji71)).f0)) ∧ w'.cell? ⟨(ad141.add (((ji71)).toNat * 5)).block, (ad141.add (((ji71)).toNat * 5)).off + 1, none⟩ = some (.int .i64 ((rd_T26 t138 (ji71)).f1)) ∧ w'.cell? ⟨(ad141.add (((ji71)).toNat * 5)).block, (ad141.add (((ji71)).toNat * 5)).off + 2, none⟩ = some (.int .i64 ((rd_T26 t138 (ji71)).f2)) ∧ w'.cell? ⟨(ad141.add (((ji71)).toNat * 5)).block, (ad141.add (((ji71)).toNat * 5)).off + 3, none⟩ = some (.int .i64 ((rd_T26 t138 (ji71)).f3)) ∧ w'.cell? ⟨(ad141.add (((ji71)).toNat * 5)).block, (ad141.add (((ji71)).toNat * 5)).off + 4, none⟩ = some (.string ((rd_T26 t138 (ji71)).f4)) ∧ w'.cell? (ad141.add (((ji71)).toNat * 5)) = some (.string ((rd_T26 t138 (ji71)).f0)) ∧ w'.cell? ⟨(ad141.add (((ji71)).toNat * 5)).block, (ad141.add (((ji71)).toNat * 5)).off + 1, none⟩ = some (.int .i64 ((rd_T26 t138 (ji71)).f1)) ∧ w'.cell? ⟨(ad141.add (((ji71)).toNat * 5)).block, (ad141.add (((ji71)).toNat * 5)).off + 2, none⟩ = some (.int .i64 ((rd_T26 t138 (ji71)).f2)) ∧ w'.cell? ⟨(ad141.add (((ji71)).toNat * 5)).block, (ad141.add (((ji71)).toNat * 5)).off + 3, none⟩ = some (.int .i64 ((rd_T26 t138 (ji71)).f3)) ∧ w'.cell? ⟨(ad141.add (((ji71)).toNat * 5)).block, (ad141.add (((ji71)).toNat * 5)).off + 4, none⟩ = some (.string ((rd_T26 t138 (ji71)).f4))) (ds := []) #[false, false, false, false, false, false, false, false, false, false, false, false, false, false, false, false, false, false, false, false, false, false, false, false, false, false, false, false, false, false, false, false] (by kernel_rfl) rfl rfl ⟨(blk_cell BK142.out 0).trans rfl, (blk_cell BK142.out 1).trans rfl, (blk_cell BK142.out 2).trans rfl, (blk_cell BK142.out 3).trans rfl, (blk_cell BK142.out 4).trans rfl, hx144_0, hx144_1, hx144_2, hx144_3, hx144_4, hx146_0, hx146_1, hx146_2, hx146_3, hx146_4⟩ (fun hHeld => ?_); refine with_tabW laws_FnSortedAll.tab25 laws_FnSortedAll.bits25 (fun HT_ HW_ => ?_)
                       generalize wc.drew = w80 at HO_4 HO_7 HO_78 BK142 HB hx144_0 hx144_1 hx144_2 hx144_3 hx144_4 hx146_0 hx146_1 hx146_2 hx146_3 hx146_4 hHeld ⊢
                       refine pure_ (i := 0) (N := some 105) (v := ?_) (a' := ?_) #[true, false, false, false, false, false, false, false, false, false, false, false, false, false, false, false, false, false, false, false, false, false, false, false, false, false, false, false, false, false, false, false] rfl rfl (any_of HT_.out (by kernel_rfl)) (fun _ _ _ h => h) (Or.inl ⟨by rfl, ?_⟩) ?_ ?_
                       rotate_left
                       ·intro w'
                        go_simp
                        with_reducible rfl
                       rotate_left
                       ·simp only [Act.put, List.setIfInBounds_toArray, List.set_cons_zero, List.set_cons_succ, i64_w, i32_w]
                        rfl
                       refine pure_ (i := 1) (N := some 106) (v := ?_) (a' := ?_) #[true, true, false, false, false, false, false, false, false, false, false, false, false, false, false, false, false, false, false, false, false, false, false, false, false, false, false, false, false, false, false, false] rfl rfl (any_of HT_.out (by kernel_rfl)) (fun _ _ _ h => h) (Or.inl ⟨by rfl, ?_⟩) ?_ ?_
                       rotate_left
                       ·intro w'
                        go_simp
                        with_reducible rfl
                       rotate_left
                       ·simp only [Act.put, List.setIfInBounds_toArray, List.set_cons_zero, List.set_cons_succ, i64_w, i32_w]
                        rfl
                       refine pure_ (i := 2) (N := some 107) (v := ?_) (a' := ?_) #[true, true, true, false, false, false, false, false, false, false, false, false, false, false, false, false, false, false, false, false, false, false, false, false, false, false, false, false, false, false, false, false] rfl rfl (any_of HT_.out (by kernel_rfl)) (fun _ _ _ h => h) (Or.inl ⟨by rfl, ?_⟩) ?_ ?_
                       rotate_left
                       ·intro w'
                        go_simp
                        with_reducible rfl
                       rotate_left
                       ·simp only [Act.put, List.setIfInBounds_toArray, List.set_cons_zero, List.set_cons_succ, i64_w, i32_w]
                        rfl
                       refine pure_ (i := 4) (N := some 109) (v := ?_) (a' := ?_) #[true, true, true, false, true, false, false, false, false, false, false, false, false, false, false, false, false, false, false, false, false, false, false, false, false, false, false, false, false, false, false, false] rfl rfl (any_of HT_.out (by kernel_rfl)) (fun _ _ _ h => h) (Or.inl ⟨by rfl, ?_⟩) ?_ ?_
                       rotate_left
                       ·intro w'
                        go_simp
                        with_reducible rfl
                       rotate_left
                       ·simp only [Act.put, List.setIfInBounds_toArray, List.set_cons_zero, List.set_cons_succ, i64_w, i32_w]
                        rfl
                       refine pure_ (i := 5) (N := some 110) (v := ?_) (a' := ?_) #[true, true, true, false, true, true, false, false, false, false, false, false, false, false, false, false, false, false, false, false, false, false, false, false, false, false, false, false, false, false, false, false] rfl rfl (any_of HT_.out (by kernel_rfl)) (fun _ _ _ h => h) (Or.inl ⟨by rfl, ?_⟩) ?_ ?_
                       rotate_left
                       ·intro w'
                        go_simp
                        with_reducible rfl
                       rotate_left
                       ·simp only [Act.put, List.setIfInBounds_toArray, List.set_cons_zero, List.set_cons_succ, i64_w, i32_w]
                        rfl
                       refine pure_ (i := 6) (N := some 111) (v := ?_) (a' := ?_) #[true, true, true, false, true, true, true, false, false, false, false, false, false, false, false, false, false, false, false, false, false, false, false, false, false, false, false, false, false, false, false, false] rfl rfl (any_of HT_.out (by kernel_rfl)) (fun _ _ _ h => h) (Or.inl ⟨by rfl, ?_⟩) ?_ ?_
                       rotate_left
                       ·intro w'
                        go_simp
                        with_reducible rfl
                       rotate_left
                       ·simp only [Act.put, List.setIfInBounds_toArray, List.set_cons_zero, List.set_cons_succ, i64_w, i32_w]
                        rfl
                       refine pure_ (i := 7) (N := some 112) (v := ?_) (a' := ?_) #[true, true, true, false, true, true, true, true, false, false, false, false, false, false, false, false, false, false, false, false, false, false, false, false, false, false, false, false, false, false, false, false] rfl rfl (any_of HT_.out (by kernel_rfl)) (fun _ _ _ h => h) (Or.inl ⟨by rfl, ?_⟩) ?_ ?_
                       rotate_left
                       ·intro w'
                        go_simp
                        with_reducible rfl
                       rotate_left
                       ·simp only [Act.put, List.setIfInBounds_toArray, List.set_cons_zero, List.set_cons_succ, i64_w, i32_w]
                        rfl
                       refine take_ (i := 3) (N := some 108) (v := ?_) (a' := ?_) #[true, true, true, true, true, true, true, true, false, false, false, false, false, false, false, false, false, false, false, false, false, false, false, false, false, false, false, false, false, false, false, false] rfl rfl (take_ofW HT_.out HW_.out (by kernel_rfl)) (fun _ _ _ h => h) (Or.inl ⟨by rfl, ?_⟩) hHeld ?_ ?_
                       rotate_left
                       ·rintro w' ⟨s0, s1, s2, s3, s4, s5, s6, s7, s8, s9, s10, s11, s12, s13, s14⟩
                        go_simp
                        with_reducible rfl
                       rotate_left
                       ·simp only [Act.put, List.setIfInBounds_toArray, List.set_cons_zero, List.set_cons_succ, i64_w, i32_w]
                        rfl
                       refine take_ (i := 8) (N := some 113) (v := ?_) (a' := ?_) #[true, true, true, true, true, true, true, true, true, false, false, false, false, false, false, false, false, false, false, false, false, false, false, false, false, false, false, false, false, false, false, false] rfl rfl (take_ofW HT_.out HW_.out (by kernel_rfl)) (fun _ _ _ h => h) (Or.inl ⟨by rfl, ?_⟩) hHeld ?_ ?_
                       rotate_left
                       ·rintro w' ⟨s0, s1, s2, s3, s4, s5, s6, s7, s8, s9, s10, s11, s12, s13, s14⟩
                        go_simp
                        with_reducible rfl
                       rotate_left
                       ·simp only [Act.put, List.setIfInBounds_toArray, List.set_cons_zero, List.set_cons_succ, i64_w, i32_w]
                        rfl
                       refine one_ (i := 9) (N := some 114) #[true, true, true, true, true, true, true, true, true, true, false, false, false, false, false, false, false, false, false, false, false, false, false, false, false, false, false, false, false, false, false, false] rfl rfl (one_of HT_.out (by kernel_rfl)) (by decide) (fun K hK => ?_)
                       refine goes_ Try.func16 (by kernel_rfl) rfl #[.agg #[.string ((rd_T26 t138 x80_3).f0), .int .i64 ((rd_T26 t138 x80_3).f1), .int .i64 ((rd_T26 t138 x80_3).f2), .int .i64 ((rd_T26 t138 x80_3).f3), .string ((rd_T26 t138 x80_3).f4)], .agg #[.string ((rd_T26 t138 (ji71)).f0), .int .i64 ((rd_T26 t138 (ji71)).f1), .int .i64 ((rd_T26 t138 (ji71)).f2), .int .i64 ((rd_T26 t138 (ji71)).f3), .string ((rd_T26 t138 (ji71)).f4)]] (by rfl) rfl rfl (by (try simp only [List.map_toArray, List.map_cons, List.map_nil]); first | done | (simp only [hji71]; rfl) | rfl | (simp only [List.length_drop, List.length_take]; rfl)) ?_
                       with_reducible refine (laws_ahead.calls ((rd_T26 t138 x80_3).f0) ((rd_T26 t138 x80_3).f1) ((rd_T26 t138 x80_3).f2) ((rd_T26 t138 x80_3).f3) ((rd_T26 t138 x80_3).f4) ((rd_T26 t138 (ji71)).f0) ((rd_T26 t138 (ji71)).f1) ((rd_T26 t138 (ji71)).f2) ((rd_T26 t138 (ji71)).f3) ((rd_T26 t138 (ji71)).f4) false _ A74.out).mono ?_
                       rintro e w81 ⟨rfl, hb⟩
                       have HS5_ := (hb.cell (World.block_lt_of_cell? _ _ (hHeld.2.2.2.2.2.1))).trans (hHeld.2.2.2.2.2.1)
                       have HS6_ := (hb.cell (World.block_lt_of_cell? _ _ (hHeld.2.2.2.2.2.2.1))).trans (hHeld.2.2.2.2.2.2.1)
                       have HS7_ := (hb.cell (World.block_lt_of_cell? _ _ (hHeld.2.2.2.2.2.2.2.1))).trans (hHeld.2.2.2.2.2.2.2.1)
                       have HS8_ := (hb.cell (World.block_lt_of_cell? _ _ (hHeld.2.2.2.2.2.2.2.2.1))).trans (hHeld.2.2.2.2.2.2.2.2.1)
                       have HS9_ := (hb.cell (World.block_lt_of_cell? _ _ (hHeld.2.2.2.2.2.2.2.2.2.1))).trans (hHeld.2.2.2.2.2.2.2.2.2.1)
                       have HS10_ := (hb.cell (World.block_lt_of_cell? _ _ (hHeld.2.2.2.2.2.2.2.2.2.2.1))).trans (hHeld.2.2.2.2.2.2.2.2.2.2.1)
                       have HS11_ := (hb.cell (World.block_lt_of_cell? _ _ (hHeld.2.2.2.2.2.2.2.2.2.2.2.1))).trans (hHeld.2.2.2.2.2.2.2.2.2.2.2.1)
                       have HS12_ := (hb.cell (World.block_lt_of_cell? _ _ (hHeld.2.2.2.2.2.2.2.2.2.2.2.2.1))).trans (hHeld.2.2.2.2.2.2.2.2.2.2.2.2.1)
                       have HS13_ := (hb.cell (World.block_lt_of_cell? _ _ (hHeld.2.2.2.2.2.2.2.2.2.2.2.2.2.1))).trans (hHeld.2.2.2.2.2.2.2.2.2.2.2.2.2.1)
                       have HS14_ := (hb.cell (World.block_lt_of_cell? _ _ (hHeld.2.2.2.2.2.2.2.2.2.2.2.2.2.2))).trans (hHeld.2.2.2.2.2.2.2.2.2.2.2.2.2.2)
                       refine ⟨_, rfl, ?_⟩
                       have n0_ := Aside0.mk (Kd.R_below (by (with_reducible repeat (first | apply Kd.R_alloc | apply Kd.R_drewN | apply Kd.R_drew)); exact HO_4.out) hb)
                       have n1_ := Aside0.mk (Kd.R_below (by (with_reducible repeat (first | apply Kd.R_alloc | apply Kd.R_drewN | apply Kd.R_drew)); exact HO_7.out) hb)
                       have n2_ := Aside0.mk (Kd.R_below (by (with_reducible repeat (first | apply Kd.R_alloc | apply Kd.R_drewN | apply Kd.R_drew)); exact HO_78.out) hb)
                       have n3_ := Aside0.mk (blk_below (g := gb142) (o := .cells #[.string ((rd_T26 t138 x80_3).f0), .int .i64 ((rd_T26 t138 x80_3).f1), .int .i64 ((rd_T26 t138 x80_3).f2), .int .i64 ((rd_T26 t138 x80_3).f3), .string ((rd_T26 t138 x80_3).f4)] 26 (0, 0)) (by (with_reducible repeat (first | refine blk_drewN ?_ _ | refine blk_drew ?_ | refine blk_alloc ?_ _)); exact BK142.out) hb)
                       have n4_ := Aside0.mk (below_step (by repeat (first | (with_reducible first | exact HB.out | apply below_alloc | apply pw_below_drewN | apply below_drew1 | refine below_set ?_ GE142.out) | exact HB.out)) hb)
                       clear HO_4
                       clear HO_7
                       clear HO_78
                       clear BK142
                       clear HB
                       have HO_4 := n0_
                       have HO_7 := n1_
                       have HO_78 := n2_
                       have BK142 := n3_
                       have HB := n4_
                       clear n0_ n1_ n2_ n3_ n4_
                       (try clear hb)
                       (try clear hb2)
                       (try clear hk)
                       (try clear hi)
                       refine hK.out _ _ ⟨(blk_cell BK142.out 0).trans rfl, (blk_cell BK142.out 1).trans rfl, (blk_cell BK142.out 2).trans rfl, (blk_cell BK142.out 3).trans rfl, (blk_cell BK142.out 4).trans rfl, HS5_, HS6_, HS7_, HS8_, HS9_, HS10_, HS11_, HS12_, HS13_, HS14_⟩ (fun hHeld => ?_)
                       clear hK K
                       refine norm_ (a' := ?_) ?_ ?_
                       rotate_left
                       ·show Act.put _ (some 114) _ = _
                        simp only [Act.put, List.setIfInBounds_toArray, List.set_cons_zero, List.set_cons_succ, i64_w, i32_w]
                        rfl
                       refine pure_ (i := 10) (N := some 115) (v := ?_) (a' := ?_) #[true, true, true, true, true, true, true, true, true, true, true, false, false, false, false, false, false, false, false, false, false, false, false, false, false, false, false, false, false, false, false, false] rfl rfl (any_of HT_.out (by kernel_rfl)) (fun _ _ _ h => h) (Or.inl ⟨by rfl, ?_⟩) ?_ ?_
                       rotate_left
                       ·intro w'
                        go_simp
                        with_reducible rfl
                       rotate_left
                       ·simp only [Act.put, List.setIfInBounds_toArray, List.set_cons_zero, List.set_cons_succ, i64_w, i32_w]
                        rfl
                       refine pure_ (i := 11) (N := some 116) (v := ?_) (a' := ?_) #[true, true, true, true, true, true, true, true, true, true, true, true, false, false, false, false, false, false, false, false, false, false, false, false, false, false, false, false, false, false, false, false] rfl rfl (any_of HT_.out (by kernel_rfl)) (fun _ _ _ h => h) (Or.inl ⟨by rfl, ?_⟩) ?_ ?_
                       rotate_left
                       ·intro w'
                        go_simp
                        with_reducible rfl
                       rotate_left
                       ·simp only [Act.put, List.setIfInBounds_toArray, List.set_cons_zero, List.set_cons_succ, i64_w, i32_w]
                        rfl
                       refine pure_ (i := 12) (N := some 117) (v := ?_) (a' := ?_) #[true, true, true, true, true, true, true, true, true, true, true, true, true, false, false, false, false, false, false, false, false, false, false, false, false, false, false, false, false, false, false, false] rfl rfl (any_of HT_.out (by kernel_rfl)) (fun _ _ _ h => h) (Or.inl ⟨by rfl, ?_⟩) ?_ ?_
                       rotate_left
                       ·intro w'
                        go_simp
                        with_reducible rfl
                       rotate_left
                       ·simp only [Act.put, List.setIfInBounds_toArray, List.set_cons_zero, List.set_cons_succ, i64_w, i32_w]
                        rfl
                       refine pure_ (i := 13) (N := some 118) (v := ?_) (a' := ?_) #[true, true, true, true, true, true, true, true, true, true, true, true, true, true, false, false, false, false, false, false, false, false, false, false, false, false, false, false, false, false, false, false] rfl rfl (any_of HT_.out (by kernel_rfl)) (fun _ _ _ h => h) (Or.inl ⟨by rfl, ?_⟩) ?_ ?_
                       rotate_left
                       ·intro w'
                        go_simp
                        with_reducible rfl
                       rotate_left
                       ·simp only [Act.put, List.setIfInBounds_toArray, List.set_cons_zero, List.set_cons_succ, i64_w, i32_w]
                        rfl
                       refine pure_ (i := 14) (N := some 119) (v := ?_) (a' := ?_) #[true, true, true, true, true, true, true, true, true, true, true, true, true, true, true, false, false, false, false, false, false, false, false, false, false, false, false, false, false, false, false, false] rfl rfl (any_of HT_.out (by kernel_rfl)) (fun _ _ _ h => h) (Or.inl ⟨by rfl, ?_⟩) ?_ ?_
                       rotate_left
                       ·intro w'
                        go_simp
                        with_reducible rfl
                       rotate_left
                       ·simp only [Act.put, List.setIfInBounds_toArray, List.set_cons_zero, List.set_cons_succ, i64_w, i32_w]
                        rfl
                       refine take_ (i := 15) (N := some 120) (v := ?_) (a' := ?_) #[true, true, true, true, true, true, true, true, true, true, true, true, true, true, true, true, false, false, false, false, false, false, false, false, false, false, false, false, false, false, false, false] rfl rfl (take_ofW HT_.out HW_.out (by kernel_rfl)) (fun _ _ _ h => h) (Or.inl ⟨by rfl, ?_⟩) hHeld ?_ ?_
                       rotate_left
                       ·rintro w' ⟨s0, s1, s2, s3, s4, s5, s6, s7, s8, s9, s10, s11, s12, s13, s14⟩
                        go_simp
                        with_reducible rfl
                       rotate_left
                       ·simp only [Act.put, List.setIfInBounds_toArray, List.set_cons_zero, List.set_cons_succ, i64_w, i32_w]
                        rfl
                       refine take_ (i := 16) (N := some 121) (v := ?_) (a' := ?_) #[true, true, true, true, true, true, true, true, true, true, true, true, true, true, true, true, true, false, false, false, false, false, false, false, false, false, false, false, false, false, false, false] rfl rfl (take_ofW HT_.out HW_.out (by kernel_rfl)) (fun _ _ _ h => h) (Or.inl ⟨by rfl, ?_⟩) hHeld ?_ ?_
                       rotate_left
                       ·rintro w' ⟨s0, s1, s2, s3, s4, s5, s6, s7, s8, s9, s10, s11, s12, s13, s14⟩
                        go_simp
                        with_reducible rfl
                       rotate_left
                       ·simp only [Act.put, List.setIfInBounds_toArray, List.set_cons_zero, List.set_cons_succ, i64_w, i32_w]
                        rfl
                       refine one_ (i := 17) (N := some 122) #[true, true, true, true, true, true, true, true, true, true, true, true, true, true, true, true, true, true, false, false, false, false, false, false, false, false, false, false, false, false, false, false] rfl rfl (one_of HT_.out (by kernel_rfl)) (by decide) (fun K hK => ?_)
                       refine goes_ Try.func16 (by kernel_rfl) rfl #[.agg #[.string ((rd_T26 t138 (ji71)).f0), .int .i64 ((rd_T26 t138 (ji71)).f1), .int .i64 ((rd_T26 t138 (ji71)).f2), .int .i64 ((rd_T26 t138 (ji71)).f3), .string ((rd_T26 t138 (ji71)).f4)], .agg #[.string ((rd_T26 t138 x80_3).f0), .int .i64 ((rd_T26 t138 x80_3).f1), .int .i64 ((rd_T26 t138 x80_3).f2), .int .i64 ((rd_T26 t138 x80_3).f3), .string ((rd_T26 t138 x80_3).f4)]] (by rfl) rfl rfl (by (try simp only [List.map_toArray, List.map_cons, List.map_nil]); first | done | (simp only [hji71]; rfl) | rfl | (simp only [List.length_drop, List.length_take]; rfl)) ?_
                       with_reducible refine (laws_ahead.calls ((rd_T26 t138 (ji71)).f0) ((rd_T26 t138 (ji71)).f1) ((rd_T26 t138 (ji71)).f2) ((rd_T26 t138 (ji71)).f3) ((rd_T26 t138 (ji71)).f4) ((rd_T26 t138 x80_3).f0) ((rd_T26 t138 x80_3).f1) ((rd_T26 t138 x80_3).f2) ((rd_T26 t138 x80_3).f3) ((rd_T26 t138 x80_3).f4) true _ A78.out).mono ?_
                       rintro e w82 ⟨rfl, hb⟩
                       have HS5_ := (hb.cell (World.block_lt_of_cell? _ _ (hHeld.2.2.2.2.2.1))).trans (hHeld.2.2.2.2.2.1)
                       have HS6_ := (hb.cell (World.block_lt_of_cell? _ _ (hHeld.2.2.2.2.2.2.1))).trans (hHeld.2.2.2.2.2.2.1)
                       have HS7_ := (hb.cell (World.block_lt_of_cell? _ _ (hHeld.2.2.2.2.2.2.2.1))).trans (hHeld.2.2.2.2.2.2.2.1)
                       have HS8_ := (hb.cell (World.block_lt_of_cell? _ _ (hHeld.2.2.2.2.2.2.2.2.1))).trans (hHeld.2.2.2.2.2.2.2.2.1)
                       have HS9_ := (hb.cell (World.block_lt_of_cell? _ _ (hHeld.2.2.2.2.2.2.2.2.2.1))).trans (hHeld.2.2.2.2.2.2.2.2.2.1)
                       have HS10_ := (hb.cell (World.block_lt_of_cell? _ _ (hHeld.2.2.2.2.2.2.2.2.2.2.1))).trans (hHeld.2.2.2.2.2.2.2.2.2.2.1)
                       have HS11_ := (hb.cell (World.block_lt_of_cell? _ _ (hHeld.2.2.2.2.2.2.2.2.2.2.2.1))).trans (hHeld.2.2.2.2.2.2.2.2.2.2.2.1)
                       have HS12_ := (hb.cell (World.block_lt_of_cell? _ _ (hHeld.2.2.2.2.2.2.2.2.2.2.2.2.1))).trans (hHeld.2.2.2.2.2.2.2.2.2.2.2.2.1)
                       have HS13_ := (hb.cell (World.block_lt_of_cell? _ _ (hHeld.2.2.2.2.2.2.2.2.2.2.2.2.2.1))).trans (hHeld.2.2.2.2.2.2.2.2.2.2.2.2.2.1)
                       have HS14_ := (hb.cell (World.block_lt_of_cell? _ _ (hHeld.2.2.2.2.2.2.2.2.2.2.2.2.2.2))).trans (hHeld.2.2.2.2.2.2.2.2.2.2.2.2.2.2)
                       refine ⟨_, rfl, ?_⟩
                       have n0_ := Aside0.mk (Kd.R_below (by (with_reducible repeat (first | apply Kd.R_alloc | apply Kd.R_drewN | apply Kd.R_drew)); exact HO_4.out) hb)
                       have n1_ := Aside0.mk (Kd.R_below (by (with_reducible repeat (first | apply Kd.R_alloc | apply Kd.R_drewN | apply Kd.R_drew)); exact HO_7.out) hb)
                       have n2_ := Aside0.mk (Kd.R_below (by (with_reducible repeat (first | apply Kd.R_alloc | apply Kd.R_drewN | apply Kd.R_drew)); exact HO_78.out) hb)
                       have n3_ := Aside0.mk (blk_below (g := gb142) (o := .cells #[.string ((rd_T26 t138 x80_3).f0), .int .i64 ((rd_T26 t138 x80_3).f1), .int .i64 ((rd_T26 t138 x80_3).f2), .int .i64 ((rd_T26 t138 x80_3).f3), .string ((rd_T26 t138 x80_3).f4)] 26 (0, 0)) (by (with_reducible repeat (first | refine blk_drewN ?_ _ | refine blk_drew ?_ | refine blk_alloc ?_ _)); exact BK142.out) hb)
                       have n4_ := Aside0.mk (below_step (by repeat (first | (with_reducible first | exact HB.out | apply below_alloc | apply pw_below_drewN | apply below_drew1 | refine below_set ?_ GE142.out) | exact HB.out)) hb)
                       clear HO_4
                       clear HO_7
                       clear HO_78
                       clear BK142
                       clear HB
                       have HO_4 := n0_
                       have HO_7 := n1_
                       have HO_78 := n2_
                       have BK142 := n3_
                       have HB := n4_
                       clear n0_ n1_ n2_ n3_ n4_
                       (try clear hb)
                       (try clear hb2)
                       (try clear hk)
                       (try clear hi)
                       refine hK.out _ _ ⟨(blk_cell BK142.out 0).trans rfl, (blk_cell BK142.out 1).trans rfl, (blk_cell BK142.out 2).trans rfl, (blk_cell BK142.out 3).trans rfl, (blk_cell BK142.out 4).trans rfl, HS5_, HS6_, HS7_, HS8_, HS9_, HS10_, HS11_, HS12_, HS13_, HS14_⟩ (fun hHeld => ?_)
                       clear hK K
                       refine norm_ (a' := ?_) ?_ ?_
                       rotate_left
                       ·show Act.put _ (some 122) _ = _
                        simp only [Act.put, List.setIfInBounds_toArray, List.set_cons_zero, List.set_cons_succ, i64_w, i32_w]
                        rfl
                       refine pure_ (i := 18) (N := some 123) (v := ?_) (a' := ?_) #[true, true, true, true, true, true, true, true, true, true, true, true, true, true, true, true, true, true, true, false, false, false, false, false, false, false, false, false, false, false, false, false] rfl rfl (any_of HT_.out (by kernel_rfl)) (fun _ _ _ h => h) (Or.inl ⟨by rfl, ?_⟩) ?_ ?_
                       rotate_left
                       ·intro w'
                        go_simp
                        with_reducible rfl
                       rotate_left
                       ·simp only [Act.put, List.setIfInBounds_toArray, List.set_cons_zero, List.set_cons_succ, i64_w, i32_w]
                        rfl
                       refine pure_ (i := 19) (N := some 124) (v := ?_) (a' := ?_) #[true, true, true, true, true, true, true, true, true, true, true, true, true, true, true, true, true, true, true, true, false, false, false, false, false, false, false, false, false, false, false, false] rfl rfl (any_of HT_.out (by kernel_rfl)) (fun _ _ _ h => h) (Or.inl ⟨by rfl, ?_⟩) ?_ ?_
                       rotate_left
                       ·intro w'
                        go_simp
                        with_reducible rfl
                       rotate_left
                       ·simp only [Act.put, List.setIfInBounds_toArray, List.set_cons_zero, List.set_cons_succ, i64_w, i32_w]
                        rfl
                       refine pure_ (i := 20) (N := some 125) (v := undef) (a' := ?_) #[true, true, true, true, true, true, true, true, true, true, true, true, true, true, true, true, true, true, true, true, true, false, false, false, false, false, false, false, false, false, false, false] rfl rfl (any_of HT_.out (by kernel_rfl)) (fun _ _ _ h => h) (Or.inr ⟨by rfl, rfl⟩) ?_ ?_
                       rotate_left
                       ·simp only [Act.put, List.setIfInBounds_toArray, List.set_cons_zero, List.set_cons_succ, i64_w, i32_w]
                        rfl
                       refine pure_ (i := 21) (N := some 126) (v := undef) (a' := ?_) #[true, true, true, true, true, true, true, true, true, true, true, true, true, true, true, true, true, true, true, true, true, true, false, false, false, false, false, false, false, false, false, false] rfl rfl (any_of HT_.out (by kernel_rfl)) (fun _ _ _ h => h) (Or.inr ⟨by rfl, rfl⟩) ?_ ?_
                       rotate_left
                       ·simp only [Act.put, List.setIfInBounds_toArray, List.set_cons_zero, List.set_cons_succ, i64_w, i32_w]
                        rfl
                       refine pure_ (i := 22) (N := some 127) (v := undef) (a' := ?_) #[true, true, true, true, true, true, true, true, true, true, true, true, true, true, true, true, true, true, true, true, true, true, true, false, false, false, false, false, false, false, false, false] rfl rfl (any_of HT_.out (by kernel_rfl)) (fun _ _ _ h => h) (Or.inr ⟨by rfl, rfl⟩) ?_ ?_
                       rotate_left
                       ·simp only [Act.put, List.setIfInBounds_toArray, List.set_cons_zero, List.set_cons_succ, i64_w, i32_w]
                        rfl
                       refine pure_ (i := 23) (N := some 128) (v := undef) (a' := ?_) #[true, true, true, true, true, true, true, true, true, true, true, true, true, true, true, true, true, true, true, true, true, true, true, true, false, false, false, false, false, false, false, false] rfl rfl (any_of HT_.out (by kernel_rfl)) (fun _ _ _ h => h) (Or.inr ⟨by rfl, rfl⟩) ?_ ?_
                       rotate_left
                       ·simp only [Act.put, List.setIfInBounds_toArray, List.set_cons_zero, List.set_cons_succ, i64_w, i32_w]
                        rfl
                       refine pure_ (i := 24) (N := some 129) (v := undef) (a' := ?_) #[true, true, true, true, true, true, true, true, true, true, true, true, true, true, true, true, true, true, true, true, true, true, true, true, true, false, false, false, false, false, false, false] rfl rfl (any_of HT_.out (by kernel_rfl)) (fun _ _ _ h => h) (Or.inr ⟨by rfl, rfl⟩) ?_ ?_
                       rotate_left
                       ·simp only [Act.put, List.setIfInBounds_toArray, List.set_cons_zero, List.set_cons_succ, i64_w, i32_w]
                        rfl
                       refine pure_ (i := 25) (N := some 130) (v := undef) (a' := ?_) #[true, true, true, true, true, true, true, true, true, true, true, true, true, true, true, true, true, true, true, true, true, true, true, true, true, true, false, false, false, false, false, false] rfl rfl (any_of HT_.out (by kernel_rfl)) (fun _ _ _ h => h) (Or.inr ⟨by rfl, rfl⟩) ?_ ?_
                       rotate_left
                       ·simp only [Act.put, List.setIfInBounds_toArray, List.set_cons_zero, List.set_cons_succ, i64_w, i32_w]
                        rfl
                       refine pure_ (i := 26) (N := some 131) (v := undef) (a' := ?_) #[true, true, true, true, true, true, true, true, true, true, true, true, true, true, true, true, true, true, true, true, true, true, true, true, true, true, true, false, false, false, false, false] rfl rfl (any_of HT_.out (by kernel_rfl)) (fun _ _ _ h => h) (Or.inr ⟨by rfl, rfl⟩) ?_ ?_
                       rotate_left
                       ·simp only [Act.put, List.setIfInBounds_toArray, List.set_cons_zero, List.set_cons_succ, i64_w, i32_w]
                        rfl
                       refine pure_ (i := 27) (N := some 132) (v := undef) (a' := ?_) #[true, true, true, true, true, true, true, true, true, true, true, true, true, true, true, true, true, true, true, true, true, true, true, true, true, true, true, true, false, false, false, false] rfl rfl (any_of HT_.out (by kernel_rfl)) (fun _ _ _ h => h) (Or.inr ⟨by rfl, rfl⟩) ?_ ?_
                       rotate_left
                       ·simp only [Act.put, List.setIfInBounds_toArray, List.set_cons_zero, List.set_cons_succ, i64_w, i32_w]
                        rfl
                       refine pure_ (i := 28) (N := some 133) (v := undef) (a' := ?_) #[true, true, true, true, true, true, true, true, true, true, true, true, true, true, true, true, true, true, true, true, true, true, true, true, true, true, true, true, true, false, false, false] rfl rfl (any_of HT_.out (by kernel_rfl)) (fun _ _ _ h => h) (Or.inr ⟨by rfl, rfl⟩) ?_ ?_
                       rotate_left
                       ·simp only [Act.put, List.setIfInBounds_toArray, List.set_cons_zero, List.set_cons_succ, i64_w, i32_w]
                        rfl
                       refine pure_ (i := 29) (N := some 134) (v := ?_) (a' := ?_) #[true, true, true, true, true, true, true, true, true, true, true, true, true, true, true, true, true, true, true, true, true, true, true, true, true, true, true, true, true, true, false, false] rfl rfl (any_of HT_.out (by kernel_rfl)) (fun _ _ _ h => h) (Or.inl ⟨by rfl, ?_⟩) ?_ ?_
                       rotate_left
                       ·intro w'
                        go_simp
                        with_reducible rfl
                       rotate_left
                       ·simp only [Act.put, List.setIfInBounds_toArray, List.set_cons_zero, List.set_cons_succ, i64_w, i32_w]
                        rfl
                       refine pure_ (i := 30) (N := some 135) (v := ?_) (a' := ?_) #[true, true, true, true, true, true, true, true, true, true, true, true, true, true, true, true, true, true, true, true, true, true, true, true, true, true, true, true, true, true, true, false] rfl rfl (any_of HT_.out (by kernel_rfl)) (fun _ _ _ h => h) (Or.inl ⟨by rfl, ?_⟩) ?_ ?_
                       rotate_left
                       ·intro w'
                        go_simp
                        with_reducible rfl
                       rotate_left
                       ·simp only [Act.put, List.setIfInBounds_toArray, List.set_cons_zero, List.set_cons_succ, i64_w, i32_w]
                        rfl
                       refine pure_ (i := 31) (N := some 136) (v := ?_) (a' := ?_) #[true, true, true, true, true, true, true, true, true, true, true, true, true, true, true, true, true, true, true, true, true, true, true, true, true, true, true, true, true, true, true, true] rfl rfl (any_of HT_.out (by kernel_rfl)) (fun _ _ _ h => h) (Or.inl ⟨by rfl, ?_⟩) ?_ ?_
                       rotate_left
                       ·intro w'
                        go_simp
                        with_reducible rfl
                       rotate_left
                       ·simp only [Act.put, List.setIfInBounds_toArray, List.set_cons_zero, List.set_cons_succ, i64_w, i32_w]
                        rfl
                       refine done_ (done_of HT_.out (by kernel_rfl)) ?_
                       try go_wp2
                       go_roundg kj54
                       case measure => have := HJ4.out; have := HK2.out; have := HK3.out; have := HJ54.out; omega
                       case rel => exact ⟨(wrap64 (x80_3 + 1)), (by first | rfl | (simp; done) | (rw [prx_ne]; first | done | rfl) | (simp [*]; done)), H', ⟨by have := HJ4.out; have := HK2.out; have := HK3.out; have := HJ54.out; omega⟩, ⟨by (with_reducible repeat (first | apply Kd.R_alloc | apply Kd.R_drewN | apply Kd.R_drew)); exact Kd.R_mono HO_4.out (fun _ hk => ⟨hk.1, hk.2.1⟩)⟩, ⟨by (with_reducible repeat (first | apply Kd.R_alloc | apply Kd.R_drewN | apply Kd.R_drew)); exact Kd.R_mono HO_7.out (fun _ hk => hk.1)⟩, ⟨by (with_reducible repeat (first | apply Kd.R_alloc | apply Kd.R_drewN | apply Kd.R_drew)); exact Kd.R_mono HO_78.out (fun _ hk => hk.1)⟩, ⟨by repeat (first | (with_reducible first | exact HB.out | apply below_alloc | apply pw_below_drewN | apply below_drew1 | refine below_set ?_ GE142.out) | exact HB.out)⟩⟩
                      ·replace c79 := Bool.eq_false_iff.mpr c79
                       subst c79
                       have H1 : (if ((rd_T26 t138 x80_3).f3) ≤ ((rd_T26 t138 (ji71)).f3) then (some false) else (laws_FnSortedAll.l1 kj54 x4_2 t138 t138 (t138.length : Int) (wrap64 (x80_3 + 1)))) = some r := by rw [if_neg (show ¬ (false = true) by decide)] at H; exact H
                       clear H
                       have H := H1
                       clear H1
                       by_cases c83 : ((rd_T26 t138 x80_3).f3) ≤ ((rd_T26 t138 (ji71)).f3)
                       ·rw [if_pos c83] at H
                        have c83b0 : decide (((rd_T26 t138 x80_3).f3) ≤ ((rd_T26 t138 (ji71)).f3)) = true := decide_eq_true c83
                        clear c83
                        exact absurd ((Option.some.inj H).trans HRT_.out) (by decide)
                       ·rw [if_neg c83] at H
                        have c83b0 : decide (((rd_T26 t138 x80_3).f3) ≤ ((rd_T26 t138 (ji71)).f3)) = false := decide_eq_false c83
                        clear c83
                        have H' := Aside0.mk H
                        clear H
                        try go_wp2
                        have n0_ := Aside0.mk (Kd.R_drew HO_4.out)
                        have n1_ := Aside0.mk (Kd.R_drew HO_7.out)
                        have n2_ := Aside0.mk (Kd.R_drew HO_78.out)
                        have n3_ := Aside0.mk (blk_drew BK142.out)
                        have n4_ := Aside0.mk (below_drew1 HB.out)
                        clear HO_4
                        clear HO_7
                        clear HO_78
                        clear BK142
                        clear HB
                        have HO_4 := n0_
                        have HO_7 := n1_
                        have HO_78 := n2_
                        have BK142 := n3_
                        have HB := n4_
                        clear n0_ n1_ n2_ n3_ n4_
                        have p144 : 0 ≤ ((ji71) : Int) := of_decide_eq_true (by first | (with_reducible assumption) | assumption)
                        have q144 : (ji71) < (t138.length : Int) := of_decide_eq_true (by first | (with_reducible assumption) | assumption)
                        obtain ⟨ad144, e144, hx144_0, hx144_1, hx144_2, hx144_3, hx144_4⟩ := at_T26 (Kd.R_reads' HO_7.out).2.2 (ji71) p144 q144
                        obtain rfl : ad141 = ad144 := (by injection e144)
                        replace p144 := eq_true p144
                        replace q144 := eq_true q144
                        have p146 : 0 ≤ ((ji71) : Int) := of_decide_eq_true (by first | (with_reducible assumption) | assumption)
                        have q146 : (ji71) < (t138.length : Int) := of_decide_eq_true (by first | (with_reducible assumption) | assumption)
                        obtain ⟨ad146, e146, hx146_0, hx146_1, hx146_2, hx146_3, hx146_4⟩ := at_T26 (Kd.R_reads' HO_7.out).2.2 (ji71) p146 q146
                        obtain rfl : ad141 = ad146 := (by injection e146)
                        replace p146 := eq_true p146
                        replace q146 := eq_true q146
                        have p148 : 0 ≤ ((ji71) : Int) := of_decide_eq_true (by first | (with_reducible assumption) | assumption)
                        have q148 : (ji71) < (t138.length : Int) := of_decide_eq_true (by first | (with_reducible assumption) | assumption)
                        obtain ⟨ad148, e148, hx148_0, hx148_1, hx148_2, hx148_3, hx148_4⟩ := at_T26 (Kd.R_reads' HO_7.out).2.2 (ji71) p148 q148
                        obtain rfl : ad141 = ad148 := (by injection e148)
                        replace p148 := eq_true p148
                        replace q148 := eq_true q148
                        refine start_ (n := 32) (S := fun w' => w'.cell? ⟨gb142, 0, none⟩ = some (.string ((rd_T26 t138 x80_3).f0)) ∧ w'.cell? ⟨gb142, 1, none⟩ = some (.int .i64 ((rd_T26 t138 x80_3).f1)) ∧ w'.cell? ⟨gb142, 2, none⟩ = some (.int .i64 ((rd_T26 t138 x80_3).f2)) ∧ w'.cell? ⟨gb142, 3, none⟩ = some (.int .i64 ((rd_T26 t138 x80_3).f3)) ∧ w'.cell? ⟨gb142, 4, none⟩ = some (.string ((rd_T26 t138 x80_3).f4)) ∧ w'.cell? (ad141.add (((ji71)).toNat * 5)) = some (.string ((rd_T26 t138 (ji71)).f0)) ∧ w'.cell? ⟨(ad141.add (((ji71)).toNat * 5)).block, (ad141.add (((ji71)).toNat * 5)).off + 1, none⟩ = some (.int .i64 ((rd_T26 t138 (ji71)).f1)) ∧ w'.cell? ⟨(ad141.add (((ji71)).toNat * 5)).block, (ad141.add (((ji71)).toNat * 5)).off + 2, none⟩ = some (.int .i64 ((rd_T26 t138 (ji71)).f2)) ∧ w'.cell? ⟨(ad141.add (((ji71)).toNat * 5)).block, (ad141.add (((ji71)).toNat * 5)).off + 3, none⟩ = some (.int .i64 ((rd_T26 t138 (ji71)).f3)) ∧ w'.cell? ⟨(ad141.add (((ji71)).toNat * 5)).block, (ad141.add (((ji71)).toNat * 5)).off + 4, none⟩ = some (.string ((rd_T26 t138 (ji71)).f4)) ∧ w'.cell? (ad141.add (((ji71)).toNat * 5)) = some (.string ((rd_T26 t138 (ji71)).f0)) ∧ w'.cell? ⟨(ad141.add (((ji71)).toNat * 5)).block, (ad141.add (((ji71)).toNat * 5)).off + 1, none⟩ = some (.int .i64 ((rd_T26 t138 (ji71)).f1)) ∧ w'.cell? ⟨(ad141.add (((ji71)).toNat * 5)).block, (ad141.add (((ji71)).toNat * 5)).off + 2, none⟩ = some (.int .i64 ((rd_T26 t138 (ji71)).f2)) ∧ w'.cell? ⟨(ad141.add (((ji71)).toNat * 5)).block, (ad141.add (((ji71)).toNat * 5)).off + 3, none⟩ = some (.int .i64 ((rd_T26 t138 (ji71)).f3)) ∧ w'.cell? ⟨(ad141.add (((ji71)).toNat * 5)).block, (ad141.add (((ji71)).toNat * 5)).off + 4, none⟩ = some (.string ((rd_T26 t138 (ji71)).f4)) ∧ w'.cell? (ad141.add (((ji71)).toNat * 5)) = some (.string ((rd_T26 t138 (ji71)).f0)) ∧ w'.cell? ⟨(ad141.add (((ji71)).toNat * 5)).block, (ad141.add (((ji71)).toNat * 5)).off + 1, none⟩ = some (.int .i64 ((rd_T26 t138 (ji71)).f1)) ∧ w'.cell? ⟨(ad141.add (((ji71)).toNat * 5)).block, (ad141.add (((ji71)).toNat * 5)).off + 2, none⟩ = some (.int .i64 ((rd_T26 t138 (ji71)).f2)) ∧ w'.cell? ⟨(ad141.add (((ji71)).toNat * 5)).block, (ad141.add (((ji71)).toNat * 5)).off + 3, none⟩ = some (.int .i64 ((rd_T26 t138 (ji71)).f3)) ∧ w'.cell? ⟨(ad141.add (((ji71)).toNat * 5)).block, (ad141.add (((ji71)).toNat * 5)).off + 4, none⟩ = some (.string ((rd_T26 t138 (ji71)).f4))) (ds := []) #[false, false, false, false, false, false, false, false, false, false, false, false, false, false, false, false, false, false, false, false, false, false, false, false, false, false, false, false, false, false, false, false] (by kernel_rfl) rfl rfl ⟨(blk_cell BK142.out 0).trans rfl, (blk_cell BK142.out 1).trans rfl, (blk_cell BK142.out 2).trans rfl, (blk_cell BK142.out 3).trans rfl, (blk_cell BK142.out 4).trans rfl, hx144_0, hx144_1, hx144_2, hx144_3, hx144_4, hx146_0, hx146_1, hx146_2, hx146_3, hx146_4, hx148_0, hx148_1, hx148_2, hx148_3, hx148_4⟩ (fun hHeld => ?_); refine with_tabW laws_FnSortedAll.tab25 laws_FnSortedAll.bits25 (fun HT_ HW_ => ?_)
                        generalize wc.drew = w87 at HO_4 HO_7 HO_78 BK142 HB hx144_0 hx144_1 hx144_2 hx144_3 hx144_4 hx146_0 hx146_1 hx146_2 hx146_3 hx146_4 hx148_0 hx148_1 hx148_2 hx148_3 hx148_4 hHeld ⊢
                        refine pure_ (i := 0) (N := some 105) (v := ?_) (a' := ?_) #[true, false, false, false, false, false, false, false, false, false, false, false, false, false, false, false, false, false, false, false, false, false, false, false, false, false, false, false, false, false, false, false] rfl rfl (any_of HT_.out (by kernel_rfl)) (fun _ _ _ h => h) (Or.inl ⟨by rfl, ?_⟩) ?_ ?_
                        rotate_left
                        ·intro w'
                         go_simp
                         with_reducible rfl
                        rotate_left
                        ·simp only [Act.put, List.setIfInBounds_toArray, List.set_cons_zero, List.set_cons_succ, i64_w, i32_w]
                         rfl
                        refine pure_ (i := 1) (N := some 106) (v := ?_) (a' := ?_) #[true, true, false, false, false, false, false, false, false, false, false, false, false, false, false, false, false, false, false, false, false, false, false, false, false, false, false, false, false, false, false, false] rfl rfl (any_of HT_.out (by kernel_rfl)) (fun _ _ _ h => h) (Or.inl ⟨by rfl, ?_⟩) ?_ ?_
                        rotate_left
                        ·intro w'
                         go_simp
                         with_reducible rfl
                        rotate_left
                        ·simp only [Act.put, List.setIfInBounds_toArray, List.set_cons_zero, List.set_cons_succ, i64_w, i32_w]
                         rfl
                        refine pure_ (i := 2) (N := some 107) (v := ?_) (a' := ?_) #[true, true, true, false, false, false, false, false, false, false, false, false, false, false, false, false, false, false, false, false, false, false, false, false, false, false, false, false, false, false, false, false] rfl rfl (any_of HT_.out (by kernel_rfl)) (fun _ _ _ h => h) (Or.inl ⟨by rfl, ?_⟩) ?_ ?_
                        rotate_left
                        ·intro w'
                         go_simp
                         with_reducible rfl
                        rotate_left
                        ·simp only [Act.put, List.setIfInBounds_toArray, List.set_cons_zero, List.set_cons_succ, i64_w, i32_w]
                         rfl
                        refine pure_ (i := 4) (N := some 109) (v := ?_) (a' := ?_) #[true, true, true, false, true, false, false, false, false, false, false, false, false, false, false, false, false, false, false, false, false, false, false, false, false, false, false, false, false, false, false, false] rfl rfl (any_of HT_.out (by kernel_rfl)) (fun _ _ _ h => h) (Or.inl ⟨by rfl, ?_⟩) ?_ ?_
                        rotate_left
                        ·intro w'
                         go_simp
                         with_reducible rfl
                        rotate_left
                        ·simp only [Act.put, List.setIfInBounds_toArray, List.set_cons_zero, List.set_cons_succ, i64_w, i32_w]
                         rfl
                        refine pure_ (i := 5) (N := some 110) (v := ?_) (a' := ?_) #[true, true, true, false, true, true, false, false, false, false, false, false, false, false, false, false, false, false, false, false, false, false, false, false, false, false, false, false, false, false, false, false] rfl rfl (any_of HT_.out (by kernel_rfl)) (fun _ _ _ h => h) (Or.inl ⟨by rfl, ?_⟩) ?_ ?_
                        rotate_left
                        ·intro w'
                         go_simp
                         with_reducible rfl
                        rotate_left
                        ·simp only [Act.put, List.setIfInBounds_toArray, List.set_cons_zero, List.set_cons_succ, i64_w, i32_w]
                         rfl
                        refine pure_ (i := 6) (N := some 111) (v := ?_) (a' := ?_) #[true, true, true, false, true, true, true, false, false, false, false, false, false, false, false, false, false, false, false, false, false, false, false, false, false, false, false, false, false, false, false, false] rfl rfl (any_of HT_.out (by kernel_rfl)) (fun _ _ _ h => h) (Or.inl ⟨by rfl, ?_⟩) ?_ ?_
                        rotate_left
                        ·intro w'
                         go_simp
                         with_reducible rfl
                        rotate_left
                        ·simp only [Act.put, List.setIfInBounds_toArray, List.set_cons_zero, List.set_cons_succ, i64_w, i32_w]
                         rfl
                        refine pure_ (i := 7) (N := some 112) (v := ?_) (a' := ?_) #[true, true, true, false, true, true, true, true, false, false, false, false, false, false, false, false, false, false, false, false, false, false, false, false, false, false, false, false, false, false, false, false] rfl rfl (any_of HT_.out (by kernel_rfl)) (fun _ _ _ h => h) (Or.inl ⟨by rfl, ?_⟩) ?_ ?_
                        rotate_left
                        ·intro w'
                         go_simp
                         with_reducible rfl
                        rotate_left
                        ·simp only [Act.put, List.setIfInBounds_toArray, List.set_cons_zero, List.set_cons_succ, i64_w, i32_w]
                         rfl
                        refine take_ (i := 3) (N := some 108) (v := ?_) (a' := ?_) #[true, true, true, true, true, true, true, true, false, false, false, false, false, false, false, false, false, false, false, false, false, false, false, false, false, false, false, false, false, false, false, false] rfl rfl (take_ofW HT_.out HW_.out (by kernel_rfl)) (fun _ _ _ h => h) (Or.inl ⟨by rfl, ?_⟩) hHeld ?_ ?_
                        rotate_left
                        ·rintro w' ⟨s0, s1, s2, s3, s4, s5, s6, s7, s8, s9, s10, s11, s12, s13, s14, s15, s16, s17, s18, s19⟩
                         go_simp
                         with_reducible rfl
                        rotate_left
                        ·simp only [Act.put, List.setIfInBounds_toArray, List.set_cons_zero, List.set_cons_succ, i64_w, i32_w]
                         rfl
                        refine take_ (i := 8) (N := some 113) (v := ?_) (a' := ?_) #[true, true, true, true, true, true, true, true, true, false, false, false, false, false, false, false, false, false, false, false, false, false, false, false, false, false, false, false, false, false, false, false] rfl rfl (take_ofW HT_.out HW_.out (by kernel_rfl)) (fun _ _ _ h => h) (Or.inl ⟨by rfl, ?_⟩) hHeld ?_ ?_
                        rotate_left
                        ·rintro w' ⟨s0, s1, s2, s3, s4, s5, s6, s7, s8, s9, s10, s11, s12, s13, s14, s15, s16, s17, s18, s19⟩
                         go_simp
                         with_reducible rfl
                        rotate_left
                        ·simp only [Act.put, List.setIfInBounds_toArray, List.set_cons_zero, List.set_cons_succ, i64_w, i32_w]
                         rfl
                        refine one_ (i := 9) (N := some 114) #[true, true, true, true, true, true, true, true, true, true, false, false, false, false, false, false, false, false, false, false, false, false, false, false, false, false, false, false, false, false, false, false] rfl rfl (one_of HT_.out (by kernel_rfl)) (by decide) (fun K hK => ?_)
                        refine goes_ Try.func16 (by kernel_rfl) rfl #[.agg #[.string ((rd_T26 t138 x80_3).f0), .int .i64 ((rd_T26 t138 x80_3).f1), .int .i64 ((rd_T26 t138 x80_3).f2), .int .i64 ((rd_T26 t138 x80_3).f3), .string ((rd_T26 t138 x80_3).f4)], .agg #[.string ((rd_T26 t138 (ji71)).f0), .int .i64 ((rd_T26 t138 (ji71)).f1), .int .i64 ((rd_T26 t138 (ji71)).f2), .int .i64 ((rd_T26 t138 (ji71)).f3), .string ((rd_T26 t138 (ji71)).f4)]] (by rfl) rfl rfl (by (try simp only [List.map_toArray, List.map_cons, List.map_nil]); first | done | (simp only [hji71]; rfl) | rfl | (simp only [List.length_drop, List.length_take]; rfl)) ?_
                        with_reducible refine (laws_ahead.calls ((rd_T26 t138 x80_3).f0) ((rd_T26 t138 x80_3).f1) ((rd_T26 t138 x80_3).f2) ((rd_T26 t138 x80_3).f3) ((rd_T26 t138 x80_3).f4) ((rd_T26 t138 (ji71)).f0) ((rd_T26 t138 (ji71)).f1) ((rd_T26 t138 (ji71)).f2) ((rd_T26 t138 (ji71)).f3) ((rd_T26 t138 (ji71)).f4) false _ A74.out).mono ?_
                        rintro e w88 ⟨rfl, hb⟩
                        have HS5_ := (hb.cell (World.block_lt_of_cell? _ _ (hHeld.2.2.2.2.2.1))).trans (hHeld.2.2.2.2.2.1)
                        have HS6_ := (hb.cell (World.block_lt_of_cell? _ _ (hHeld.2.2.2.2.2.2.1))).trans (hHeld.2.2.2.2.2.2.1)
                        have HS7_ := (hb.cell (World.block_lt_of_cell? _ _ (hHeld.2.2.2.2.2.2.2.1))).trans (hHeld.2.2.2.2.2.2.2.1)
                        have HS8_ := (hb.cell (World.block_lt_of_cell? _ _ (hHeld.2.2.2.2.2.2.2.2.1))).trans (hHeld.2.2.2.2.2.2.2.2.1)
                        have HS9_ := (hb.cell (World.block_lt_of_cell? _ _ (hHeld.2.2.2.2.2.2.2.2.2.1))).trans (hHeld.2.2.2.2.2.2.2.2.2.1)
                        have HS10_ := (hb.cell (World.block_lt_of_cell? _ _ (hHeld.2.2.2.2.2.2.2.2.2.2.1))).trans (hHeld.2.2.2.2.2.2.2.2.2.2.1)
                        have HS11_ := (hb.cell (World.block_lt_of_cell? _ _ (hHeld.2.2.2.2.2.2.2.2.2.2.2.1))).trans (hHeld.2.2.2.2.2.2.2.2.2.2.2.1)
                        have HS12_ := (hb.cell (World.block_lt_of_cell? _ _ (hHeld.2.2.2.2.2.2.2.2.2.2.2.2.1))).trans (hHeld.2.2.2.2.2.2.2.2.2.2.2.2.1)
                        have HS13_ := (hb.cell (World.block_lt_of_cell? _ _ (hHeld.2.2.2.2.2.2.2.2.2.2.2.2.2.1))).trans (hHeld.2.2.2.2.2.2.2.2.2.2.2.2.2.1)
                        have HS14_ := (hb.cell (World.block_lt_of_cell? _ _ (hHeld.2.2.2.2.2.2.2.2.2.2.2.2.2.2.1))).trans (hHeld.2.2.2.2.2.2.2.2.2.2.2.2.2.2.1)
                        have HS15_ := (hb.cell (World.block_lt_of_cell? _ _ (hHeld.2.2.2.2.2.2.2.2.2.2.2.2.2.2.2.1))).trans (hHeld.2.2.2.2.2.2.2.2.2.2.2.2.2.2.2.1)
                        have HS16_ := (hb.cell (World.block_lt_of_cell? _ _ (hHeld.2.2.2.2.2.2.2.2.2.2.2.2.2.2.2.2.1))).trans (hHeld.2.2.2.2.2.2.2.2.2.2.2.2.2.2.2.2.1)
                        have HS17_ := (hb.cell (World.block_lt_of_cell? _ _ (hHeld.2.2.2.2.2.2.2.2.2.2.2.2.2.2.2.2.2.1))).trans (hHeld.2.2.2.2.2.2.2.2.2.2.2.2.2.2.2.2.2.1)
                        have HS18_ := (hb.cell (World.block_lt_of_cell? _ _ (hHeld.2.2.2.2.2.2.2.2.2.2.2.2.2.2.2.2.2.2.1))).trans (hHeld.2.2.2.2.2.2.2.2.2.2.2.2.2.2.2.2.2.2.1)
                        have HS19_ := (hb.cell (World.block_lt_of_cell? _ _ (hHeld.2.2.2.2.2.2.2.2.2.2.2.2.2.2.2.2.2.2.2))).trans (hHeld.2.2.2.2.2.2.2.2.2.2.2.2.2.2.2.2.2.2.2)
                        refine ⟨_, rfl, ?_⟩
                        have n0_ := Aside0.mk (Kd.R_below (by (with_reducible repeat (first | apply Kd.R_alloc | apply Kd.R_drewN | apply Kd.R_drew)); exact HO_4.out) hb)
                        have n1_ := Aside0.mk (Kd.R_below (by (with_reducible repeat (first | apply Kd.R_alloc | apply Kd.R_drewN | apply Kd.R_drew)); exact HO_7.out) hb)
                        have n2_ := Aside0.mk (Kd.R_below (by (with_reducible repeat (first | apply Kd.R_alloc | apply Kd.R_drewN | apply Kd.R_drew)); exact HO_78.out) hb)
                        have n3_ := Aside0.mk (blk_below (g := gb142) (o := .cells #[.string ((rd_T26 t138 x80_3).f0), .int .i64 ((rd_T26 t138 x80_3).f1), .int .i64 ((rd_T26 t138 x80_3).f2), .int .i64 ((rd_T26 t138 x80_3).f3), .string ((rd_T26 t138 x80_3).f4)] 26 (0, 0)) (by (with_reducible repeat (first | refine blk_drewN ?_ _ | refine blk_drew ?_ | refine blk_alloc ?_ _)); exact BK142.out) hb)
                        have n4_ := Aside0.mk (below_step (by repeat (first | (with_reducible first | exact HB.out | apply below_alloc | apply pw_below_drewN | apply below_drew1 | refine below_set ?_ GE142.out) | exact HB.out)) hb)
                        clear HO_4
                        clear HO_7
                        clear HO_78
                        clear BK142
                        clear HB
                        have HO_4 := n0_
                        have HO_7 := n1_
                        have HO_78 := n2_
                        have BK142 := n3_
                        have HB := n4_
                        clear n0_ n1_ n2_ n3_ n4_
                        (try clear hb)
                        (try clear hb2)
                        (try clear hk)
                        (try clear hi)
                        refine hK.out _ _ ⟨(blk_cell BK142.out 0).trans rfl, (blk_cell BK142.out 1).trans rfl, (blk_cell BK142.out 2).trans rfl, (blk_cell BK142.out 3).trans rfl, (blk_cell BK142.out 4).trans rfl, HS5_, HS6_, HS7_, HS8_, HS9_, HS10_, HS11_, HS12_, HS13_, HS14_, HS15_, HS16_, HS17_, HS18_, HS19_⟩ (fun hHeld => ?_)
                        clear hK K
                        refine norm_ (a' := ?_) ?_ ?_
                        rotate_left
                        ·show Act.put _ (some 114) _ = _
                         simp only [Act.put, List.setIfInBounds_toArray, List.set_cons_zero, List.set_cons_succ, i64_w, i32_w]
                         rfl
                        refine pure_ (i := 10) (N := some 115) (v := ?_) (a' := ?_) #[true, true, true, true, true, true, true, true, true, true, true, false, false, false, false, false, false, false, false, false, false, false, false, false, false, false, false, false, false, false, false, false] rfl rfl (any_of HT_.out (by kernel_rfl)) (fun _ _ _ h => h) (Or.inl ⟨by rfl, ?_⟩) ?_ ?_
                        rotate_left
                        ·intro w'
                         go_simp
                         with_reducible rfl
                        rotate_left
                        ·simp only [Act.put, List.setIfInBounds_toArray, List.set_cons_zero, List.set_cons_succ, i64_w, i32_w]
                         rfl
                        refine pure_ (i := 11) (N := some 116) (v := ?_) (a' := ?_) #[true, true, true, true, true, true, true, true, true, true, true, true, false, false, false, false, false, false, false, false, false, false, false, false, false, false, false, false, false, false, false, false] rfl rfl (any_of HT_.out (by kernel_rfl)) (fun _ _ _ h => h) (Or.inl ⟨by rfl, ?_⟩) ?_ ?_
                        rotate_left
                        ·intro w'
                         go_simp
                         with_reducible rfl
                        rotate_left
                        ·simp only [Act.put, List.setIfInBounds_toArray, List.set_cons_zero, List.set_cons_succ, i64_w, i32_w]
                         rfl
                        refine pure_ (i := 12) (N := some 117) (v := ?_) (a' := ?_) #[true, true, true, true, true, true, true, true, true, true, true, true, true, false, false, false, false, false, false, false, false, false, false, false, false, false, false, false, false, false, false, false] rfl rfl (any_of HT_.out (by kernel_rfl)) (fun _ _ _ h => h) (Or.inl ⟨by rfl, ?_⟩) ?_ ?_
                        rotate_left
                        ·intro w'
                         go_simp
                         with_reducible rfl
                        rotate_left
                        ·simp only [Act.put, List.setIfInBounds_toArray, List.set_cons_zero, List.set_cons_succ, i64_w, i32_w]
                         rfl
                        refine pure_ (i := 13) (N := some 118) (v := ?_) (a' := ?_) #[true, true, true, true, true, true, true, true, true, true, true, true, true, true, false, false, false, false, false, false, false, false, false, false, false, false, false, false, false, false, false, false] rfl rfl (any_of HT_.out (by kernel_rfl)) (fun _ _ _ h => h) (Or.inl ⟨by rfl, ?_⟩) ?_ ?_
                        rotate_left
                        ·intro w'
                         go_simp
                         with_reducible rfl
                        rotate_left
                        ·simp only [Act.put, List.setIfInBounds_toArray, List.set_cons_zero, List.set_cons_succ, i64_w, i32_w]
                         rfl
                        refine pure_ (i := 14) (N := some 119) (v := ?_) (a' := ?_) #[true, true, true, true, true, true, true, true, true, true, true, true, true, true, true, false, false, false, false, false, false, false, false, false, false, false, false, false, false, false, false, false] rfl rfl (any_of HT_.out (by kernel_rfl)) (fun _ _ _ h => h) (Or.inl ⟨by rfl, ?_⟩) ?_ ?_
                        rotate_left
                        ·intro w'
                         go_simp
                         with_reducible rfl
                        rotate_left
                        ·simp only [Act.put, List.setIfInBounds_toArray, List.set_cons_zero, List.set_cons_succ, i64_w, i32_w]
                         rfl
                        refine take_ (i := 15) (N := some 120) (v := ?_) (a' := ?_) #[true, true, true, true, true, true, true, true, true, true, true, true, true, true, true, true, false, false, false, false, false, false, false, false, false, false, false, false, false, false, false, false] rfl rfl (take_ofW HT_.out HW_.out (by kernel_rfl)) (fun _ _ _ h => h) (Or.inl ⟨by rfl, ?_⟩) hHeld ?_ ?_
                        rotate_left
                        ·rintro w' ⟨s0, s1, s2, s3, s4, s5, s6, s7, s8, s9, s10, s11, s12, s13, s14, s15, s16, s17, s18, s19⟩
                         go_simp
                         with_reducible rfl
                        rotate_left
                        ·simp only [Act.put, List.setIfInBounds_toArray, List.set_cons_zero, List.set_cons_succ, i64_w, i32_w]
                         rfl
                        refine take_ (i := 16) (N := some 121) (v := ?_) (a' := ?_) #[true, true, true, true, true, true, true, true, true, true, true, true, true, true, true, true, true, false, false, false, false, false, false, false, false, false, false, false, false, false, false, false] rfl rfl (take_ofW HT_.out HW_.out (by kernel_rfl)) (fun _ _ _ h => h) (Or.inl ⟨by rfl, ?_⟩) hHeld ?_ ?_
                        rotate_left
                        ·rintro w' ⟨s0, s1, s2, s3, s4, s5, s6, s7, s8, s9, s10, s11, s12, s13, s14, s15, s16, s17, s18, s19⟩
                         go_simp
                         with_reducible rfl
                        rotate_left
                        ·simp only [Act.put, List.setIfInBounds_toArray, List.set_cons_zero, List.set_cons_succ, i64_w, i32_w]
                         rfl
                        refine one_ (i := 17) (N := some 122) #[true, true, true, true, true, true, true, true, true, true, true, true, true, true, true, true, true, true, false, false, false, false, false, false, false, false, false, false, false, false, false, false] rfl rfl (one_of HT_.out (by kernel_rfl)) (by decide) (fun K hK => ?_)
                        refine goes_ Try.func16 (by kernel_rfl) rfl #[.agg #[.string ((rd_T26 t138 (ji71)).f0), .int .i64 ((rd_T26 t138 (ji71)).f1), .int .i64 ((rd_T26 t138 (ji71)).f2), .int .i64 ((rd_T26 t138 (ji71)).f3), .string ((rd_T26 t138 (ji71)).f4)], .agg #[.string ((rd_T26 t138 x80_3).f0), .int .i64 ((rd_T26 t138 x80_3).f1), .int .i64 ((rd_T26 t138 x80_3).f2), .int .i64 ((rd_T26 t138 x80_3).f3), .string ((rd_T26 t138 x80_3).f4)]] (by rfl) rfl rfl (by (try simp only [List.map_toArray, List.map_cons, List.map_nil]); first | done | (simp only [hji71]; rfl) | rfl | (simp only [List.length_drop, List.length_take]; rfl)) ?_
                        with_reducible refine (laws_ahead.calls ((rd_T26 t138 (ji71)).f0) ((rd_T26 t138 (ji71)).f1) ((rd_T26 t138 (ji71)).f2) ((rd_T26 t138 (ji71)).f3) ((rd_T26 t138 (ji71)).f4) ((rd_T26 t138 x80_3).f0) ((rd_T26 t138 x80_3).f1) ((rd_T26 t138 x80_3).f2) ((rd_T26 t138 x80_3).f3) ((rd_T26 t138 x80_3).f4) false _ A78.out).mono ?_
                        rintro e w89 ⟨rfl, hb⟩
                        have HS5_ := (hb.cell (World.block_lt_of_cell? _ _ (hHeld.2.2.2.2.2.1))).trans (hHeld.2.2.2.2.2.1)
                        have HS6_ := (hb.cell (World.block_lt_of_cell? _ _ (hHeld.2.2.2.2.2.2.1))).trans (hHeld.2.2.2.2.2.2.1)
                        have HS7_ := (hb.cell (World.block_lt_of_cell? _ _ (hHeld.2.2.2.2.2.2.2.1))).trans (hHeld.2.2.2.2.2.2.2.1)
                        have HS8_ := (hb.cell (World.block_lt_of_cell? _ _ (hHeld.2.2.2.2.2.2.2.2.1))).trans (hHeld.2.2.2.2.2.2.2.2.1)
                        have HS9_ := (hb.cell (World.block_lt_of_cell? _ _ (hHeld.2.2.2.2.2.2.2.2.2.1))).trans (hHeld.2.2.2.2.2.2.2.2.2.1)
                        have HS10_ := (hb.cell (World.block_lt_of_cell? _ _ (hHeld.2.2.2.2.2.2.2.2.2.2.1))).trans (hHeld.2.2.2.2.2.2.2.2.2.2.1)
                        have HS11_ := (hb.cell (World.block_lt_of_cell? _ _ (hHeld.2.2.2.2.2.2.2.2.2.2.2.1))).trans (hHeld.2.2.2.2.2.2.2.2.2.2.2.1)
                        have HS12_ := (hb.cell (World.block_lt_of_cell? _ _ (hHeld.2.2.2.2.2.2.2.2.2.2.2.2.1))).trans (hHeld.2.2.2.2.2.2.2.2.2.2.2.2.1)
                        have HS13_ := (hb.cell (World.block_lt_of_cell? _ _ (hHeld.2.2.2.2.2.2.2.2.2.2.2.2.2.1))).trans (hHeld.2.2.2.2.2.2.2.2.2.2.2.2.2.1)
                        have HS14_ := (hb.cell (World.block_lt_of_cell? _ _ (hHeld.2.2.2.2.2.2.2.2.2.2.2.2.2.2.1))).trans (hHeld.2.2.2.2.2.2.2.2.2.2.2.2.2.2.1)
                        have HS15_ := (hb.cell (World.block_lt_of_cell? _ _ (hHeld.2.2.2.2.2.2.2.2.2.2.2.2.2.2.2.1))).trans (hHeld.2.2.2.2.2.2.2.2.2.2.2.2.2.2.2.1)
                        have HS16_ := (hb.cell (World.block_lt_of_cell? _ _ (hHeld.2.2.2.2.2.2.2.2.2.2.2.2.2.2.2.2.1))).trans (hHeld.2.2.2.2.2.2.2.2.2.2.2.2.2.2.2.2.1)
                        have HS17_ := (hb.cell (World.block_lt_of_cell? _ _ (hHeld.2.2.2.2.2.2.2.2.2.2.2.2.2.2.2.2.2.1))).trans (hHeld.2.2.2.2.2.2.2.2.2.2.2.2.2.2.2.2.2.1)
                        have HS18_ := (hb.cell (World.block_lt_of_cell? _ _ (hHeld.2.2.2.2.2.2.2.2.2.2.2.2.2.2.2.2.2.2.1))).trans (hHeld.2.2.2.2.2.2.2.2.2.2.2.2.2.2.2.2.2.2.1)
                        have HS19_ := (hb.cell (World.block_lt_of_cell? _ _ (hHeld.2.2.2.2.2.2.2.2.2.2.2.2.2.2.2.2.2.2.2))).trans (hHeld.2.2.2.2.2.2.2.2.2.2.2.2.2.2.2.2.2.2.2)
                        refine ⟨_, rfl, ?_⟩
                        have n0_ := Aside0.mk (Kd.R_below (by (with_reducible repeat (first | apply Kd.R_alloc | apply Kd.R_drewN | apply Kd.R_drew)); exact HO_4.out) hb)
                        have n1_ := Aside0.mk (Kd.R_below (by (with_reducible repeat (first | apply Kd.R_alloc | apply Kd.R_drewN | apply Kd.R_drew)); exact HO_7.out) hb)
                        have n2_ := Aside0.mk (Kd.R_below (by (with_reducible repeat (first | apply Kd.R_alloc | apply Kd.R_drewN | apply Kd.R_drew)); exact HO_78.out) hb)
                        have n3_ := Aside0.mk (blk_below (g := gb142) (o := .cells #[.string ((rd_T26 t138 x80_3).f0), .int .i64 ((rd_T26 t138 x80_3).f1), .int .i64 ((rd_T26 t138 x80_3).f2), .int .i64 ((rd_T26 t138 x80_3).f3), .string ((rd_T26 t138 x80_3).f4)] 26 (0, 0)) (by (with_reducible repeat (first | refine blk_drewN ?_ _ | refine blk_drew ?_ | refine blk_alloc ?_ _)); exact BK142.out) hb)
                        have n4_ := Aside0.mk (below_step (by repeat (first | (with_reducible first | exact HB.out | apply below_alloc | apply pw_below_drewN | apply below_drew1 | refine below_set ?_ GE142.out) | exact HB.out)) hb)
                        clear HO_4
                        clear HO_7
                        clear HO_78
                        clear BK142
                        clear HB
                        have HO_4 := n0_
                        have HO_7 := n1_
                        have HO_78 := n2_
                        have BK142 := n3_
                        have HB := n4_
                        clear n0_ n1_ n2_ n3_ n4_
                        (try clear hb)
                        (try clear hb2)
                        (try clear hk)
                        (try clear hi)
                        refine hK.out _ _ ⟨(blk_cell BK142.out 0).trans rfl, (blk_cell BK142.out 1).trans rfl, (blk_cell BK142.out 2).trans rfl, (blk_cell BK142.out 3).trans rfl, (blk_cell BK142.out 4).trans rfl, HS5_, HS6_, HS7_, HS8_, HS9_, HS10_, HS11_, HS12_, HS13_, HS14_, HS15_, HS16_, HS17_, HS18_, HS19_⟩ (fun hHeld => ?_)
                        clear hK K
                        refine norm_ (a' := ?_) ?_ ?_
                        rotate_left
                        ·show Act.put _ (some 122) _ = _
                         simp only [Act.put, List.setIfInBounds_toArray, List.set_cons_zero, List.set_cons_succ, i64_w, i32_w]
                         rfl
                        refine pure_ (i := 18) (N := some 123) (v := ?_) (a' := ?_) #[true, true, true, true, true, true, true, true, true, true, true, true, true, true, true, true, true, true, true, false, false, false, false, false, false, false, false, false, false, false, false, false] rfl rfl (any_of HT_.out (by kernel_rfl)) (fun _ _ _ h => h) (Or.inl ⟨by rfl, ?_⟩) ?_ ?_
                        rotate_left
                        ·intro w'
                         go_simp
                         with_reducible rfl
                        rotate_left
                        ·simp only [Act.put, List.setIfInBounds_toArray, List.set_cons_zero, List.set_cons_succ, i64_w, i32_w]
                         rfl
                        refine pure_ (i := 19) (N := some 124) (v := ?_) (a' := ?_) #[true, true, true, true, true, true, true, true, true, true, true, true, true, true, true, true, true, true, true, true, false, false, false, false, false, false, false, false, false, false, false, false] rfl rfl (any_of HT_.out (by kernel_rfl)) (fun _ _ _ h => h) (Or.inl ⟨by rfl, ?_⟩) ?_ ?_
                        rotate_left
                        ·intro w'
                         go_simp
                         with_reducible rfl
                        rotate_left
                        ·simp only [Act.put, List.setIfInBounds_toArray, List.set_cons_zero, List.set_cons_succ, i64_w, i32_w]
                         rfl
                        refine pure_ (i := 20) (N := some 125) (v := ?_) (a' := ?_) #[true, true, true, true, true, true, true, true, true, true, true, true, true, true, true, true, true, true, true, true, true, false, false, false, false, false, false, false, false, false, false, false] rfl rfl (any_of HT_.out (by kernel_rfl)) (fun _ _ _ h => h) (Or.inl ⟨by rfl, ?_⟩) ?_ ?_
                        rotate_left
                        ·intro w'
                         go_simp
                         with_reducible rfl
                        rotate_left
                        ·simp only [Act.put, List.setIfInBounds_toArray, List.set_cons_zero, List.set_cons_succ, i64_w, i32_w]
                         rfl
                        refine pure_ (i := 22) (N := some 127) (v := ?_) (a' := ?_) #[true, true, true, true, true, true, true, true, true, true, true, true, true, true, true, true, true, true, true, true, true, false, true, false, false, false, false, false, false, false, false, false] rfl rfl (any_of HT_.out (by kernel_rfl)) (fun _ _ _ h => h) (Or.inl ⟨by rfl, ?_⟩) ?_ ?_
                        rotate_left
                        ·intro w'
                         go_simp
                         with_reducible rfl
                        rotate_left
                        ·simp only [Act.put, List.setIfInBounds_toArray, List.set_cons_zero, List.set_cons_succ, i64_w, i32_w]
                         rfl
                        refine pure_ (i := 23) (N := some 128) (v := ?_) (a' := ?_) #[true, true, true, true, true, true, true, true, true, true, true, true, true, true, true, true, true, true, true, true, true, false, true, true, false, false, false, false, false, false, false, false] rfl rfl (any_of HT_.out (by kernel_rfl)) (fun _ _ _ h => h) (Or.inl ⟨by rfl, ?_⟩) ?_ ?_
                        rotate_left
                        ·intro w'
                         go_simp
                         with_reducible rfl
                        rotate_left
                        ·simp only [Act.put, List.setIfInBounds_toArray, List.set_cons_zero, List.set_cons_succ, i64_w, i32_w]
                         rfl
                        refine pure_ (i := 24) (N := some 129) (v := ?_) (a' := ?_) #[true, true, true, true, true, true, true, true, true, true, true, true, true, true, true, true, true, true, true, true, true, false, true, true, true, false, false, false, false, false, false, false] rfl rfl (any_of HT_.out (by kernel_rfl)) (fun _ _ _ h => h) (Or.inl ⟨by rfl, ?_⟩) ?_ ?_
                        rotate_left
                        ·intro w'
                         go_simp
                         with_reducible rfl
                        rotate_left
                        ·simp only [Act.put, List.setIfInBounds_toArray, List.set_cons_zero, List.set_cons_succ, i64_w, i32_w]
                         rfl
                        refine pure_ (i := 25) (N := some 130) (v := ?_) (a' := ?_) #[true, true, true, true, true, true, true, true, true, true, true, true, true, true, true, true, true, true, true, true, true, false, true, true, true, true, false, false, false, false, false, false] rfl rfl (any_of HT_.out (by kernel_rfl)) (fun _ _ _ h => h) (Or.inl ⟨by rfl, ?_⟩) ?_ ?_
                        rotate_left
                        ·intro w'
                         go_simp
                         with_reducible rfl
                        rotate_left
                        ·simp only [Act.put, List.setIfInBounds_toArray, List.set_cons_zero, List.set_cons_succ, i64_w, i32_w]
                         rfl
                        refine pure_ (i := 26) (N := some 131) (v := ?_) (a' := ?_) #[true, true, true, true, true, true, true, true, true, true, true, true, true, true, true, true, true, true, true, true, true, false, true, true, true, true, true, false, false, false, false, false] rfl rfl (any_of HT_.out (by kernel_rfl)) (fun _ _ _ h => h) (Or.inl ⟨by rfl, ?_⟩) ?_ ?_
                        rotate_left
                        ·intro w'
                         go_simp
                         with_reducible rfl
                        rotate_left
                        ·simp only [Act.put, List.setIfInBounds_toArray, List.set_cons_zero, List.set_cons_succ, i64_w, i32_w]
                         rfl
                        refine take_ (i := 21) (N := some 126) (v := ?_) (a' := ?_) #[true, true, true, true, true, true, true, true, true, true, true, true, true, true, true, true, true, true, true, true, true, true, true, true, true, true, true, false, false, false, false, false] rfl rfl (take_ofW HT_.out HW_.out (by kernel_rfl)) (fun _ _ _ h => h) (Or.inl ⟨by rfl, ?_⟩) hHeld ?_ ?_
                        rotate_left
                        ·rintro w' ⟨s0, s1, s2, s3, s4, s5, s6, s7, s8, s9, s10, s11, s12, s13, s14, s15, s16, s17, s18, s19⟩
                         go_simp
                         with_reducible rfl
                        rotate_left
                        ·simp only [Act.put, List.setIfInBounds_toArray, List.set_cons_zero, List.set_cons_succ, i64_w, i32_w]
                         rfl
                        refine take_ (i := 27) (N := some 132) (v := ?_) (a' := ?_) #[true, true, true, true, true, true, true, true, true, true, true, true, true, true, true, true, true, true, true, true, true, true, true, true, true, true, true, true, false, false, false, false] rfl rfl (take_ofW HT_.out HW_.out (by kernel_rfl)) (fun _ _ _ h => h) (Or.inl ⟨by rfl, ?_⟩) hHeld ?_ ?_
                        rotate_left
                        ·rintro w' ⟨s0, s1, s2, s3, s4, s5, s6, s7, s8, s9, s10, s11, s12, s13, s14, s15, s16, s17, s18, s19⟩
                         go_simp
                         with_reducible rfl
                        rotate_left
                        ·simp only [Act.put, List.setIfInBounds_toArray, List.set_cons_zero, List.set_cons_succ, i64_w, i32_w]
                         rfl
                        refine pure_ (i := 28) (N := some 133) (v := ?_) (a' := ?_) #[true, true, true, true, true, true, true, true, true, true, true, true, true, true, true, true, true, true, true, true, true, true, true, true, true, true, true, true, true, false, false, false] rfl rfl (any_of HT_.out (by kernel_rfl)) (fun _ _ _ h => h) (Or.inl ⟨by rfl, ?_⟩) ?_ ?_
                        rotate_left
                        ·intro w'
                         go_simp
                         with_reducible rfl
                        rotate_left
                        ·simp only [Act.put, List.setIfInBounds_toArray, List.set_cons_zero, List.set_cons_succ, i64_w, i32_w]
                         rfl
                        refine pure_ (i := 29) (N := some 134) (v := ?_) (a' := ?_) #[true, true, true, true, true, true, true, true, true, true, true, true, true, true, true, true, true, true, true, true, true, true, true, true, true, true, true, true, true, true, false, false] rfl rfl (any_of HT_.out (by kernel_rfl)) (fun _ _ _ h => h) (Or.inl ⟨by rfl, ?_⟩) ?_ ?_
                        rotate_left
                        ·intro w'
                         go_simp
                         with_reducible rfl
                        rotate_left
                        ·simp only [Act.put, List.setIfInBounds_toArray, List.set_cons_zero, List.set_cons_succ, i64_w, i32_w]
                         rfl
                        refine pure_ (i := 30) (N := some 135) (v := ?_) (a' := ?_) #[true, true, true, true, true, true, true, true, true, true, true, true, true, true, true, true, true, true, true, true, true, true, true, true, true, true, true, true, true, true, true, false] rfl rfl (any_of HT_.out (by kernel_rfl)) (fun _ _ _ h => h) (Or.inl ⟨by rfl, ?_⟩) ?_ ?_
                        rotate_left
                        ·intro w'
                         go_simp
                         with_reducible rfl
                        rotate_left
                        ·simp only [Act.put, List.setIfInBounds_toArray, List.set_cons_zero, List.set_cons_succ, i64_w, i32_w]
                         rfl
                        refine pure_ (i := 31) (N := some 136) (v := ?_) (a' := ?_) #[true, true, true, true, true, true, true, true, true, true, true, true, true, true, true, true, true, true, true, true, true, true, true, true, true, true, true, true, true, true, true, true] rfl rfl (any_of HT_.out (by kernel_rfl)) (fun _ _ _ h => h) (Or.inl ⟨by rfl, ?_⟩) ?_ ?_
                        rotate_left
                        ·intro w'
                         go_simp
                         with_reducible rfl
                        rotate_left
                        ·simp only [Act.put, List.setIfInBounds_toArray, List.set_cons_zero, List.set_cons_succ, i64_w, i32_w]
                         rfl
                        refine done_ (done_of HT_.out (by kernel_rfl)) ?_
                        try go_wp2
                        go_roundg kj54
                        case measure => have := HJ4.out; have := HK2.out; have := HK3.out; have := HJ54.out; omega
                        case rel => exact ⟨(wrap64 (x80_3 + 1)), (by first | rfl | (simp; done) | (rw [prx_ne]; first | done | rfl) | (simp [*]; done)), H', ⟨by have := HJ4.out; have := HK2.out; have := HK3.out; have := HJ54.out; omega⟩, ⟨by (with_reducible repeat (first | apply Kd.R_alloc | apply Kd.R_drewN | apply Kd.R_drew)); exact Kd.R_mono HO_4.out (fun _ hk => ⟨hk.1, hk.2.1⟩)⟩, ⟨by (with_reducible repeat (first | apply Kd.R_alloc | apply Kd.R_drewN | apply Kd.R_drew)); exact Kd.R_mono HO_7.out (fun _ hk => hk.1)⟩, ⟨by (with_reducible repeat (first | apply Kd.R_alloc | apply Kd.R_drewN | apply Kd.R_drew)); exact Kd.R_mono HO_78.out (fun _ hk => hk.1)⟩, ⟨by repeat (first | (with_reducible first | exact HB.out | apply below_alloc | apply pw_below_drewN | apply below_drew1 | refine below_set ?_ GE142.out) | exact HB.out)⟩⟩
                    ·rw [if_neg c73] at H
                     exact absurd H (by simp)
                   ·rw [if_neg c72] at H
                    exact absurd H (by simp)
                  ·rw [if_neg c70] at H
                   have c70b0 : decide (0 < x80_3) = false := decide_eq_false c70
                   clear c70
                   have H' := Aside0.mk H
                   clear H
                   try go_wp2
                   have n0_ := Aside0.mk (Kd.R_drew HO_4.out)
                   have n1_ := Aside0.mk (Kd.R_drew HO_7.out)
                   have n2_ := Aside0.mk (Kd.R_drew HO_78.out)
                   have n3_ := Aside0.mk (blk_drew BK142.out)
                   have n4_ := Aside0.mk (below_drew1 HB.out)
                   clear HO_4
                   clear HO_7
                   clear HO_78
                   clear BK142
                   clear HB
                   have HO_4 := n0_
                   have HO_7 := n1_
                   have HO_78 := n2_
                   have BK142 := n3_
                   have HB := n4_
                   clear n0_ n1_ n2_ n3_ n4_
                   refine start_ (n := 32) (S := fun w' => True) (ds := []) #[false, false, false, false, false, false, false, false, false, false, false, false, false, false, false, false, false, false, false, false, false, false, false, false, false, false, false, false, false, false, false, false] (by kernel_rfl) rfl rfl trivial (fun hHeld => ?_); refine with_tabW laws_FnSortedAll.tab25 laws_FnSortedAll.bits25 (fun HT_ HW_ => ?_)
                   generalize wc.drew = w90 at HO_4 HO_7 HO_78 BK142 HB hHeld ⊢
                   refine pure_ (i := 0) (N := some 105) (v := ?_) (a' := ?_) #[true, false, false, false, false, false, false, false, false, false, false, false, false, false, false, false, false, false, false, false, false, false, false, false, false, false, false, false, false, false, false, false] rfl rfl (any_of HT_.out (by kernel_rfl)) (fun _ _ _ h => h) (Or.inl ⟨by rfl, ?_⟩) ?_ ?_
                   rotate_left
                   ·intro w'
                    go_simp
                    with_reducible rfl
                   rotate_left
                   ·simp only [Act.put, List.setIfInBounds_toArray, List.set_cons_zero, List.set_cons_succ, i64_w, i32_w]
                    rfl
                   refine pure_ (i := 1) (N := some 106) (v := ?_) (a' := ?_) #[true, true, false, false, false, false, false, false, false, false, false, false, false, false, false, false, false, false, false, false, false, false, false, false, false, false, false, false, false, false, false, false] rfl rfl (any_of HT_.out (by kernel_rfl)) (fun _ _ _ h => h) (Or.inl ⟨by rfl, ?_⟩) ?_ ?_
                   rotate_left
                   ·intro w'
                    go_simp
                    with_reducible rfl
                   rotate_left
                   ·simp only [Act.put, List.setIfInBounds_toArray, List.set_cons_zero, List.set_cons_succ, i64_w, i32_w]
                    rfl
                   refine pure_ (i := 2) (N := some 107) (v := ?_) (a' := ?_) #[true, true, true, false, false, false, false, false, false, false, false, false, false, false, false, false, false, false, false, false, false, false, false, false, false, false, false, false, false, false, false, false] rfl rfl (any_of HT_.out (by kernel_rfl)) (fun _ _ _ h => h) (Or.inl ⟨by rfl, ?_⟩) ?_ ?_
                   rotate_left
                   ·intro w'
                    go_simp
                    with_reducible rfl
                   rotate_left
                   ·simp only [Act.put, List.setIfInBounds_toArray, List.set_cons_zero, List.set_cons_succ, i64_w, i32_w]
                    rfl
                   refine pure_ (i := 3) (N := some 108) (v := undef) (a' := ?_) #[true, true, true, true, false, false, false, false, false, false, false, false, false, false, false, false, false, false, false, false, false, false, false, false, false, false, false, false, false, false, false, false] rfl rfl (any_of HT_.out (by kernel_rfl)) (fun _ _ _ h => h) (Or.inr ⟨by rfl, rfl⟩) ?_ ?_
                   rotate_left
                   ·simp only [Act.put, List.setIfInBounds_toArray, List.set_cons_zero, List.set_cons_succ, i64_w, i32_w]
                    rfl
                   refine pure_ (i := 4) (N := some 109) (v := undef) (a' := ?_) #[true, true, true, true, true, false, false, false, false, false, false, false, false, false, false, false, false, false, false, false, false, false, false, false, false, false, false, false, false, false, false, false] rfl rfl (any_of HT_.out (by kernel_rfl)) (fun _ _ _ h => h) (Or.inr ⟨by rfl, rfl⟩) ?_ ?_
                   rotate_left
                   ·simp only [Act.put, List.setIfInBounds_toArray, List.set_cons_zero, List.set_cons_succ, i64_w, i32_w]
                    rfl
                   refine pure_ (i := 5) (N := some 110) (v := undef) (a' := ?_) #[true, true, true, true, true, true, false, false, false, false, false, false, false, false, false, false, false, false, false, false, false, false, false, false, false, false, false, false, false, false, false, false] rfl rfl (any_of HT_.out (by kernel_rfl)) (fun _ _ _ h => h) (Or.inr ⟨by rfl, rfl⟩) ?_ ?_
                   rotate_left
                   ·simp only [Act.put, List.setIfInBounds_toArray, List.set_cons_zero, List.set_cons_succ, i64_w, i32_w]
                    rfl
                   refine pure_ (i := 6) (N := some 111) (v := undef) (a' := ?_) #[true, true, true, true, true, true, true, false, false, false, false, false, false, false, false, false, false, false, false, false, false, false, false, false, false, false, false, false, false, false, false, false] rfl rfl (any_of HT_.out (by kernel_rfl)) (fun _ _ _ h => h) (Or.inr ⟨by rfl, rfl⟩) ?_ ?_
                   rotate_left
                   ·simp only [Act.put, List.setIfInBounds_toArray, List.set_cons_zero, List.set_cons_succ, i64_w, i32_w]
                    rfl
                   refine pure_ (i := 7) (N := some 112) (v := undef) (a' := ?_) #[true, true, true, true, true, true, true, true, false, false, false, false, false, false, false, false, false, false, false, false, false, false, false, false, false, false, false, false, false, false, false, false] rfl rfl (any_of HT_.out (by kernel_rfl)) (fun _ _ _ h => h) (Or.inr ⟨by rfl, rfl⟩) ?_ ?_
                   rotate_left
                   ·simp only [Act.put, List.setIfInBounds_toArray, List.set_cons_zero, List.set_cons_succ, i64_w, i32_w]
                    rfl
                   refine pure_ (i := 8) (N := some 113) (v := undef) (a' := ?_) #[true, true, true, true, true, true, true, true, true, false, false, false, false, false, false, false, false, false, false, false, false, false, false, false, false, false, false, false, false, false, false, false] rfl rfl (any_of HT_.out (by kernel_rfl)) (fun _ _ _ h => h) (Or.inr ⟨by rfl, rfl⟩) ?_ ?_
                   rotate_left
                   ·simp only [Act.put, List.setIfInBounds_toArray, List.set_cons_zero, List.set_cons_succ, i64_w, i32_w]
                    rfl
                   refine pure_ (i := 9) (N := some 114) (v := undef) (a' := ?_) #[true, true, true, true, true, true, true, true, true, true, false, false, false, false, false, false, false, false, false, false, false, false, false, false, false, false, false, false, false, false, false, false] rfl rfl (any_of HT_.out (by kernel_rfl)) (fun _ _ _ h => h) (Or.inr ⟨by rfl, rfl⟩) ?_ ?_
                   rotate_left
                   ·simp only [Act.put, List.setIfInBounds_toArray, List.set_cons_zero, List.set_cons_succ, i64_w, i32_w]
                    rfl
                   refine pure_ (i := 10) (N := some 115) (v := undef) (a' := ?_) #[true, true, true, true, true, true, true, true, true, true, true, false, false, false, false, false, false, false, false, false, false, false, false, false, false, false, false, false, false, false, false, false] rfl rfl (any_of HT_.out (by kernel_rfl)) (fun _ _ _ h => h) (Or.inr ⟨by rfl, rfl⟩) ?_ ?_
                   rotate_left
                   ·simp only [Act.put, List.setIfInBounds_toArray, List.set_cons_zero, List.set_cons_succ, i64_w, i32_w]
                    rfl
                   refine pure_ (i := 11) (N := some 116) (v := undef) (a' := ?_) #[true, true, true, true, true, true, true, true, true, true, true, true, false, false, false, false, false, false, false, false, false, false, false, false, false, false, false, false, false, false, false, false] rfl rfl (any_of HT_.out (by kernel_rfl)) (fun _ _ _ h => h) (Or.inr ⟨by rfl, rfl⟩) ?_ ?_
                   rotate_left
                   ·simp only [Act.put, List.setIfInBounds_toArray, List.set_cons_zero, List.set_cons_succ, i64_w, i32_w]
                    rfl
                   refine pure_ (i := 12) (N := some 117) (v := undef) (a' := ?_) #[true, true, true, true, true, true, true, true, true, true, true, true, true, false, false, false, false, false, false, false, false, false, false, false, false, false, false, false, false, false, false, false] rfl rfl (any_of HT_.out (by kernel_rfl)) (fun _ _ _ h => h) (Or.inr ⟨by rfl, rfl⟩) ?_ ?_
                   rotate_left
                   ·simp only [Act.put, List.setIfInBounds_toArray, List.set_cons_zero, List.set_cons_succ, i64_w, i32_w]
                    rfl
                   refine pure_ (i := 13) (N := some 118) (v := undef) (a' := ?_) #[true, true, true, true, true, true, true, true, true, true, true, true, true, true, false, false, false, false, false, false, false, false, false, false, false, false, false, false, false, false, false, false] rfl rfl (any_of HT_.out (by kernel_rfl)) (fun _ _ _ h => h) (Or.inr ⟨by rfl, rfl⟩) ?_ ?_
                   rotate_left
                   ·simp only [Act.put, List.setIfInBounds_toArray, List.set_cons_zero, List.set_cons_succ, i64_w, i32_w]
                    rfl
                   refine pure_ (i := 14) (N := some 119) (v := undef) (a' := ?_) #[true, true, true, true, true, true, true, true, true, true, true, true, true, true, true, false, false, false, false, false, false, false, false, false, false, false, false, false, false, false, false, false] rfl rfl (any_of HT_.out (by kernel_rfl)) (fun _ _ _ h => h) (Or.inr ⟨by rfl, rfl⟩) ?_ ?_
                   rotate_left
                   ·simp only [Act.put, List.setIfInBounds_toArray, List.set_cons_zero, List.set_cons_succ, i64_w, i32_w]
                    rfl
                   refine pure_ (i := 15) (N := some 120) (v := undef) (a' := ?_) #[true, true, true, true, true, true, true, true, true, true, true, true, true, true, true, true, false, false, false, false, false, false, false, false, false, false, false, false, false, false, false, false] rfl rfl (any_of HT_.out (by kernel_rfl)) (fun _ _ _ h => h) (Or.inr ⟨by rfl, rfl⟩) ?_ ?_
                   rotate_left
                   ·simp only [Act.put, List.setIfInBounds_toArray, List.set_cons_zero, List.set_cons_succ, i64_w, i32_w]
                    rfl
                   refine pure_ (i := 16) (N := some 121) (v := undef) (a' := ?_) #[true, true, true, true, true, true, true, true, true, true, true, true, true, true, true, true, true, false, false, false, false, false, false, false, false, false, false, false, false, false, false, false] rfl rfl (any_of HT_.out (by kernel_rfl)) (fun _ _ _ h => h) (Or.inr ⟨by rfl, rfl⟩) ?_ ?_
                   rotate_left
                   ·simp only [Act.put, List.setIfInBounds_toArray, List.set_cons_zero, List.set_cons_succ, i64_w, i32_w]
                    rfl
                   refine pure_ (i := 17) (N := some 122) (v := undef) (a' := ?_) #[true, true, true, true, true, true, true, true, true, true, true, true, true, true, true, true, true, true, false, false, false, false, false, false, false, false, false, false, false, false, false, false] rfl rfl (any_of HT_.out (by kernel_rfl)) (fun _ _ _ h => h) (Or.inr ⟨by rfl, rfl⟩) ?_ ?_
                   rotate_left
                   ·simp only [Act.put, List.setIfInBounds_toArray, List.set_cons_zero, List.set_cons_succ, i64_w, i32_w]
                    rfl
                   refine pure_ (i := 18) (N := some 123) (v := undef) (a' := ?_) #[true, true, true, true, true, true, true, true, true, true, true, true, true, true, true, true, true, true, true, false, false, false, false, false, false, false, false, false, false, false, false, false] rfl rfl (any_of HT_.out (by kernel_rfl)) (fun _ _ _ h => h) (Or.inr ⟨by rfl, rfl⟩) ?_ ?_
                   rotate_left
                   ·simp only [Act.put, List.setIfInBounds_toArray, List.set_cons_zero, List.set_cons_succ, i64_w, i32_w]
                    rfl
                   refine pure_ (i := 19) (N := some 124) (v := undef) (a' := ?_) #[true, true, true, true, true, true, true, true, true, true, true, true, true, true, true, true, true, true, true, true, false, false, false, false, false, false, false, false, false, false, false, false] rfl rfl (any_of HT_.out (by kernel_rfl)) (fun _ _ _ h => h) (Or.inr ⟨by rfl, rfl⟩) ?_ ?_
                   rotate_left
                   ·simp only [Act.put, List.setIfInBounds_toArray, List.set_cons_zero, List.set_cons_succ, i64_w, i32_w]
                    rfl
                   refine pure_ (i := 20) (N := some 125) (v := undef) (a' := ?_) #[true, true, true, true, true, true, true, true, true, true, true, true, true, true, true, true, true, true, true, true, true, false, false, false, false, false, false, false, false, false, false, false] rfl rfl (any_of HT_.out (by kernel_rfl)) (fun _ _ _ h => h) (Or.inr ⟨by rfl, rfl⟩) ?_ ?_
                   rotate_left
                   ·simp only [Act.put, List.setIfInBounds_toArray, List.set_cons_zero, List.set_cons_succ, i64_w, i32_w]
                    rfl
                   refine pure_ (i := 21) (N := some 126) (v := undef) (a' := ?_) #[true, true, true, true, true, true, true, true, true, true, true, true, true, true, true, true, true, true, true, true, true, true, false, false, false, false, false, false, false, false, false, false] rfl rfl (any_of HT_.out (by kernel_rfl)) (fun _ _ _ h => h) (Or.inr ⟨by rfl, rfl⟩) ?_ ?_
                   rotate_left
                   ·simp only [Act.put, List.setIfInBounds_toArray, List.set_cons_zero, List.set_cons_succ, i64_w, i32_w]
                    rfl
                   refine pure_ (i := 22) (N := some 127) (v := undef) (a' := ?_) #[true, true, true, true, true, true, true, true, true, true, true, true, true, true, true, true, true, true, true, true, true, true, true, false, false, false, false, false, false, false, false, false] rfl rfl (any_of HT_.out (by kernel_rfl)) (fun _ _ _ h => h) (Or.inr ⟨by rfl, rfl⟩) ?_ ?_
                   rotate_left
                   ·simp only [Act.put, List.setIfInBounds_toArray, List.set_cons_zero, List.set_cons_succ, i64_w, i32_w]
                    rfl
                   refine pure_ (i := 23) (N := some 128) (v := undef) (a' := ?_) #[true, true, true, true, true, true, true, true, true, true, true, true, true, true, true, true, true, true, true, true, true, true, true, true, false, false, false, false, false, false, false, false] rfl rfl (any_of HT_.out (by kernel_rfl)) (fun _ _ _ h => h) (Or.inr ⟨by rfl, rfl⟩) ?_ ?_
                   rotate_left
                   ·simp only [Act.put, List.setIfInBounds_toArray, List.set_cons_zero, List.set_cons_succ, i64_w, i32_w]
                    rfl
                   refine pure_ (i := 24) (N := some 129) (v := undef) (a' := ?_) #[true, true, true, true, true, true, true, true, true, true, true, true, true, true, true, true, true, true, true, true, true, true, true, true, true, false, false, false, false, false, false, false] rfl rfl (any_of HT_.out (by kernel_rfl)) (fun _ _ _ h => h) (Or.inr ⟨by rfl, rfl⟩) ?_ ?_
                   rotate_left
                   ·simp only [Act.put, List.setIfInBounds_toArray, List.set_cons_zero, List.set_cons_succ, i64_w, i32_w]
                    rfl
                   refine pure_ (i := 25) (N := some 130) (v := undef) (a' := ?_) #[true, true, true, true, true, true, true, true, true, true, true, true, true, true, true, true, true, true, true, true, true, true, true, true, true, true, false, false, false, false, false, false] rfl rfl (any_of HT_.out (by kernel_rfl)) (fun _ _ _ h => h) (Or.inr ⟨by rfl, rfl⟩) ?_ ?_
                   rotate_left
                   ·simp only [Act.put, List.setIfInBounds_toArray, List.set_cons_zero, List.set_cons_succ, i64_w, i32_w]
                    rfl
                   refine pure_ (i := 26) (N := some 131) (v := undef) (a' := ?_) #[true, true, true, true, true, true, true, true, true, true, true, true, true, true, true, true, true, true, true, true, true, true, true, true, true, true, true, false, false, false, false, false] rfl rfl (any_of HT_.out (by kernel_rfl)) (fun _ _ _ h => h) (Or.inr ⟨by rfl, rfl⟩) ?_ ?_
                   rotate_left
                   ·simp only [Act.put, List.setIfInBounds_toArray, List.set_cons_zero, List.set_cons_succ, i64_w, i32_w]
                    rfl
                   refine pure_ (i := 27) (N := some 132) (v := undef) (a' := ?_) #[true, true, true, true, true, true, true, true, true, true, true, true, true, true, true, true, true, true, true, true, true, true, true, true, true, true, true, true, false, false, false, false] rfl rfl (any_of HT_.out (by kernel_rfl)) (fun _ _ _ h => h) (Or.inr ⟨by rfl, rfl⟩) ?_ ?_
                   rotate_left
                   ·simp only [Act.put, List.setIfInBounds_toArray, List.set_cons_zero, List.set_cons_succ, i64_w, i32_w]
                    rfl
                   refine pure_ (i := 28) (N := some 133) (v := undef) (a' := ?_) #[true, true, true, true, true, true, true, true, true, true, true, true, true, true, true, true, true, true, true, true, true, true, true, true, true, true, true, true, true, false, false, false] rfl rfl (any_of HT_.out (by kernel_rfl)) (fun _ _ _ h => h) (Or.inr ⟨by rfl, rfl⟩) ?_ ?_
                   rotate_left
                   ·simp only [Act.put, List.setIfInBounds_toArray, List.set_cons_zero, List.set_cons_succ, i64_w, i32_w]
                    rfl
                   refine pure_ (i := 29) (N := some 134) (v := undef) (a' := ?_) #[true, true, true, true, true, true, true, true, true, true, true, true, true, true, true, true, true, true, true, true, true, true, true, true, true, true, true, true, true, true, false, false] rfl rfl (any_of HT_.out (by kernel_rfl)) (fun _ _ _ h => h) (Or.inr ⟨by rfl, rfl⟩) ?_ ?_
                   rotate_left
                   ·simp only [Act.put, List.setIfInBounds_toArray, List.set_cons_zero, List.set_cons_succ, i64_w, i32_w]
                    rfl
                   refine pure_ (i := 30) (N := some 135) (v := undef) (a' := ?_) #[true, true, true, true, true, true, true, true, true, true, true, true, true, true, true, true, true, true, true, true, true, true, true, true, true, true, true, true, true, true, true, false] rfl rfl (any_of HT_.out (by kernel_rfl)) (fun _ _ _ h => h) (Or.inr ⟨by rfl, rfl⟩) ?_ ?_
                   rotate_left
                   ·simp only [Act.put, List.setIfInBounds_toArray, List.set_cons_zero, List.set_cons_succ, i64_w, i32_w]
                    rfl
                   refine pure_ (i := 31) (N := some 136) (v := ?_) (a' := ?_) #[true, true, true, true, true, true, true, true, true, true, true, true, true, true, true, true, true, true, true, true, true, true, true, true, true, true, true, true, true, true, true, true] rfl rfl (any_of HT_.out (by kernel_rfl)) (fun _ _ _ h => h) (Or.inl ⟨by rfl, ?_⟩) ?_ ?_
                   rotate_left
                   ·intro w'
                    go_simp
                    with_reducible rfl
                   rotate_left
                   ·simp only [Act.put, List.setIfInBounds_toArray, List.set_cons_zero, List.set_cons_succ, i64_w, i32_w]
                    rfl
                   refine done_ (done_of HT_.out (by kernel_rfl)) ?_
                   try go_wp2
                   go_roundg kj54
                   case measure => have := HJ4.out; have := HK2.out; have := HK3.out; have := HJ54.out; omega
                   case rel => exact ⟨(wrap64 (x80_3 + 1)), (by first | rfl | (simp; done) | (rw [prx_ne]; first | done | rfl) | (simp [*]; done)), H', ⟨by have := HJ4.out; have := HK2.out; have := HK3.out; have := HJ54.out; omega⟩, ⟨by (with_reducible repeat (first | apply Kd.R_alloc | apply Kd.R_drewN | apply Kd.R_drew)); exact Kd.R_mono HO_4.out (fun _ hk => ⟨hk.1, hk.2.1⟩)⟩, ⟨by (with_reducible repeat (first | apply Kd.R_alloc | apply Kd.R_drewN | apply Kd.R_drew)); exact Kd.R_mono HO_7.out (fun _ hk => hk.1)⟩, ⟨by (with_reducible repeat (first | apply Kd.R_alloc | apply Kd.R_drewN | apply Kd.R_drew)); exact Kd.R_mono HO_78.out (fun _ hk => hk.1)⟩, ⟨by repeat (first | (with_reducible first | exact HB.out | apply below_alloc | apply pw_below_drewN | apply below_drew1 | refine below_set ?_ GE142.out) | exact HB.out)⟩⟩
              ·rw [if_neg c54] at H
               exact absurd H (by simp)
             ·rw [if_neg c53] at H
              exact absurd H (by simp)
            ·rw [if_neg c52] at H
             have c52b0 : decide (x80_3 < (t138.length : Int)) = false := decide_eq_false c52
             clear c52
             obtain rfl := Option.some.inj H
             go_wp2
             go_ret
             exact ⟨by first | rfl | (simp [errW_none, errW_some] <;> rfl) | (simp [*, errW_none, errW_some] <;> rfl), by repeat (first | (with_reducible first | exact HB.out | apply below_alloc | apply pw_below_drewN | apply below_drew1) | exact HB.out)⟩
         ·rw [if_neg c48] at H
          have c48b0 : ((t138.length : Int) == (x4_2.length : Int)) = false := beq_eq_false_iff_ne.mpr c48
          have c48b1 : ((t138.length : Int) != (x4_2.length : Int)) = true := bne_iff_ne.mpr c48
          have c48b2 : (t138.length == x4_2.length) = false := by first | simpa using c48 | (simp at c48 ⊢; omega)
          obtain rfl := Option.some.inj H
          obtain ⟨Ao91, co91, eo91⟩ := Kd.R_slice HO_4.out
          subst eo91
          go_wp2_with (first | ((with_reducible refine gate_callee (f := 14) rfl ?_); refine goesL_ (some 72) rfl rfl Try.func14 (by kernel_rfl) rfl #[.slice Ao91 x4_2.length co91] rfl (by (try simp only [List.map_toArray, List.map_cons, List.map_nil]); first | done | rfl | (simp only [List.length_drop, List.length_take]; rfl)) ?_; (with_reducible refine (impl_SortAccepted.calls k2 _ _ x4_2 t138 _ ?side1 ?side2 A47.out).mono ?_); (case side1 => repeat (first | exact (Kd.R_reads' HO_4.out).2.2 | (with_reducible refine Kd.C_alloc ?_ _) | (with_reducible refine Kd.C_drewN ?_ _) | (with_reducible refine Kd.C_drew ?_))); (case side2 => exact (Kd.R_reads' HO_4.out).2.1); rintro e w92 ⟨v139, rfl, ho0, hb⟩; refine ⟨_, rfl, ?_⟩; have n0_ := Aside0.mk (Kd.R_elder' (by (with_reducible repeat (first | apply Kd.R_alloc | apply Kd.R_drewN | apply Kd.R_drew)); exact HO_4.out) (Kd.R_base ho0) hb); have n1_ := Aside0.mk (Kd.R_lower (Kd.R_new' ho0 (Kd.R_lt (by (with_reducible repeat (first | apply Kd.R_alloc | apply Kd.R_drewN | apply Kd.R_drew)); exact HO_4.out))) (below_size (by repeat (first | (with_reducible first | exact HB.out | apply below_alloc | apply pw_below_drewN | apply below_drew1) | exact HB.out)))); have n2_ := Aside0.mk (below_step (by repeat (first | (with_reducible first | exact HB.out | apply below_alloc | apply pw_below_drewN | apply below_drew1) | exact HB.out)) hb); clear HO_4; clear HB; have HO_4 := n0_; have HO140 := n1_; have HB := n2_; clear n0_ n1_ n2_; (try clear hb); (try clear hb2); (try clear hk); (try clear hi); (try clear ho0); obtain ⟨Ao93, co93, eo93⟩ := Kd.R_slice HO140.out; subst eo93))
          go_ret
          exact ⟨by first | rfl | (simp [errW_none, errW_some] <;> rfl) | (simp [*, errW_none, errW_some] <;> rfl), by repeat (first | (with_reducible first | exact HB.out | apply below_alloc | apply pw_below_drewN | apply below_drew1) | exact HB.out)⟩
 ·replace c3 := Bool.eq_false_iff.mpr c3
  subst c3
  have H1 : (some true) = some r := by rw [if_neg (show ¬ (false = true) by decide)] at H; exact H
  clear H
  have H := H1
  clear H1
  obtain rfl := Option.some.inj H
  go_enter Try.func3, Try.ntmps3
  go_wp2_with (first | ((with_reducible refine gate_callee (f := 13) rfl ?_); refine goesL_ (some 11) rfl rfl Try.func13 (by kernel_rfl) rfl #[.slice A0 l0.length c0] rfl (by (try simp only [List.map_toArray, List.map_cons, List.map_nil]); first | done | rfl | (simp only [List.length_drop, List.length_take]; rfl)) ?_; (with_reducible refine (laws_zzFits7.calls k _ _ l0 false _ ?side1 ?side2 A2.out).mono ?_); (case side1 => repeat (first | exact HR0.out | (with_reducible refine Kd.C_alloc ?_ _) | (with_reducible refine Kd.C_drewN ?_ _) | (with_reducible refine Kd.C_drew ?_))); (case side2 => exact HC0.out); rintro e w94 ⟨rfl, hb⟩; refine ⟨_, rfl, ?_⟩; have n0_ := Aside0.mk (below_step (by repeat (first | (with_reducible first | exact HB.out | apply below_alloc | apply pw_below_drewN | apply below_drew1) | exact HB.out)) hb); clear HB; have HB := n0_; clear n0_; (try clear hb); (try clear hb2); (try clear hk); (try clear hi)))
  go_ret
  exact ⟨by first | rfl | (simp [errW_none, errW_some] <;> rfl) | (simp [*, errW_none, errW_some] <;> rfl), by repeat (first | (with_reducible first | exact HB.out | apply below_alloc | apply pw_below_drewN | apply below_drew1) | exact HB.out)⟩

/-- THE ONE PURE STATEMENT of laws_FnSortedAll: yours. -/
def laws_FnSortedAll.Pure : Prop := ∀ (l0 : List (S26)), l0.length * 56 ≤ 140737488351232 → ∃ k, laws_FnSortedAll.f k l0 = some true
theorem laws_FnSortedAll.walk (P : laws_FnSortedAll.Pure) (a0 : Option Addr) (cap0 : Nat) (l0 : List S26) (w : World) (w0 : Kd.C k26 w a0 l0.length l0) (y0 : l0.length ≤ cap0) (m0 : l0.length * 56 ≤ 140737488351232) :
    Calls Try.prog 3 #[.slice a0 l0.length cap0] w fun e w' => e = .returned (.bool true) ∧ Below w.heap.size w w' := by
  obtain ⟨k, h⟩ := P l0 m0
  refine (laws_FnSortedAll.calls k _ _ l0 true w w0 y0 rfl h).mono ?_
  rintro e w' ⟨rfl, hd⟩
  exact ⟨rfl, hd⟩

end Go.Proofs.Ytkbmababljcabaa.QA
