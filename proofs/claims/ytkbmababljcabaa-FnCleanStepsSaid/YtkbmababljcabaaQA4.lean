/- Printed by wip/pr.py (a program of this repo over the print program of the kit). Not trusted: Lean checks it. -/
import Derived.Test.YtkbmababljcabaaQA0
import Derived.Test.YtkbmababljcabaaQA1
import Derived.Test.YtkbmababljcabaaQA3
import Derived.Test.YtkbmababljcabaaGCleanI
namespace Go.Proofs.Ytkbmababljcabaa.QA
open Go.Proofs.Ytkbmababljcabaa.Given
open Go.Proofs.Ytkbmababljcabaa.PrX
open Go.RowKit Go.Proofs.YtkbmababljcabaaW.PrintWords Go.Proofs.YtkbmababljcabaaW.PrintLast Go.Proofs.YtkbmababljcabaaW.PrintMore
attribute [local go_sem] max2_int min2_int max_two min_two max_three min_three max_four min_four   -- for this text's walks alone
set_option linter.unusedVariables false
set_option linter.unusedSimpArgs false

/-! ### laws_FnCleanSteps: function 8 -/
mutual
def laws_FnCleanSteps.j0 : Nat → List ByteArray → Int → ByteArray → Int → Bool → Option (Bool)
  | 0, _, _, _, _, _ => none
  | k + 1, x0, x1, x2, x3, x28 => if x28 = true then (some true) else ((impl_CleanPath.f (⟨#[47, 97, 47, 46, 46, 47, 98]⟩ : ByteArray)).bind fun bt105 => (if bt105.2 = true then (laws_FnCleanSteps.j1 k x0 x1 x2 x3 (bt105.1.toList != ([47, 98] : List UInt8))) else (laws_FnCleanSteps.j1 k x0 x1 x2 x3 true)))
def laws_FnCleanSteps.j1 : Nat → List ByteArray → Int → ByteArray → Int → Bool → Option (Bool)
  | 0, _, _, _, _, _ => none
  | k + 1, x0, x1, x2, x3, x38 => if x38 = true then (some false) else (if (x0.length : Int) = 0 then (laws_FnCleanSteps.j2 k x0 x1 x2 x3 true) else ((laws_words.f k x0).bind fun t107 => (if t107 = true then ((laws_words.f k (([x2] : List ByteArray))).bind fun t111 => (if t111 = true then (if x1 < 0 then (laws_FnCleanSteps.j2 k x0 x1 x2 x3 true) else (laws_FnCleanSteps.j2 k x0 x1 x2 x3 (decide (x1 ≥ (x0.length : Int))))) else (laws_FnCleanSteps.j2 k x0 x1 x2 x3 true))) else (laws_FnCleanSteps.j2 k x0 x1 x2 x3 true))))
def laws_FnCleanSteps.j2 : Nat → List ByteArray → Int → ByteArray → Int → Bool → Option (Bool)
  | 0, _, _, _, _, _ => none
  | k + 1, x0, x1, x2, x3, x62 => if x62 = true then (some true) else (laws_FnCleanSteps.l0 k x1 x2 x3 (⟨#[]⟩ : ByteArray) (⟨#[]⟩ : ByteArray) x0 (x0.length : Int) 0)
def laws_FnCleanSteps.l0 : Nat → Int → ByteArray → Int → ByteArray → ByteArray → List ByteArray → Int → Int → Option (Bool)
  | 0, _, _, _, _, _, _, _, _ => none
  | k + 1, x1, x2, x3, x11, x12, x63, x64, x65 => if x65 < x64 then (if 0 ≤ x65 then (if x65 < (x63.length : Int) then (if x65 = x1 then (if 1 + x2.size ≤ 9223372036854775807 then (if ((⟨#[47]⟩ : ByteArray) ++ x2).size + 3 ≤ 9223372036854775807 then ((some (([((⟨#[47]⟩ : ByteArray) ++ x2) ++ (⟨#[47, 46, 46]⟩ : ByteArray), (⟨#[47, 46]⟩ : ByteArray), (⟨#[47]⟩ : ByteArray)] : List ByteArray) : List ByteArray)).bind fun y113 => (if 0 ≤ (Int.tmod x3 3) then (if (Int.tmod x3 3) < (y113.length : Int) then (if x12.size + (rdOf ByteArray.empty y113 (Int.tmod x3 3)).size ≤ 9223372036854775807 then (if 1 + (rdOf ByteArray.empty x63 x65).size ≤ 9223372036854775807 then (if x11.size + ((⟨#[47]⟩ : ByteArray) ++ (rdOf ByteArray.empty x63 x65)).size ≤ 9223372036854775807 then (if (x12 ++ (rdOf ByteArray.empty y113 (Int.tmod x3 3))).size + ((⟨#[47]⟩ : ByteArray) ++ (rdOf ByteArray.empty x63 x65)).size ≤ 9223372036854775807 then (laws_FnCleanSteps.l0 k x1 x2 x3 (x11 ++ ((⟨#[47]⟩ : ByteArray) ++ (rdOf ByteArray.empty x63 x65))) ((x12 ++ (rdOf ByteArray.empty y113 (Int.tmod x3 3))) ++ ((⟨#[47]⟩ : ByteArray) ++ (rdOf ByteArray.empty x63 x65))) x63 x64 (wrap64 (x65 + 1))) else (none)) else (none)) else (none)) else (none)) else (none)) else (none))) else (none)) else (none)) else (if 1 + (rdOf ByteArray.empty x63 x65).size ≤ 9223372036854775807 then (if x11.size + ((⟨#[47]⟩ : ByteArray) ++ (rdOf ByteArray.empty x63 x65)).size ≤ 9223372036854775807 then (if x12.size + ((⟨#[47]⟩ : ByteArray) ++ (rdOf ByteArray.empty x63 x65)).size ≤ 9223372036854775807 then (laws_FnCleanSteps.l0 k x1 x2 x3 (x11 ++ ((⟨#[47]⟩ : ByteArray) ++ (rdOf ByteArray.empty x63 x65))) (x12 ++ ((⟨#[47]⟩ : ByteArray) ++ (rdOf ByteArray.empty x63 x65))) x63 x64 (wrap64 (x65 + 1))) else (none)) else (none)) else (none))) else (none)) else (none)) else ((impl_CleanPath.f x11).bind fun bt117 => ((impl_CleanPath.f x12).bind fun bt119 => (if x11.size + 1 ≤ 9223372036854775807 then ((impl_CleanPath.f (x11 ++ (⟨#[47]⟩ : ByteArray))).bind fun bt121 => (if bt117.2 = true then (if bt119.2 = true then (if bt121.2 = true then (if bt117.1.toList = x11.toList then (if bt119.1.toList = x11.toList then (some (bt121.1.toList == (x11 ++ (⟨#[47]⟩ : ByteArray)).toList)) else (some false)) else (some false)) else (some false)) else (some false)) else (some false))) else (none))))
end
def laws_FnCleanSteps.f (k : Nat) (l0 : List ByteArray) (a1 : Int) (a2 : ByteArray) (a3 : Int) : Option (Bool) := (laws_zzFits6.f k l0).bind fun t104 => (if t104 = true then (laws_FnCleanSteps.j0 k l0 a1 a2 a3 (decide ((a2.size : Int) > 2147483647))) else (laws_FnCleanSteps.j0 k l0 a1 a2 a3 true))
theorem laws_FnCleanSteps.mono_l : ∀ k, (∀ y0 y1 y2 y3 y4, LeO (laws_FnCleanSteps.j0 k y0 y1 y2 y3 y4) (laws_FnCleanSteps.j0 (k + 1) y0 y1 y2 y3 y4)) ∧ (∀ y0 y1 y2 y3 y4, LeO (laws_FnCleanSteps.j1 k y0 y1 y2 y3 y4) (laws_FnCleanSteps.j1 (k + 1) y0 y1 y2 y3 y4)) ∧ (∀ y0 y1 y2 y3 y4, LeO (laws_FnCleanSteps.j2 k y0 y1 y2 y3 y4) (laws_FnCleanSteps.j2 (k + 1) y0 y1 y2 y3 y4)) ∧ (∀ y0 y1 y2 y3 y4 y5 y6 y7, LeO (laws_FnCleanSteps.l0 k y0 y1 y2 y3 y4 y5 y6 y7) (laws_FnCleanSteps.l0 (k + 1) y0 y1 y2 y3 y4 y5 y6 y7))
  | 0 => ⟨fun _ _ _ _ _ r h => by simp [laws_FnCleanSteps.j0] at h, fun _ _ _ _ _ r h => by simp [laws_FnCleanSteps.j1] at h, fun _ _ _ _ _ r h => by simp [laws_FnCleanSteps.j2] at h, fun _ _ _ _ _ _ _ _ r h => by simp [laws_FnCleanSteps.l0] at h⟩
  | k + 1 => by
    obtain ⟨ih0, ih1, ih2, ih3⟩ := laws_FnCleanSteps.mono_l k
    refine ⟨?_, ?_, ?_, ?_⟩
    · intro y0 y1 y2 y3 y4
      unfold laws_FnCleanSteps.j0
      repeat' first
      | (with_reducible exact ih0 _ _ _ _ _)
      | (with_reducible exact ih1 _ _ _ _ _)
      | (with_reducible exact ih2 _ _ _ _ _)
      | (with_reducible exact ih3 _ _ _ _ _ _ _ _)
      | (with_reducible exact laws_words.mono _ _)
      | (with_reducible exact laws_zzFits6.mono _ _)
      | (with_reducible exact LeO.refl _)
      | (with_reducible exact LeO.none _)
      | (with_reducible refine LeO.ite ?_ ?_)
      | (with_reducible refine LeO.bind ?_ (fun _ => ?_))
      | exact ih0 _ _ _ _ _
      | exact ih1 _ _ _ _ _
      | exact ih2 _ _ _ _ _
      | exact ih3 _ _ _ _ _ _ _ _
      | exact laws_words.mono _ _
      | exact laws_zzFits6.mono _ _
      | exact LeO.none _
      | refine LeO.ite ?_ ?_
      | refine LeO.bind ?_ (fun _ => ?_)
    · intro y0 y1 y2 y3 y4
      unfold laws_FnCleanSteps.j1
      repeat' first
      | (with_reducible exact ih0 _ _ _ _ _)
      | (with_reducible exact ih1 _ _ _ _ _)
      | (with_reducible exact ih2 _ _ _ _ _)
      | (with_reducible exact ih3 _ _ _ _ _ _ _ _)
      | (with_reducible exact laws_words.mono _ _)
      | (with_reducible exact laws_zzFits6.mono _ _)
      | (with_reducible exact LeO.refl _)
      | (with_reducible exact LeO.none _)
      | (with_reducible refine LeO.ite ?_ ?_)
      | (with_reducible refine LeO.bind ?_ (fun _ => ?_))
      | exact ih0 _ _ _ _ _
      | exact ih1 _ _ _ _ _
      | exact ih2 _ _ _ _ _
      | exact ih3 _ _ _ _ _ _ _ _
      | exact laws_words.mono _ _
      | exact laws_zzFits6.mono _ _
      | exact LeO.none _
      | refine LeO.ite ?_ ?_
      | refine LeO.bind ?_ (fun _ => ?_)
    · intro y0 y1 y2 y3 y4
      unfold laws_FnCleanSteps.j2
      repeat' first
      | (with_reducible exact ih0 _ _ _ _ _)
      | (with_reducible exact ih1 _ _ _ _ _)
      | (with_reducible exact ih2 _ _ _ _ _)
      | (with_reducible exact ih3 _ _ _ _ _ _ _ _)
      | (with_reducible exact laws_words.mono _ _)
      | (with_reducible exact laws_zzFits6.mono _ _)
      | (with_reducible exact LeO.refl _)
      | (with_reducible exact LeO.none _)
      | (with_reducible refine LeO.ite ?_ ?_)
      | (with_reducible refine LeO.bind ?_ (fun _ => ?_))
      | exact ih0 _ _ _ _ _
      | exact ih1 _ _ _ _ _
      | exact ih2 _ _ _ _ _
      | exact ih3 _ _ _ _ _ _ _ _
      | exact laws_words.mono _ _
      | exact laws_zzFits6.mono _ _
      | exact LeO.none _
      | refine LeO.ite ?_ ?_
      | refine LeO.bind ?_ (fun _ => ?_)
    · intro y0 y1 y2 y3 y4 y5 y6 y7
      unfold laws_FnCleanSteps.l0
      repeat' first
      | (with_reducible exact ih0 _ _ _ _ _)
      | (with_reducible exact ih1 _ _ _ _ _)
      | (with_reducible exact ih2 _ _ _ _ _)
      | (with_reducible exact ih3 _ _ _ _ _ _ _ _)
      | (with_reducible exact laws_words.mono _ _)
      | (with_reducible exact laws_zzFits6.mono _ _)
      | (with_reducible exact LeO.refl _)
      | (with_reducible exact LeO.none _)
      | (with_reducible refine LeO.ite ?_ ?_)
      | (with_reducible refine LeO.bind ?_ (fun _ => ?_))
      | exact ih0 _ _ _ _ _
      | exact ih1 _ _ _ _ _
      | exact ih2 _ _ _ _ _
      | exact ih3 _ _ _ _ _ _ _ _
      | exact laws_words.mono _ _
      | exact laws_zzFits6.mono _ _
      | exact LeO.none _
      | refine LeO.ite ?_ ?_
      | refine LeO.bind ?_ (fun _ => ?_)
theorem laws_FnCleanSteps.mono : ∀ a0 a1 a2 a3 k, LeO (laws_FnCleanSteps.f k a0 a1 a2 a3) (laws_FnCleanSteps.f (k + 1) a0 a1 a2 a3) := by
  intro a0 a1 a2 a3 k
  obtain ⟨ih0, ih1, ih2, ih3⟩ := laws_FnCleanSteps.mono_l k
  unfold laws_FnCleanSteps.f
  repeat' first
      | (with_reducible exact ih0 _ _ _ _ _)
      | (with_reducible exact ih1 _ _ _ _ _)
      | (with_reducible exact ih2 _ _ _ _ _)
      | (with_reducible exact ih3 _ _ _ _ _ _ _ _)
      | (with_reducible exact laws_words.mono _ _)
      | (with_reducible exact laws_zzFits6.mono _ _)
      | (with_reducible exact LeO.refl _)
      | (with_reducible exact LeO.none _)
      | (with_reducible refine LeO.ite ?_ ?_)
      | (with_reducible refine LeO.bind ?_ (fun _ => ?_))
      | exact ih0 _ _ _ _ _
      | exact ih1 _ _ _ _ _
      | exact ih2 _ _ _ _ _
      | exact ih3 _ _ _ _ _ _ _ _
      | exact laws_words.mono _ _
      | exact laws_zzFits6.mono _ _
      | exact LeO.none _
      | refine LeO.ite ?_ ?_
      | refine LeO.bind ?_ (fun _ => ?_)
set_option maxHeartbeats 8000000 in
set_option maxRecDepth 100000 in
theorem laws_FnCleanSteps.calls (k : Nat) (A0 : Option Addr) (c0 : Nat) (l0 : List ByteArray) (a1 : Int) (a2 : ByteArray) (a3 : Int) (r : Bool) (w : World) (hr0 : Kd.C Kd.string w A0 l0.length l0) (hc0 : l0.length ≤ c0) (h : laws_FnCleanSteps.f k l0 a1 a2 a3 = some r) :
    Calls Try.prog 8 #[.slice A0 l0.length c0, .int .i64 a1, .string a2, .int .u8 a3] w fun e w' => e = .returned (.bool r) ∧ Below w.heap.size w w' := by
  have HR0 := Aside0.mk hr0
  have HC0 := Aside0.mk hc0
  clear hr0 hc0
  have HB := Aside0.mk (Below.refl w.heap.size w)
  have H : ((laws_zzFits6.f k l0).bind fun t104 => (if t104 = true then (laws_FnCleanSteps.j0 k l0 a1 a2 a3 (decide ((a2.size : Int) > 2147483647))) else (laws_FnCleanSteps.j0 k l0 a1 a2 a3 true))) = some r := h
  clear h
  have HC5 := Aside0.mk H
  clear H
  go_enter Try.func8, Try.ntmps8
  go_upto_region 1 with (fail)
  go_cut [28] (fun v28 wc => ∃ (kq : Nat) (x28_4 : Bool), v28 = .bool x28_4 ∧ Aside0 (laws_FnCleanSteps.j0 kq l0 a1 a2 a3 x28_4 = some r) ∧ Aside0 (kq ≤ k) ∧ Aside0 (Below w.heap.size w wc))
  case first =>
    have H := HC5.out
    clear HC5
    replace H := Option.bind_eq_some_iff.mp H
    obtain ⟨t104, A60, H⟩ := H
    replace H : (if t104 = true then (laws_FnCleanSteps.j0 k l0 a1 a2 a3 (decide ((a2.size : Int) > 2147483647))) else (laws_FnCleanSteps.j0 k l0 a1 a2 a3 true)) = some r := H
    have A6 := Aside0.mk A60
    clear A60
    by_cases c7 : t104 = true
    · subst c7
      have H1 : (laws_FnCleanSteps.j0 k l0 a1 a2 a3 (decide ((a2.size : Int) > 2147483647))) = some r := by rw [if_pos rfl] at H; exact H
      clear H
      have H := H1
      clear H1
      have H' := Aside0.mk H
      clear H
      go_wp2_with (first | ((with_reducible refine gate_callee (f := 17) rfl ?_); refine goesL_ (some 22) rfl rfl Try.func17 (by kernel_rfl) rfl #[.slice A0 l0.length c0] rfl (by (try simp only [List.map_toArray, List.map_cons, List.map_nil]); first | done | rfl | (simp only [List.length_drop, List.length_take]; rfl)) ?_; (with_reducible refine (laws_zzFits6.calls k _ _ l0 true _ ?side1 ?side2 A6.out).mono ?_); (case side1 => repeat (first | exact (Kd.C_below HR0.out HB.out) | (with_reducible refine Kd.C_alloc ?_ _) | (with_reducible refine Kd.C_drewN ?_ _) | (with_reducible refine Kd.C_drew ?_))); (case side2 => exact HC0.out); rintro e w' ⟨rfl, ⟨nd, rfl⟩⟩; refine ⟨_, rfl, ?_⟩))
      go_meet
      case rel => exact ⟨_, (decide ((a2.size : Int) > 2147483647)), (by first | rfl | (simp; done) | (rw [prx_ne]; first | done | rfl) | (simp [*]; done)), H', ⟨by first | omega | exact Nat.le_refl _⟩, ⟨by repeat (first | (with_reducible first | exact HB.out | apply below_alloc | apply pw_below_drewN | apply below_drew1) | exact HB.out)⟩⟩
    · replace c7 := Bool.eq_false_iff.mpr c7
      subst c7
      have H1 : (laws_FnCleanSteps.j0 k l0 a1 a2 a3 true) = some r := by rw [if_neg (show ¬ (false = true) by decide)] at H; exact H
      clear H
      have H := H1
      clear H1
      have H' := Aside0.mk H
      clear H
      go_wp2_with (first | ((with_reducible refine gate_callee (f := 17) rfl ?_); refine goesL_ (some 22) rfl rfl Try.func17 (by kernel_rfl) rfl #[.slice A0 l0.length c0] rfl (by (try simp only [List.map_toArray, List.map_cons, List.map_nil]); first | done | rfl | (simp only [List.length_drop, List.length_take]; rfl)) ?_; (with_reducible refine (laws_zzFits6.calls k _ _ l0 false _ ?side1 ?side2 A6.out).mono ?_); (case side1 => repeat (first | exact (Kd.C_below HR0.out HB.out) | (with_reducible refine Kd.C_alloc ?_ _) | (with_reducible refine Kd.C_drewN ?_ _) | (with_reducible refine Kd.C_drew ?_))); (case side2 => exact HC0.out); rintro e w' ⟨rfl, ⟨nd, rfl⟩⟩; refine ⟨_, rfl, ?_⟩))
      go_meet
      case rel => exact ⟨_, (true), (by first | rfl | (simp; done) | (rw [prx_ne]; first | done | rfl) | (simp [*]; done)), H', ⟨by first | omega | exact Nat.le_refl _⟩, ⟨by repeat (first | (with_reducible first | exact HB.out | apply below_alloc | apply pw_below_drewN | apply below_drew1) | exact HB.out)⟩⟩
  case rest =>
    clear HC5
    try clear c1
    try clear p2
    try clear c7
    obtain ⟨kq, x28_4, rfl, HA, HJ4, HB⟩ := hcut
    cases kq with
    | zero => exact absurd HA.out (by simp [laws_FnCleanSteps.j0])
    | succ kj4 =>
      have H := HA.out
      clear HA
      simp only [laws_FnCleanSteps.j0] at H
      by_cases c8 : x28_4 = true
      · subst c8
        have H1 : (some true) = some r := by rw [if_pos rfl] at H; exact H
        clear H
        have H := H1
        clear H1
        obtain rfl := Option.some.inj H
        go_wp2
        go_ret
        exact ⟨by first | rfl | (simp [errW_none, errW_some] <;> rfl) | (simp [*, errW_none, errW_some] <;> rfl), by repeat (first | (with_reducible first | exact HB.out | apply below_alloc | apply pw_below_drewN | apply below_drew1) | exact HB.out)⟩
      · replace c8 := Bool.eq_false_iff.mpr c8
        subst c8
        have H1 : ((impl_CleanPath.f (⟨#[47, 97, 47, 46, 46, 47, 98]⟩ : ByteArray)).bind fun bt105 => (if bt105.2 = true then (laws_FnCleanSteps.j1 kj4 l0 a1 a2 a3 (bt105.1.toList != ([47, 98] : List UInt8))) else (laws_FnCleanSteps.j1 kj4 l0 a1 a2 a3 true))) = some r := by rw [if_neg (show ¬ (false = true) by decide)] at H; exact H
        clear H
        have H := H1
        clear H1
        replace H := Option.bind_eq_some_iff.mp H
        obtain ⟨⟨t105, t106⟩, A90, H⟩ := H
        replace H : (if t106 = true then (laws_FnCleanSteps.j1 kj4 l0 a1 a2 a3 (t105.toList != ([47, 98] : List UInt8))) else (laws_FnCleanSteps.j1 kj4 l0 a1 a2 a3 true)) = some r := H
        have A9 := Aside0.mk A90
        clear A90
        have HC10 := Aside0.mk H
        clear H
        go_upto_region 4 with (first | ((with_reducible refine gate_callee (f := 31) rfl ?_); refine goesL_ (some 30) rfl rfl Try.func31 (by kernel_rfl) rfl #[.string (⟨#[47, 97, 47, 46, 46, 47, 98]⟩ : ByteArray)] rfl (by (try simp only [List.map_toArray, List.map_cons, List.map_nil]); first | done | rfl | (simp only [List.length_drop, List.length_take]; rfl)) ?_; (with_reducible refine (impl_CleanPath.calls (⟨#[47, 97, 47, 46, 46, 47, 98]⟩ : ByteArray) t105 t106 _ A9.out).mono ?_); rintro e w11 ⟨rfl, hb⟩; refine ⟨_, rfl, ?_⟩; have n0_ := Aside0.mk (below_step (by repeat (first | (with_reducible first | exact HB.out | apply below_alloc | apply pw_below_drewN | apply below_drew1) | exact HB.out)) hb); clear HB; have HB := n0_; clear n0_; (try clear hb); (try clear hb2); (try clear hk); (try clear hi)))
        (try simp only [Act.put, List.setIfInBounds_toArray, List.set_cons_zero, List.set_cons_succ])
        go_cut [38] (fun v38 wc => ∃ (kq : Nat) (x38_9 : Bool), v38 = .bool x38_9 ∧ Aside0 (laws_FnCleanSteps.j1 kq l0 a1 a2 a3 x38_9 = some r) ∧ Aside0 (kq ≤ kj4) ∧ Aside0 (Below w.heap.size w wc))
        case first =>
          have H := HC10.out
          clear HC10
          by_cases c12 : t106 = true
          · subst c12
            have H1 : (laws_FnCleanSteps.j1 kj4 l0 a1 a2 a3 (t105.toList != ([47, 98] : List UInt8))) = some r := by rw [if_pos rfl] at H; exact H
            clear H
            have H := H1
            clear H1
            have H' := Aside0.mk H
            clear H
            go_wp2
            go_meet
            case rel => exact ⟨_, ((t105.toList != ([47, 98] : List UInt8))), (by first | rfl | (simp; done) | (rw [prx_ne]; first | done | rfl) | (simp [*]; done)), H', ⟨by have := HJ4.out; first | omega | exact Nat.le_refl _⟩, ⟨by repeat (first | (with_reducible first | exact HB.out | apply below_alloc | apply pw_below_drewN | apply below_drew1) | exact HB.out)⟩⟩
          · replace c12 := Bool.eq_false_iff.mpr c12
            subst c12
            have H1 : (laws_FnCleanSteps.j1 kj4 l0 a1 a2 a3 true) = some r := by rw [if_neg (show ¬ (false = true) by decide)] at H; exact H
            clear H
            have H := H1
            clear H1
            have H' := Aside0.mk H
            clear H
            go_wp2
            go_meet
            case rel => exact ⟨_, (true), (by first | rfl | (simp; done) | (rw [prx_ne]; first | done | rfl) | (simp [*]; done)), H', ⟨by have := HJ4.out; first | omega | exact Nat.le_refl _⟩, ⟨by repeat (first | (with_reducible first | exact HB.out | apply below_alloc | apply pw_below_drewN | apply below_drew1) | exact HB.out)⟩⟩
        case rest =>
          clear HC10
          try clear c1
          try clear p2
          try clear c3
          try clear c7
          try clear c8
          try clear c12
          try clear p2
          obtain ⟨kq, x38_9, rfl, HA, HJ9, HB⟩ := hcut
          cases kq with
          | zero => exact absurd HA.out (by simp [laws_FnCleanSteps.j1])
          | succ kj9 =>
            have H := HA.out
            clear HA
            simp only [laws_FnCleanSteps.j1] at H
            by_cases c13 : x38_9 = true
            · subst c13
              have H1 : (some false) = some r := by rw [if_pos rfl] at H; exact H
              clear H
              have H := H1
              clear H1
              obtain rfl := Option.some.inj H
              go_wp2
              go_ret
              exact ⟨by first | rfl | (simp [errW_none, errW_some] <;> rfl) | (simp [*, errW_none, errW_some] <;> rfl), by repeat (first | (with_reducible first | exact HB.out | apply below_alloc | apply pw_below_drewN | apply below_drew1) | exact HB.out)⟩
            · replace c13 := Bool.eq_false_iff.mpr c13
              subst c13
              have H1 : (if (l0.length : Int) = 0 then (laws_FnCleanSteps.j2 kj9 l0 a1 a2 a3 true) else ((laws_words.f kj9 l0).bind fun t107 => (if t107 = true then ((laws_words.f kj9 (([a2] : List ByteArray))).bind fun t111 => (if t111 = true then (if a1 < 0 then (laws_FnCleanSteps.j2 kj9 l0 a1 a2 a3 true) else (laws_FnCleanSteps.j2 kj9 l0 a1 a2 a3 (decide (a1 ≥ (l0.length : Int))))) else (laws_FnCleanSteps.j2 kj9 l0 a1 a2 a3 true))) else (laws_FnCleanSteps.j2 kj9 l0 a1 a2 a3 true)))) = some r := by rw [if_neg (show ¬ (false = true) by decide)] at H; exact H
              clear H
              have H := H1
              clear H1
              have HC14 := Aside0.mk H
              clear H
              go_upto_region 6 with (fail)
              go_cut [62] (fun v62 wc => ∃ (kq : Nat) (x62_13 : Bool), v62 = .bool x62_13 ∧ Aside0 (laws_FnCleanSteps.j2 kq l0 a1 a2 a3 x62_13 = some r) ∧ Aside0 (kq ≤ kj9) ∧ Aside0 (Below w.heap.size w wc))
              case first =>
                have H := HC14.out
                clear HC14
                by_cases c15 : (l0.length : Int) = 0
                · rw [if_pos c15] at H
                  have c15b0 : ((l0.length : Int) == 0) = true := beq_iff_eq.mpr c15
                  have c15b1 : ((l0.length : Int) != 0) = false := bne_eq_false_iff_eq.mpr c15
                  clear c15
                  (first | rw [c15b0] | (simp only [i64_w, i32_w]; rw [c15b0]) | skip)
                  have H' := Aside0.mk H
                  clear H
                  go_wp2
                  go_meet
                  case rel => exact ⟨_, (true), (by first | rfl | (simp; done) | (rw [prx_ne]; first | done | rfl) | (simp [*]; done)), H', ⟨by have := HJ4.out; have := HJ9.out; first | omega | exact Nat.le_refl _⟩, ⟨by repeat (first | (with_reducible first | exact HB.out | apply below_alloc | apply pw_below_drewN | apply below_drew1) | exact HB.out)⟩⟩
                · rw [if_neg c15] at H
                  have c15b0 : ((l0.length : Int) == 0) = false := beq_eq_false_iff_ne.mpr c15
                  have c15b1 : ((l0.length : Int) != 0) = true := bne_iff_ne.mpr c15
                  have c15b2 : ¬ (l0 = []) := fun h_ => c15 (by rw [h_]; rfl)
                  (first | rw [c15b0] | (simp only [i64_w, i32_w]; rw [c15b0]) | skip)
                  replace H := Option.bind_eq_some_iff.mp H
                  obtain ⟨t107, A160, H⟩ := H
                  replace H : (if t107 = true then ((laws_words.f kj9 (([a2] : List ByteArray))).bind fun t111 => (if t111 = true then (if a1 < 0 then (laws_FnCleanSteps.j2 kj9 l0 a1 a2 a3 true) else (laws_FnCleanSteps.j2 kj9 l0 a1 a2 a3 (decide (a1 ≥ (l0.length : Int))))) else (laws_FnCleanSteps.j2 kj9 l0 a1 a2 a3 true))) else (laws_FnCleanSteps.j2 kj9 l0 a1 a2 a3 true)) = some r := H
                  have A16 := Aside0.mk A160
                  clear A160
                  by_cases c17 : t107 = true
                  · subst c17
                    have H1 : ((laws_words.f kj9 (([a2] : List ByteArray))).bind fun t111 => (if t111 = true then (if a1 < 0 then (laws_FnCleanSteps.j2 kj9 l0 a1 a2 a3 true) else (laws_FnCleanSteps.j2 kj9 l0 a1 a2 a3 (decide (a1 ≥ (l0.length : Int))))) else (laws_FnCleanSteps.j2 kj9 l0 a1 a2 a3 true))) = some r := by rw [if_pos rfl] at H; exact H
                    clear H
                    have H := H1
                    clear H1
                    obtain ⟨y108, hy108⟩ : ∃ y_ : List ByteArray, y_ = (([a2] : List ByteArray)) := ⟨_, rfl⟩
                    replace H : ((laws_words.f kj9 y108).bind fun t111 => (if t111 = true then (if a1 < 0 then (laws_FnCleanSteps.j2 kj9 l0 a1 a2 a3 true) else (laws_FnCleanSteps.j2 kj9 l0 a1 a2 a3 (decide (a1 ≥ (l0.length : Int))))) else (laws_FnCleanSteps.j2 kj9 l0 a1 a2 a3 true))) = some r := by first | (rw [hy108]; with_reducible exact H) | (have H2_ := (Option.bind_some _ _).symm.trans H; rw [hy108]; with_reducible exact H2_) | (have H2_ := (Option.bind_some _ _).symm.trans H; with_reducible exact H2_) | with_reducible exact H | (rw [hy108]; exact H) | exact H
                    have Ny108 := Aside0.mk hy108
                    clear hy108
                    replace H := Option.bind_eq_some_iff.mp H
                    obtain ⟨t111, A180, H⟩ := H
                    replace H : (if t111 = true then (if a1 < 0 then (laws_FnCleanSteps.j2 kj9 l0 a1 a2 a3 true) else (laws_FnCleanSteps.j2 kj9 l0 a1 a2 a3 (decide (a1 ≥ (l0.length : Int))))) else (laws_FnCleanSteps.j2 kj9 l0 a1 a2 a3 true)) = some r := H
                    have A18 := Aside0.mk A180
                    clear A180
                    by_cases c19 : t111 = true
                    · subst c19
                      have H1 : (if a1 < 0 then (laws_FnCleanSteps.j2 kj9 l0 a1 a2 a3 true) else (laws_FnCleanSteps.j2 kj9 l0 a1 a2 a3 (decide (a1 ≥ (l0.length : Int))))) = some r := by rw [if_pos rfl] at H; exact H
                      clear H
                      have H := H1
                      clear H1
                      by_cases c20 : a1 < 0
                      · rw [if_pos c20] at H
                        have c20b0 : decide (a1 < 0) = true := decide_eq_true c20
                        clear c20
                        have H' := Aside0.mk H
                        clear H
                        go_wp2_with (first | (go_at_call 20; (with_reducible refine (laws_words.calls kj9 _ _ l0 true _ ?side1 ?side2 A16.out).mono ?_); (case side1 => repeat (first | exact (Kd.C_below HR0.out HB.out) | (with_reducible refine Kd.C_alloc ?_ _) | (with_reducible refine Kd.C_drewN ?_ _) | (with_reducible refine Kd.C_drew ?_))); (case side2 => exact HC0.out); rintro e w' ⟨rfl, ⟨nd, rfl⟩⟩) | ((with_reducible refine gate_dst (N := 49) rfl ?_); (try (refine gate_guard (by rfl) ?_; dsimp only)); refine Kd.R_lit Kd.string _ 9 ?hg (N := 49) ?hd (xs := ([a2] : List ByteArray)) (inner := [.string a2]) (ok := fun _ => True) (okp := fun _ => True) ?hr ?hp (fun _ hk => hk) trivial (Below.refl _ _) (Nat.le_refl _) (by simp) ?_; (case hd => rfl); (case hg => rfl); (case hr => first | (go_simp; done) | (go_simp; rfl)); (case hp => exact (Reps.one (show Kd.M Kd.string _ _ _ a2 [.string a2] from rfl) (Reps.none _ _))); intro v109 w21 ho22 hb hg_ hnew_; clear hg_ hnew_; (first | rw [← Ny108.out] at ho22 | (simp only [Int.reduceToNat] at ho22; rw [← Ny108.out] at ho22)); have n0_ := Aside0.mk (Kd.R_lower ho22 (below_size (by repeat (first | (with_reducible first | exact HB.out | apply below_alloc | apply pw_below_drewN | apply below_drew1) | exact HB.out)))); have n1_ := Aside0.mk (below_step (by repeat (first | (with_reducible first | exact HB.out | apply below_alloc | apply pw_below_drewN | apply below_drew1) | exact HB.out)) hb); clear HB; have HO110 := n0_; have HB := n1_; clear n0_ n1_; clear hb ho22; obtain ⟨Ao23, co23, eo23⟩ := Kd.R_slice HO110.out; subst eo23) | (go_at_call 20; (with_reducible refine (laws_words.calls kj9 _ _ y108 true _ ?side1 ?side2 A18.out).mono ?_); (case side1 => repeat (first | exact (Kd.R_reads' HO110.out).2.2 | (with_reducible refine Kd.C_alloc ?_ _) | (with_reducible refine Kd.C_drewN ?_ _) | (with_reducible refine Kd.C_drew ?_))); (case side2 => exact (Kd.R_reads' HO110.out).2.1); rintro e w' ⟨rfl, ⟨nd, rfl⟩⟩))
                        go_meet
                        case rel => exact ⟨_, (true), (by first | rfl | (simp; done) | (rw [prx_ne]; first | done | rfl) | (simp [*]; done)), H', ⟨by have := HJ4.out; have := HJ9.out; first | omega | exact Nat.le_refl _⟩, ⟨by repeat (first | (with_reducible first | exact HB.out | apply below_alloc | apply pw_below_drewN | apply below_drew1) | exact HB.out)⟩⟩
                      · rw [if_neg c20] at H
                        have c20b0 : decide (a1 < 0) = false := decide_eq_false c20
                        clear c20
                        have H' := Aside0.mk H
                        clear H
                        go_wp2_with (first | (go_at_call 20; (with_reducible refine (laws_words.calls kj9 _ _ l0 true _ ?side1 ?side2 A16.out).mono ?_); (case side1 => repeat (first | exact (Kd.C_below HR0.out HB.out) | (with_reducible refine Kd.C_alloc ?_ _) | (with_reducible refine Kd.C_drewN ?_ _) | (with_reducible refine Kd.C_drew ?_))); (case side2 => exact HC0.out); rintro e w' ⟨rfl, ⟨nd, rfl⟩⟩) | ((with_reducible refine gate_dst (N := 49) rfl ?_); (try (refine gate_guard (by rfl) ?_; dsimp only)); refine Kd.R_lit Kd.string _ 9 ?hg (N := 49) ?hd (xs := ([a2] : List ByteArray)) (inner := [.string a2]) (ok := fun _ => True) (okp := fun _ => True) ?hr ?hp (fun _ hk => hk) trivial (Below.refl _ _) (Nat.le_refl _) (by simp) ?_; (case hd => rfl); (case hg => rfl); (case hr => first | (go_simp; done) | (go_simp; rfl)); (case hp => exact (Reps.one (show Kd.M Kd.string _ _ _ a2 [.string a2] from rfl) (Reps.none _ _))); intro v109 w24 ho25 hb hg_ hnew_; clear hg_ hnew_; (first | rw [← Ny108.out] at ho25 | (simp only [Int.reduceToNat] at ho25; rw [← Ny108.out] at ho25)); have n0_ := Aside0.mk (Kd.R_lower ho25 (below_size (by repeat (first | (with_reducible first | exact HB.out | apply below_alloc | apply pw_below_drewN | apply below_drew1) | exact HB.out)))); have n1_ := Aside0.mk (below_step (by repeat (first | (with_reducible first | exact HB.out | apply below_alloc | apply pw_below_drewN | apply below_drew1) | exact HB.out)) hb); clear HB; have HO110 := n0_; have HB := n1_; clear n0_ n1_; clear hb ho25; obtain ⟨Ao26, co26, eo26⟩ := Kd.R_slice HO110.out; subst eo26) | (go_at_call 20; (with_reducible refine (laws_words.calls kj9 _ _ y108 true _ ?side1 ?side2 A18.out).mono ?_); (case side1 => repeat (first | exact (Kd.R_reads' HO110.out).2.2 | (with_reducible refine Kd.C_alloc ?_ _) | (with_reducible refine Kd.C_drewN ?_ _) | (with_reducible refine Kd.C_drew ?_))); (case side2 => exact (Kd.R_reads' HO110.out).2.1); rintro e w' ⟨rfl, ⟨nd, rfl⟩⟩))
                        go_meet
                        case rel => exact ⟨_, (decide (a1 ≥ (l0.length : Int))), (by first | rfl | (simp; done) | (rw [prx_ne]; first | done | rfl) | (simp [*]; done)), H', ⟨by have := HJ4.out; have := HJ9.out; first | omega | exact Nat.le_refl _⟩, ⟨by repeat (first | (with_reducible first | exact HB.out | apply below_alloc | apply pw_below_drewN | apply below_drew1) | exact HB.out)⟩⟩
                    · replace c19 := Bool.eq_false_iff.mpr c19
                      subst c19
                      have H1 : (laws_FnCleanSteps.j2 kj9 l0 a1 a2 a3 true) = some r := by rw [if_neg (show ¬ (false = true) by decide)] at H; exact H
                      clear H
                      have H := H1
                      clear H1
                      have H' := Aside0.mk H
                      clear H
                      go_wp2_with (first | (go_at_call 20; (with_reducible refine (laws_words.calls kj9 _ _ l0 true _ ?side1 ?side2 A16.out).mono ?_); (case side1 => repeat (first | exact (Kd.C_below HR0.out HB.out) | (with_reducible refine Kd.C_alloc ?_ _) | (with_reducible refine Kd.C_drewN ?_ _) | (with_reducible refine Kd.C_drew ?_))); (case side2 => exact HC0.out); rintro e w' ⟨rfl, ⟨nd, rfl⟩⟩) | ((with_reducible refine gate_dst (N := 49) rfl ?_); (try (refine gate_guard (by rfl) ?_; dsimp only)); refine Kd.R_lit Kd.string _ 9 ?hg (N := 49) ?hd (xs := ([a2] : List ByteArray)) (inner := [.string a2]) (ok := fun _ => True) (okp := fun _ => True) ?hr ?hp (fun _ hk => hk) trivial (Below.refl _ _) (Nat.le_refl _) (by simp) ?_; (case hd => rfl); (case hg => rfl); (case hr => first | (go_simp; done) | (go_simp; rfl)); (case hp => exact (Reps.one (show Kd.M Kd.string _ _ _ a2 [.string a2] from rfl) (Reps.none _ _))); intro v109 w27 ho28 hb hg_ hnew_; clear hg_ hnew_; (first | rw [← Ny108.out] at ho28 | (simp only [Int.reduceToNat] at ho28; rw [← Ny108.out] at ho28)); have n0_ := Aside0.mk (Kd.R_lower ho28 (below_size (by repeat (first | (with_reducible first | exact HB.out | apply below_alloc | apply pw_below_drewN | apply below_drew1) | exact HB.out)))); have n1_ := Aside0.mk (below_step (by repeat (first | (with_reducible first | exact HB.out | apply below_alloc | apply pw_below_drewN | apply below_drew1) | exact HB.out)) hb); clear HB; have HO110 := n0_; have HB := n1_; clear n0_ n1_; clear hb ho28; obtain ⟨Ao29, co29, eo29⟩ := Kd.R_slice HO110.out; subst eo29) | (go_at_call 20; (with_reducible refine (laws_words.calls kj9 _ _ y108 false _ ?side1 ?side2 A18.out).mono ?_); (case side1 => repeat (first | exact (Kd.R_reads' HO110.out).2.2 | (with_reducible refine Kd.C_alloc ?_ _) | (with_reducible refine Kd.C_drewN ?_ _) | (with_reducible refine Kd.C_drew ?_))); (case side2 => exact (Kd.R_reads' HO110.out).2.1); rintro e w' ⟨rfl, ⟨nd, rfl⟩⟩))
                      go_meet
                      case rel => exact ⟨_, (true), (by first | rfl | (simp; done) | (rw [prx_ne]; first | done | rfl) | (simp [*]; done)), H', ⟨by have := HJ4.out; have := HJ9.out; first | omega | exact Nat.le_refl _⟩, ⟨by repeat (first | (with_reducible first | exact HB.out | apply below_alloc | apply pw_below_drewN | apply below_drew1) | exact HB.out)⟩⟩
                  · replace c17 := Bool.eq_false_iff.mpr c17
                    subst c17
                    have H1 : (laws_FnCleanSteps.j2 kj9 l0 a1 a2 a3 true) = some r := by rw [if_neg (show ¬ (false = true) by decide)] at H; exact H
                    clear H
                    have H := H1
                    clear H1
                    have H' := Aside0.mk H
                    clear H
                    go_wp2_with (first | (go_at_call 20; (with_reducible refine (laws_words.calls kj9 _ _ l0 false _ ?side1 ?side2 A16.out).mono ?_); (case side1 => repeat (first | exact (Kd.C_below HR0.out HB.out) | (with_reducible refine Kd.C_alloc ?_ _) | (with_reducible refine Kd.C_drewN ?_ _) | (with_reducible refine Kd.C_drew ?_))); (case side2 => exact HC0.out); rintro e w' ⟨rfl, ⟨nd, rfl⟩⟩))
                    go_meet
                    case rel => exact ⟨_, (true), (by first | rfl | (simp; done) | (rw [prx_ne]; first | done | rfl) | (simp [*]; done)), H', ⟨by have := HJ4.out; have := HJ9.out; first | omega | exact Nat.le_refl _⟩, ⟨by repeat (first | (with_reducible first | exact HB.out | apply below_alloc | apply pw_below_drewN | apply below_drew1) | exact HB.out)⟩⟩
              case rest =>
                clear HC14
                try clear c1
                try clear c2
                try clear p2
                try clear c3
                try clear c7
                try clear c8
                try clear c12
                try clear c13
                try clear c15
                try clear c15b0
                try clear c15b1
                try clear c15b2
                try clear c17
                try clear c19
                try clear c20
                try clear c20b0
                try clear p2
                obtain ⟨kq, x62_13, rfl, HA, HJ13, HB⟩ := hcut
                cases kq with
                | zero => exact absurd HA.out (by simp [laws_FnCleanSteps.j2])
                | succ kj13 =>
                  have H := HA.out
                  clear HA
                  simp only [laws_FnCleanSteps.j2] at H
                  by_cases c30 : x62_13 = true
                  · subst c30
                    have H1 : (some true) = some r := by rw [if_pos rfl] at H; exact H
                    clear H
                    have H := H1
                    clear H1
                    obtain rfl := Option.some.inj H
                    go_wp2
                    go_ret
                    exact ⟨by first | rfl | (simp [errW_none, errW_some] <;> rfl) | (simp [*, errW_none, errW_some] <;> rfl), by repeat (first | (with_reducible first | exact HB.out | apply below_alloc | apply pw_below_drewN | apply below_drew1) | exact HB.out)⟩
                  · replace c30 := Bool.eq_false_iff.mpr c30
                    subst c30
                    have H1 : (laws_FnCleanSteps.l0 kj13 a1 a2 a3 (⟨#[]⟩ : ByteArray) (⟨#[]⟩ : ByteArray) l0 (l0.length : Int) 0) = some r := by rw [if_neg (show ¬ (false = true) by decide)] at H; exact H
                    clear H
                    have H := H1
                    clear H1
                    have H' := Aside0.mk H
                    clear H
                    go_wp2
                    go_loopg [11, 12, 65] kj13 (fun kq v11 v12 v65 w' => ∃ (x11_4 : ByteArray) (x12_4 : ByteArray) (x65_4 : Int), v11 = .string x11_4 ∧ v12 = .string x12_4 ∧ v65 = .int .i64 x65_4 ∧ Aside0 (laws_FnCleanSteps.l0 kq a1 a2 a3 x11_4 x12_4 l0 (l0.length : Int) x65_4 = some r) ∧ Aside0 (kq ≤ kj13) ∧ Aside0 (Below w.heap.size w w'))
                    case atStart => exact ⟨((⟨#[]⟩ : ByteArray)), ((⟨#[]⟩ : ByteArray)), (0), (by first | rfl | (simp; done) | (rw [prx_ne]; first | done | rfl) | (simp [*]; done)), (by first | rfl | (simp; done) | (rw [prx_ne]; first | done | rfl) | (simp [*]; done)), (by first | rfl | (simp; done) | (rw [prx_ne]; first | done | rfl) | (simp [*]; done)), H', ⟨Nat.le_refl _⟩, ⟨by repeat (first | (with_reducible first | exact HB.out | apply below_alloc | apply pw_below_drewN | apply below_drew1) | exact HB.out)⟩⟩
                    case round =>
                      clear H'
                      try clear c1
                      try clear c2
                      try clear p2
                      try clear c3
                      try clear c7
                      try clear c8
                      try clear c12
                      try clear c13
                      try clear c15
                      try clear c15b0
                      try clear c15b1
                      try clear c15b2
                      try clear c17
                      try clear c19
                      try clear c20
                      try clear c20b0
                      try clear c30
                      try clear p2
                      obtain ⟨x11_4, x12_4, x65_4, rfl, rfl, rfl, HA, HK4, HB⟩ := hrel
                      cases gk with
                      | zero => exact absurd HA.out (by simp [laws_FnCleanSteps.l0])
                      | succ k4 =>
                        have H := HA.out
                        clear HA
                        simp only [laws_FnCleanSteps.l0] at H
                        by_cases c31 : x65_4 < (l0.length : Int)
                        · rw [if_pos c31] at H
                          have c31b0 : decide (x65_4 < (l0.length : Int)) = true := decide_eq_true c31
                          clear c31
                          by_cases c32 : 0 ≤ x65_4
                          · rw [if_pos c32] at H
                            have c32b0 : decide (0 ≤ x65_4) = true := decide_eq_true c32
                            clear c32
                            by_cases c33 : x65_4 < (l0.length : Int)
                            · rw [if_pos c33] at H
                              have c33b0 : decide (x65_4 < (l0.length : Int)) = true := decide_eq_true c33
                              clear c33
                              by_cases c34 : x65_4 = a1
                              · rw [if_pos c34] at H
                                have c34b0 : (x65_4 == a1) = true := beq_iff_eq.mpr c34
                                have c34b1 : (x65_4 != a1) = false := bne_eq_false_iff_eq.mpr c34
                                clear c34
                                by_cases c35 : 1 + a2.size ≤ 9223372036854775807
                                · rw [if_pos c35] at H
                                  have c35b0 := eq_true c35
                                  have c35b1 : decide (1 + a2.size ≤ 9223372036854775807) = true := decide_eq_true c35
                                  try have c35b2 : (9223372036854775807 < 1 + a2.size) = False := eq_false (Nat.not_lt.2 c35)
                                  try (have c35b3 := c35; simp only [ByteArray.size_append, prx_sz, List.length_cons, List.length_nil] at c35b3)
                                  by_cases c36 : ((⟨#[47]⟩ : ByteArray) ++ a2).size + 3 ≤ 9223372036854775807
                                  · rw [if_pos c36] at H
                                    have c36b0 := eq_true c36
                                    have c36b1 : decide (((⟨#[47]⟩ : ByteArray) ++ a2).size + 3 ≤ 9223372036854775807) = true := decide_eq_true c36
                                    try have c36b2 : (9223372036854775807 < ((⟨#[47]⟩ : ByteArray) ++ a2).size + 3) = False := eq_false (Nat.not_lt.2 c36)
                                    try (have c36b3 := c36; simp only [ByteArray.size_append, prx_sz, List.length_cons, List.length_nil] at c36b3)
                                    obtain ⟨y113, hy113⟩ : ∃ y_ : List ByteArray, y_ = (([((⟨#[47]⟩ : ByteArray) ++ a2) ++ (⟨#[47, 46, 46]⟩ : ByteArray), (⟨#[47, 46]⟩ : ByteArray), (⟨#[47]⟩ : ByteArray)] : List ByteArray)) := ⟨_, rfl⟩
                                    replace H : (if 0 ≤ (Int.tmod a3 3) then (if (Int.tmod a3 3) < (y113.length : Int) then (if x12_4.size + (rdOf ByteArray.empty y113 (Int.tmod a3 3)).size ≤ 9223372036854775807 then (if 1 + (rdOf ByteArray.empty l0 x65_4).size ≤ 9223372036854775807 then (if x11_4.size + ((⟨#[47]⟩ : ByteArray) ++ (rdOf ByteArray.empty l0 x65_4)).size ≤ 9223372036854775807 then (if (x12_4 ++ (rdOf ByteArray.empty y113 (Int.tmod a3 3))).size + ((⟨#[47]⟩ : ByteArray) ++ (rdOf ByteArray.empty l0 x65_4)).size ≤ 9223372036854775807 then (laws_FnCleanSteps.l0 k4 a1 a2 a3 (x11_4 ++ ((⟨#[47]⟩ : ByteArray) ++ (rdOf ByteArray.empty l0 x65_4))) ((x12_4 ++ (rdOf ByteArray.empty y113 (Int.tmod a3 3))) ++ ((⟨#[47]⟩ : ByteArray) ++ (rdOf ByteArray.empty l0 x65_4))) l0 (l0.length : Int) (wrap64 (x65_4 + 1))) else (none)) else (none)) else (none)) else (none)) else (none)) else (none)) = some r := by first | (rw [hy113]; with_reducible exact H) | (have H2_ := (Option.bind_some _ _).symm.trans H; rw [hy113]; with_reducible exact H2_) | (have H2_ := (Option.bind_some _ _).symm.trans H; with_reducible exact H2_) | with_reducible exact H | (rw [hy113]; exact H) | exact H
                                    have Ny113 := Aside0.mk hy113
                                    clear hy113
                                    obtain ⟨ji37, hji37⟩ : ∃ j_ : Int, (Int.tmod a3 3) = j_ := ⟨_, rfl⟩
                                    replace H : (if 0 ≤ (ji37) then (if (ji37) < (y113.length : Int) then (if x12_4.size + (rdOf ByteArray.empty y113 (ji37)).size ≤ 9223372036854775807 then (if 1 + (rdOf ByteArray.empty l0 x65_4).size ≤ 9223372036854775807 then (if x11_4.size + ((⟨#[47]⟩ : ByteArray) ++ (rdOf ByteArray.empty l0 x65_4)).size ≤ 9223372036854775807 then (if (x12_4 ++ (rdOf ByteArray.empty y113 (ji37))).size + ((⟨#[47]⟩ : ByteArray) ++ (rdOf ByteArray.empty l0 x65_4)).size ≤ 9223372036854775807 then (laws_FnCleanSteps.l0 k4 a1 a2 a3 (x11_4 ++ ((⟨#[47]⟩ : ByteArray) ++ (rdOf ByteArray.empty l0 x65_4))) ((x12_4 ++ (rdOf ByteArray.empty y113 (ji37))) ++ ((⟨#[47]⟩ : ByteArray) ++ (rdOf ByteArray.empty l0 x65_4))) l0 (l0.length : Int) (wrap64 (x65_4 + 1))) else (none)) else (none)) else (none)) else (none)) else (none)) else (none)) = some r := by first | (rw [hji37] at H; exact H) | (simp only [hji37] at H ⊢; exact H)
                                    by_cases c38 : 0 ≤ (ji37)
                                    · rw [if_pos c38] at H
                                      have c38b0 : decide (0 ≤ (ji37)) = true := decide_eq_true c38
                                      clear c38
                                      by_cases c39 : (ji37) < (y113.length : Int)
                                      · rw [if_pos c39] at H
                                        have c39b0 : decide ((ji37) < (y113.length : Int)) = true := decide_eq_true c39
                                        clear c39
                                        by_cases c40 : x12_4.size + (rdOf ByteArray.empty y113 (ji37)).size ≤ 9223372036854775807
                                        · rw [if_pos c40] at H
                                          have c40b0 := eq_true c40
                                          have c40b1 : decide (x12_4.size + (rdOf ByteArray.empty y113 (ji37)).size ≤ 9223372036854775807) = true := decide_eq_true c40
                                          try have c40b2 : (9223372036854775807 < x12_4.size + (rdOf ByteArray.empty y113 (ji37)).size) = False := eq_false (Nat.not_lt.2 c40)
                                          try (have c40b3 := c40; simp only [ByteArray.size_append, prx_sz, List.length_cons, List.length_nil] at c40b3)
                                          by_cases c41 : 1 + (rdOf ByteArray.empty l0 x65_4).size ≤ 9223372036854775807
                                          · rw [if_pos c41] at H
                                            have c41b0 := eq_true c41
                                            have c41b1 : decide (1 + (rdOf ByteArray.empty l0 x65_4).size ≤ 9223372036854775807) = true := decide_eq_true c41
                                            try have c41b2 : (9223372036854775807 < 1 + (rdOf ByteArray.empty l0 x65_4).size) = False := eq_false (Nat.not_lt.2 c41)
                                            try (have c41b3 := c41; simp only [ByteArray.size_append, prx_sz, List.length_cons, List.length_nil] at c41b3)
                                            by_cases c42 : x11_4.size + ((⟨#[47]⟩ : ByteArray) ++ (rdOf ByteArray.empty l0 x65_4)).size ≤ 9223372036854775807
                                            · rw [if_pos c42] at H
                                              have c42b0 := eq_true c42
                                              have c42b1 : decide (x11_4.size + ((⟨#[47]⟩ : ByteArray) ++ (rdOf ByteArray.empty l0 x65_4)).size ≤ 9223372036854775807) = true := decide_eq_true c42
                                              try have c42b2 : (9223372036854775807 < x11_4.size + ((⟨#[47]⟩ : ByteArray) ++ (rdOf ByteArray.empty l0 x65_4)).size) = False := eq_false (Nat.not_lt.2 c42)
                                              try (have c42b3 := c42; simp only [ByteArray.size_append, prx_sz, List.length_cons, List.length_nil] at c42b3)
                                              by_cases c43 : (x12_4 ++ (rdOf ByteArray.empty y113 (ji37))).size + ((⟨#[47]⟩ : ByteArray) ++ (rdOf ByteArray.empty l0 x65_4)).size ≤ 9223372036854775807
                                              · rw [if_pos c43] at H
                                                have c43b0 := eq_true c43
                                                have c43b1 : decide ((x12_4 ++ (rdOf ByteArray.empty y113 (ji37))).size + ((⟨#[47]⟩ : ByteArray) ++ (rdOf ByteArray.empty l0 x65_4)).size ≤ 9223372036854775807) = true := decide_eq_true c43
                                                try have c43b2 : (9223372036854775807 < (x12_4 ++ (rdOf ByteArray.empty y113 (ji37))).size + ((⟨#[47]⟩ : ByteArray) ++ (rdOf ByteArray.empty l0 x65_4)).size) = False := eq_false (Nat.not_lt.2 c43)
                                                try (have c43b3 := c43; simp only [ByteArray.size_append, prx_sz, List.length_cons, List.length_nil] at c43b3)
                                                have H' := Aside0.mk H
                                                clear H
                                                have p112 : 0 ≤ (x65_4 : Int) := of_decide_eq_true (by first | (with_reducible assumption) | assumption)
                                                have q112 : x65_4 < (l0.length : Int) := of_decide_eq_true (by first | (with_reducible assumption) | assumption)
                                                obtain ⟨ad112, e112, hx112_0⟩ := Kd.at_string HR0.out x65_4 p112 q112
                                                cases e112
                                                replace hx112_0 := (HB.out.cell (World.block_lt_of_cell? w _ hx112_0)).trans hx112_0
                                                replace p112 := eq_true p112
                                                replace q112 := eq_true q112
                                                go_wp2_with (first | ((with_reducible refine gate_dst (N := 77) rfl ?_); (try (refine gate_guard (by rfl) ?_; dsimp only)); refine Kd.R_lit Kd.string _ 9 ?hg (N := 77) ?hd (xs := ([((⟨#[47]⟩ : ByteArray) ++ a2) ++ (⟨#[47, 46, 46]⟩ : ByteArray), (⟨#[47, 46]⟩ : ByteArray), (⟨#[47]⟩ : ByteArray)] : List ByteArray)) (inner := [.string (((⟨#[47]⟩ : ByteArray) ++ a2) ++ (⟨#[47, 46, 46]⟩ : ByteArray)), .string (⟨#[47, 46]⟩ : ByteArray), .string (⟨#[47]⟩ : ByteArray)]) (ok := fun _ => True) (okp := fun _ => True) ?hr ?hp (fun _ hk => hk) trivial (Below.refl _ _) (Nat.le_refl _) (by simp) ?_; (case hd => rfl); (case hg => rfl); (case hr => first | (go_simp; done) | (go_simp; rfl)); (case hp => exact (Reps.one (show Kd.M Kd.string _ _ _ (((⟨#[47]⟩ : ByteArray) ++ a2) ++ (⟨#[47, 46, 46]⟩ : ByteArray)) [.string (((⟨#[47]⟩ : ByteArray) ++ a2) ++ (⟨#[47, 46, 46]⟩ : ByteArray))] from rfl) (Reps.one (show Kd.M Kd.string _ _ _ (⟨#[47, 46]⟩ : ByteArray) [.string (⟨#[47, 46]⟩ : ByteArray)] from rfl) (Reps.one (show Kd.M Kd.string _ _ _ (⟨#[47]⟩ : ByteArray) [.string (⟨#[47]⟩ : ByteArray)] from rfl) (Reps.none _ _))))); intro v114 w44 ho45 hb hg_ hnew_; clear hg_ hnew_; (first | rw [← Ny113.out] at ho45 | (simp only [Int.reduceToNat] at ho45; rw [← Ny113.out] at ho45)); have n0_ := Aside0.mk (Kd.R_lower ho45 (below_size (by repeat (first | (with_reducible first | exact HB.out | apply below_alloc | apply pw_below_drewN | apply below_drew1) | exact HB.out)))); have n1_ := Aside0.mk (below_step (by repeat (first | (with_reducible first | exact HB.out | apply below_alloc | apply pw_below_drewN | apply below_drew1) | exact HB.out)) hb); clear HB; have HO115 := n0_; have HB := n1_; clear n0_ n1_; clear hb ho45; obtain ⟨Ao46, co46, eo46⟩ := Kd.R_slice HO115.out; subst eo46; have p116 : 0 ≤ ((ji37) : Int) := of_decide_eq_true (by first | (with_reducible assumption) | assumption); have q116 : (ji37) < (y113.length : Int) := of_decide_eq_true (by first | (with_reducible assumption) | assumption); obtain ⟨ad116, e116, hx116_0⟩ := Kd.at_string (Kd.R_reads' HO115.out).2.2 (ji37) p116 q116; cases e116; replace p116 := eq_true p116; replace q116 := eq_true q116))
                                                go_roundg k4
                                                case measure => have := HJ4.out; have := HJ9.out; have := HJ13.out; have := HK4.out; omega
                                                case rel => exact ⟨(x11_4 ++ ((⟨#[47]⟩ : ByteArray) ++ (rdOf ByteArray.empty l0 x65_4))), ((x12_4 ++ (rdOf ByteArray.empty y113 (ji37))) ++ ((⟨#[47]⟩ : ByteArray) ++ (rdOf ByteArray.empty l0 x65_4))), (wrap64 (x65_4 + 1)), (by first | rfl | (simp; done) | (rw [prx_ne]; first | done | rfl) | (simp [*]; done)), (by first | rfl | (simp; done) | (simp only [← hji37] <;> (first | rfl | simp)) | (rw [prx_ne]; first | done | rfl) | (simp [*]; done)), (by first | rfl | (simp; done) | (rw [prx_ne]; first | done | rfl) | (simp [*]; done)), H', ⟨by have := HJ4.out; have := HJ9.out; have := HJ13.out; have := HK4.out; omega⟩, ⟨by repeat (first | (with_reducible first | exact HB.out | apply below_alloc | apply pw_below_drewN | apply below_drew1) | exact HB.out)⟩⟩
                                              · rw [if_neg c43] at H
                                                exact absurd H (by simp)
                                            · rw [if_neg c42] at H
                                              exact absurd H (by simp)
                                          · rw [if_neg c41] at H
                                            exact absurd H (by simp)
                                        · rw [if_neg c40] at H
                                          exact absurd H (by simp)
                                      · rw [if_neg c39] at H
                                        exact absurd H (by simp)
                                    · rw [if_neg c38] at H
                                      exact absurd H (by simp)
                                  · rw [if_neg c36] at H
                                    exact absurd H (by simp)
                                · rw [if_neg c35] at H
                                  exact absurd H (by simp)
                              · rw [if_neg c34] at H
                                have c34b0 : (x65_4 == a1) = false := beq_eq_false_iff_ne.mpr c34
                                have c34b1 : (x65_4 != a1) = true := bne_iff_ne.mpr c34
                                by_cases c47 : 1 + (rdOf ByteArray.empty l0 x65_4).size ≤ 9223372036854775807
                                · rw [if_pos c47] at H
                                  have c47b0 := eq_true c47
                                  have c47b1 : decide (1 + (rdOf ByteArray.empty l0 x65_4).size ≤ 9223372036854775807) = true := decide_eq_true c47
                                  try have c47b2 : (9223372036854775807 < 1 + (rdOf ByteArray.empty l0 x65_4).size) = False := eq_false (Nat.not_lt.2 c47)
                                  try (have c47b3 := c47; simp only [ByteArray.size_append, prx_sz, List.length_cons, List.length_nil] at c47b3)
                                  by_cases c48 : x11_4.size + ((⟨#[47]⟩ : ByteArray) ++ (rdOf ByteArray.empty l0 x65_4)).size ≤ 9223372036854775807
                                  · rw [if_pos c48] at H
                                    have c48b0 := eq_true c48
                                    have c48b1 : decide (x11_4.size + ((⟨#[47]⟩ : ByteArray) ++ (rdOf ByteArray.empty l0 x65_4)).size ≤ 9223372036854775807) = true := decide_eq_true c48
                                    try have c48b2 : (9223372036854775807 < x11_4.size + ((⟨#[47]⟩ : ByteArray) ++ (rdOf ByteArray.empty l0 x65_4)).size) = False := eq_false (Nat.not_lt.2 c48)
                                    try (have c48b3 := c48; simp only [ByteArray.size_append, prx_sz, List.length_cons, List.length_nil] at c48b3)
                                    by_cases c49 : x12_4.size + ((⟨#[47]⟩ : ByteArray) ++ (rdOf ByteArray.empty l0 x65_4)).size ≤ 9223372036854775807
                                    · rw [if_pos c49] at H
                                      have c49b0 := eq_true c49
                                      have c49b1 : decide (x12_4.size + ((⟨#[47]⟩ : ByteArray) ++ (rdOf ByteArray.empty l0 x65_4)).size ≤ 9223372036854775807) = true := decide_eq_true c49
                                      try have c49b2 : (9223372036854775807 < x12_4.size + ((⟨#[47]⟩ : ByteArray) ++ (rdOf ByteArray.empty l0 x65_4)).size) = False := eq_false (Nat.not_lt.2 c49)
                                      try (have c49b3 := c49; simp only [ByteArray.size_append, prx_sz, List.length_cons, List.length_nil] at c49b3)
                                      have H' := Aside0.mk H
                                      clear H
                                      have p112 : 0 ≤ (x65_4 : Int) := of_decide_eq_true (by first | (with_reducible assumption) | assumption)
                                      have q112 : x65_4 < (l0.length : Int) := of_decide_eq_true (by first | (with_reducible assumption) | assumption)
                                      obtain ⟨ad112, e112, hx112_0⟩ := Kd.at_string HR0.out x65_4 p112 q112
                                      cases e112
                                      replace hx112_0 := (HB.out.cell (World.block_lt_of_cell? w _ hx112_0)).trans hx112_0
                                      replace p112 := eq_true p112
                                      replace q112 := eq_true q112
                                      go_wp2
                                      go_roundg k4
                                      case measure => have := HJ4.out; have := HJ9.out; have := HJ13.out; have := HK4.out; omega
                                      case rel => exact ⟨(x11_4 ++ ((⟨#[47]⟩ : ByteArray) ++ (rdOf ByteArray.empty l0 x65_4))), (x12_4 ++ ((⟨#[47]⟩ : ByteArray) ++ (rdOf ByteArray.empty l0 x65_4))), (wrap64 (x65_4 + 1)), (by first | rfl | (simp; done) | (rw [prx_ne]; first | done | rfl) | (simp [*]; done)), (by first | rfl | (simp; done) | (rw [prx_ne]; first | done | rfl) | (simp [*]; done)), (by first | rfl | (simp; done) | (rw [prx_ne]; first | done | rfl) | (simp [*]; done)), H', ⟨by have := HJ4.out; have := HJ9.out; have := HJ13.out; have := HK4.out; omega⟩, ⟨by repeat (first | (with_reducible first | exact HB.out | apply below_alloc | apply pw_below_drewN | apply below_drew1) | exact HB.out)⟩⟩
                                    · rw [if_neg c49] at H
                                      exact absurd H (by simp)
                                  · rw [if_neg c48] at H
                                    exact absurd H (by simp)
                                · rw [if_neg c47] at H
                                  exact absurd H (by simp)
                            · rw [if_neg c33] at H
                              exact absurd H (by simp)
                          · rw [if_neg c32] at H
                            exact absurd H (by simp)
                        · rw [if_neg c31] at H
                          have c31b0 : decide (x65_4 < (l0.length : Int)) = false := decide_eq_false c31
                          clear c31
                          replace H := Option.bind_eq_some_iff.mp H
                          obtain ⟨⟨t117, t118⟩, A500, H⟩ := H
                          replace H : ((impl_CleanPath.f x12_4).bind fun bt119 => (if x11_4.size + 1 ≤ 9223372036854775807 then ((impl_CleanPath.f (x11_4 ++ (⟨#[47]⟩ : ByteArray))).bind fun bt121 => (if t118 = true then (if bt119.2 = true then (if bt121.2 = true then (if t117.toList = x11_4.toList then (if bt119.1.toList = x11_4.toList then (some (bt121.1.toList == (x11_4 ++ (⟨#[47]⟩ : ByteArray)).toList)) else (some false)) else (some false)) else (some false)) else (some false)) else (some false))) else (none))) = some r := H
                          have A50 := Aside0.mk A500
                          clear A500
                          replace H := Option.bind_eq_some_iff.mp H
                          obtain ⟨⟨t119, t120⟩, A510, H⟩ := H
                          replace H : (if x11_4.size + 1 ≤ 9223372036854775807 then ((impl_CleanPath.f (x11_4 ++ (⟨#[47]⟩ : ByteArray))).bind fun bt121 => (if t118 = true then (if t120 = true then (if bt121.2 = true then (if t117.toList = x11_4.toList then (if t119.toList = x11_4.toList then (some (bt121.1.toList == (x11_4 ++ (⟨#[47]⟩ : ByteArray)).toList)) else (some false)) else (some false)) else (some false)) else (some false)) else (some false))) else (none)) = some r := H
                          have A51 := Aside0.mk A510
                          clear A510
                          by_cases c52 : x11_4.size + 1 ≤ 9223372036854775807
                          · rw [if_pos c52] at H
                            have c52b0 := eq_true c52
                            have c52b1 : decide (x11_4.size + 1 ≤ 9223372036854775807) = true := decide_eq_true c52
                            try have c52b2 : (9223372036854775807 < x11_4.size + 1) = False := eq_false (Nat.not_lt.2 c52)
                            try (have c52b3 := c52; simp only [ByteArray.size_append, prx_sz, List.length_cons, List.length_nil] at c52b3)
                            replace H := Option.bind_eq_some_iff.mp H
                            obtain ⟨⟨t121, t122⟩, A530, H⟩ := H
                            replace H : (if t118 = true then (if t120 = true then (if t122 = true then (if t117.toList = x11_4.toList then (if t119.toList = x11_4.toList then (some (t121.toList == (x11_4 ++ (⟨#[47]⟩ : ByteArray)).toList)) else (some false)) else (some false)) else (some false)) else (some false)) else (some false)) = some r := H
                            have A53 := Aside0.mk A530
                            clear A530
                            by_cases c54 : t118 = true
                            · subst c54
                              have H1 : (if t120 = true then (if t122 = true then (if t117.toList = x11_4.toList then (if t119.toList = x11_4.toList then (some (t121.toList == (x11_4 ++ (⟨#[47]⟩ : ByteArray)).toList)) else (some false)) else (some false)) else (some false)) else (some false)) = some r := by rw [if_pos rfl] at H; exact H
                              clear H
                              have H := H1
                              clear H1
                              by_cases c55 : t120 = true
                              · subst c55
                                have H1 : (if t122 = true then (if t117.toList = x11_4.toList then (if t119.toList = x11_4.toList then (some (t121.toList == (x11_4 ++ (⟨#[47]⟩ : ByteArray)).toList)) else (some false)) else (some false)) else (some false)) = some r := by rw [if_pos rfl] at H; exact H
                                clear H
                                have H := H1
                                clear H1
                                by_cases c56 : t122 = true
                                · subst c56
                                  have H1 : (if t117.toList = x11_4.toList then (if t119.toList = x11_4.toList then (some (t121.toList == (x11_4 ++ (⟨#[47]⟩ : ByteArray)).toList)) else (some false)) else (some false)) = some r := by rw [if_pos rfl] at H; exact H
                                  clear H
                                  have H := H1
                                  clear H1
                                  by_cases c57 : t117.toList = x11_4.toList
                                  · rw [if_pos c57] at H
                                    have c57b0 : (t117.toList == x11_4.toList) = true := beq_iff_eq.mpr c57
                                    have c57b1 : (t117.toList != x11_4.toList) = false := bne_eq_false_iff_eq.mpr c57
                                    clear c57
                                    by_cases c58 : t119.toList = x11_4.toList
                                    · rw [if_pos c58] at H
                                      have c58b0 : (t119.toList == x11_4.toList) = true := beq_iff_eq.mpr c58
                                      have c58b1 : (t119.toList != x11_4.toList) = false := bne_eq_false_iff_eq.mpr c58
                                      clear c58
                                      obtain rfl := Option.some.inj H
                                      go_wp2_with (first | ((with_reducible refine gate_callee (f := 31) rfl ?_); refine goesL_ (some 94) rfl rfl Try.func31 (by kernel_rfl) rfl #[.string x11_4] rfl (by (try simp only [List.map_toArray, List.map_cons, List.map_nil]); first | done | rfl | (simp only [List.length_drop, List.length_take]; rfl)) ?_; (with_reducible refine (impl_CleanPath.calls x11_4 t117 true _ A50.out).mono ?_); rintro e w59 ⟨rfl, hb⟩; refine ⟨_, rfl, ?_⟩; have n0_ := Aside0.mk (below_step (by repeat (first | (with_reducible first | exact HB.out | apply below_alloc | apply pw_below_drewN | apply below_drew1) | exact HB.out)) hb); clear HB; have HB := n0_; clear n0_; (try clear hb); (try clear hb2); (try clear hk); (try clear hi)) | ((with_reducible refine gate_callee (f := 31) rfl ?_); refine goesL_ (some 99) rfl rfl Try.func31 (by kernel_rfl) rfl #[.string x12_4] rfl (by (try simp only [List.map_toArray, List.map_cons, List.map_nil]); first | done | rfl | (simp only [List.length_drop, List.length_take]; rfl)) ?_; (with_reducible refine (impl_CleanPath.calls x12_4 t119 true _ A51.out).mono ?_); rintro e w60 ⟨rfl, hb⟩; refine ⟨_, rfl, ?_⟩; have n0_ := Aside0.mk (below_step (by repeat (first | (with_reducible first | exact HB.out | apply below_alloc | apply pw_below_drewN | apply below_drew1) | exact HB.out)) hb); clear HB; have HB := n0_; clear n0_; (try clear hb); (try clear hb2); (try clear hk); (try clear hi)) | ((with_reducible refine gate_callee (f := 31) rfl ?_); refine goesL_ (some 105) rfl rfl Try.func31 (by kernel_rfl) rfl #[.string (x11_4 ++ (⟨#[47]⟩ : ByteArray))] rfl (by (try simp only [List.map_toArray, List.map_cons, List.map_nil]); first | done | rfl | (simp only [List.length_drop, List.length_take]; rfl)) ?_; (with_reducible refine (impl_CleanPath.calls (x11_4 ++ (⟨#[47]⟩ : ByteArray)) t121 true _ A53.out).mono ?_); rintro e w61 ⟨rfl, hb⟩; refine ⟨_, rfl, ?_⟩; have n0_ := Aside0.mk (below_step (by repeat (first | (with_reducible first | exact HB.out | apply below_alloc | apply pw_below_drewN | apply below_drew1) | exact HB.out)) hb); clear HB; have HB := n0_; clear n0_; (try clear hb); (try clear hb2); (try clear hk); (try clear hi)))
                                      go_ret
                                      exact ⟨by first | rfl | (simp [errW_none, errW_some] <;> rfl) | (simp [*, errW_none, errW_some] <;> rfl), by repeat (first | (with_reducible first | exact HB.out | apply below_alloc | apply pw_below_drewN | apply below_drew1) | exact HB.out)⟩
                                    · rw [if_neg c58] at H
                                      have c58b0 : (t119.toList == x11_4.toList) = false := beq_eq_false_iff_ne.mpr c58
                                      have c58b1 : (t119.toList != x11_4.toList) = true := bne_iff_ne.mpr c58
                                      obtain rfl := Option.some.inj H
                                      go_wp2_with (first | ((with_reducible refine gate_callee (f := 31) rfl ?_); refine goesL_ (some 94) rfl rfl Try.func31 (by kernel_rfl) rfl #[.string x11_4] rfl (by (try simp only [List.map_toArray, List.map_cons, List.map_nil]); first | done | rfl | (simp only [List.length_drop, List.length_take]; rfl)) ?_; (with_reducible refine (impl_CleanPath.calls x11_4 t117 true _ A50.out).mono ?_); rintro e w62 ⟨rfl, hb⟩; refine ⟨_, rfl, ?_⟩; have n0_ := Aside0.mk (below_step (by repeat (first | (with_reducible first | exact HB.out | apply below_alloc | apply pw_below_drewN | apply below_drew1) | exact HB.out)) hb); clear HB; have HB := n0_; clear n0_; (try clear hb); (try clear hb2); (try clear hk); (try clear hi)) | ((with_reducible refine gate_callee (f := 31) rfl ?_); refine goesL_ (some 99) rfl rfl Try.func31 (by kernel_rfl) rfl #[.string x12_4] rfl (by (try simp only [List.map_toArray, List.map_cons, List.map_nil]); first | done | rfl | (simp only [List.length_drop, List.length_take]; rfl)) ?_; (with_reducible refine (impl_CleanPath.calls x12_4 t119 true _ A51.out).mono ?_); rintro e w63 ⟨rfl, hb⟩; refine ⟨_, rfl, ?_⟩; have n0_ := Aside0.mk (below_step (by repeat (first | (with_reducible first | exact HB.out | apply below_alloc | apply pw_below_drewN | apply below_drew1) | exact HB.out)) hb); clear HB; have HB := n0_; clear n0_; (try clear hb); (try clear hb2); (try clear hk); (try clear hi)) | ((with_reducible refine gate_callee (f := 31) rfl ?_); refine goesL_ (some 105) rfl rfl Try.func31 (by kernel_rfl) rfl #[.string (x11_4 ++ (⟨#[47]⟩ : ByteArray))] rfl (by (try simp only [List.map_toArray, List.map_cons, List.map_nil]); first | done | rfl | (simp only [List.length_drop, List.length_take]; rfl)) ?_; (with_reducible refine (impl_CleanPath.calls (x11_4 ++ (⟨#[47]⟩ : ByteArray)) t121 true _ A53.out).mono ?_); rintro e w64 ⟨rfl, hb⟩; refine ⟨_, rfl, ?_⟩; have n0_ := Aside0.mk (below_step (by repeat (first | (with_reducible first | exact HB.out | apply below_alloc | apply pw_below_drewN | apply below_drew1) | exact HB.out)) hb); clear HB; have HB := n0_; clear n0_; (try clear hb); (try clear hb2); (try clear hk); (try clear hi)))
                                      go_ret
                                      exact ⟨by first | rfl | (simp [errW_none, errW_some] <;> rfl) | (simp [*, errW_none, errW_some] <;> rfl), by repeat (first | (with_reducible first | exact HB.out | apply below_alloc | apply pw_below_drewN | apply below_drew1) | exact HB.out)⟩
                                  · rw [if_neg c57] at H
                                    have c57b0 : (t117.toList == x11_4.toList) = false := beq_eq_false_iff_ne.mpr c57
                                    have c57b1 : (t117.toList != x11_4.toList) = true := bne_iff_ne.mpr c57
                                    obtain rfl := Option.some.inj H
                                    go_wp2_with (first | ((with_reducible refine gate_callee (f := 31) rfl ?_); refine goesL_ (some 94) rfl rfl Try.func31 (by kernel_rfl) rfl #[.string x11_4] rfl (by (try simp only [List.map_toArray, List.map_cons, List.map_nil]); first | done | rfl | (simp only [List.length_drop, List.length_take]; rfl)) ?_; (with_reducible refine (impl_CleanPath.calls x11_4 t117 true _ A50.out).mono ?_); rintro e w65 ⟨rfl, hb⟩; refine ⟨_, rfl, ?_⟩; have n0_ := Aside0.mk (below_step (by repeat (first | (with_reducible first | exact HB.out | apply below_alloc | apply pw_below_drewN | apply below_drew1) | exact HB.out)) hb); clear HB; have HB := n0_; clear n0_; (try clear hb); (try clear hb2); (try clear hk); (try clear hi)) | ((with_reducible refine gate_callee (f := 31) rfl ?_); refine goesL_ (some 99) rfl rfl Try.func31 (by kernel_rfl) rfl #[.string x12_4] rfl (by (try simp only [List.map_toArray, List.map_cons, List.map_nil]); first | done | rfl | (simp only [List.length_drop, List.length_take]; rfl)) ?_; (with_reducible refine (impl_CleanPath.calls x12_4 t119 true _ A51.out).mono ?_); rintro e w66 ⟨rfl, hb⟩; refine ⟨_, rfl, ?_⟩; have n0_ := Aside0.mk (below_step (by repeat (first | (with_reducible first | exact HB.out | apply below_alloc | apply pw_below_drewN | apply below_drew1) | exact HB.out)) hb); clear HB; have HB := n0_; clear n0_; (try clear hb); (try clear hb2); (try clear hk); (try clear hi)) | ((with_reducible refine gate_callee (f := 31) rfl ?_); refine goesL_ (some 105) rfl rfl Try.func31 (by kernel_rfl) rfl #[.string (x11_4 ++ (⟨#[47]⟩ : ByteArray))] rfl (by (try simp only [List.map_toArray, List.map_cons, List.map_nil]); first | done | rfl | (simp only [List.length_drop, List.length_take]; rfl)) ?_; (with_reducible refine (impl_CleanPath.calls (x11_4 ++ (⟨#[47]⟩ : ByteArray)) t121 true _ A53.out).mono ?_); rintro e w67 ⟨rfl, hb⟩; refine ⟨_, rfl, ?_⟩; have n0_ := Aside0.mk (below_step (by repeat (first | (with_reducible first | exact HB.out | apply below_alloc | apply pw_below_drewN | apply below_drew1) | exact HB.out)) hb); clear HB; have HB := n0_; clear n0_; (try clear hb); (try clear hb2); (try clear hk); (try clear hi)))
                                    go_ret
                                    exact ⟨by first | rfl | (simp [errW_none, errW_some] <;> rfl) | (simp [*, errW_none, errW_some] <;> rfl), by repeat (first | (with_reducible first | exact HB.out | apply below_alloc | apply pw_below_drewN | apply below_drew1) | exact HB.out)⟩
                                · replace c56 := Bool.eq_false_iff.mpr c56
                                  subst c56
                                  have H1 : (some false) = some r := by rw [if_neg (show ¬ (false = true) by decide)] at H; exact H
                                  clear H
                                  have H := H1
                                  clear H1
                                  obtain rfl := Option.some.inj H
                                  go_wp2_with (first | ((with_reducible refine gate_callee (f := 31) rfl ?_); refine goesL_ (some 94) rfl rfl Try.func31 (by kernel_rfl) rfl #[.string x11_4] rfl (by (try simp only [List.map_toArray, List.map_cons, List.map_nil]); first | done | rfl | (simp only [List.length_drop, List.length_take]; rfl)) ?_; (with_reducible refine (impl_CleanPath.calls x11_4 t117 true _ A50.out).mono ?_); rintro e w68 ⟨rfl, hb⟩; refine ⟨_, rfl, ?_⟩; have n0_ := Aside0.mk (below_step (by repeat (first | (with_reducible first | exact HB.out | apply below_alloc | apply pw_below_drewN | apply below_drew1) | exact HB.out)) hb); clear HB; have HB := n0_; clear n0_; (try clear hb); (try clear hb2); (try clear hk); (try clear hi)) | ((with_reducible refine gate_callee (f := 31) rfl ?_); refine goesL_ (some 99) rfl rfl Try.func31 (by kernel_rfl) rfl #[.string x12_4] rfl (by (try simp only [List.map_toArray, List.map_cons, List.map_nil]); first | done | rfl | (simp only [List.length_drop, List.length_take]; rfl)) ?_; (with_reducible refine (impl_CleanPath.calls x12_4 t119 true _ A51.out).mono ?_); rintro e w69 ⟨rfl, hb⟩; refine ⟨_, rfl, ?_⟩; have n0_ := Aside0.mk (below_step (by repeat (first | (with_reducible first | exact HB.out | apply below_alloc | apply pw_below_drewN | apply below_drew1) | exact HB.out)) hb); clear HB; have HB := n0_; clear n0_; (try clear hb); (try clear hb2); (try clear hk); (try clear hi)) | ((with_reducible refine gate_callee (f := 31) rfl ?_); refine goesL_ (some 105) rfl rfl Try.func31 (by kernel_rfl) rfl #[.string (x11_4 ++ (⟨#[47]⟩ : ByteArray))] rfl (by (try simp only [List.map_toArray, List.map_cons, List.map_nil]); first | done | rfl | (simp only [List.length_drop, List.length_take]; rfl)) ?_; (with_reducible refine (impl_CleanPath.calls (x11_4 ++ (⟨#[47]⟩ : ByteArray)) t121 false _ A53.out).mono ?_); rintro e w70 ⟨rfl, hb⟩; refine ⟨_, rfl, ?_⟩; have n0_ := Aside0.mk (below_step (by repeat (first | (with_reducible first | exact HB.out | apply below_alloc | apply pw_below_drewN | apply below_drew1) | exact HB.out)) hb); clear HB; have HB := n0_; clear n0_; (try clear hb); (try clear hb2); (try clear hk); (try clear hi)))
                                  go_ret
                                  exact ⟨by first | rfl | (simp [errW_none, errW_some] <;> rfl) | (simp [*, errW_none, errW_some] <;> rfl), by repeat (first | (with_reducible first | exact HB.out | apply below_alloc | apply pw_below_drewN | apply below_drew1) | exact HB.out)⟩
                              · replace c55 := Bool.eq_false_iff.mpr c55
                                subst c55
                                have H1 : (some false) = some r := by rw [if_neg (show ¬ (false = true) by decide)] at H; exact H
                                clear H
                                have H := H1
                                clear H1
                                obtain rfl := Option.some.inj H
                                go_wp2_with (first | ((with_reducible refine gate_callee (f := 31) rfl ?_); refine goesL_ (some 94) rfl rfl Try.func31 (by kernel_rfl) rfl #[.string x11_4] rfl (by (try simp only [List.map_toArray, List.map_cons, List.map_nil]); first | done | rfl | (simp only [List.length_drop, List.length_take]; rfl)) ?_; (with_reducible refine (impl_CleanPath.calls x11_4 t117 true _ A50.out).mono ?_); rintro e w71 ⟨rfl, hb⟩; refine ⟨_, rfl, ?_⟩; have n0_ := Aside0.mk (below_step (by repeat (first | (with_reducible first | exact HB.out | apply below_alloc | apply pw_below_drewN | apply below_drew1) | exact HB.out)) hb); clear HB; have HB := n0_; clear n0_; (try clear hb); (try clear hb2); (try clear hk); (try clear hi)) | ((with_reducible refine gate_callee (f := 31) rfl ?_); refine goesL_ (some 99) rfl rfl Try.func31 (by kernel_rfl) rfl #[.string x12_4] rfl (by (try simp only [List.map_toArray, List.map_cons, List.map_nil]); first | done | rfl | (simp only [List.length_drop, List.length_take]; rfl)) ?_; (with_reducible refine (impl_CleanPath.calls x12_4 t119 false _ A51.out).mono ?_); rintro e w72 ⟨rfl, hb⟩; refine ⟨_, rfl, ?_⟩; have n0_ := Aside0.mk (below_step (by repeat (first | (with_reducible first | exact HB.out | apply below_alloc | apply pw_below_drewN | apply below_drew1) | exact HB.out)) hb); clear HB; have HB := n0_; clear n0_; (try clear hb); (try clear hb2); (try clear hk); (try clear hi)) | ((with_reducible refine gate_callee (f := 31) rfl ?_); refine goesL_ (some 105) rfl rfl Try.func31 (by kernel_rfl) rfl #[.string (x11_4 ++ (⟨#[47]⟩ : ByteArray))] rfl (by (try simp only [List.map_toArray, List.map_cons, List.map_nil]); first | done | rfl | (simp only [List.length_drop, List.length_take]; rfl)) ?_; (with_reducible refine (impl_CleanPath.calls (x11_4 ++ (⟨#[47]⟩ : ByteArray)) t121 t122 _ A53.out).mono ?_); rintro e w73 ⟨rfl, hb⟩; refine ⟨_, rfl, ?_⟩; have n0_ := Aside0.mk (below_step (by repeat (first | (with_reducible first | exact HB.out | apply below_alloc | apply pw_below_drewN | apply below_drew1) | exact HB.out)) hb); clear HB; have HB := n0_; clear n0_; (try clear hb); (try clear hb2); (try clear hk); (try clear hi)))
                                go_ret
                                exact ⟨by first | rfl | (simp [errW_none, errW_some] <;> rfl) | (simp [*, errW_none, errW_some] <;> rfl), by repeat (first | (with_reducible first | exact HB.out | apply below_alloc | apply pw_below_drewN | apply below_drew1) | exact HB.out)⟩
                            · replace c54 := Bool.eq_false_iff.mpr c54
                              subst c54
                              have H1 : (some false) = some r := by rw [if_neg (show ¬ (false = true) by decide)] at H; exact H
                              clear H
                              have H := H1
                              clear H1
                              obtain rfl := Option.some.inj H
                              go_wp2_with (first | ((with_reducible refine gate_callee (f := 31) rfl ?_); refine goesL_ (some 94) rfl rfl Try.func31 (by kernel_rfl) rfl #[.string x11_4] rfl (by (try simp only [List.map_toArray, List.map_cons, List.map_nil]); first | done | rfl | (simp only [List.length_drop, List.length_take]; rfl)) ?_; (with_reducible refine (impl_CleanPath.calls x11_4 t117 false _ A50.out).mono ?_); rintro e w74 ⟨rfl, hb⟩; refine ⟨_, rfl, ?_⟩; have n0_ := Aside0.mk (below_step (by repeat (first | (with_reducible first | exact HB.out | apply below_alloc | apply pw_below_drewN | apply below_drew1) | exact HB.out)) hb); clear HB; have HB := n0_; clear n0_; (try clear hb); (try clear hb2); (try clear hk); (try clear hi)) | ((with_reducible refine gate_callee (f := 31) rfl ?_); refine goesL_ (some 99) rfl rfl Try.func31 (by kernel_rfl) rfl #[.string x12_4] rfl (by (try simp only [List.map_toArray, List.map_cons, List.map_nil]); first | done | rfl | (simp only [List.length_drop, List.length_take]; rfl)) ?_; (with_reducible refine (impl_CleanPath.calls x12_4 t119 t120 _ A51.out).mono ?_); rintro e w75 ⟨rfl, hb⟩; refine ⟨_, rfl, ?_⟩; have n0_ := Aside0.mk (below_step (by repeat (first | (with_reducible first | exact HB.out | apply below_alloc | apply pw_below_drewN | apply below_drew1) | exact HB.out)) hb); clear HB; have HB := n0_; clear n0_; (try clear hb); (try clear hb2); (try clear hk); (try clear hi)) | ((with_reducible refine gate_callee (f := 31) rfl ?_); refine goesL_ (some 105) rfl rfl Try.func31 (by kernel_rfl) rfl #[.string (x11_4 ++ (⟨#[47]⟩ : ByteArray))] rfl (by (try simp only [List.map_toArray, List.map_cons, List.map_nil]); first | done | rfl | (simp only [List.length_drop, List.length_take]; rfl)) ?_; (with_reducible refine (impl_CleanPath.calls (x11_4 ++ (⟨#[47]⟩ : ByteArray)) t121 t122 _ A53.out).mono ?_); rintro e w76 ⟨rfl, hb⟩; refine ⟨_, rfl, ?_⟩; have n0_ := Aside0.mk (below_step (by repeat (first | (with_reducible first | exact HB.out | apply below_alloc | apply pw_below_drewN | apply below_drew1) | exact HB.out)) hb); clear HB; have HB := n0_; clear n0_; (try clear hb); (try clear hb2); (try clear hk); (try clear hi)))
                              go_ret
                              exact ⟨by first | rfl | (simp [errW_none, errW_some] <;> rfl) | (simp [*, errW_none, errW_some] <;> rfl), by repeat (first | (with_reducible first | exact HB.out | apply below_alloc | apply pw_below_drewN | apply below_drew1) | exact HB.out)⟩
                          · rw [if_neg c52] at H
                            exact absurd H (by simp)

/-- THE ONE PURE STATEMENT of laws_FnCleanSteps: yours. -/
def laws_FnCleanSteps.Pure : Prop := ∀ (l0 : List ByteArray) (a1 : Int) (a2 : ByteArray) (a3 : Int), l0.length * 16 ≤ 140737488351232 → (Lit.int .i64 a1).wf = true → a2.size ≤ 140737488351232 → (Lit.int .u8 a3).wf = true → ∃ k, laws_FnCleanSteps.f k l0 a1 a2 a3 = some true
theorem laws_FnCleanSteps.walk (P : laws_FnCleanSteps.Pure) (a0 : Option Addr) (cap0 : Nat) (l0 : List ByteArray) (a1 : Int) (a2 : ByteArray) (a3 : Int) (w : World) (w0 : Kd.C Kd.string w a0 l0.length l0) (y0 : l0.length ≤ cap0) (m0 : l0.length * 16 ≤ 140737488351232) (w1 : (Lit.int .i64 a1).wf = true) (w2 : a2.size ≤ 140737488351232) (w3 : (Lit.int .u8 a3).wf = true) :
    Calls Try.prog 8 #[.slice a0 l0.length cap0, .int .i64 a1, .string a2, .int .u8 a3] w fun e w' => e = .returned (.bool true) ∧ Below w.heap.size w w' := by
  obtain ⟨k, h⟩ := P l0 a1 a2 a3 m0 w1 w2 w3
  refine (laws_FnCleanSteps.calls k _ _ l0 a1 a2 a3 true w w0 y0 h).mono ?_
  rintro e w' ⟨rfl, hd⟩
  exact ⟨rfl, hd⟩

end Go.Proofs.Ytkbmababljcabaa.QA
