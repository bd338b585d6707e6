/- Printed by wip/pr.py (a program of this repo over the print program of the kit). Not trusted: Lean checks it. -/
import Derived.Test.YtdfeojkombmiaaaQA0
import Derived.Test.YtdfeojkombmiaaaQA16
import Derived.Test.YtdfeojkombmiaaaGLow
import Derived.Test.YtdfeojkombmiaaaGNormal
import Derived.Test.YtdfeojkombmiaaaGNormalKey
import Derived.Test.YtdfeojkombmiaaaGSameKey
namespace Go.Proofs.Ytdfeojkombmiaaa.QA
open Go.Proofs.Ytdfeojkombmiaaa.Given
open Go.Proofs.Ytdfeojkombmiaaa.PrX
open Go.RowKit Go.Proofs.YtdfeojkombmiaaaW.PrintWords Go.Proofs.YtdfeojkombmiaaaW.PrintLast Go.Proofs.YtdfeojkombmiaaaW.PrintMore
attribute [local go_sem] max2_int min2_int max_two min_two max_three min_three max_four min_four   -- for this text's walks alone
set_option linter.unusedVariables false
set_option linter.unusedSimpArgs false

/-! ### laws_FnKeysNormal: function 11 -/
mutual
def laws_FnKeysNormal.j0 : Nat → ByteArray → ByteArray → Bool → Option (Bool)
  | 0, _, _, _ => none
  | k + 1, x0, x1, x14 => if x14 = true then (some true) else ((impl_NormalKey.f (⟨#[120, 45, 97, 66]⟩ : ByteArray)).bind fun t155 => (if t155.toList = ([88, 45, 65, 98] : List UInt8) then ((impl_SameKey.f k (⟨#[120, 45, 97, 66]⟩ : ByteArray) (⟨#[88, 45, 65, 98]⟩ : ByteArray)).bind fun t156 => (laws_FnKeysNormal.j1 k x0 x1 (!t156))) else (laws_FnKeysNormal.j1 k x0 x1 true)))
def laws_FnKeysNormal.j1 : Nat → ByteArray → ByteArray → Bool → Option (Bool)
  | 0, _, _, _ => none
  | k + 1, x0, x1, x20 => if x20 = true then (some false) else ((laws_name.f k x0).bind fun t157 => (if t157 = true then ((laws_name.f k x1).bind fun t158 => (laws_FnKeysNormal.j2 k x0 x1 (!t158))) else (laws_FnKeysNormal.j2 k x0 x1 true)))
def laws_FnKeysNormal.j2 : Nat → ByteArray → ByteArray → Bool → Option (Bool)
  | 0, _, _, _ => none
  | k + 1, x0, x1, x28 => if x28 = true then (some true) else ((impl_NormalKey.f x0).bind fun t159 => ((impl_NormalKey.f x1).bind fun t160 => ((laws_normal.f x0).bind fun t161 => (if t159.toList = t161.toList then ((impl_NormalKey.f t159).bind fun t162 => (if t162.toList = t159.toList then ((impl_SameKey.f k t159 x0).bind fun t163 => (if t163 = true then ((impl_SameKey.f k x0 x1).bind fun t164 => ((laws_low.f x0).bind fun t165 => ((laws_low.f x1).bind fun t166 => (if (t164 == (t165.toList == t166.toList)) = true then ((laws_low.f x0).bind fun t167 => ((laws_low.f x1).bind fun t168 => (some ((t159.toList == t160.toList) == (t167.toList == t168.toList))))) else (some false))))) else (some false))) else (some false))) else (some false)))))
end
def laws_FnKeysNormal.f (k : Nat) (a0 : ByteArray) (a1 : ByteArray) : Option (Bool) := if (a0.size : Int) > 2147483647 then (laws_FnKeysNormal.j0 k a0 a1 true) else (laws_FnKeysNormal.j0 k a0 a1 (decide ((a1.size : Int) > 2147483647)))
theorem laws_FnKeysNormal.mono_l : ∀ k, (∀ y0 y1 y2, LeO (laws_FnKeysNormal.j0 k y0 y1 y2) (laws_FnKeysNormal.j0 (k + 1) y0 y1 y2)) ∧ (∀ y0 y1 y2, LeO (laws_FnKeysNormal.j1 k y0 y1 y2) (laws_FnKeysNormal.j1 (k + 1) y0 y1 y2)) ∧ (∀ y0 y1 y2, LeO (laws_FnKeysNormal.j2 k y0 y1 y2) (laws_FnKeysNormal.j2 (k + 1) y0 y1 y2))
  | 0 => ⟨fun _ _ _ r h => by simp [laws_FnKeysNormal.j0] at h, fun _ _ _ r h => by simp [laws_FnKeysNormal.j1] at h, fun _ _ _ r h => by simp [laws_FnKeysNormal.j2] at h⟩
  | k + 1 => by
    obtain ⟨ih0, ih1, ih2⟩ := laws_FnKeysNormal.mono_l k
    refine ⟨?_, ?_, ?_⟩
    · intro y0 y1 y2
      unfold laws_FnKeysNormal.j0
      repeat' first
      | (with_reducible exact ih0 _ _ _)
      | (with_reducible exact ih1 _ _ _)
      | (with_reducible exact ih2 _ _ _)
      | (with_reducible exact impl_SameKey.mono _ _ _)
      | (with_reducible exact laws_name.mono _ _)
      | (with_reducible exact LeO.refl _)
      | (with_reducible exact LeO.none _)
      | (with_reducible refine LeO.ite ?_ ?_)
      | (with_reducible refine LeO.bind ?_ (fun _ => ?_))
      | exact ih0 _ _ _
      | exact ih1 _ _ _
      | exact ih2 _ _ _
      | exact impl_SameKey.mono _ _ _
      | exact laws_name.mono _ _
      | exact LeO.none _
      | refine LeO.ite ?_ ?_
      | refine LeO.bind ?_ (fun _ => ?_)
    · intro y0 y1 y2
      unfold laws_FnKeysNormal.j1
      repeat' first
      | (with_reducible exact ih0 _ _ _)
      | (with_reducible exact ih1 _ _ _)
      | (with_reducible exact ih2 _ _ _)
      | (with_reducible exact impl_SameKey.mono _ _ _)
      | (with_reducible exact laws_name.mono _ _)
      | (with_reducible exact LeO.refl _)
      | (with_reducible exact LeO.none _)
      | (with_reducible refine LeO.ite ?_ ?_)
      | (with_reducible refine LeO.bind ?_ (fun _ => ?_))
      | exact ih0 _ _ _
      | exact ih1 _ _ _
      | exact ih2 _ _ _
      | exact impl_SameKey.mono _ _ _
      | exact laws_name.mono _ _
      | exact LeO.none _
      | refine LeO.ite ?_ ?_
      | refine LeO.bind ?_ (fun _ => ?_)
    · intro y0 y1 y2
      unfold laws_FnKeysNormal.j2
      repeat' first
      | (with_reducible exact ih0 _ _ _)
      | (with_reducible exact ih1 _ _ _)
      | (with_reducible exact ih2 _ _ _)
      | (with_reducible exact impl_SameKey.mono _ _ _)
      | (with_reducible exact laws_name.mono _ _)
      | (with_reducible exact LeO.refl _)
      | (with_reducible exact LeO.none _)
      | (with_reducible refine LeO.ite ?_ ?_)
      | (with_reducible refine LeO.bind ?_ (fun _ => ?_))
      | exact ih0 _ _ _
      | exact ih1 _ _ _
      | exact ih2 _ _ _
      | exact impl_SameKey.mono _ _ _
      | exact laws_name.mono _ _
      | exact LeO.none _
      | refine LeO.ite ?_ ?_
      | refine LeO.bind ?_ (fun _ => ?_)
theorem laws_FnKeysNormal.mono : ∀ a0 a1 k, LeO (laws_FnKeysNormal.f k a0 a1) (laws_FnKeysNormal.f (k + 1) a0 a1) := by
  intro a0 a1 k
  obtain ⟨ih0, ih1, ih2⟩ := laws_FnKeysNormal.mono_l k
  unfold laws_FnKeysNormal.f
  repeat' first
      | (with_reducible exact ih0 _ _ _)
      | (with_reducible exact ih1 _ _ _)
      | (with_reducible exact ih2 _ _ _)
      | (with_reducible exact impl_SameKey.mono _ _ _)
      | (with_reducible exact laws_name.mono _ _)
      | (with_reducible exact LeO.refl _)
      | (with_reducible exact LeO.none _)
      | (with_reducible refine LeO.ite ?_ ?_)
      | (with_reducible refine LeO.bind ?_ (fun _ => ?_))
      | exact ih0 _ _ _
      | exact ih1 _ _ _
      | exact ih2 _ _ _
      | exact impl_SameKey.mono _ _ _
      | exact laws_name.mono _ _
      | exact LeO.none _
      | refine LeO.ite ?_ ?_
      | refine LeO.bind ?_ (fun _ => ?_)
set_option maxHeartbeats 8000000 in
set_option maxRecDepth 100000 in
theorem laws_FnKeysNormal.calls (k : Nat) (a0 : ByteArray) (a1 : ByteArray) (r : Bool) (w : World) (h : laws_FnKeysNormal.f k a0 a1 = some r) :
    Calls Try.prog 11 #[.string a0, .string a1] w fun e w' => e = .returned (.bool r) ∧ Below w.heap.size w w' := by
  have HB := Aside0.mk (Below.refl w.heap.size w)
  have H : (if (a0.size : Int) > 2147483647 then (laws_FnKeysNormal.j0 k a0 a1 true) else (laws_FnKeysNormal.j0 k a0 a1 (decide ((a1.size : Int) > 2147483647)))) = some r := h
  clear h
  have HC3 := Aside0.mk H
  clear H
  go_enter Try.func11, Try.ntmps11
  go_upto_region 1 with (fail)
  go_cut [14] (fun v14 wc => ∃ (kq : Nat) (x14_2 : Bool), v14 = .bool x14_2 ∧ Aside0 (laws_FnKeysNormal.j0 kq a0 a1 x14_2 = some r) ∧ Aside0 (kq ≤ k) ∧ Aside0 (Below w.heap.size w wc))
  case first =>
    have H := HC3.out
    clear HC3
    by_cases c4 : (a0.size : Int) > 2147483647
    · rw [if_pos c4] at H
      have c4b0 : decide (2147483647 < (a0.size : Int)) = true := decide_eq_true c4
      have c4b1 : decide (2147483647 < a0.size) = true := decide_eq_true (by omega)
      clear c4
      (first | rw [c4b0] | (simp only [i64_w, i32_w]; rw [c4b0]) | skip)
      have H' := Aside0.mk H
      clear H
      go_wp2
      go_meet
      case rel => exact ⟨_, (true), (by first | rfl | (simp; done) | (rw [prx_ne]; first | done | rfl) | (simp [*]; done)), H', ⟨by first | omega | exact Nat.le_refl _⟩, ⟨by repeat (first | (with_reducible first | exact HB.out | apply below_alloc | apply pw_below_drewN | apply below_drew1) | exact HB.out)⟩⟩
    · rw [if_neg c4] at H
      have c4b0 : decide (2147483647 < (a0.size : Int)) = false := decide_eq_false c4
      have c4b1 : decide (2147483647 < a0.size) = false := decide_eq_false (by omega)
      clear c4
      (first | rw [c4b0] | (simp only [i64_w, i32_w]; rw [c4b0]) | skip)
      have H' := Aside0.mk H
      clear H
      go_wp2
      go_meet
      case rel => exact ⟨_, (decide ((a1.size : Int) > 2147483647)), (by first | rfl | (simp; done) | (rw [prx_ne]; first | done | rfl) | (simp [*]; done)), H', ⟨by first | omega | exact Nat.le_refl _⟩, ⟨by repeat (first | (with_reducible first | exact HB.out | apply below_alloc | apply pw_below_drewN | apply below_drew1) | exact HB.out)⟩⟩
  case rest =>
    clear HC3
    try clear c1
    try clear p2
    try clear c4
    try clear c4b0
    try clear c4b1
    obtain ⟨kq, x14_2, rfl, HA, HJ2, HB⟩ := hcut
    cases kq with
    | zero => exact absurd HA.out (by simp [laws_FnKeysNormal.j0])
    | succ kj2 =>
      have H := HA.out
      clear HA
      simp only [laws_FnKeysNormal.j0] at H
      by_cases c5 : x14_2 = true
      · subst c5
        have H1 : (some true) = some r := by rw [if_pos rfl] at H; exact H
        clear H
        have H := H1
        clear H1
        obtain rfl := Option.some.inj H
        go_wp2
        go_ret
        exact ⟨by first | rfl | (simp [errW_none, errW_some] <;> rfl) | (simp [*, errW_none, errW_some] <;> rfl), by repeat (first | (with_reducible first | exact HB.out | apply below_alloc | apply pw_below_drewN | apply below_drew1) | exact HB.out)⟩
      · replace c5 := Bool.eq_false_iff.mpr c5
        subst c5
        have H1 : ((impl_NormalKey.f (⟨#[120, 45, 97, 66]⟩ : ByteArray)).bind fun t155 => (if t155.toList = ([88, 45, 65, 98] : List UInt8) then ((impl_SameKey.f kj2 (⟨#[120, 45, 97, 66]⟩ : ByteArray) (⟨#[88, 45, 65, 98]⟩ : ByteArray)).bind fun t156 => (laws_FnKeysNormal.j1 kj2 a0 a1 (!t156))) else (laws_FnKeysNormal.j1 kj2 a0 a1 true))) = some r := by rw [if_neg (show ¬ (false = true) by decide)] at H; exact H
        clear H
        have H := H1
        clear H1
        have HC6 := Aside0.mk H
        clear H
        go_upto_region 3 with (fail)
        go_cut [20] (fun v20 wc => ∃ (kq : Nat) (x20_5 : Bool), v20 = .bool x20_5 ∧ Aside0 (laws_FnKeysNormal.j1 kq a0 a1 x20_5 = some r) ∧ Aside0 (kq ≤ kj2) ∧ Aside0 (Below w.heap.size w wc))
        case first =>
          have H := HC6.out
          clear HC6
          replace H := Option.bind_eq_some_iff.mp H
          obtain ⟨t155, A70, H⟩ := H
          replace H : (if t155.toList = ([88, 45, 65, 98] : List UInt8) then ((impl_SameKey.f kj2 (⟨#[120, 45, 97, 66]⟩ : ByteArray) (⟨#[88, 45, 65, 98]⟩ : ByteArray)).bind fun t156 => (laws_FnKeysNormal.j1 kj2 a0 a1 (!t156))) else (laws_FnKeysNormal.j1 kj2 a0 a1 true)) = some r := H
          have A7 := Aside0.mk A70
          clear A70
          by_cases c8 : t155.toList = ([88, 45, 65, 98] : List UInt8)
          · rw [if_pos c8] at H
            have c8b0 : (t155.toList == ([88, 45, 65, 98] : List UInt8)) = true := beq_iff_eq.mpr c8
            have c8b1 : (t155.toList != ([88, 45, 65, 98] : List UInt8)) = false := bne_eq_false_iff_eq.mpr c8
            clear c8
            (first | rw [c8b0] | (simp only [i64_w, i32_w]; rw [c8b0]) | skip)
            replace H := Option.bind_eq_some_iff.mp H
            obtain ⟨t156, A90, H⟩ := H
            replace H : (laws_FnKeysNormal.j1 kj2 a0 a1 (!t156)) = some r := H
            have A9 := Aside0.mk A90
            clear A90
            have H' := Aside0.mk H
            clear H
            go_wp2_with (first | ((with_reducible refine gate_callee (f := 33) rfl ?_); refine goesL_ (some 15) rfl rfl Try.func33 (by kernel_rfl) rfl #[.string (⟨#[120, 45, 97, 66]⟩ : ByteArray)] rfl (by (try simp only [List.map_toArray, List.map_cons, List.map_nil]); first | done | rfl | (simp only [List.length_drop, List.length_take]; rfl)) ?_; (with_reducible refine (impl_NormalKey.calls (⟨#[120, 45, 97, 66]⟩ : ByteArray) t155 _ A7.out).mono ?_); rintro e w10 ⟨rfl, hb⟩; refine ⟨_, rfl, ?_⟩; have n0_ := Aside0.mk (below_step (by repeat (first | (with_reducible first | exact HB.out | apply below_alloc | apply pw_below_drewN | apply below_drew1) | exact HB.out)) hb); clear HB; have HB := n0_; clear n0_; (try clear hb); (try clear hb2); (try clear hk); (try clear hi)) | (go_at_call 34; (with_reducible refine (impl_SameKey.calls kj2 (⟨#[120, 45, 97, 66]⟩ : ByteArray) (⟨#[88, 45, 65, 98]⟩ : ByteArray) t156 _ A9.out).mono ?_); rintro e w11 ⟨rfl, hb⟩; have n0_ := Aside0.mk (below_step (by repeat (first | (with_reducible first | exact HB.out | apply below_alloc | apply pw_below_drewN | apply below_drew1) | exact HB.out)) hb); clear HB; have HB := n0_; clear n0_; (try clear hb); (try clear hb2); (try clear hk); (try clear hi)))
            go_meet
            case rel => exact ⟨_, (!t156), (by first | rfl | (simp; done) | (rw [prx_ne]; first | done | rfl) | (simp [*]; done)), H', ⟨by have := HJ2.out; first | omega | exact Nat.le_refl _⟩, ⟨by repeat (first | (with_reducible first | exact HB.out | apply below_alloc | apply pw_below_drewN | apply below_drew1) | exact HB.out)⟩⟩
          · rw [if_neg c8] at H
            have c8b0 : (t155.toList == ([88, 45, 65, 98] : List UInt8)) = false := beq_eq_false_iff_ne.mpr c8
            have c8b1 : (t155.toList != ([88, 45, 65, 98] : List UInt8)) = true := bne_iff_ne.mpr c8
            (first | rw [c8b0] | (simp only [i64_w, i32_w]; rw [c8b0]) | skip)
            have H' := Aside0.mk H
            clear H
            go_wp2_with (first | ((with_reducible refine gate_callee (f := 33) rfl ?_); refine goesL_ (some 15) rfl rfl Try.func33 (by kernel_rfl) rfl #[.string (⟨#[120, 45, 97, 66]⟩ : ByteArray)] rfl (by (try simp only [List.map_toArray, List.map_cons, List.map_nil]); first | done | rfl | (simp only [List.length_drop, List.length_take]; rfl)) ?_; (with_reducible refine (impl_NormalKey.calls (⟨#[120, 45, 97, 66]⟩ : ByteArray) t155 _ A7.out).mono ?_); rintro e w12 ⟨rfl, hb⟩; refine ⟨_, rfl, ?_⟩; have n0_ := Aside0.mk (below_step (by repeat (first | (with_reducible first | exact HB.out | apply below_alloc | apply pw_below_drewN | apply below_drew1) | exact HB.out)) hb); clear HB; have HB := n0_; clear n0_; (try clear hb); (try clear hb2); (try clear hk); (try clear hi)))
            go_meet
            case rel => exact ⟨_, (true), (by first | rfl | (simp; done) | (rw [prx_ne]; first | done | rfl) | (simp [*]; done)), H', ⟨by have := HJ2.out; first | omega | exact Nat.le_refl _⟩, ⟨by repeat (first | (with_reducible first | exact HB.out | apply below_alloc | apply pw_below_drewN | apply below_drew1) | exact HB.out)⟩⟩
        case rest =>
          clear HC6
          try clear c1
          try clear p2
          try clear c3
          try clear c4
          try clear c4b0
          try clear c4b1
          try clear c5
          try clear c8
          try clear c8b0
          try clear c8b1
          try clear c11
          try clear p2
          obtain ⟨kq, x20_5, rfl, HA, HJ5, HB⟩ := hcut
          cases kq with
          | zero => exact absurd HA.out (by simp [laws_FnKeysNormal.j1])
          | succ kj5 =>
            have H := HA.out
            clear HA
            simp only [laws_FnKeysNormal.j1] at H
            by_cases c13 : x20_5 = true
            · subst c13
              have H1 : (some false) = some r := by rw [if_pos rfl] at H; exact H
              clear H
              have H := H1
              clear H1
              obtain rfl := Option.some.inj H
              go_wp2
              go_ret
              exact ⟨by first | rfl | (simp [errW_none, errW_some] <;> rfl) | (simp [*, errW_none, errW_some] <;> rfl), by repeat (first | (with_reducible first | exact HB.out | apply below_alloc | apply pw_below_drewN | apply below_drew1) | exact HB.out)⟩
            · replace c13 := Bool.eq_false_iff.mpr c13
              subst c13
              have H1 : ((laws_name.f kj5 a0).bind fun t157 => (if t157 = true then ((laws_name.f kj5 a1).bind fun t158 => (laws_FnKeysNormal.j2 kj5 a0 a1 (!t158))) else (laws_FnKeysNormal.j2 kj5 a0 a1 true))) = some r := by rw [if_neg (show ¬ (false = true) by decide)] at H; exact H
              clear H
              have H := H1
              clear H1
              have HC14 := Aside0.mk H
              clear H
              go_upto_region 5 with (fail)
              go_cut [28] (fun v28 wc => ∃ (kq : Nat) (x28_13 : Bool), v28 = .bool x28_13 ∧ Aside0 (laws_FnKeysNormal.j2 kq a0 a1 x28_13 = some r) ∧ Aside0 (kq ≤ kj5) ∧ Aside0 (Below w.heap.size w wc))
              case first =>
                have H := HC14.out
                clear HC14
                replace H := Option.bind_eq_some_iff.mp H
                obtain ⟨t157, A150, H⟩ := H
                replace H : (if t157 = true then ((laws_name.f kj5 a1).bind fun t158 => (laws_FnKeysNormal.j2 kj5 a0 a1 (!t158))) else (laws_FnKeysNormal.j2 kj5 a0 a1 true)) = some r := H
                have A15 := Aside0.mk A150
                clear A150
                by_cases c16 : t157 = true
                · subst c16
                  have H1 : ((laws_name.f kj5 a1).bind fun t158 => (laws_FnKeysNormal.j2 kj5 a0 a1 (!t158))) = some r := by rw [if_pos rfl] at H; exact H
                  clear H
                  have H := H1
                  clear H1
                  replace H := Option.bind_eq_some_iff.mp H
                  obtain ⟨t158, A170, H⟩ := H
                  replace H : (laws_FnKeysNormal.j2 kj5 a0 a1 (!t158)) = some r := H
                  have A17 := Aside0.mk A170
                  clear A170
                  have H' := Aside0.mk H
                  clear H
                  go_wp2_with (first | ((with_reducible refine gate_callee (f := 35) rfl ?_); refine goesL_ (some 22) rfl rfl Try.func35 (by kernel_rfl) rfl #[.string a0] rfl (by (try simp only [List.map_toArray, List.map_cons, List.map_nil]); first | done | rfl | (simp only [List.length_drop, List.length_take]; rfl)) ?_; (with_reducible refine (laws_name.calls kj5 a0 true _ A15.out).mono ?_); rintro e w' ⟨rfl, ⟨nd, rfl⟩⟩; refine ⟨_, rfl, ?_⟩) | (go_at_call 35; (with_reducible refine (laws_name.calls kj5 a1 t158 _ A17.out).mono ?_); rintro e w' ⟨rfl, ⟨nd, rfl⟩⟩))
                  go_meet
                  case rel => exact ⟨_, (!t158), (by first | rfl | (simp; done) | (rw [prx_ne]; first | done | rfl) | (simp [*]; done)), H', ⟨by have := HJ2.out; have := HJ5.out; first | omega | exact Nat.le_refl _⟩, ⟨by repeat (first | (with_reducible first | exact HB.out | apply below_alloc | apply pw_below_drewN | apply below_drew1) | exact HB.out)⟩⟩
                · replace c16 := Bool.eq_false_iff.mpr c16
                  subst c16
                  have H1 : (laws_FnKeysNormal.j2 kj5 a0 a1 true) = some r := by rw [if_neg (show ¬ (false = true) by decide)] at H; exact H
                  clear H
                  have H := H1
                  clear H1
                  have H' := Aside0.mk H
                  clear H
                  go_wp2_with (first | ((with_reducible refine gate_callee (f := 35) rfl ?_); refine goesL_ (some 22) rfl rfl Try.func35 (by kernel_rfl) rfl #[.string a0] rfl (by (try simp only [List.map_toArray, List.map_cons, List.map_nil]); first | done | rfl | (simp only [List.length_drop, List.length_take]; rfl)) ?_; (with_reducible refine (laws_name.calls kj5 a0 false _ A15.out).mono ?_); rintro e w' ⟨rfl, ⟨nd, rfl⟩⟩; refine ⟨_, rfl, ?_⟩))
                  go_meet
                  case rel => exact ⟨_, (true), (by first | rfl | (simp; done) | (rw [prx_ne]; first | done | rfl) | (simp [*]; done)), H', ⟨by have := HJ2.out; have := HJ5.out; first | omega | exact Nat.le_refl _⟩, ⟨by repeat (first | (with_reducible first | exact HB.out | apply below_alloc | apply pw_below_drewN | apply below_drew1) | exact HB.out)⟩⟩
              case rest =>
                clear HC14
                try clear c1
                try clear p2
                try clear c3
                try clear c4
                try clear c4b0
                try clear c4b1
                try clear c5
                try clear c8
                try clear c8b0
                try clear c8b1
                try clear c11
                try clear c13
                try clear c16
                try clear p2
                obtain ⟨kq, x28_13, rfl, HA, HJ13, HB⟩ := hcut
                cases kq with
                | zero => exact absurd HA.out (by simp [laws_FnKeysNormal.j2])
                | succ kj13 =>
                  have H := HA.out
                  clear HA
                  simp only [laws_FnKeysNormal.j2] at H
                  by_cases c18 : x28_13 = true
                  · subst c18
                    have H1 : (some true) = some r := by rw [if_pos rfl] at H; exact H
                    clear H
                    have H := H1
                    clear H1
                    obtain rfl := Option.some.inj H
                    go_wp2
                    go_ret
                    exact ⟨by first | rfl | (simp [errW_none, errW_some] <;> rfl) | (simp [*, errW_none, errW_some] <;> rfl), by repeat (first | (with_reducible first | exact HB.out | apply below_alloc | apply pw_below_drewN | apply below_drew1) | exact HB.out)⟩
                  · replace c18 := Bool.eq_false_iff.mpr c18
                    subst c18
                    have H1 : ((impl_NormalKey.f a0).bind fun t159 => ((impl_NormalKey.f a1).bind fun t160 => ((laws_normal.f a0).bind fun t161 => (if t159.toList = t161.toList then ((impl_NormalKey.f t159).bind fun t162 => (if t162.toList = t159.toList then ((impl_SameKey.f kj13 t159 a0).bind fun t163 => (if t163 = true then ((impl_SameKey.f kj13 a0 a1).bind fun t164 => ((laws_low.f a0).bind fun t165 => ((laws_low.f a1).bind fun t166 => (if (t164 == (t165.toList == t166.toList)) = true then ((laws_low.f a0).bind fun t167 => ((laws_low.f a1).bind fun t168 => (some ((t159.toList == t160.toList) == (t167.toList == t168.toList))))) else (some false))))) else (some false))) else (some false))) else (some false))))) = some r := by rw [if_neg (show ¬ (false = true) by decide)] at H; exact H
                    clear H
                    have H := H1
                    clear H1
                    replace H := Option.bind_eq_some_iff.mp H
                    obtain ⟨t159, A190, H⟩ := H
                    replace H : ((impl_NormalKey.f a1).bind fun t160 => ((laws_normal.f a0).bind fun t161 => (if t159.toList = t161.toList then ((impl_NormalKey.f t159).bind fun t162 => (if t162.toList = t159.toList then ((impl_SameKey.f kj13 t159 a0).bind fun t163 => (if t163 = true then ((impl_SameKey.f kj13 a0 a1).bind fun t164 => ((laws_low.f a0).bind fun t165 => ((laws_low.f a1).bind fun t166 => (if (t164 == (t165.toList == t166.toList)) = true then ((laws_low.f a0).bind fun t167 => ((laws_low.f a1).bind fun t168 => (some ((t159.toList == t160.toList) == (t167.toList == t168.toList))))) else (some false))))) else (some false))) else (some false))) else (some false)))) = some r := H
                    have A19 := Aside0.mk A190
                    clear A190
                    replace H := Option.bind_eq_some_iff.mp H
                    obtain ⟨t160, A200, H⟩ := H
                    replace H : ((laws_normal.f a0).bind fun t161 => (if t159.toList = t161.toList then ((impl_NormalKey.f t159).bind fun t162 => (if t162.toList = t159.toList then ((impl_SameKey.f kj13 t159 a0).bind fun t163 => (if t163 = true then ((impl_SameKey.f kj13 a0 a1).bind fun t164 => ((laws_low.f a0).bind fun t165 => ((laws_low.f a1).bind fun t166 => (if (t164 == (t165.toList == t166.toList)) = true then ((laws_low.f a0).bind fun t167 => ((laws_low.f a1).bind fun t168 => (some ((t159.toList == t160.toList) == (t167.toList == t168.toList))))) else (some false))))) else (some false))) else (some false))) else (some false))) = some r := H
                    have A20 := Aside0.mk A200
                    clear A200
                    replace H := Option.bind_eq_some_iff.mp H
                    obtain ⟨t161, A210, H⟩ := H
                    replace H : (if t159.toList = t161.toList then ((impl_NormalKey.f t159).bind fun t162 => (if t162.toList = t159.toList then ((impl_SameKey.f kj13 t159 a0).bind fun t163 => (if t163 = true then ((impl_SameKey.f kj13 a0 a1).bind fun t164 => ((laws_low.f a0).bind fun t165 => ((laws_low.f a1).bind fun t166 => (if (t164 == (t165.toList == t166.toList)) = true then ((laws_low.f a0).bind fun t167 => ((laws_low.f a1).bind fun t168 => (some ((t159.toList == t160.toList) == (t167.toList == t168.toList))))) else (some false))))) else (some false))) else (some false))) else (some false)) = some r := H
                    have A21 := Aside0.mk A210
                    clear A210
                    by_cases c22 : t159.toList = t161.toList
                    · rw [if_pos c22] at H
                      have c22b0 : (t159.toList == t161.toList) = true := beq_iff_eq.mpr c22
                      have c22b1 : (t159.toList != t161.toList) = false := bne_eq_false_iff_eq.mpr c22
                      clear c22
                      replace H := Option.bind_eq_some_iff.mp H
                      obtain ⟨t162, A230, H⟩ := H
                      replace H : (if t162.toList = t159.toList then ((impl_SameKey.f kj13 t159 a0).bind fun t163 => (if t163 = true then ((impl_SameKey.f kj13 a0 a1).bind fun t164 => ((laws_low.f a0).bind fun t165 => ((laws_low.f a1).bind fun t166 => (if (t164 == (t165.toList == t166.toList)) = true then ((laws_low.f a0).bind fun t167 => ((laws_low.f a1).bind fun t168 => (some ((t159.toList == t160.toList) == (t167.toList == t168.toList))))) else (some false))))) else (some false))) else (some false)) = some r := H
                      have A23 := Aside0.mk A230
                      clear A230
                      by_cases c24 : t162.toList = t159.toList
                      · rw [if_pos c24] at H
                        have c24b0 : (t162.toList == t159.toList) = true := beq_iff_eq.mpr c24
                        have c24b1 : (t162.toList != t159.toList) = false := bne_eq_false_iff_eq.mpr c24
                        clear c24
                        replace H := Option.bind_eq_some_iff.mp H
                        obtain ⟨t163, A250, H⟩ := H
                        replace H : (if t163 = true then ((impl_SameKey.f kj13 a0 a1).bind fun t164 => ((laws_low.f a0).bind fun t165 => ((laws_low.f a1).bind fun t166 => (if (t164 == (t165.toList == t166.toList)) = true then ((laws_low.f a0).bind fun t167 => ((laws_low.f a1).bind fun t168 => (some ((t159.toList == t160.toList) == (t167.toList == t168.toList))))) else (some false))))) else (some false)) = some r := H
                        have A25 := Aside0.mk A250
                        clear A250
                        by_cases c26 : t163 = true
                        · subst c26
                          have H1 : ((impl_SameKey.f kj13 a0 a1).bind fun t164 => ((laws_low.f a0).bind fun t165 => ((laws_low.f a1).bind fun t166 => (if (t164 == (t165.toList == t166.toList)) = true then ((laws_low.f a0).bind fun t167 => ((laws_low.f a1).bind fun t168 => (some ((t159.toList == t160.toList) == (t167.toList == t168.toList))))) else (some false))))) = some r := by rw [if_pos rfl] at H; exact H
                          clear H
                          have H := H1
                          clear H1
                          replace H := Option.bind_eq_some_iff.mp H
                          obtain ⟨t164, A270, H⟩ := H
                          replace H : ((laws_low.f a0).bind fun t165 => ((laws_low.f a1).bind fun t166 => (if (t164 == (t165.toList == t166.toList)) = true then ((laws_low.f a0).bind fun t167 => ((laws_low.f a1).bind fun t168 => (some ((t159.toList == t160.toList) == (t167.toList == t168.toList))))) else (some false)))) = some r := H
                          have A27 := Aside0.mk A270
                          clear A270
                          replace H := Option.bind_eq_some_iff.mp H
                          obtain ⟨t165, A280, H⟩ := H
                          replace H : ((laws_low.f a1).bind fun t166 => (if (t164 == (t165.toList == t166.toList)) = true then ((laws_low.f a0).bind fun t167 => ((laws_low.f a1).bind fun t168 => (some ((t159.toList == t160.toList) == (t167.toList == t168.toList))))) else (some false))) = some r := H
                          have A28 := Aside0.mk A280
                          clear A280
                          replace H := Option.bind_eq_some_iff.mp H
                          obtain ⟨t166, A290, H⟩ := H
                          replace H : (if (t164 == (t165.toList == t166.toList)) = true then ((laws_low.f a0).bind fun t167 => ((laws_low.f a1).bind fun t168 => (some ((t159.toList == t160.toList) == (t167.toList == t168.toList))))) else (some false)) = some r := H
                          have A29 := Aside0.mk A290
                          clear A290
                          by_cases c30 : (t164 == (t165.toList == t166.toList)) = true
                          · rw [if_pos c30] at H
                            have c30b0 : (t164 == (t165.toList == t166.toList)) = true := c30
                            (try (have c30b1 : decide (t164 = (t165.toList == t166.toList)) = true := by simpa using c30))
                            (try (have c30b2 : (t164 == (t165.toList == t166.toList)) = true := by simpa using c30))
                            clear c30
                            replace H := Option.bind_eq_some_iff.mp H
                            obtain ⟨t167, A310, H⟩ := H
                            replace H : ((laws_low.f a1).bind fun t168 => (some ((t159.toList == t160.toList) == (t167.toList == t168.toList)))) = some r := H
                            have A31 := Aside0.mk A310
                            clear A310
                            replace H := Option.bind_eq_some_iff.mp H
                            obtain ⟨t168, A320, H⟩ := H
                            replace H : (some ((t159.toList == t160.toList) == (t167.toList == t168.toList))) = some r := H
                            have A32 := Aside0.mk A320
                            clear A320
                            try (obtain rfl : t167 = t165 := Option.some.inj (A31.out.symm.trans A28.out))
                            try (obtain rfl : t168 = t166 := Option.some.inj (A32.out.symm.trans A29.out))
                            obtain rfl := Option.some.inj H
                            go_wp2_with (first | ((with_reducible refine gate_callee (f := 33) rfl ?_); refine goesL_ (some 30) rfl rfl Try.func33 (by kernel_rfl) rfl #[.string a0] rfl (by (try simp only [List.map_toArray, List.map_cons, List.map_nil]); first | done | rfl | (simp only [List.length_drop, List.length_take]; rfl)) ?_; (with_reducible refine (impl_NormalKey.calls a0 t159 _ A19.out).mono ?_); rintro e w33 ⟨rfl, hb⟩; refine ⟨_, rfl, ?_⟩; have n0_ := Aside0.mk (below_step (by repeat (first | (with_reducible first | exact HB.out | apply below_alloc | apply pw_below_drewN | apply below_drew1) | exact HB.out)) hb); clear HB; have HB := n0_; clear n0_; (try clear hb); (try clear hb2); (try clear hk); (try clear hi)) | ((with_reducible refine gate_callee (f := 33) rfl ?_); refine goesL_ (some 32) rfl rfl Try.func33 (by kernel_rfl) rfl #[.string a1] rfl (by (try simp only [List.map_toArray, List.map_cons, List.map_nil]); first | done | rfl | (simp only [List.length_drop, List.length_take]; rfl)) ?_; (with_reducible refine (impl_NormalKey.calls a1 t160 _ A20.out).mono ?_); rintro e w34 ⟨rfl, hb⟩; refine ⟨_, rfl, ?_⟩; have n0_ := Aside0.mk (below_step (by repeat (first | (with_reducible first | exact HB.out | apply below_alloc | apply pw_below_drewN | apply below_drew1) | exact HB.out)) hb); clear HB; have HB := n0_; clear n0_; (try clear hb); (try clear hb2); (try clear hk); (try clear hi)) | ((with_reducible refine gate_callee (f := 36) rfl ?_); refine goesL_ (some 35) rfl rfl Try.func36 (by kernel_rfl) rfl #[.string a0] rfl (by (try simp only [List.map_toArray, List.map_cons, List.map_nil]); first | done | rfl | (simp only [List.length_drop, List.length_take]; rfl)) ?_; (with_reducible refine (laws_normal.calls a0 t161 _ A21.out).mono ?_); rintro e w35 ⟨rfl, hb⟩; refine ⟨_, rfl, ?_⟩; have n0_ := Aside0.mk (below_step (by repeat (first | (with_reducible first | exact HB.out | apply below_alloc | apply pw_below_drewN | apply below_drew1) | exact HB.out)) hb); clear HB; have HB := n0_; clear n0_; (try clear hb); (try clear hb2); (try clear hk); (try clear hi)) | (go_at_call 33; (with_reducible refine (impl_NormalKey.calls t159 t162 _ A23.out).mono ?_); rintro e w36 ⟨rfl, hb⟩; have n0_ := Aside0.mk (below_step (by repeat (first | (with_reducible first | exact HB.out | apply below_alloc | apply pw_below_drewN | apply below_drew1) | exact HB.out)) hb); clear HB; have HB := n0_; clear n0_; (try clear hb); (try clear hb2); (try clear hk); (try clear hi)) | (go_at_call 34; (with_reducible refine (impl_SameKey.calls kj13 t159 a0 true _ A25.out).mono ?_); rintro e w37 ⟨rfl, hb⟩; have n0_ := Aside0.mk (below_step (by repeat (first | (with_reducible first | exact HB.out | apply below_alloc | apply pw_below_drewN | apply below_drew1) | exact HB.out)) hb); clear HB; have HB := n0_; clear n0_; (try clear hb); (try clear hb2); (try clear hk); (try clear hi)) | (go_at_call 34; (with_reducible refine (impl_SameKey.calls kj13 a0 a1 t164 _ A27.out).mono ?_); rintro e w38 ⟨rfl, hb⟩; have n0_ := Aside0.mk (below_step (by repeat (first | (with_reducible first | exact HB.out | apply below_alloc | apply pw_below_drewN | apply below_drew1) | exact HB.out)) hb); clear HB; have HB := n0_; clear n0_; (try clear hb); (try clear hb2); (try clear hk); (try clear hi)) | (go_at_call 37; (with_reducible refine (laws_low.calls a0 t165 _ A28.out).mono ?_); rintro e w39 ⟨rfl, hb⟩; have n0_ := Aside0.mk (below_step (by repeat (first | (with_reducible first | exact HB.out | apply below_alloc | apply pw_below_drewN | apply below_drew1) | exact HB.out)) hb); clear HB; have HB := n0_; clear n0_; (try clear hb); (try clear hb2); (try clear hk); (try clear hi)) | (go_at_call 37; (with_reducible refine (laws_low.calls a1 t166 _ A29.out).mono ?_); rintro e w40 ⟨rfl, hb⟩; have n0_ := Aside0.mk (below_step (by repeat (first | (with_reducible first | exact HB.out | apply below_alloc | apply pw_below_drewN | apply below_drew1) | exact HB.out)) hb); clear HB; have HB := n0_; clear n0_; (try clear hb); (try clear hb2); (try clear hk); (try clear hi)) | (go_at_call 37; (with_reducible refine (laws_low.calls a0 t167 _ A31.out).mono ?_); rintro e w41 ⟨rfl, hb⟩; have n0_ := Aside0.mk (below_step (by repeat (first | (with_reducible first | exact HB.out | apply below_alloc | apply pw_below_drewN | apply below_drew1) | exact HB.out)) hb); clear HB; have HB := n0_; clear n0_; (try clear hb); (try clear hb2); (try clear hk); (try clear hi)) | (go_at_call 37; (with_reducible refine (laws_low.calls a1 t168 _ A32.out).mono ?_); rintro e w42 ⟨rfl, hb⟩; have n0_ := Aside0.mk (below_step (by repeat (first | (with_reducible first | exact HB.out | apply below_alloc | apply pw_below_drewN | apply below_drew1) | exact HB.out)) hb); clear HB; have HB := n0_; clear n0_; (try clear hb); (try clear hb2); (try clear hk); (try clear hi)))
                            go_ret
                            exact ⟨by first | rfl | (simp [errW_none, errW_some] <;> rfl) | (simp [*, errW_none, errW_some] <;> rfl), by repeat (first | (with_reducible first | exact HB.out | apply below_alloc | apply pw_below_drewN | apply below_drew1) | exact HB.out)⟩
                          · rw [if_neg c30] at H
                            have c30b0 : (t164 == (t165.toList == t166.toList)) = false := by simpa using c30
                            (try (have c30b1 : decide (t164 = (t165.toList == t166.toList)) = false := by simpa using c30))
                            (try (have c30b2 : (t164 == (t165.toList == t166.toList)) = false := by simpa using c30))
                            (try (have c30b3 : ¬ (t164 = (t165.toList == t166.toList)) := by simpa using c30))
                            clear c30
                            obtain rfl := Option.some.inj H
                            go_wp2_with (first | ((with_reducible refine gate_callee (f := 33) rfl ?_); refine goesL_ (some 30) rfl rfl Try.func33 (by kernel_rfl) rfl #[.string a0] rfl (by (try simp only [List.map_toArray, List.map_cons, List.map_nil]); first | done | rfl | (simp only [List.length_drop, List.length_take]; rfl)) ?_; (with_reducible refine (impl_NormalKey.calls a0 t159 _ A19.out).mono ?_); rintro e w43 ⟨rfl, hb⟩; refine ⟨_, rfl, ?_⟩; have n0_ := Aside0.mk (below_step (by repeat (first | (with_reducible first | exact HB.out | apply below_alloc | apply pw_below_drewN | apply below_drew1) | exact HB.out)) hb); clear HB; have HB := n0_; clear n0_; (try clear hb); (try clear hb2); (try clear hk); (try clear hi)) | ((with_reducible refine gate_callee (f := 33) rfl ?_); refine goesL_ (some 32) rfl rfl Try.func33 (by kernel_rfl) rfl #[.string a1] rfl (by (try simp only [List.map_toArray, List.map_cons, List.map_nil]); first | done | rfl | (simp only [List.length_drop, List.length_take]; rfl)) ?_; (with_reducible refine (impl_NormalKey.calls a1 t160 _ A20.out).mono ?_); rintro e w44 ⟨rfl, hb⟩; refine ⟨_, rfl, ?_⟩; have n0_ := Aside0.mk (below_step (by repeat (first | (with_reducible first | exact HB.out | apply below_alloc | apply pw_below_drewN | apply below_drew1) | exact HB.out)) hb); clear HB; have HB := n0_; clear n0_; (try clear hb); (try clear hb2); (try clear hk); (try clear hi)) | ((with_reducible refine gate_callee (f := 36) rfl ?_); refine goesL_ (some 35) rfl rfl Try.func36 (by kernel_rfl) rfl #[.string a0] rfl (by (try simp only [List.map_toArray, List.map_cons, List.map_nil]); first | done | rfl | (simp only [List.length_drop, List.length_take]; rfl)) ?_; (with_reducible refine (laws_normal.calls a0 t161 _ A21.out).mono ?_); rintro e w45 ⟨rfl, hb⟩; refine ⟨_, rfl, ?_⟩; have n0_ := Aside0.mk (below_step (by repeat (first | (with_reducible first | exact HB.out | apply below_alloc | apply pw_below_drewN | apply below_drew1) | exact HB.out)) hb); clear HB; have HB := n0_; clear n0_; (try clear hb); (try clear hb2); (try clear hk); (try clear hi)) | (go_at_call 33; (with_reducible refine (impl_NormalKey.calls t159 t162 _ A23.out).mono ?_); rintro e w46 ⟨rfl, hb⟩; have n0_ := Aside0.mk (below_step (by repeat (first | (with_reducible first | exact HB.out | apply below_alloc | apply pw_below_drewN | apply below_drew1) | exact HB.out)) hb); clear HB; have HB := n0_; clear n0_; (try clear hb); (try clear hb2); (try clear hk); (try clear hi)) | (go_at_call 34; (with_reducible refine (impl_SameKey.calls kj13 t159 a0 true _ A25.out).mono ?_); rintro e w47 ⟨rfl, hb⟩; have n0_ := Aside0.mk (below_step (by repeat (first | (with_reducible first | exact HB.out | apply below_alloc | apply pw_below_drewN | apply below_drew1) | exact HB.out)) hb); clear HB; have HB := n0_; clear n0_; (try clear hb); (try clear hb2); (try clear hk); (try clear hi)) | (go_at_call 34; (with_reducible refine (impl_SameKey.calls kj13 a0 a1 t164 _ A27.out).mono ?_); rintro e w48 ⟨rfl, hb⟩; have n0_ := Aside0.mk (below_step (by repeat (first | (with_reducible first | exact HB.out | apply below_alloc | apply pw_below_drewN | apply below_drew1) | exact HB.out)) hb); clear HB; have HB := n0_; clear n0_; (try clear hb); (try clear hb2); (try clear hk); (try clear hi)) | (go_at_call 37; (with_reducible refine (laws_low.calls a0 t165 _ A28.out).mono ?_); rintro e w49 ⟨rfl, hb⟩; have n0_ := Aside0.mk (below_step (by repeat (first | (with_reducible first | exact HB.out | apply below_alloc | apply pw_below_drewN | apply below_drew1) | exact HB.out)) hb); clear HB; have HB := n0_; clear n0_; (try clear hb); (try clear hb2); (try clear hk); (try clear hi)) | (go_at_call 37; (with_reducible refine (laws_low.calls a1 t166 _ A29.out).mono ?_); rintro e w50 ⟨rfl, hb⟩; have n0_ := Aside0.mk (below_step (by repeat (first | (with_reducible first | exact HB.out | apply below_alloc | apply pw_below_drewN | apply below_drew1) | exact HB.out)) hb); clear HB; have HB := n0_; clear n0_; (try clear hb); (try clear hb2); (try clear hk); (try clear hi)))
                            go_ret
                            exact ⟨by first | rfl | (simp [errW_none, errW_some] <;> rfl) | (simp [*, errW_none, errW_some] <;> rfl), by repeat (first | (with_reducible first | exact HB.out | apply below_alloc | apply pw_below_drewN | apply below_drew1) | exact HB.out)⟩
                        · replace c26 := Bool.eq_false_iff.mpr c26
                          subst c26
                          have H1 : (some false) = some r := by rw [if_neg (show ¬ (false = true) by decide)] at H; exact H
                          clear H
                          have H := H1
                          clear H1
                          obtain rfl := Option.some.inj H
                          go_wp2_with (first | ((with_reducible refine gate_callee (f := 33) rfl ?_); refine goesL_ (some 30) rfl rfl Try.func33 (by kernel_rfl) rfl #[.string a0] rfl (by (try simp only [List.map_toArray, List.map_cons, List.map_nil]); first | done | rfl | (simp only [List.length_drop, List.length_take]; rfl)) ?_; (with_reducible refine (impl_NormalKey.calls a0 t159 _ A19.out).mono ?_); rintro e w51 ⟨rfl, hb⟩; refine ⟨_, rfl, ?_⟩; have n0_ := Aside0.mk (below_step (by repeat (first | (with_reducible first | exact HB.out | apply below_alloc | apply pw_below_drewN | apply below_drew1) | exact HB.out)) hb); clear HB; have HB := n0_; clear n0_; (try clear hb); (try clear hb2); (try clear hk); (try clear hi)) | ((with_reducible refine gate_callee (f := 33) rfl ?_); refine goesL_ (some 32) rfl rfl Try.func33 (by kernel_rfl) rfl #[.string a1] rfl (by (try simp only [List.map_toArray, List.map_cons, List.map_nil]); first | done | rfl | (simp only [List.length_drop, List.length_take]; rfl)) ?_; (with_reducible refine (impl_NormalKey.calls a1 t160 _ A20.out).mono ?_); rintro e w52 ⟨rfl, hb⟩; refine ⟨_, rfl, ?_⟩; have n0_ := Aside0.mk (below_step (by repeat (first | (with_reducible first | exact HB.out | apply below_alloc | apply pw_below_drewN | apply below_drew1) | exact HB.out)) hb); clear HB; have HB := n0_; clear n0_; (try clear hb); (try clear hb2); (try clear hk); (try clear hi)) | ((with_reducible refine gate_callee (f := 36) rfl ?_); refine goesL_ (some 35) rfl rfl Try.func36 (by kernel_rfl) rfl #[.string a0] rfl (by (try simp only [List.map_toArray, List.map_cons, List.map_nil]); first | done | rfl | (simp only [List.length_drop, List.length_take]; rfl)) ?_; (with_reducible refine (laws_normal.calls a0 t161 _ A21.out).mono ?_); rintro e w53 ⟨rfl, hb⟩; refine ⟨_, rfl, ?_⟩; have n0_ := Aside0.mk (below_step (by repeat (first | (with_reducible first | exact HB.out | apply below_alloc | apply pw_below_drewN | apply below_drew1) | exact HB.out)) hb); clear HB; have HB := n0_; clear n0_; (try clear hb); (try clear hb2); (try clear hk); (try clear hi)) | (go_at_call 33; (with_reducible refine (impl_NormalKey.calls t159 t162 _ A23.out).mono ?_); rintro e w54 ⟨rfl, hb⟩; have n0_ := Aside0.mk (below_step (by repeat (first | (with_reducible first | exact HB.out | apply below_alloc | apply pw_below_drewN | apply below_drew1) | exact HB.out)) hb); clear HB; have HB := n0_; clear n0_; (try clear hb); (try clear hb2); (try clear hk); (try clear hi)) | (go_at_call 34; (with_reducible refine (impl_SameKey.calls kj13 t159 a0 false _ A25.out).mono ?_); rintro e w55 ⟨rfl, hb⟩; have n0_ := Aside0.mk (below_step (by repeat (first | (with_reducible first | exact HB.out | apply below_alloc | apply pw_below_drewN | apply below_drew1) | exact HB.out)) hb); clear HB; have HB := n0_; clear n0_; (try clear hb); (try clear hb2); (try clear hk); (try clear hi)))
                          go_ret
                          exact ⟨by first | rfl | (simp [errW_none, errW_some] <;> rfl) | (simp [*, errW_none, errW_some] <;> rfl), by repeat (first | (with_reducible first | exact HB.out | apply below_alloc | apply pw_below_drewN | apply below_drew1) | exact HB.out)⟩
                      · rw [if_neg c24] at H
                        have c24b0 : (t162.toList == t159.toList) = false := beq_eq_false_iff_ne.mpr c24
                        have c24b1 : (t162.toList != t159.toList) = true := bne_iff_ne.mpr c24
                        obtain rfl := Option.some.inj H
                        go_wp2_with (first | ((with_reducible refine gate_callee (f := 33) rfl ?_); refine goesL_ (some 30) rfl rfl Try.func33 (by kernel_rfl) rfl #[.string a0] rfl (by (try simp only [List.map_toArray, List.map_cons, List.map_nil]); first | done | rfl | (simp only [List.length_drop, List.length_take]; rfl)) ?_; (with_reducible refine (impl_NormalKey.calls a0 t159 _ A19.out).mono ?_); rintro e w56 ⟨rfl, hb⟩; refine ⟨_, rfl, ?_⟩; have n0_ := Aside0.mk (below_step (by repeat (first | (with_reducible first | exact HB.out | apply below_alloc | apply pw_below_drewN | apply below_drew1) | exact HB.out)) hb); clear HB; have HB := n0_; clear n0_; (try clear hb); (try clear hb2); (try clear hk); (try clear hi)) | ((with_reducible refine gate_callee (f := 33) rfl ?_); refine goesL_ (some 32) rfl rfl Try.func33 (by kernel_rfl) rfl #[.string a1] rfl (by (try simp only [List.map_toArray, List.map_cons, List.map_nil]); first | done | rfl | (simp only [List.length_drop, List.length_take]; rfl)) ?_; (with_reducible refine (impl_NormalKey.calls a1 t160 _ A20.out).mono ?_); rintro e w57 ⟨rfl, hb⟩; refine ⟨_, rfl, ?_⟩; have n0_ := Aside0.mk (below_step (by repeat (first | (with_reducible first | exact HB.out | apply below_alloc | apply pw_below_drewN | apply below_drew1) | exact HB.out)) hb); clear HB; have HB := n0_; clear n0_; (try clear hb); (try clear hb2); (try clear hk); (try clear hi)) | ((with_reducible refine gate_callee (f := 36) rfl ?_); refine goesL_ (some 35) rfl rfl Try.func36 (by kernel_rfl) rfl #[.string a0] rfl (by (try simp only [List.map_toArray, List.map_cons, List.map_nil]); first | done | rfl | (simp only [List.length_drop, List.length_take]; rfl)) ?_; (with_reducible refine (laws_normal.calls a0 t161 _ A21.out).mono ?_); rintro e w58 ⟨rfl, hb⟩; refine ⟨_, rfl, ?_⟩; have n0_ := Aside0.mk (below_step (by repeat (first | (with_reducible first | exact HB.out | apply below_alloc | apply pw_below_drewN | apply below_drew1) | exact HB.out)) hb); clear HB; have HB := n0_; clear n0_; (try clear hb); (try clear hb2); (try clear hk); (try clear hi)) | (go_at_call 33; (with_reducible refine (impl_NormalKey.calls t159 t162 _ A23.out).mono ?_); rintro e w59 ⟨rfl, hb⟩; have n0_ := Aside0.mk (below_step (by repeat (first | (with_reducible first | exact HB.out | apply below_alloc | apply pw_below_drewN | apply below_drew1) | exact HB.out)) hb); clear HB; have HB := n0_; clear n0_; (try clear hb); (try clear hb2); (try clear hk); (try clear hi)))
                        go_ret
                        exact ⟨by first | rfl | (simp [errW_none, errW_some] <;> rfl) | (simp [*, errW_none, errW_some] <;> rfl), by repeat (first | (with_reducible first | exact HB.out | apply below_alloc | apply pw_below_drewN | apply below_drew1) | exact HB.out)⟩
                    · rw [if_neg c22] at H
                      have c22b0 : (t159.toList == t161.toList) = false := beq_eq_false_iff_ne.mpr c22
                      have c22b1 : (t159.toList != t161.toList) = true := bne_iff_ne.mpr c22
                      obtain rfl := Option.some.inj H
                      go_wp2_with (first | ((with_reducible refine gate_callee (f := 33) rfl ?_); refine goesL_ (some 30) rfl rfl Try.func33 (by kernel_rfl) rfl #[.string a0] rfl (by (try simp only [List.map_toArray, List.map_cons, List.map_nil]); first | done | rfl | (simp only [List.length_drop, List.length_take]; rfl)) ?_; (with_reducible refine (impl_NormalKey.calls a0 t159 _ A19.out).mono ?_); rintro e w60 ⟨rfl, hb⟩; refine ⟨_, rfl, ?_⟩; have n0_ := Aside0.mk (below_step (by repeat (first | (with_reducible first | exact HB.out | apply below_alloc | apply pw_below_drewN | apply below_drew1) | exact HB.out)) hb); clear HB; have HB := n0_; clear n0_; (try clear hb); (try clear hb2); (try clear hk); (try clear hi)) | ((with_reducible refine gate_callee (f := 33) rfl ?_); refine goesL_ (some 32) rfl rfl Try.func33 (by kernel_rfl) rfl #[.string a1] rfl (by (try simp only [List.map_toArray, List.map_cons, List.map_nil]); first | done | rfl | (simp only [List.length_drop, List.length_take]; rfl)) ?_; (with_reducible refine (impl_NormalKey.calls a1 t160 _ A20.out).mono ?_); rintro e w61 ⟨rfl, hb⟩; refine ⟨_, rfl, ?_⟩; have n0_ := Aside0.mk (below_step (by repeat (first | (with_reducible first | exact HB.out | apply below_alloc | apply pw_below_drewN | apply below_drew1) | exact HB.out)) hb); clear HB; have HB := n0_; clear n0_; (try clear hb); (try clear hb2); (try clear hk); (try clear hi)) | ((with_reducible refine gate_callee (f := 36) rfl ?_); refine goesL_ (some 35) rfl rfl Try.func36 (by kernel_rfl) rfl #[.string a0] rfl (by (try simp only [List.map_toArray, List.map_cons, List.map_nil]); first | done | rfl | (simp only [List.length_drop, List.length_take]; rfl)) ?_; (with_reducible refine (laws_normal.calls a0 t161 _ A21.out).mono ?_); rintro e w62 ⟨rfl, hb⟩; refine ⟨_, rfl, ?_⟩; have n0_ := Aside0.mk (below_step (by repeat (first | (with_reducible first | exact HB.out | apply below_alloc | apply pw_below_drewN | apply below_drew1) | exact HB.out)) hb); clear HB; have HB := n0_; clear n0_; (try clear hb); (try clear hb2); (try clear hk); (try clear hi)))
                      go_ret
                      exact ⟨by first | rfl | (simp [errW_none, errW_some] <;> rfl) | (simp [*, errW_none, errW_some] <;> rfl), by repeat (first | (with_reducible first | exact HB.out | apply below_alloc | apply pw_below_drewN | apply below_drew1) | exact HB.out)⟩

/-- THE ONE PURE STATEMENT of laws_FnKeysNormal: yours. -/
def laws_FnKeysNormal.Pure : Prop := ∀ (a0 : ByteArray) (a1 : ByteArray), a0.size ≤ 140737488351232 → a1.size ≤ 140737488351232 → ∃ k, laws_FnKeysNormal.f k a0 a1 = some true
theorem laws_FnKeysNormal.walk (P : laws_FnKeysNormal.Pure) (a0 : ByteArray) (a1 : ByteArray) (w : World) (w0 : a0.size ≤ 140737488351232) (w1 : a1.size ≤ 140737488351232) :
    Calls Try.prog 11 #[.string a0, .string a1] w fun e w' => e = .returned (.bool true) ∧ Below w.heap.size w w' := by
  obtain ⟨k, h⟩ := P a0 a1 w0 w1
  refine (laws_FnKeysNormal.calls k a0 a1 true w h).mono ?_
  rintro e w' ⟨rfl, hd⟩
  exact ⟨rfl, hd⟩

end Go.Proofs.Ytdfeojkombmiaaa.QA
