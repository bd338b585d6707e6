/- Printed by wip/pr.py (a program of this repo over the print program of the kit). Not trusted: Lean checks it. -/
import Derived.Test.YtkbmababljcabaaQA0
import Derived.Test.YtkbmababljcabaaQA3
import Derived.Test.YtkbmababljcabaaGIndexByte
import Derived.Test.YtkbmababljcabaaGMatchM
namespace Go.Proofs.Ytkbmababljcabaa.QA
open Go.Proofs.Ytkbmababljcabaa.Given
open Go.Proofs.Ytkbmababljcabaa.PrX
open Go.RowKit Go.Proofs.YtkbmababljcabaaW.PrintWords Go.Proofs.YtkbmababljcabaaW.PrintLast Go.Proofs.YtkbmababljcabaaW.PrintMore
attribute [local go_sem] max2_int min2_int max_two min_two max_three min_three max_four min_four   -- for this text's walks alone
set_option linter.unusedVariables false
set_option linter.unusedSimpArgs false

/-! ### fiberhelpers_acceptsOfferType: function 75 -/
def fiberhelpers_acceptsOfferType.j0 : Nat → ByteArray → ByteArray → ByteArray → ByteArray → Option (Bool)
  | 0, _, _, _, _ => none
  | k + 1, x0, x2, x7, x8 => if x0.toList = ([42, 47, 42] : List UInt8) then ((fiberhelpers_paramsMatch.f x2 x8).bind fun t103 => (some t103)) else ((strings_IndexByte.f x7 47).bind fun t104 => (if t104 = (-1) then (some false) else (if x0.toList = x7.toList then ((fiberhelpers_paramsMatch.f x2 x8).bind fun t105 => (some t105)) else ((strings_IndexByte.f x7 47).bind fun t106 => (if 0 ≤ t106 then (if t106 ≤ (x7.size : Int) then ((strings_HasPrefix.f x0 (x7.extract 0 (t106 : Int).toNat)).bind fun t107 => (if t107 = true then (if t106 ≤ (x0.size : Int) then (if (x0.extract (t106 : Int).toNat x0.size).toList = ([47, 42] : List UInt8) then ((fiberhelpers_paramsMatch.f x2 x8).bind fun t108 => (some t108)) else (if (x7.extract (t106 : Int).toNat x7.size).toList = ([47, 42] : List UInt8) then ((fiberhelpers_paramsMatch.f x2 x8).bind fun t109 => (some t109)) else (some false))) else (none)) else (some false))) else (none)) else (none))))))
def fiberhelpers_acceptsOfferType.f (k : Nat) (a0 : ByteArray) (a1 : ByteArray) (a2 : ByteArray) : Option (Bool) := (strings_IndexByte.f a1 59).bind fun t102 => (if t102 = (-1) then (fiberhelpers_acceptsOfferType.j0 k a0 a2 a1 (⟨#[]⟩ : ByteArray)) else (if 0 ≤ t102 then (if t102 ≤ (a1.size : Int) then (fiberhelpers_acceptsOfferType.j0 k a0 a2 (a1.extract 0 (t102 : Int).toNat) (a1.extract (t102 : Int).toNat a1.size)) else (none)) else (none)))
theorem fiberhelpers_acceptsOfferType.mono_l : ∀ k, (∀ y0 y1 y2 y3, LeO (fiberhelpers_acceptsOfferType.j0 k y0 y1 y2 y3) (fiberhelpers_acceptsOfferType.j0 (k + 1) y0 y1 y2 y3))
  | 0 => fun _ _ _ _ r h => by simp [fiberhelpers_acceptsOfferType.j0] at h
  | k + 1 => by
    have ih0 := fiberhelpers_acceptsOfferType.mono_l k
    · intro y0 y1 y2 y3
      unfold fiberhelpers_acceptsOfferType.j0
      repeat' first
      | (with_reducible exact ih0 _ _ _ _)
      | (with_reducible exact LeO.refl _)
      | (with_reducible exact LeO.none _)
      | (with_reducible refine LeO.ite ?_ ?_)
      | (with_reducible refine LeO.bind ?_ (fun _ => ?_))
      | exact ih0 _ _ _ _
      | exact LeO.none _
      | refine LeO.ite ?_ ?_
      | refine LeO.bind ?_ (fun _ => ?_)
theorem fiberhelpers_acceptsOfferType.mono : ∀ a0 a1 a2 k, LeO (fiberhelpers_acceptsOfferType.f k a0 a1 a2) (fiberhelpers_acceptsOfferType.f (k + 1) a0 a1 a2) := by
  intro a0 a1 a2 k
  have ih0 := fiberhelpers_acceptsOfferType.mono_l k
  unfold fiberhelpers_acceptsOfferType.f
  repeat' first
      | (with_reducible exact ih0 _ _ _ _)
      | (with_reducible exact LeO.refl _)
      | (with_reducible exact LeO.none _)
      | (with_reducible refine LeO.ite ?_ ?_)
      | (with_reducible refine LeO.bind ?_ (fun _ => ?_))
      | exact ih0 _ _ _ _
      | exact LeO.none _
      | refine LeO.ite ?_ ?_
      | refine LeO.bind ?_ (fun _ => ?_)
set_option maxHeartbeats 8000000 in
set_option maxRecDepth 100000 in
theorem fiberhelpers_acceptsOfferType.calls (k : Nat) (a0 : ByteArray) (a1 : ByteArray) (a2 : ByteArray) (r : Bool) (w : World) (h : fiberhelpers_acceptsOfferType.f k a0 a1 a2 = some r) :
    Calls Try.prog 75 #[.string a0, .string a1, .string a2] w fun e w' => e = .returned (.bool r) ∧ Below w.heap.size w w' := by
  have HB := Aside0.mk (Below.refl w.heap.size w)
  have H : ((strings_IndexByte.f a1 59).bind fun t102 => (if t102 = (-1) then (fiberhelpers_acceptsOfferType.j0 k a0 a2 a1 (⟨#[]⟩ : ByteArray)) else (if 0 ≤ t102 then (if t102 ≤ (a1.size : Int) then (fiberhelpers_acceptsOfferType.j0 k a0 a2 (a1.extract 0 (t102 : Int).toNat) (a1.extract (t102 : Int).toNat a1.size)) else (none)) else (none)))) = some r := h
  clear h
  replace H := Option.bind_eq_some_iff.mp H
  obtain ⟨t102, A40, H⟩ := H
  replace H : (if t102 = (-1) then (fiberhelpers_acceptsOfferType.j0 k a0 a2 a1 (⟨#[]⟩ : ByteArray)) else (if 0 ≤ t102 then (if t102 ≤ (a1.size : Int) then (fiberhelpers_acceptsOfferType.j0 k a0 a2 (a1.extract 0 (t102 : Int).toNat) (a1.extract (t102 : Int).toNat a1.size)) else (none)) else (none))) = some r := H
  have A4 := Aside0.mk A40
  clear A40
  have HC5 := Aside0.mk H
  clear H
  go_enter Try.func75, Try.ntmps75
  go_upto_if 15 with (first | ((with_reducible refine gate_callee (f := 78) rfl ?_); refine goesL_ (some 13) rfl rfl Try.func78 (by kernel_rfl) rfl #[.string a1, .int .u8 59] rfl (by (try simp only [List.map_toArray, List.map_cons, List.map_nil]); first | done | rfl | (simp only [List.length_drop, List.length_take]; rfl)) ?_; (with_reducible refine (strings_IndexByte.calls a1 59 t102 _ A4.out).mono ?_); rintro e w' ⟨rfl, ⟨nd, rfl⟩⟩; refine ⟨_, rfl, ?_⟩))
  (try simp only [Act.put, List.setIfInBounds_toArray, List.set_cons_zero, List.set_cons_succ])
  go_cut [7, 8] (fun v7 v8 wc => ∃ (kq : Nat) (x7_4 : ByteArray) (x8_4 : ByteArray), v7 = .string x7_4 ∧ v8 = .string x8_4 ∧ Aside0 (fiberhelpers_acceptsOfferType.j0 kq a0 a2 x7_4 x8_4 = some r) ∧ Aside0 (kq ≤ k) ∧ Aside0 (Below w.heap.size w wc))
  case first =>
    have H := HC5.out
    clear HC5
    by_cases c6 : t102 = (-1)
    · rw [if_pos c6] at H
      have c6b0 : (t102 == (-1)) = true := beq_iff_eq.mpr c6
      have c6b1 : (t102 != (-1)) = false := bne_eq_false_iff_eq.mpr c6
      clear c6
      (first | rw [c6b0] | (simp only [i64_w, i32_w]; rw [c6b0]) | skip)
      have H' := Aside0.mk H
      clear H
      go_wp2
      go_meet
      case rel => exact ⟨_, (a1), ((⟨#[]⟩ : ByteArray)), (by first | rfl | (simp; done) | (rw [prx_ne]; first | done | rfl) | (simp [*]; done)), (by first | rfl | (simp; done) | (rw [prx_ne]; first | done | rfl) | (simp [*]; done)), H', ⟨by first | omega | exact Nat.le_refl _⟩, ⟨by repeat (first | (with_reducible first | exact HB.out | apply below_alloc | apply pw_below_drewN | apply below_drew1) | exact HB.out)⟩⟩
    · rw [if_neg c6] at H
      have c6b0 : (t102 == (-1)) = false := beq_eq_false_iff_ne.mpr c6
      have c6b1 : (t102 != (-1)) = true := bne_iff_ne.mpr c6
      (first | rw [c6b0] | (simp only [i64_w, i32_w]; rw [c6b0]) | skip)
      by_cases c7 : 0 ≤ t102
      · rw [if_pos c7] at H
        have c7b0 := eq_true c7
        have c7b1 : decide (0 ≤ t102) = true := decide_eq_true c7
        clear c7
        by_cases c8 : t102 ≤ (a1.size : Int)
        · rw [if_pos c8] at H
          have c8b0 := eq_true c8
          have c8b1 : decide (t102 ≤ (a1.size : Int)) = true := decide_eq_true c8
          clear c8
          have c9b0 := eq_true (of_decide_eq_true (by first | (with_reducible assumption) | assumption) : 0 ≤ t102)
          have c10b0 := eq_true (of_decide_eq_true (by first | (with_reducible assumption) | assumption) : t102 ≤ (a1.size : Int))
          have H' := Aside0.mk H
          clear H
          go_wp2
          go_meet
          case rel => exact ⟨_, (a1.extract 0 (t102 : Int).toNat), (a1.extract (t102 : Int).toNat a1.size), (by first | rfl | (simp; done) | (rw [prx_ne]; first | done | rfl) | (simp [*]; done)), (by first | rfl | (simp; done) | (rw [prx_ne]; first | done | rfl) | (simp [*]; done)), H', ⟨by first | omega | exact Nat.le_refl _⟩, ⟨by repeat (first | (with_reducible first | exact HB.out | apply below_alloc | apply pw_below_drewN | apply below_drew1) | exact HB.out)⟩⟩
        · rw [if_neg c8] at H
          exact absurd H (by simp)
      · rw [if_neg c7] at H
        exact absurd H (by simp)
  case rest =>
    clear HC5
    try clear c1
    try clear p2
    try clear c6
    try clear c6b0
    try clear c6b1
    try clear c7
    try clear c7b0
    try clear c7b1
    try clear c8
    try clear c8b0
    try clear c8b1
    try clear c9
    try clear c9b0
    try clear c10
    try clear c10b0
    obtain ⟨kq, x7_4, x8_4, rfl, rfl, HA, HJ4, HB⟩ := hcut
    cases kq with
    | zero => exact absurd HA.out (by simp [fiberhelpers_acceptsOfferType.j0])
    | succ kj4 =>
      have H := HA.out
      clear HA
      simp only [fiberhelpers_acceptsOfferType.j0] at H
      by_cases c11 : a0.toList = ([42, 47, 42] : List UInt8)
      · rw [if_pos c11] at H
        have c11b0 : (a0.toList == ([42, 47, 42] : List UInt8)) = true := beq_iff_eq.mpr c11
        have c11b1 : (a0.toList != ([42, 47, 42] : List UInt8)) = false := bne_eq_false_iff_eq.mpr c11
        clear c11
        replace H := Option.bind_eq_some_iff.mp H
        obtain ⟨t103, A120, H⟩ := H
        replace H : (some t103) = some r := H
        have A12 := Aside0.mk A120
        clear A120
        obtain rfl := Option.some.inj H
        go_wp2_with (first | ((with_reducible refine gate_callee (f := 74) rfl ?_); refine goesL_ (some 27) rfl rfl Try.func74 (by kernel_rfl) rfl #[.string a2, .string x8_4] rfl (by (try simp only [List.map_toArray, List.map_cons, List.map_nil]); first | done | rfl | (simp only [List.length_drop, List.length_take]; rfl)) ?_; (with_reducible refine (fiberhelpers_paramsMatch.calls a2 x8_4 t103 _ A12.out).mono ?_); rintro e w13 ⟨rfl, hb⟩; refine ⟨_, rfl, ?_⟩; have n0_ := Aside0.mk (below_step (by repeat (first | (with_reducible first | exact HB.out | apply below_alloc | apply pw_below_drewN | apply below_drew1) | exact HB.out)) hb); clear HB; have HB := n0_; clear n0_; (try clear hb); (try clear hb2); (try clear hk); (try clear hi)))
        go_ret
        exact ⟨by first | rfl | (simp [errW_none, errW_some] <;> rfl) | (simp [*, errW_none, errW_some] <;> rfl), by repeat (first | (with_reducible first | exact HB.out | apply below_alloc | apply pw_below_drewN | apply below_drew1) | exact HB.out)⟩
      · rw [if_neg c11] at H
        have c11b0 : (a0.toList == ([42, 47, 42] : List UInt8)) = false := beq_eq_false_iff_ne.mpr c11
        have c11b1 : (a0.toList != ([42, 47, 42] : List UInt8)) = true := bne_iff_ne.mpr c11
        replace H := Option.bind_eq_some_iff.mp H
        obtain ⟨t104, A140, H⟩ := H
        replace H : (if t104 = (-1) then (some false) else (if a0.toList = x7_4.toList then ((fiberhelpers_paramsMatch.f a2 x8_4).bind fun t105 => (some t105)) else ((strings_IndexByte.f x7_4 47).bind fun t106 => (if 0 ≤ t106 then (if t106 ≤ (x7_4.size : Int) then ((strings_HasPrefix.f a0 (x7_4.extract 0 (t106 : Int).toNat)).bind fun t107 => (if t107 = true then (if t106 ≤ (a0.size : Int) then (if (a0.extract (t106 : Int).toNat a0.size).toList = ([47, 42] : List UInt8) then ((fiberhelpers_paramsMatch.f a2 x8_4).bind fun t108 => (some t108)) else (if (x7_4.extract (t106 : Int).toNat x7_4.size).toList = ([47, 42] : List UInt8) then ((fiberhelpers_paramsMatch.f a2 x8_4).bind fun t109 => (some t109)) else (some false))) else (none)) else (some false))) else (none)) else (none))))) = some r := H
        have A14 := Aside0.mk A140
        clear A140
        by_cases c15 : t104 = (-1)
        · rw [if_pos c15] at H
          have c15b0 : (t104 == (-1)) = true := beq_iff_eq.mpr c15
          have c15b1 : (t104 != (-1)) = false := bne_eq_false_iff_eq.mpr c15
          clear c15
          obtain rfl := Option.some.inj H
          go_wp2_with (first | ((with_reducible refine gate_callee (f := 78) rfl ?_); refine goesL_ (some 29) rfl rfl Try.func78 (by kernel_rfl) rfl #[.string x7_4, .int .u8 47] rfl (by (try simp only [List.map_toArray, List.map_cons, List.map_nil]); first | done | rfl | (simp only [List.length_drop, List.length_take]; rfl)) ?_; (with_reducible refine (strings_IndexByte.calls x7_4 47 t104 _ A14.out).mono ?_); rintro e w' ⟨rfl, ⟨nd, rfl⟩⟩; refine ⟨_, rfl, ?_⟩))
          go_ret
          exact ⟨by first | rfl | (simp [errW_none, errW_some] <;> rfl) | (simp [*, errW_none, errW_some] <;> rfl), by repeat (first | (with_reducible first | exact HB.out | apply below_alloc | apply pw_below_drewN | apply below_drew1) | exact HB.out)⟩
        · rw [if_neg c15] at H
          have c15b0 : (t104 == (-1)) = false := beq_eq_false_iff_ne.mpr c15
          have c15b1 : (t104 != (-1)) = true := bne_iff_ne.mpr c15
          by_cases c16 : a0.toList = x7_4.toList
          · rw [if_pos c16] at H
            have c16b0 : (a0.toList == x7_4.toList) = true := beq_iff_eq.mpr c16
            have c16b1 : (a0.toList != x7_4.toList) = false := bne_eq_false_iff_eq.mpr c16
            clear c16
            replace H := Option.bind_eq_some_iff.mp H
            obtain ⟨t105, A170, H⟩ := H
            replace H : (some t105) = some r := H
            have A17 := Aside0.mk A170
            clear A170
            obtain rfl := Option.some.inj H
            go_wp2_with (first | ((with_reducible refine gate_callee (f := 78) rfl ?_); refine goesL_ (some 29) rfl rfl Try.func78 (by kernel_rfl) rfl #[.string x7_4, .int .u8 47] rfl (by (try simp only [List.map_toArray, List.map_cons, List.map_nil]); first | done | rfl | (simp only [List.length_drop, List.length_take]; rfl)) ?_; (with_reducible refine (strings_IndexByte.calls x7_4 47 t104 _ A14.out).mono ?_); rintro e w' ⟨rfl, ⟨nd, rfl⟩⟩; refine ⟨_, rfl, ?_⟩) | ((with_reducible refine gate_callee (f := 74) rfl ?_); refine goesL_ (some 37) rfl rfl Try.func74 (by kernel_rfl) rfl #[.string a2, .string x8_4] rfl (by (try simp only [List.map_toArray, List.map_cons, List.map_nil]); first | done | rfl | (simp only [List.length_drop, List.length_take]; rfl)) ?_; (with_reducible refine (fiberhelpers_paramsMatch.calls a2 x8_4 t105 _ A17.out).mono ?_); rintro e w18 ⟨rfl, hb⟩; refine ⟨_, rfl, ?_⟩; have n0_ := Aside0.mk (below_step (by repeat (first | (with_reducible first | exact HB.out | apply below_alloc | apply pw_below_drewN | apply below_drew1) | exact HB.out)) hb); clear HB; have HB := n0_; clear n0_; (try clear hb); (try clear hb2); (try clear hk); (try clear hi)))
            go_ret
            exact ⟨by first | rfl | (simp [errW_none, errW_some] <;> rfl) | (simp [*, errW_none, errW_some] <;> rfl), by repeat (first | (with_reducible first | exact HB.out | apply below_alloc | apply pw_below_drewN | apply below_drew1) | exact HB.out)⟩
          · rw [if_neg c16] at H
            have c16b0 : (a0.toList == x7_4.toList) = false := beq_eq_false_iff_ne.mpr c16
            have c16b1 : (a0.toList != x7_4.toList) = true := bne_iff_ne.mpr c16
            replace H := Option.bind_eq_some_iff.mp H
            obtain ⟨t106, A190, H⟩ := H
            replace H : (if 0 ≤ t106 then (if t106 ≤ (x7_4.size : Int) then ((strings_HasPrefix.f a0 (x7_4.extract 0 (t106 : Int).toNat)).bind fun t107 => (if t107 = true then (if t106 ≤ (a0.size : Int) then (if (a0.extract (t106 : Int).toNat a0.size).toList = ([47, 42] : List UInt8) then ((fiberhelpers_paramsMatch.f a2 x8_4).bind fun t108 => (some t108)) else (if (x7_4.extract (t106 : Int).toNat x7_4.size).toList = ([47, 42] : List UInt8) then ((fiberhelpers_paramsMatch.f a2 x8_4).bind fun t109 => (some t109)) else (some false))) else (none)) else (some false))) else (none)) else (none)) = some r := H
            have A19 := Aside0.mk A190
            clear A190
            by_cases c20 : 0 ≤ t106
            · rw [if_pos c20] at H
              have c20b0 := eq_true c20
              have c20b1 : decide (0 ≤ t106) = true := decide_eq_true c20
              clear c20
              by_cases c21 : t106 ≤ (x7_4.size : Int)
              · rw [if_pos c21] at H
                have c21b0 := eq_true c21
                have c21b1 : decide (t106 ≤ (x7_4.size : Int)) = true := decide_eq_true c21
                clear c21
                replace H := Option.bind_eq_some_iff.mp H
                obtain ⟨t107, A220, H⟩ := H
                replace H : (if t107 = true then (if t106 ≤ (a0.size : Int) then (if (a0.extract (t106 : Int).toNat a0.size).toList = ([47, 42] : List UInt8) then ((fiberhelpers_paramsMatch.f a2 x8_4).bind fun t108 => (some t108)) else (if (x7_4.extract (t106 : Int).toNat x7_4.size).toList = ([47, 42] : List UInt8) then ((fiberhelpers_paramsMatch.f a2 x8_4).bind fun t109 => (some t109)) else (some false))) else (none)) else (some false)) = some r := H
                have A22 := Aside0.mk A220
                clear A220
                by_cases c23 : t107 = true
                · subst c23
                  have H1 : (if t106 ≤ (a0.size : Int) then (if (a0.extract (t106 : Int).toNat a0.size).toList = ([47, 42] : List UInt8) then ((fiberhelpers_paramsMatch.f a2 x8_4).bind fun t108 => (some t108)) else (if (x7_4.extract (t106 : Int).toNat x7_4.size).toList = ([47, 42] : List UInt8) then ((fiberhelpers_paramsMatch.f a2 x8_4).bind fun t109 => (some t109)) else (some false))) else (none)) = some r := by rw [if_pos rfl] at H; exact H
                  clear H
                  have H := H1
                  clear H1
                  have c24b0 := eq_true (of_decide_eq_true (by first | (with_reducible assumption) | assumption) : 0 ≤ t106)
                  by_cases c25 : t106 ≤ (a0.size : Int)
                  · rw [if_pos c25] at H
                    have c25b0 := eq_true c25
                    have c25b1 : decide (t106 ≤ (a0.size : Int)) = true := decide_eq_true c25
                    clear c25
                    by_cases c26 : (a0.extract (t106 : Int).toNat a0.size).toList = ([47, 42] : List UInt8)
                    · rw [if_pos c26] at H
                      have c26b0 : ((a0.extract (t106 : Int).toNat a0.size).toList == ([47, 42] : List UInt8)) = true := beq_iff_eq.mpr c26
                      have c26b1 : ((a0.extract (t106 : Int).toNat a0.size).toList != ([47, 42] : List UInt8)) = false := bne_eq_false_iff_eq.mpr c26
                      clear c26
                      replace H := Option.bind_eq_some_iff.mp H
                      obtain ⟨t108, A270, H⟩ := H
                      replace H : (some t108) = some r := H
                      have A27 := Aside0.mk A270
                      clear A270
                      try (obtain rfl : t106 = t104 := Option.some.inj (A19.out.symm.trans A14.out))
                      obtain rfl := Option.some.inj H
                      go_wp2_with (first | ((with_reducible refine gate_callee (f := 78) rfl ?_); refine goesL_ (some 29) rfl rfl Try.func78 (by kernel_rfl) rfl #[.string x7_4, .int .u8 47] rfl (by (try simp only [List.map_toArray, List.map_cons, List.map_nil]); first | done | rfl | (simp only [List.length_drop, List.length_take]; rfl)) ?_; (with_reducible refine (strings_IndexByte.calls x7_4 47 t106 _ A14.out).mono ?_); rintro e w' ⟨rfl, ⟨nd, rfl⟩⟩; refine ⟨_, rfl, ?_⟩) | ((with_reducible refine gate_callee (f := 78) rfl ?_); refine goesL_ (some 39) rfl rfl Try.func78 (by kernel_rfl) rfl #[.string x7_4, .int .u8 47] rfl (by (try simp only [List.map_toArray, List.map_cons, List.map_nil]); first | done | rfl | (simp only [List.length_drop, List.length_take]; rfl)) ?_; (with_reducible refine (strings_IndexByte.calls x7_4 47 t106 _ A19.out).mono ?_); rintro e w' ⟨rfl, ⟨nd, rfl⟩⟩; refine ⟨_, rfl, ?_⟩) | ((with_reducible refine gate_callee (f := 88) rfl ?_); refine goesL_ (some 44) rfl rfl Try.func88 (by kernel_rfl) rfl #[.string a0, .string (x7_4.extract 0 (t106 : Int).toNat)] rfl (by (try simp only [List.map_toArray, List.map_cons, List.map_nil]); first | done | rfl | (simp only [List.length_drop, List.length_take]; rfl)) ?_; (with_reducible refine (strings_HasPrefix.calls a0 (x7_4.extract 0 (t106 : Int).toNat) true _ A22.out).mono ?_); rintro e w' ⟨rfl, ⟨nd, rfl⟩⟩; refine ⟨_, rfl, ?_⟩) | ((with_reducible refine gate_callee (f := 74) rfl ?_); refine goesL_ (some 59) rfl rfl Try.func74 (by kernel_rfl) rfl #[.string a2, .string x8_4] rfl (by (try simp only [List.map_toArray, List.map_cons, List.map_nil]); first | done | rfl | (simp only [List.length_drop, List.length_take]; rfl)) ?_; (with_reducible refine (fiberhelpers_paramsMatch.calls a2 x8_4 t108 _ A27.out).mono ?_); rintro e w28 ⟨rfl, hb⟩; refine ⟨_, rfl, ?_⟩; have n0_ := Aside0.mk (below_step (by repeat (first | (with_reducible first | exact HB.out | apply below_alloc | apply pw_below_drewN | apply below_drew1) | exact HB.out)) hb); clear HB; have HB := n0_; clear n0_; (try clear hb); (try clear hb2); (try clear hk); (try clear hi)))
                      go_ret
                      exact ⟨by first | rfl | (simp [errW_none, errW_some] <;> rfl) | (simp [*, errW_none, errW_some] <;> rfl), by repeat (first | (with_reducible first | exact HB.out | apply below_alloc | apply pw_below_drewN | apply below_drew1) | exact HB.out)⟩
                    · rw [if_neg c26] at H
                      have c26b0 : ((a0.extract (t106 : Int).toNat a0.size).toList == ([47, 42] : List UInt8)) = false := beq_eq_false_iff_ne.mpr c26
                      have c26b1 : ((a0.extract (t106 : Int).toNat a0.size).toList != ([47, 42] : List UInt8)) = true := bne_iff_ne.mpr c26
                      have c29b0 := eq_true (of_decide_eq_true (by first | (with_reducible assumption) | assumption) : 0 ≤ t106)
                      have c30b0 := eq_true (of_decide_eq_true (by first | (with_reducible assumption) | assumption) : t106 ≤ (x7_4.size : Int))
                      by_cases c31 : (x7_4.extract (t106 : Int).toNat x7_4.size).toList = ([47, 42] : List UInt8)
                      · rw [if_pos c31] at H
                        have c31b0 : ((x7_4.extract (t106 : Int).toNat x7_4.size).toList == ([47, 42] : List UInt8)) = true := beq_iff_eq.mpr c31
                        have c31b1 : ((x7_4.extract (t106 : Int).toNat x7_4.size).toList != ([47, 42] : List UInt8)) = false := bne_eq_false_iff_eq.mpr c31
                        clear c31
                        replace H := Option.bind_eq_some_iff.mp H
                        obtain ⟨t109, A320, H⟩ := H
                        replace H : (some t109) = some r := H
                        have A32 := Aside0.mk A320
                        clear A320
                        try (obtain rfl : t106 = t104 := Option.some.inj (A19.out.symm.trans A14.out))
                        obtain rfl := Option.some.inj H
                        go_wp2_with (first | ((with_reducible refine gate_callee (f := 78) rfl ?_); refine goesL_ (some 29) rfl rfl Try.func78 (by kernel_rfl) rfl #[.string x7_4, .int .u8 47] rfl (by (try simp only [List.map_toArray, List.map_cons, List.map_nil]); first | done | rfl | (simp only [List.length_drop, List.length_take]; rfl)) ?_; (with_reducible refine (strings_IndexByte.calls x7_4 47 t106 _ A14.out).mono ?_); rintro e w' ⟨rfl, ⟨nd, rfl⟩⟩; refine ⟨_, rfl, ?_⟩) | ((with_reducible refine gate_callee (f := 78) rfl ?_); refine goesL_ (some 39) rfl rfl Try.func78 (by kernel_rfl) rfl #[.string x7_4, .int .u8 47] rfl (by (try simp only [List.map_toArray, List.map_cons, List.map_nil]); first | done | rfl | (simp only [List.length_drop, List.length_take]; rfl)) ?_; (with_reducible refine (strings_IndexByte.calls x7_4 47 t106 _ A19.out).mono ?_); rintro e w' ⟨rfl, ⟨nd, rfl⟩⟩; refine ⟨_, rfl, ?_⟩) | ((with_reducible refine gate_callee (f := 88) rfl ?_); refine goesL_ (some 44) rfl rfl Try.func88 (by kernel_rfl) rfl #[.string a0, .string (x7_4.extract 0 (t106 : Int).toNat)] rfl (by (try simp only [List.map_toArray, List.map_cons, List.map_nil]); first | done | rfl | (simp only [List.length_drop, List.length_take]; rfl)) ?_; (with_reducible refine (strings_HasPrefix.calls a0 (x7_4.extract 0 (t106 : Int).toNat) true _ A22.out).mono ?_); rintro e w' ⟨rfl, ⟨nd, rfl⟩⟩; refine ⟨_, rfl, ?_⟩) | ((with_reducible refine gate_callee (f := 74) rfl ?_); refine goesL_ (some 59) rfl rfl Try.func74 (by kernel_rfl) rfl #[.string a2, .string x8_4] rfl (by (try simp only [List.map_toArray, List.map_cons, List.map_nil]); first | done | rfl | (simp only [List.length_drop, List.length_take]; rfl)) ?_; (with_reducible refine (fiberhelpers_paramsMatch.calls a2 x8_4 t109 _ A32.out).mono ?_); rintro e w33 ⟨rfl, hb⟩; refine ⟨_, rfl, ?_⟩; have n0_ := Aside0.mk (below_step (by repeat (first | (with_reducible first | exact HB.out | apply below_alloc | apply pw_below_drewN | apply below_drew1) | exact HB.out)) hb); clear HB; have HB := n0_; clear n0_; (try clear hb); (try clear hb2); (try clear hk); (try clear hi)))
                        go_ret
                        exact ⟨by first | rfl | (simp [errW_none, errW_some] <;> rfl) | (simp [*, errW_none, errW_some] <;> rfl), by repeat (first | (with_reducible first | exact HB.out | apply below_alloc | apply pw_below_drewN | apply below_drew1) | exact HB.out)⟩
                      · rw [if_neg c31] at H
                        have c31b0 : ((x7_4.extract (t106 : Int).toNat x7_4.size).toList == ([47, 42] : List UInt8)) = false := beq_eq_false_iff_ne.mpr c31
                        have c31b1 : ((x7_4.extract (t106 : Int).toNat x7_4.size).toList != ([47, 42] : List UInt8)) = true := bne_iff_ne.mpr c31
                        try (obtain rfl : t106 = t104 := Option.some.inj (A19.out.symm.trans A14.out))
                        obtain rfl := Option.some.inj H
                        go_wp2_with (first | ((with_reducible refine gate_callee (f := 78) rfl ?_); refine goesL_ (some 29) rfl rfl Try.func78 (by kernel_rfl) rfl #[.string x7_4, .int .u8 47] rfl (by (try simp only [List.map_toArray, List.map_cons, List.map_nil]); first | done | rfl | (simp only [List.length_drop, List.length_take]; rfl)) ?_; (with_reducible refine (strings_IndexByte.calls x7_4 47 t106 _ A14.out).mono ?_); rintro e w' ⟨rfl, ⟨nd, rfl⟩⟩; refine ⟨_, rfl, ?_⟩) | ((with_reducible refine gate_callee (f := 78) rfl ?_); refine goesL_ (some 39) rfl rfl Try.func78 (by kernel_rfl) rfl #[.string x7_4, .int .u8 47] rfl (by (try simp only [List.map_toArray, List.map_cons, List.map_nil]); first | done | rfl | (simp only [List.length_drop, List.length_take]; rfl)) ?_; (with_reducible refine (strings_IndexByte.calls x7_4 47 t106 _ A19.out).mono ?_); rintro e w' ⟨rfl, ⟨nd, rfl⟩⟩; refine ⟨_, rfl, ?_⟩) | ((with_reducible refine gate_callee (f := 88) rfl ?_); refine goesL_ (some 44) rfl rfl Try.func88 (by kernel_rfl) rfl #[.string a0, .string (x7_4.extract 0 (t106 : Int).toNat)] rfl (by (try simp only [List.map_toArray, List.map_cons, List.map_nil]); first | done | rfl | (simp only [List.length_drop, List.length_take]; rfl)) ?_; (with_reducible refine (strings_HasPrefix.calls a0 (x7_4.extract 0 (t106 : Int).toNat) true _ A22.out).mono ?_); rintro e w' ⟨rfl, ⟨nd, rfl⟩⟩; refine ⟨_, rfl, ?_⟩))
                        go_ret
                        exact ⟨by first | rfl | (simp [errW_none, errW_some] <;> rfl) | (simp [*, errW_none, errW_some] <;> rfl), by repeat (first | (with_reducible first | exact HB.out | apply below_alloc | apply pw_below_drewN | apply below_drew1) | exact HB.out)⟩
                  · rw [if_neg c25] at H
                    exact absurd H (by simp)
                · replace c23 := Bool.eq_false_iff.mpr c23
                  subst c23
                  have H1 : (some false) = some r := by rw [if_neg (show ¬ (false = true) by decide)] at H; exact H
                  clear H
                  have H := H1
                  clear H1
                  try (obtain rfl : t106 = t104 := Option.some.inj (A19.out.symm.trans A14.out))
                  obtain rfl := Option.some.inj H
                  go_wp2_with (first | ((with_reducible refine gate_callee (f := 78) rfl ?_); refine goesL_ (some 29) rfl rfl Try.func78 (by kernel_rfl) rfl #[.string x7_4, .int .u8 47] rfl (by (try simp only [List.map_toArray, List.map_cons, List.map_nil]); first | done | rfl | (simp only [List.length_drop, List.length_take]; rfl)) ?_; (with_reducible refine (strings_IndexByte.calls x7_4 47 t106 _ A14.out).mono ?_); rintro e w' ⟨rfl, ⟨nd, rfl⟩⟩; refine ⟨_, rfl, ?_⟩) | ((with_reducible refine gate_callee (f := 78) rfl ?_); refine goesL_ (some 39) rfl rfl Try.func78 (by kernel_rfl) rfl #[.string x7_4, .int .u8 47] rfl (by (try simp only [List.map_toArray, List.map_cons, List.map_nil]); first | done | rfl | (simp only [List.length_drop, List.length_take]; rfl)) ?_; (with_reducible refine (strings_IndexByte.calls x7_4 47 t106 _ A19.out).mono ?_); rintro e w' ⟨rfl, ⟨nd, rfl⟩⟩; refine ⟨_, rfl, ?_⟩) | ((with_reducible refine gate_callee (f := 88) rfl ?_); refine goesL_ (some 44) rfl rfl Try.func88 (by kernel_rfl) rfl #[.string a0, .string (x7_4.extract 0 (t106 : Int).toNat)] rfl (by (try simp only [List.map_toArray, List.map_cons, List.map_nil]); first | done | rfl | (simp only [List.length_drop, List.length_take]; rfl)) ?_; (with_reducible refine (strings_HasPrefix.calls a0 (x7_4.extract 0 (t106 : Int).toNat) false _ A22.out).mono ?_); rintro e w' ⟨rfl, ⟨nd, rfl⟩⟩; refine ⟨_, rfl, ?_⟩))
                  go_ret
                  exact ⟨by first | rfl | (simp [errW_none, errW_some] <;> rfl) | (simp [*, errW_none, errW_some] <;> rfl), by repeat (first | (with_reducible first | exact HB.out | apply below_alloc | apply pw_below_drewN | apply below_drew1) | exact HB.out)⟩
              · rw [if_neg c21] at H
                exact absurd H (by simp)
            · rw [if_neg c20] at H
              exact absurd H (by simp)

end Go.Proofs.Ytkbmababljcabaa.QA
