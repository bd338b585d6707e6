/- Printed by wip/pr.py (a program of this repo over the print program of the kit). Not trusted: Lean checks it. -/
import Derived.Test.YtkbmababljcabaaQA0
import Derived.Test.YtkbmababljcabaaQA2
import Derived.Test.YtkbmababljcabaaQA6
import Derived.Test.YtkbmababljcabaaQA7
namespace Go.Proofs.Ytkbmababljcabaa.QA
open Go.Proofs.Ytkbmababljcabaa.Given
open Go.Proofs.Ytkbmababljcabaa.PrX
open Go.RowKit Go.Proofs.YtkbmababljcabaaW.PrintWords Go.Proofs.YtkbmababljcabaaW.PrintLast Go.Proofs.YtkbmababljcabaaW.PrintMore
attribute [local go_sem] max2_int min2_int max_two min_two max_three min_three max_four min_four   -- for this text's walks alone
set_option linter.unusedVariables false
set_option linter.unusedSimpArgs false

/-! ### laws_FnAddrParts: function 5 -/
mutual
def laws_FnAddrParts.j0 : Nat → ByteArray → ByteArray → Bool → Option (Bool)
  | 0, _, _, _ => none
  | k + 1, x0, x1, x18 => if x18 = true then (some true) else ((impl_Addr.f k (⟨#[97, 58, 49]⟩ : ByteArray)).bind fun bt109 => (if bt109.1.toList = ([97] : List UInt8) then (laws_FnAddrParts.j1 k x0 x1 (bt109.2.toList != ([49] : List UInt8))) else (laws_FnAddrParts.j1 k x0 x1 true)))
def laws_FnAddrParts.j1 : Nat → ByteArray → ByteArray → Bool → Option (Bool)
  | 0, _, _, _ => none
  | k + 1, x0, x1, x28 => if x28 = true then (some false) else ((laws_short.f k (([x0, x1] : List ByteArray))).bind fun t114 => (if t114 = true then ((laws_holds.f k x1 58).bind fun t115 => (laws_FnAddrParts.j2 k x0 x1 t115)) else (laws_FnAddrParts.j2 k x0 x1 true)))
def laws_FnAddrParts.j2 : Nat → ByteArray → ByteArray → Bool → Option (Bool)
  | 0, _, _, _ => none
  | k + 1, x0, x1, x37 => if x37 = true then (some true) else (if x0.size + 1 ≤ 9223372036854775807 then (if (x0 ++ (⟨#[58]⟩ : ByteArray)).size + x1.size ≤ 9223372036854775807 then ((impl_Addr.f k ((x0 ++ (⟨#[58]⟩ : ByteArray)) ++ x1)).bind fun bt116 => ((impl_Addr.f k x1).bind fun bt118 => (if bt116.1.toList = x0.toList then (if bt116.2.toList = x1.toList then (if bt118.1.toList = x1.toList then (some (bt118.2.toList == ([] : List UInt8))) else (some false)) else (some false)) else (some false)))) else (none)) else (none))
end
def laws_FnAddrParts.f (k : Nat) (a0 : ByteArray) (a1 : ByteArray) : Option (Bool) := if (a0.size : Int) > 2147483647 then (laws_FnAddrParts.j0 k a0 a1 true) else (laws_FnAddrParts.j0 k a0 a1 (decide ((a1.size : Int) > 2147483647)))
theorem laws_FnAddrParts.mono_l : ∀ k, (∀ y0 y1 y2, LeO (laws_FnAddrParts.j0 k y0 y1 y2) (laws_FnAddrParts.j0 (k + 1) y0 y1 y2)) ∧ (∀ y0 y1 y2, LeO (laws_FnAddrParts.j1 k y0 y1 y2) (laws_FnAddrParts.j1 (k + 1) y0 y1 y2)) ∧ (∀ y0 y1 y2, LeO (laws_FnAddrParts.j2 k y0 y1 y2) (laws_FnAddrParts.j2 (k + 1) y0 y1 y2))
  | 0 => ⟨fun _ _ _ r h => by simp [laws_FnAddrParts.j0] at h, fun _ _ _ r h => by simp [laws_FnAddrParts.j1] at h, fun _ _ _ r h => by simp [laws_FnAddrParts.j2] at h⟩
  | k + 1 => by
    obtain ⟨ih0, ih1, ih2⟩ := laws_FnAddrParts.mono_l k
    refine ⟨?_, ?_, ?_⟩
    · intro y0 y1 y2
      unfold laws_FnAddrParts.j0
      repeat' first
      | (with_reducible exact ih0 _ _ _)
      | (with_reducible exact ih1 _ _ _)
      | (with_reducible exact ih2 _ _ _)
      | (with_reducible exact impl_Addr.mono _ _)
      | (with_reducible exact laws_holds.mono _ _ _)
      | (with_reducible exact laws_short.mono _ _)
      | (with_reducible exact LeO.refl _)
      | (with_reducible exact LeO.none _)
      | (with_reducible refine LeO.ite ?_ ?_)
      | (with_reducible refine LeO.bind ?_ (fun _ => ?_))
      | exact ih0 _ _ _
      | exact ih1 _ _ _
      | exact ih2 _ _ _
      | exact impl_Addr.mono _ _
      | exact laws_holds.mono _ _ _
      | exact laws_short.mono _ _
      | exact LeO.none _
      | refine LeO.ite ?_ ?_
      | refine LeO.bind ?_ (fun _ => ?_)
    · intro y0 y1 y2
      unfold laws_FnAddrParts.j1
      repeat' first
      | (with_reducible exact ih0 _ _ _)
      | (with_reducible exact ih1 _ _ _)
      | (with_reducible exact ih2 _ _ _)
      | (with_reducible exact impl_Addr.mono _ _)
      | (with_reducible exact laws_holds.mono _ _ _)
      | (with_reducible exact laws_short.mono _ _)
      | (with_reducible exact LeO.refl _)
      | (with_reducible exact LeO.none _)
      | (with_reducible refine LeO.ite ?_ ?_)
      | (with_reducible refine LeO.bind ?_ (fun _ => ?_))
      | exact ih0 _ _ _
      | exact ih1 _ _ _
      | exact ih2 _ _ _
      | exact impl_Addr.mono _ _
      | exact laws_holds.mono _ _ _
      | exact laws_short.mono _ _
      | exact LeO.none _
      | refine LeO.ite ?_ ?_
      | refine LeO.bind ?_ (fun _ => ?_)
    · intro y0 y1 y2
      unfold laws_FnAddrParts.j2
      repeat' first
      | (with_reducible exact ih0 _ _ _)
      | (with_reducible exact ih1 _ _ _)
      | (with_reducible exact ih2 _ _ _)
      | (with_reducible exact impl_Addr.mono _ _)
      | (with_reducible exact laws_holds.mono _ _ _)
      | (with_reducible exact laws_short.mono _ _)
      | (with_reducible exact LeO.refl _)
      | (with_reducible exact LeO.none _)
      | (with_reducible refine LeO.ite ?_ ?_)
      | (with_reducible refine LeO.bind ?_ (fun _ => ?_))
      | exact ih0 _ _ _
      | exact ih1 _ _ _
      | exact ih2 _ _ _
      | exact impl_Addr.mono _ _
      | exact laws_holds.mono _ _ _
      | exact laws_short.mono _ _
      | exact LeO.none _
      | refine LeO.ite ?_ ?_
      | refine LeO.bind ?_ (fun _ => ?_)
theorem laws_FnAddrParts.mono : ∀ a0 a1 k, LeO (laws_FnAddrParts.f k a0 a1) (laws_FnAddrParts.f (k + 1) a0 a1) := by
  intro a0 a1 k
  obtain ⟨ih0, ih1, ih2⟩ := laws_FnAddrParts.mono_l k
  unfold laws_FnAddrParts.f
  repeat' first
      | (with_reducible exact ih0 _ _ _)
      | (with_reducible exact ih1 _ _ _)
      | (with_reducible exact ih2 _ _ _)
      | (with_reducible exact impl_Addr.mono _ _)
      | (with_reducible exact laws_holds.mono _ _ _)
      | (with_reducible exact laws_short.mono _ _)
      | (with_reducible exact LeO.refl _)
      | (with_reducible exact LeO.none _)
      | (with_reducible refine LeO.ite ?_ ?_)
      | (with_reducible refine LeO.bind ?_ (fun _ => ?_))
      | exact ih0 _ _ _
      | exact ih1 _ _ _
      | exact ih2 _ _ _
      | exact impl_Addr.mono _ _
      | exact laws_holds.mono _ _ _
      | exact laws_short.mono _ _
      | exact LeO.none _
      | refine LeO.ite ?_ ?_
      | refine LeO.bind ?_ (fun _ => ?_)
set_option maxHeartbeats 8000000 in
set_option maxRecDepth 100000 in
theorem laws_FnAddrParts.calls (k : Nat) (a0 : ByteArray) (a1 : ByteArray) (r : Bool) (w : World) (h : laws_FnAddrParts.f k a0 a1 = some r) :
    Calls Try.prog 5 #[.string a0, .string a1] w fun e w' => e = .returned (.bool r) ∧ Below w.heap.size w w' := by
  have HB := Aside0.mk (Below.refl w.heap.size w)
  have H : (if (a0.size : Int) > 2147483647 then (laws_FnAddrParts.j0 k a0 a1 true) else (laws_FnAddrParts.j0 k a0 a1 (decide ((a1.size : Int) > 2147483647)))) = some r := h
  clear h
  have HC3 := Aside0.mk H
  clear H
  go_enter Try.func5, Try.ntmps5
  go_upto_region 1 with (fail)
  go_cut [18] (fun v18 wc => ∃ (kq : Nat) (x18_2 : Bool), v18 = .bool x18_2 ∧ Aside0 (laws_FnAddrParts.j0 kq a0 a1 x18_2 = some r) ∧ Aside0 (kq ≤ k) ∧ Aside0 (Below w.heap.size w wc))
  case first =>
    have H := HC3.out
    clear HC3
    by_cases c4 : (a0.size : Int) > 2147483647
    · rw [if_pos c4] at H
      have c4b0 : decide (2147483647 < (a0.size : Int)) = true := decide_eq_true c4
      have c4b1 : decide (2147483647 < a0.size) = true := decide_eq_true (by omega)
      clear c4
      (first | rw [c4b0] | (simp only [i64_w, i32_w]; rw [c4b0]) | skip)
      have H' := Aside0.mk H
      clear H
      go_wp2
      go_meet
      case rel => exact ⟨_, (true), (by first | rfl | (simp; done) | (rw [prx_ne]; first | done | rfl) | (simp [*]; done)), H', ⟨by first | omega | exact Nat.le_refl _⟩, ⟨by repeat (first | (with_reducible first | exact HB.out | apply below_alloc | apply pw_below_drewN | apply below_drew1) | exact HB.out)⟩⟩
    · rw [if_neg c4] at H
      have c4b0 : decide (2147483647 < (a0.size : Int)) = false := decide_eq_false c4
      have c4b1 : decide (2147483647 < a0.size) = false := decide_eq_false (by omega)
      clear c4
      (first | rw [c4b0] | (simp only [i64_w, i32_w]; rw [c4b0]) | skip)
      have H' := Aside0.mk H
      clear H
      go_wp2
      go_meet
      case rel => exact ⟨_, (decide ((a1.size : Int) > 2147483647)), (by first | rfl | (simp; done) | (rw [prx_ne]; first | done | rfl) | (simp [*]; done)), H', ⟨by first | omega | exact Nat.le_refl _⟩, ⟨by repeat (first | (with_reducible first | exact HB.out | apply below_alloc | apply pw_below_drewN | apply below_drew1) | exact HB.out)⟩⟩
  case rest =>
    clear HC3
    try clear p2
    try clear c4
    try clear c4b0
    try clear c4b1
    obtain ⟨kq, x18_2, rfl, HA, HJ2, HB⟩ := hcut
    cases kq with
    | zero => exact absurd HA.out (by simp [laws_FnAddrParts.j0])
    | succ kj2 =>
      have H := HA.out
      clear HA
      simp only [laws_FnAddrParts.j0] at H
      by_cases c5 : x18_2 = true
      · subst c5
        have H1 : (some true) = some r := by rw [if_pos rfl] at H; exact H
        clear H
        have H := H1
        clear H1
        obtain rfl := Option.some.inj H
        go_wp2
        go_ret
        exact ⟨by first | rfl | (simp [errW_none, errW_some] <;> rfl) | (simp [*, errW_none, errW_some] <;> rfl), by repeat (first | (with_reducible first | exact HB.out | apply below_alloc | apply pw_below_drewN | apply below_drew1) | exact HB.out)⟩
      · replace c5 := Bool.eq_false_iff.mpr c5
        subst c5
        have H1 : ((impl_Addr.f kj2 (⟨#[97, 58, 49]⟩ : ByteArray)).bind fun bt109 => (if bt109.1.toList = ([97] : List UInt8) then (laws_FnAddrParts.j1 kj2 a0 a1 (bt109.2.toList != ([49] : List UInt8))) else (laws_FnAddrParts.j1 kj2 a0 a1 true))) = some r := by rw [if_neg (show ¬ (false = true) by decide)] at H; exact H
        clear H
        have H := H1
        clear H1
        replace H := Option.bind_eq_some_iff.mp H
        obtain ⟨⟨t109, t110⟩, A60, H⟩ := H
        replace H : (if t109.toList = ([97] : List UInt8) then (laws_FnAddrParts.j1 kj2 a0 a1 (t110.toList != ([49] : List UInt8))) else (laws_FnAddrParts.j1 kj2 a0 a1 true)) = some r := H
        have A6 := Aside0.mk A60
        clear A60
        have HC7 := Aside0.mk H
        clear H
        go_upto_region 4 with (first | ((with_reducible refine gate_callee (f := 22) rfl ?_); refine goesL_ (some 20) rfl rfl Try.func22 (by kernel_rfl) rfl #[.string (⟨#[97, 58, 49]⟩ : ByteArray)] rfl (by (try simp only [List.map_toArray, List.map_cons, List.map_nil]); first | done | rfl | (simp only [List.length_drop, List.length_take]; rfl)) ?_; (with_reducible refine (impl_Addr.calls kj2 (⟨#[97, 58, 49]⟩ : ByteArray) t109 t110 _ A6.out).mono ?_); rintro e w' ⟨rfl, ⟨nd, rfl⟩⟩; refine ⟨_, rfl, ?_⟩))
        (try simp only [Act.put, List.setIfInBounds_toArray, List.set_cons_zero, List.set_cons_succ])
        go_cut [28] (fun v28 wc => ∃ (kq : Nat) (x28_6 : Bool), v28 = .bool x28_6 ∧ Aside0 (laws_FnAddrParts.j1 kq a0 a1 x28_6 = some r) ∧ Aside0 (kq ≤ kj2) ∧ Aside0 (Below w.heap.size w wc))
        case first =>
          have H := HC7.out
          clear HC7
          by_cases c8 : t109.toList = ([97] : List UInt8)
          · rw [if_pos c8] at H
            have c8b0 : (t109.toList == ([97] : List UInt8)) = true := beq_iff_eq.mpr c8
            have c8b1 : (t109.toList != ([97] : List UInt8)) = false := bne_eq_false_iff_eq.mpr c8
            clear c8
            (first | rw [c8b0] | (simp only [i64_w, i32_w]; rw [c8b0]) | skip)
            have H' := Aside0.mk H
            clear H
            go_wp2
            go_meet
            case rel => exact ⟨_, ((t110.toList != ([49] : List UInt8))), (by first | rfl | (simp; done) | (rw [prx_ne]; first | done | rfl) | (simp [*]; done)), H', ⟨by have := HJ2.out; first | omega | exact Nat.le_refl _⟩, ⟨by repeat (first | (with_reducible first | exact HB.out | apply below_alloc | apply pw_below_drewN | apply below_drew1) | exact HB.out)⟩⟩
          · rw [if_neg c8] at H
            have c8b0 : (t109.toList == ([97] : List UInt8)) = false := beq_eq_false_iff_ne.mpr c8
            have c8b1 : (t109.toList != ([97] : List UInt8)) = true := bne_iff_ne.mpr c8
            (first | rw [c8b0] | (simp only [i64_w, i32_w]; rw [c8b0]) | skip)
            have H' := Aside0.mk H
            clear H
            go_wp2
            go_meet
            case rel => exact ⟨_, (true), (by first | rfl | (simp; done) | (rw [prx_ne]; first | done | rfl) | (simp [*]; done)), H', ⟨by have := HJ2.out; first | omega | exact Nat.le_refl _⟩, ⟨by repeat (first | (with_reducible first | exact HB.out | apply below_alloc | apply pw_below_drewN | apply below_drew1) | exact HB.out)⟩⟩
        case rest =>
          clear HC7
          try clear c2
          try clear p2
          try clear c4
          try clear c4b0
          try clear c4b1
          try clear c5
          try clear c8
          try clear c8b0
          try clear c8b1
          try clear p2
          obtain ⟨kq, x28_6, rfl, HA, HJ6, HB⟩ := hcut
          cases kq with
          | zero => exact absurd HA.out (by simp [laws_FnAddrParts.j1])
          | succ kj6 =>
            have H := HA.out
            clear HA
            simp only [laws_FnAddrParts.j1] at H
            by_cases c9 : x28_6 = true
            · subst c9
              have H1 : (some false) = some r := by rw [if_pos rfl] at H; exact H
              clear H
              have H := H1
              clear H1
              obtain rfl := Option.some.inj H
              go_wp2
              go_ret
              exact ⟨by first | rfl | (simp [errW_none, errW_some] <;> rfl) | (simp [*, errW_none, errW_some] <;> rfl), by repeat (first | (with_reducible first | exact HB.out | apply below_alloc | apply pw_below_drewN | apply below_drew1) | exact HB.out)⟩
            · replace c9 := Bool.eq_false_iff.mpr c9
              subst c9
              have H1 : ((laws_short.f kj6 (([a0, a1] : List ByteArray))).bind fun t114 => (if t114 = true then ((laws_holds.f kj6 a1 58).bind fun t115 => (laws_FnAddrParts.j2 kj6 a0 a1 t115)) else (laws_FnAddrParts.j2 kj6 a0 a1 true))) = some r := by rw [if_neg (show ¬ (false = true) by decide)] at H; exact H
              clear H
              have H := H1
              clear H1
              have HC10 := Aside0.mk H
              clear H
              go_upto_region 6 with (fail)
              go_cut [37] (fun v37 wc => ∃ (kq : Nat) (x37_9 : Bool), v37 = .bool x37_9 ∧ Aside0 (laws_FnAddrParts.j2 kq a0 a1 x37_9 = some r) ∧ Aside0 (kq ≤ kj6) ∧ Aside0 (Below w.heap.size w wc))
              case first =>
                have H := HC10.out
                clear HC10
                obtain ⟨y111, hy111⟩ : ∃ y_ : List ByteArray, y_ = (([a0, a1] : List ByteArray)) := ⟨_, rfl⟩
                replace H : ((laws_short.f kj6 y111).bind fun t114 => (if t114 = true then ((laws_holds.f kj6 a1 58).bind fun t115 => (laws_FnAddrParts.j2 kj6 a0 a1 t115)) else (laws_FnAddrParts.j2 kj6 a0 a1 true))) = some r := by first | (rw [hy111]; with_reducible exact H) | (have H2_ := (Option.bind_some _ _).symm.trans H; rw [hy111]; with_reducible exact H2_) | (have H2_ := (Option.bind_some _ _).symm.trans H; with_reducible exact H2_) | with_reducible exact H | (rw [hy111]; exact H) | exact H
                have Ny111 := Aside0.mk hy111
                clear hy111
                replace H := Option.bind_eq_some_iff.mp H
                obtain ⟨t114, A110, H⟩ := H
                replace H : (if t114 = true then ((laws_holds.f kj6 a1 58).bind fun t115 => (laws_FnAddrParts.j2 kj6 a0 a1 t115)) else (laws_FnAddrParts.j2 kj6 a0 a1 true)) = some r := H
                have A11 := Aside0.mk A110
                clear A110
                by_cases c12 : t114 = true
                · subst c12
                  have H1 : ((laws_holds.f kj6 a1 58).bind fun t115 => (laws_FnAddrParts.j2 kj6 a0 a1 t115)) = some r := by rw [if_pos rfl] at H; exact H
                  clear H
                  have H := H1
                  clear H1
                  replace H := Option.bind_eq_some_iff.mp H
                  obtain ⟨t115, A130, H⟩ := H
                  replace H : (laws_FnAddrParts.j2 kj6 a0 a1 t115) = some r := H
                  have A13 := Aside0.mk A130
                  clear A130
                  have H' := Aside0.mk H
                  clear H
                  go_wp2_with (first | ((with_reducible refine gate_dst (N := 31) rfl ?_); (try (refine gate_guard (by rfl) ?_; dsimp only)); refine Kd.R_lit Kd.string _ 9 ?hg (N := 31) ?hd (xs := ([a0, a1] : List ByteArray)) (inner := [.string a0, .string a1]) (ok := fun _ => True) (okp := fun _ => True) ?hr ?hp (fun _ hk => hk) trivial (Below.refl _ _) (Nat.le_refl _) (by simp) ?_; (case hd => rfl); (case hg => rfl); (case hr => first | (go_simp; done) | (go_simp; rfl)); (case hp => exact (Reps.one (show Kd.M Kd.string _ _ _ a0 [.string a0] from rfl) (Reps.one (show Kd.M Kd.string _ _ _ a1 [.string a1] from rfl) (Reps.none _ _)))); intro v112 w14 ho15 hb hg_ hnew_; clear hg_ hnew_; (first | rw [← Ny111.out] at ho15 | (simp only [Int.reduceToNat] at ho15; rw [← Ny111.out] at ho15)); have n0_ := Aside0.mk (Kd.R_lower ho15 (below_size (by repeat (first | (with_reducible first | exact HB.out | apply below_alloc | apply pw_below_drewN | apply below_drew1) | exact HB.out)))); have n1_ := Aside0.mk (below_step (by repeat (first | (with_reducible first | exact HB.out | apply below_alloc | apply pw_below_drewN | apply below_drew1) | exact HB.out)) hb); clear HB; have HO113 := n0_; have HB := n1_; clear n0_ n1_; clear hb ho15; obtain ⟨Ao16, co16, eo16⟩ := Kd.R_slice HO113.out; subst eo16) | ((with_reducible refine gate_callee (f := 15) rfl ?_); refine goesL_ (some 32) rfl rfl Try.func15 (by kernel_rfl) rfl #[.slice Ao16 y111.length co16] rfl (by (try simp only [List.map_toArray, List.map_cons, List.map_nil]); first | done | rfl | (simp only [List.length_drop, List.length_take]; rfl)) ?_; (with_reducible refine (laws_short.calls kj6 _ _ y111 true _ ?side1 ?side2 A11.out).mono ?_); (case side1 => repeat (first | exact (Kd.R_reads' HO113.out).2.2 | (with_reducible refine Kd.C_alloc ?_ _) | (with_reducible refine Kd.C_drewN ?_ _) | (with_reducible refine Kd.C_drew ?_))); (case side2 => exact (Kd.R_reads' HO113.out).2.1); rintro e w' ⟨rfl, ⟨nd, rfl⟩⟩; refine ⟨_, rfl, ?_⟩) | (go_at_call 23; (with_reducible refine (laws_holds.calls kj6 a1 58 t115 _ A13.out).mono ?_); rintro e w' ⟨rfl, ⟨nd, rfl⟩⟩))
                  go_meet
                  case rel => exact ⟨_, (t115), (by first | rfl | (simp; done) | (rw [prx_ne]; first | done | rfl) | (simp [*]; done)), H', ⟨by have := HJ2.out; have := HJ6.out; first | omega | exact Nat.le_refl _⟩, ⟨by repeat (first | (with_reducible first | exact HB.out | apply below_alloc | apply pw_below_drewN | apply below_drew1) | exact HB.out)⟩⟩
                · replace c12 := Bool.eq_false_iff.mpr c12
                  subst c12
                  have H1 : (laws_FnAddrParts.j2 kj6 a0 a1 true) = some r := by rw [if_neg (show ¬ (false = true) by decide)] at H; exact H
                  clear H
                  have H := H1
                  clear H1
                  have H' := Aside0.mk H
                  clear H
                  go_wp2_with (first | ((with_reducible refine gate_dst (N := 31) rfl ?_); (try (refine gate_guard (by rfl) ?_; dsimp only)); refine Kd.R_lit Kd.string _ 9 ?hg (N := 31) ?hd (xs := ([a0, a1] : List ByteArray)) (inner := [.string a0, .string a1]) (ok := fun _ => True) (okp := fun _ => True) ?hr ?hp (fun _ hk => hk) trivial (Below.refl _ _) (Nat.le_refl _) (by simp) ?_; (case hd => rfl); (case hg => rfl); (case hr => first | (go_simp; done) | (go_simp; rfl)); (case hp => exact (Reps.one (show Kd.M Kd.string _ _ _ a0 [.string a0] from rfl) (Reps.one (show Kd.M Kd.string _ _ _ a1 [.string a1] from rfl) (Reps.none _ _)))); intro v112 w17 ho18 hb hg_ hnew_; clear hg_ hnew_; (first | rw [← Ny111.out] at ho18 | (simp only [Int.reduceToNat] at ho18; rw [← Ny111.out] at ho18)); have n0_ := Aside0.mk (Kd.R_lower ho18 (below_size (by repeat (first | (with_reducible first | exact HB.out | apply below_alloc | apply pw_below_drewN | apply below_drew1) | exact HB.out)))); have n1_ := Aside0.mk (below_step (by repeat (first | (with_reducible first | exact HB.out | apply below_alloc | apply pw_below_drewN | apply below_drew1) | exact HB.out)) hb); clear HB; have HO113 := n0_; have HB := n1_; clear n0_ n1_; clear hb ho18; obtain ⟨Ao19, co19, eo19⟩ := Kd.R_slice HO113.out; subst eo19) | ((with_reducible refine gate_callee (f := 15) rfl ?_); refine goesL_ (some 32) rfl rfl Try.func15 (by kernel_rfl) rfl #[.slice Ao19 y111.length co19] rfl (by (try simp only [List.map_toArray, List.map_cons, List.map_nil]); first | done | rfl | (simp only [List.length_drop, List.length_take]; rfl)) ?_; (with_reducible refine (laws_short.calls kj6 _ _ y111 false _ ?side1 ?side2 A11.out).mono ?_); (case side1 => repeat (first | exact (Kd.R_reads' HO113.out).2.2 | (with_reducible refine Kd.C_alloc ?_ _) | (with_reducible refine Kd.C_drewN ?_ _) | (with_reducible refine Kd.C_drew ?_))); (case side2 => exact (Kd.R_reads' HO113.out).2.1); rintro e w' ⟨rfl, ⟨nd, rfl⟩⟩; refine ⟨_, rfl, ?_⟩))
                  go_meet
                  case rel => exact ⟨_, (true), (by first | rfl | (simp; done) | (rw [prx_ne]; first | done | rfl) | (simp [*]; done)), H', ⟨by have := HJ2.out; have := HJ6.out; first | omega | exact Nat.le_refl _⟩, ⟨by repeat (first | (with_reducible first | exact HB.out | apply below_alloc | apply pw_below_drewN | apply below_drew1) | exact HB.out)⟩⟩
              case rest =>
                clear HC10
                try clear c1
                try clear c2
                try clear p2
                try clear c4
                try clear c4b0
                try clear c4b1
                try clear c5
                try clear c8
                try clear c8b0
                try clear c8b1
                try clear c9
                try clear c12
                try clear c15
                try clear p2
                obtain ⟨kq, x37_9, rfl, HA, HJ9, HB⟩ := hcut
                cases kq with
                | zero => exact absurd HA.out (by simp [laws_FnAddrParts.j2])
                | succ kj9 =>
                  have H := HA.out
                  clear HA
                  simp only [laws_FnAddrParts.j2] at H
                  by_cases c20 : x37_9 = true
                  · subst c20
                    have H1 : (some true) = some r := by rw [if_pos rfl] at H; exact H
                    clear H
                    have H := H1
                    clear H1
                    obtain rfl := Option.some.inj H
                    go_wp2
                    go_ret
                    exact ⟨by first | rfl | (simp [errW_none, errW_some] <;> rfl) | (simp [*, errW_none, errW_some] <;> rfl), by repeat (first | (with_reducible first | exact HB.out | apply below_alloc | apply pw_below_drewN | apply below_drew1) | exact HB.out)⟩
                  · replace c20 := Bool.eq_false_iff.mpr c20
                    subst c20
                    have H1 : (if a0.size + 1 ≤ 9223372036854775807 then (if (a0 ++ (⟨#[58]⟩ : ByteArray)).size + a1.size ≤ 9223372036854775807 then ((impl_Addr.f kj9 ((a0 ++ (⟨#[58]⟩ : ByteArray)) ++ a1)).bind fun bt116 => ((impl_Addr.f kj9 a1).bind fun bt118 => (if bt116.1.toList = a0.toList then (if bt116.2.toList = a1.toList then (if bt118.1.toList = a1.toList then (some (bt118.2.toList == ([] : List UInt8))) else (some false)) else (some false)) else (some false)))) else (none)) else (none)) = some r := by rw [if_neg (show ¬ (false = true) by decide)] at H; exact H
                    clear H
                    have H := H1
                    clear H1
                    by_cases c21 : a0.size + 1 ≤ 9223372036854775807
                    · rw [if_pos c21] at H
                      have c21b0 := eq_true c21
                      have c21b1 : decide (a0.size + 1 ≤ 9223372036854775807) = true := decide_eq_true c21
                      try have c21b2 : (9223372036854775807 < a0.size + 1) = False := eq_false (Nat.not_lt.2 c21)
                      try (have c21b3 := c21; simp only [ByteArray.size_append, prx_sz, List.length_cons, List.length_nil] at c21b3)
                      by_cases c22 : (a0 ++ (⟨#[58]⟩ : ByteArray)).size + a1.size ≤ 9223372036854775807
                      · rw [if_pos c22] at H
                        have c22b0 := eq_true c22
                        have c22b1 : decide ((a0 ++ (⟨#[58]⟩ : ByteArray)).size + a1.size ≤ 9223372036854775807) = true := decide_eq_true c22
                        try have c22b2 : (9223372036854775807 < (a0 ++ (⟨#[58]⟩ : ByteArray)).size + a1.size) = False := eq_false (Nat.not_lt.2 c22)
                        try (have c22b3 := c22; simp only [ByteArray.size_append, prx_sz, List.length_cons, List.length_nil] at c22b3)
                        replace H := Option.bind_eq_some_iff.mp H
                        obtain ⟨⟨t116, t117⟩, A230, H⟩ := H
                        replace H : ((impl_Addr.f kj9 a1).bind fun bt118 => (if t116.toList = a0.toList then (if t117.toList = a1.toList then (if bt118.1.toList = a1.toList then (some (bt118.2.toList == ([] : List UInt8))) else (some false)) else (some false)) else (some false))) = some r := H
                        have A23 := Aside0.mk A230
                        clear A230
                        replace H := Option.bind_eq_some_iff.mp H
                        obtain ⟨⟨t118, t119⟩, A240, H⟩ := H
                        replace H : (if t116.toList = a0.toList then (if t117.toList = a1.toList then (if t118.toList = a1.toList then (some (t119.toList == ([] : List UInt8))) else (some false)) else (some false)) else (some false)) = some r := H
                        have A24 := Aside0.mk A240
                        clear A240
                        by_cases c25 : t116.toList = a0.toList
                        · rw [if_pos c25] at H
                          have c25b0 : (t116.toList == a0.toList) = true := beq_iff_eq.mpr c25
                          have c25b1 : (t116.toList != a0.toList) = false := bne_eq_false_iff_eq.mpr c25
                          clear c25
                          by_cases c26 : t117.toList = a1.toList
                          · rw [if_pos c26] at H
                            have c26b0 : (t117.toList == a1.toList) = true := beq_iff_eq.mpr c26
                            have c26b1 : (t117.toList != a1.toList) = false := bne_eq_false_iff_eq.mpr c26
                            clear c26
                            by_cases c27 : t118.toList = a1.toList
                            · rw [if_pos c27] at H
                              have c27b0 : (t118.toList == a1.toList) = true := beq_iff_eq.mpr c27
                              have c27b1 : (t118.toList != a1.toList) = false := bne_eq_false_iff_eq.mpr c27
                              clear c27
                              obtain rfl := Option.some.inj H
                              go_wp2_with (first | ((with_reducible refine gate_callee (f := 22) rfl ?_); refine goesL_ (some 43) rfl rfl Try.func22 (by kernel_rfl) rfl #[.string ((a0 ++ (⟨#[58]⟩ : ByteArray)) ++ a1)] rfl (by (try simp only [List.map_toArray, List.map_cons, List.map_nil]); first | done | rfl | (simp only [List.length_drop, List.length_take]; rfl)) ?_; (with_reducible refine (impl_Addr.calls kj9 ((a0 ++ (⟨#[58]⟩ : ByteArray)) ++ a1) t116 t117 _ A23.out).mono ?_); rintro e w' ⟨rfl, ⟨nd, rfl⟩⟩; refine ⟨_, rfl, ?_⟩) | ((with_reducible refine gate_callee (f := 22) rfl ?_); refine goesL_ (some 48) rfl rfl Try.func22 (by kernel_rfl) rfl #[.string a1] rfl (by (try simp only [List.map_toArray, List.map_cons, List.map_nil]); first | done | rfl | (simp only [List.length_drop, List.length_take]; rfl)) ?_; (with_reducible refine (impl_Addr.calls kj9 a1 t118 t119 _ A24.out).mono ?_); rintro e w' ⟨rfl, ⟨nd, rfl⟩⟩; refine ⟨_, rfl, ?_⟩))
                              go_ret
                              exact ⟨by first | rfl | (simp [errW_none, errW_some] <;> rfl) | (simp [*, errW_none, errW_some] <;> rfl), by repeat (first | (with_reducible first | exact HB.out | apply below_alloc | apply pw_below_drewN | apply below_drew1) | exact HB.out)⟩
                            · rw [if_neg c27] at H
                              have c27b0 : (t118.toList == a1.toList) = false := beq_eq_false_iff_ne.mpr c27
                              have c27b1 : (t118.toList != a1.toList) = true := bne_iff_ne.mpr c27
                              obtain rfl := Option.some.inj H
                              go_wp2_with (first | ((with_reducible refine gate_callee (f := 22) rfl ?_); refine goesL_ (some 43) rfl rfl Try.func22 (by kernel_rfl) rfl #[.string ((a0 ++ (⟨#[58]⟩ : ByteArray)) ++ a1)] rfl (by (try simp only [List.map_toArray, List.map_cons, List.map_nil]); first | done | rfl | (simp only [List.length_drop, List.length_take]; rfl)) ?_; (with_reducible refine (impl_Addr.calls kj9 ((a0 ++ (⟨#[58]⟩ : ByteArray)) ++ a1) t116 t117 _ A23.out).mono ?_); rintro e w' ⟨rfl, ⟨nd, rfl⟩⟩; refine ⟨_, rfl, ?_⟩) | ((with_reducible refine gate_callee (f := 22) rfl ?_); refine goesL_ (some 48) rfl rfl Try.func22 (by kernel_rfl) rfl #[.string a1] rfl (by (try simp only [List.map_toArray, List.map_cons, List.map_nil]); first | done | rfl | (simp only [List.length_drop, List.length_take]; rfl)) ?_; (with_reducible refine (impl_Addr.calls kj9 a1 t118 t119 _ A24.out).mono ?_); rintro e w' ⟨rfl, ⟨nd, rfl⟩⟩; refine ⟨_, rfl, ?_⟩))
                              go_ret
                              exact ⟨by first | rfl | (simp [errW_none, errW_some] <;> rfl) | (simp [*, errW_none, errW_some] <;> rfl), by repeat (first | (with_reducible first | exact HB.out | apply below_alloc | apply pw_below_drewN | apply below_drew1) | exact HB.out)⟩
                          · rw [if_neg c26] at H
                            have c26b0 : (t117.toList == a1.toList) = false := beq_eq_false_iff_ne.mpr c26
                            have c26b1 : (t117.toList != a1.toList) = true := bne_iff_ne.mpr c26
                            obtain rfl := Option.some.inj H
                            go_wp2_with (first | ((with_reducible refine gate_callee (f := 22) rfl ?_); refine goesL_ (some 43) rfl rfl Try.func22 (by kernel_rfl) rfl #[.string ((a0 ++ (⟨#[58]⟩ : ByteArray)) ++ a1)] rfl (by (try simp only [List.map_toArray, List.map_cons, List.map_nil]); first | done | rfl | (simp only [List.length_drop, List.length_take]; rfl)) ?_; (with_reducible refine (impl_Addr.calls kj9 ((a0 ++ (⟨#[58]⟩ : ByteArray)) ++ a1) t116 t117 _ A23.out).mono ?_); rintro e w' ⟨rfl, ⟨nd, rfl⟩⟩; refine ⟨_, rfl, ?_⟩) | ((with_reducible refine gate_callee (f := 22) rfl ?_); refine goesL_ (some 48) rfl rfl Try.func22 (by kernel_rfl) rfl #[.string a1] rfl (by (try simp only [List.map_toArray, List.map_cons, List.map_nil]); first | done | rfl | (simp only [List.length_drop, List.length_take]; rfl)) ?_; (with_reducible refine (impl_Addr.calls kj9 a1 t118 t119 _ A24.out).mono ?_); rintro e w' ⟨rfl, ⟨nd, rfl⟩⟩; refine ⟨_, rfl, ?_⟩))
                            go_ret
                            exact ⟨by first | rfl | (simp [errW_none, errW_some] <;> rfl) | (simp [*, errW_none, errW_some] <;> rfl), by repeat (first | (with_reducible first | exact HB.out | apply below_alloc | apply pw_below_drewN | apply below_drew1) | exact HB.out)⟩
                        · rw [if_neg c25] at H
                          have c25b0 : (t116.toList == a0.toList) = false := beq_eq_false_iff_ne.mpr c25
                          have c25b1 : (t116.toList != a0.toList) = true := bne_iff_ne.mpr c25
                          obtain rfl := Option.some.inj H
                          go_wp2_with (first | ((with_reducible refine gate_callee (f := 22) rfl ?_); refine goesL_ (some 43) rfl rfl Try.func22 (by kernel_rfl) rfl #[.string ((a0 ++ (⟨#[58]⟩ : ByteArray)) ++ a1)] rfl (by (try simp only [List.map_toArray, List.map_cons, List.map_nil]); first | done | rfl | (simp only [List.length_drop, List.length_take]; rfl)) ?_; (with_reducible refine (impl_Addr.calls kj9 ((a0 ++ (⟨#[58]⟩ : ByteArray)) ++ a1) t116 t117 _ A23.out).mono ?_); rintro e w' ⟨rfl, ⟨nd, rfl⟩⟩; refine ⟨_, rfl, ?_⟩) | ((with_reducible refine gate_callee (f := 22) rfl ?_); refine goesL_ (some 48) rfl rfl Try.func22 (by kernel_rfl) rfl #[.string a1] rfl (by (try simp only [List.map_toArray, List.map_cons, List.map_nil]); first | done | rfl | (simp only [List.length_drop, List.length_take]; rfl)) ?_; (with_reducible refine (impl_Addr.calls kj9 a1 t118 t119 _ A24.out).mono ?_); rintro e w' ⟨rfl, ⟨nd, rfl⟩⟩; refine ⟨_, rfl, ?_⟩))
                          go_ret
                          exact ⟨by first | rfl | (simp [errW_none, errW_some] <;> rfl) | (simp [*, errW_none, errW_some] <;> rfl), by repeat (first | (with_reducible first | exact HB.out | apply below_alloc | apply pw_below_drewN | apply below_drew1) | exact HB.out)⟩
                      · rw [if_neg c22] at H
                        exact absurd H (by simp)
                    · rw [if_neg c21] at H
                      exact absurd H (by simp)

/-- THE ONE PURE STATEMENT of laws_FnAddrParts: yours. -/
def laws_FnAddrParts.Pure : Prop := ∀ (a0 : ByteArray) (a1 : ByteArray), a0.size ≤ 140737488351232 → a1.size ≤ 140737488351232 → ∃ k, laws_FnAddrParts.f k a0 a1 = some true
theorem laws_FnAddrParts.walk (P : laws_FnAddrParts.Pure) (a0 : ByteArray) (a1 : ByteArray) (w : World) (w0 : a0.size ≤ 140737488351232) (w1 : a1.size ≤ 140737488351232) :
    Calls Try.prog 5 #[.string a0, .string a1] w fun e w' => e = .returned (.bool true) ∧ Below w.heap.size w w' := by
  obtain ⟨k, h⟩ := P a0 a1 w0 w1
  refine (laws_FnAddrParts.calls k a0 a1 true w h).mono ?_
  rintro e w' ⟨rfl, hd⟩
  exact ⟨rfl, hd⟩

end Go.Proofs.Ytkbmababljcabaa.QA
