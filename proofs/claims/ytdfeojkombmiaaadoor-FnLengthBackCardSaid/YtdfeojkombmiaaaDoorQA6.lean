/- Printed by wip/pr.py (a program of this repo over the print program of the kit). Not trusted: Lean checks it. -/
import Derived.Test.YtdfeojkombmiaaaDoorQA0
import Derived.Test.YtdfeojkombmiaaaDoorQA2
import Derived.Test.YtdfeojkombmiaaaDoorQA5
import Derived.Test.YtdfeojkombmiaaaDoorGLength
namespace Go.Proofs.YtdfeojkombmiaaaDoor.QA
open Go.Proofs.YtdfeojkombmiaaaDoor.Given
open Go.Proofs.YtdfeojkombmiaaaDoor.PrX
open Go.RowKit Go.Proofs.YtdfeojkombmiaaaDoorW.PrintWords Go.Proofs.YtdfeojkombmiaaaDoorW.PrintLast Go.Proofs.YtdfeojkombmiaaaDoorW.PrintMore
attribute [local go_sem] max2_int min2_int max_two min_two max_three min_three max_four min_four   -- for this text's walks alone
set_option linter.unusedVariables false
set_option linter.unusedSimpArgs false

/-! ### laws_FnLengthBack: function 4 -/
mutual
def laws_FnLengthBack.j0 : Nat → Int → ByteArray → Bool → Option (Bool)
  | 0, _, _, _ => none
  | k + 1, x0, x1, x24 => if x24 = true then (some false) else (if x0 < 0 then (laws_FnLengthBack.j1 k x0 x1 true) else (if x0 > 1125899906842624 then (laws_FnLengthBack.j1 k x0 x1 true) else ((laws_short.f k (([x1] : List ByteArray))).bind fun t130 => (laws_FnLengthBack.j1 k x0 x1 (!t130)))))
def laws_FnLengthBack.j1 : Nat → Int → ByteArray → Bool → Option (Bool)
  | 0, _, _, _ => none
  | k + 1, x0, x1, x36 => if x36 = true then (some true) else ((laws_decimal.f k x0).bind fun t131 => ((impl_LengthOf.f t131).bind fun bt132 => (if bt132.2 = true then (laws_FnLengthBack.j2 k x1 (bt132.1 != x0)) else (laws_FnLengthBack.j2 k x1 true))))
def laws_FnLengthBack.j2 : Nat → ByteArray → Bool → Option (Bool)
  | 0, _, _ => none
  | k + 1, x1, x49 => if x49 = true then (some false) else (laws_FnLengthBack.l0 k x1 (x1.size : Int) 0)
def laws_FnLengthBack.l0 : Nat → ByteArray → Int → Int → Option (Bool)
  | 0, _, _, _ => none
  | k + 1, x1, x51, x52 => if x52 < x51 then (if 0 ≤ x52 then (if x52 < (x1.size : Int) then (if (bt x1 x52) < 48 then ((impl_LengthOf.f x1).bind fun bt134 => (some (!bt134.2))) else (if (bt x1 x52) > 57 then ((impl_LengthOf.f x1).bind fun bt136 => (some (!bt136.2))) else (laws_FnLengthBack.l0 k x1 x51 (wrap64 (x52 + 1))))) else (none)) else (none)) else (some true)
end
def laws_FnLengthBack.f (k : Nat) (a0 : Int) (a1 : ByteArray) : Option (Bool) := if (a1.size : Int) > 2147483647 then (some true) else ((impl_LengthOf.f (⟨#[49, 50]⟩ : ByteArray)).bind fun bt125 => (if bt125.2 = true then (laws_FnLengthBack.j0 k a0 a1 (bt125.1 != 12)) else (laws_FnLengthBack.j0 k a0 a1 true)))
theorem laws_FnLengthBack.mono_l : ∀ k, (∀ y0 y1 y2, LeO (laws_FnLengthBack.j0 k y0 y1 y2) (laws_FnLengthBack.j0 (k + 1) y0 y1 y2)) ∧ (∀ y0 y1 y2, LeO (laws_FnLengthBack.j1 k y0 y1 y2) (laws_FnLengthBack.j1 (k + 1) y0 y1 y2)) ∧ (∀ y0 y1, LeO (laws_FnLengthBack.j2 k y0 y1) (laws_FnLengthBack.j2 (k + 1) y0 y1)) ∧ (∀ y0 y1 y2, LeO (laws_FnLengthBack.l0 k y0 y1 y2) (laws_FnLengthBack.l0 (k + 1) y0 y1 y2))
  | 0 => ⟨fun _ _ _ r h => by simp [laws_FnLengthBack.j0] at h, fun _ _ _ r h => by simp [laws_FnLengthBack.j1] at h, fun _ _ r h => by simp [laws_FnLengthBack.j2] at h, fun _ _ _ r h => by simp [laws_FnLengthBack.l0] at h⟩
  | k + 1 => by
    obtain ⟨ih0, ih1, ih2, ih3⟩ := laws_FnLengthBack.mono_l k
    refine ⟨?_, ?_, ?_, ?_⟩
    · intro y0 y1 y2
      unfold laws_FnLengthBack.j0
      repeat' first
      | (with_reducible exact ih0 _ _ _)
      | (with_reducible exact ih1 _ _ _)
      | (with_reducible exact ih2 _ _)
      | (with_reducible exact ih3 _ _ _)
      | (with_reducible exact laws_decimal.mono _ _)
      | (with_reducible exact laws_short.mono _ _)
      | (with_reducible exact LeO.refl _)
      | (with_reducible exact LeO.none _)
      | (with_reducible refine LeO.ite ?_ ?_)
      | (with_reducible refine LeO.bind ?_ (fun _ => ?_))
      | exact ih0 _ _ _
      | exact ih1 _ _ _
      | exact ih2 _ _
      | exact ih3 _ _ _
      | exact laws_decimal.mono _ _
      | exact laws_short.mono _ _
      | exact LeO.none _
      | refine LeO.ite ?_ ?_
      | refine LeO.bind ?_ (fun _ => ?_)
    · intro y0 y1 y2
      unfold laws_FnLengthBack.j1
      repeat' first
      | (with_reducible exact ih0 _ _ _)
      | (with_reducible exact ih1 _ _ _)
      | (with_reducible exact ih2 _ _)
      | (with_reducible exact ih3 _ _ _)
      | (with_reducible exact laws_decimal.mono _ _)
      | (with_reducible exact laws_short.mono _ _)
      | (with_reducible exact LeO.refl _)
      | (with_reducible exact LeO.none _)
      | (with_reducible refine LeO.ite ?_ ?_)
      | (with_reducible refine LeO.bind ?_ (fun _ => ?_))
      | exact ih0 _ _ _
      | exact ih1 _ _ _
      | exact ih2 _ _
      | exact ih3 _ _ _
      | exact laws_decimal.mono _ _
      | exact laws_short.mono _ _
      | exact LeO.none _
      | refine LeO.ite ?_ ?_
      | refine LeO.bind ?_ (fun _ => ?_)
    · intro y0 y1
      unfold laws_FnLengthBack.j2
      repeat' first
      | (with_reducible exact ih0 _ _ _)
      | (with_reducible exact ih1 _ _ _)
      | (with_reducible exact ih2 _ _)
      | (with_reducible exact ih3 _ _ _)
      | (with_reducible exact laws_decimal.mono _ _)
      | (with_reducible exact laws_short.mono _ _)
      | (with_reducible exact LeO.refl _)
      | (with_reducible exact LeO.none _)
      | (with_reducible refine LeO.ite ?_ ?_)
      | (with_reducible refine LeO.bind ?_ (fun _ => ?_))
      | exact ih0 _ _ _
      | exact ih1 _ _ _
      | exact ih2 _ _
      | exact ih3 _ _ _
      | exact laws_decimal.mono _ _
      | exact laws_short.mono _ _
      | exact LeO.none _
      | refine LeO.ite ?_ ?_
      | refine LeO.bind ?_ (fun _ => ?_)
    · intro y0 y1 y2
      unfold laws_FnLengthBack.l0
      repeat' first
      | (with_reducible exact ih0 _ _ _)
      | (with_reducible exact ih1 _ _ _)
      | (with_reducible exact ih2 _ _)
      | (with_reducible exact ih3 _ _ _)
      | (with_reducible exact laws_decimal.mono _ _)
      | (with_reducible exact laws_short.mono _ _)
      | (with_reducible exact LeO.refl _)
      | (with_reducible exact LeO.none _)
      | (with_reducible refine LeO.ite ?_ ?_)
      | (with_reducible refine LeO.bind ?_ (fun _ => ?_))
      | exact ih0 _ _ _
      | exact ih1 _ _ _
      | exact ih2 _ _
      | exact ih3 _ _ _
      | exact laws_decimal.mono _ _
      | exact laws_short.mono _ _
      | exact LeO.none _
      | refine LeO.ite ?_ ?_
      | refine LeO.bind ?_ (fun _ => ?_)
theorem laws_FnLengthBack.mono : ∀ a0 a1 k, LeO (laws_FnLengthBack.f k a0 a1) (laws_FnLengthBack.f (k + 1) a0 a1) := by
  intro a0 a1 k
  obtain ⟨ih0, ih1, ih2, ih3⟩ := laws_FnLengthBack.mono_l k
  unfold laws_FnLengthBack.f
  repeat' first
      | (with_reducible exact ih0 _ _ _)
      | (with_reducible exact ih1 _ _ _)
      | (with_reducible exact ih2 _ _)
      | (with_reducible exact ih3 _ _ _)
      | (with_reducible exact laws_decimal.mono _ _)
      | (with_reducible exact laws_short.mono _ _)
      | (with_reducible exact LeO.refl _)
      | (with_reducible exact LeO.none _)
      | (with_reducible refine LeO.ite ?_ ?_)
      | (with_reducible refine LeO.bind ?_ (fun _ => ?_))
      | exact ih0 _ _ _
      | exact ih1 _ _ _
      | exact ih2 _ _
      | exact ih3 _ _ _
      | exact laws_decimal.mono _ _
      | exact laws_short.mono _ _
      | exact LeO.none _
      | refine LeO.ite ?_ ?_
      | refine LeO.bind ?_ (fun _ => ?_)
set_option maxHeartbeats 8000000 in
set_option maxRecDepth 100000 in
theorem laws_FnLengthBack.calls (k : Nat) (a0 : Int) (a1 : ByteArray) (r : Bool) (w : World) (hg : GlS [1, 2, 3] w) (h : laws_FnLengthBack.f k a0 a1 = some r) :
    Calls Tryd.prog 4 #[.int .i64 a0, .string a1] w fun e w' => e = .returned (.bool r) ∧ Below w.heap.size w w' := by
  have HG_ := Aside0.mk hg
  clear hg
  have HB := Aside0.mk (Below.refl w.heap.size w)
  have H : (if (a1.size : Int) > 2147483647 then (some true) else ((impl_LengthOf.f (⟨#[49, 50]⟩ : ByteArray)).bind fun bt125 => (if bt125.2 = true then (laws_FnLengthBack.j0 k a0 a1 (bt125.1 != 12)) else (laws_FnLengthBack.j0 k a0 a1 true)))) = some r := h
  clear h
  by_cases c3 : (a1.size : Int) > 2147483647
  · rw [if_pos c3] at H
    have c3b0 : decide (2147483647 < (a1.size : Int)) = true := decide_eq_true c3
    have c3b1 : decide (2147483647 < a1.size) = true := decide_eq_true (by omega)
    clear c3
    obtain rfl := Option.some.inj H
    go_enter Tryd.func4, Tryd.ntmps4
    go_wp2
    go_ret
    exact ⟨by first | rfl | (simp [errW_none, errW_some] <;> rfl) | (simp [*, errW_none, errW_some] <;> rfl), by repeat (first | (with_reducible first | exact HB.out | apply below_alloc | apply pw_below_drewN | apply below_drew1) | exact HB.out)⟩
  · rw [if_neg c3] at H
    have c3b0 : decide (2147483647 < (a1.size : Int)) = false := decide_eq_false c3
    have c3b1 : decide (2147483647 < a1.size) = false := decide_eq_false (by omega)
    clear c3
    replace H := Option.bind_eq_some_iff.mp H
    obtain ⟨⟨t125, t126⟩, A40, H⟩ := H
    replace H : (if t126 = true then (laws_FnLengthBack.j0 k a0 a1 (t125 != 12)) else (laws_FnLengthBack.j0 k a0 a1 true)) = some r := H
    have A4 := Aside0.mk A40
    clear A40
    have HC5 := Aside0.mk H
    clear H
    go_enter Tryd.func4, Tryd.ntmps4
    go_upto_region 4 with (first | ((with_reducible refine gate_callee (f := 9) rfl ?_); refine goesL_ (some 16) rfl rfl Tryd.func9 (by kernel_rfl) rfl #[.string (⟨#[49, 50]⟩ : ByteArray)] rfl (by (try simp only [List.map_toArray, List.map_cons, List.map_nil]); first | done | rfl | (simp only [List.length_drop, List.length_take]; rfl)) ?_; (with_reducible refine (impl_LengthOf.calls (⟨#[49, 50]⟩ : ByteArray) t125 t126 _ (GlS.at HG_.out (by first | exact HB.out | (repeat (first | (with_reducible first | exact HB.out | exact Below.refl _ _ | apply below_alloc | apply pw_below_drewN | apply below_drew1) | exact HB.out))) (by decide)) A4.out).mono ?_); rintro e w6 ⟨rfl, hb⟩; refine ⟨_, rfl, ?_⟩; have n0_ := Aside0.mk (below_step (by repeat (first | (with_reducible first | exact HB.out | apply below_alloc | apply pw_below_drewN | apply below_drew1) | exact HB.out)) hb); clear HB; have HB := n0_; clear n0_; (try clear hb); (try clear hb2); (try clear hk); (try clear hi)))
    (try simp only [Act.put, List.setIfInBounds_toArray, List.set_cons_zero, List.set_cons_succ])
    go_cut [24] (fun v24 wc => ∃ (kq : Nat) (x24_4 : Bool), v24 = .bool x24_4 ∧ Aside0 (laws_FnLengthBack.j0 kq a0 a1 x24_4 = some r) ∧ Aside0 (kq ≤ k) ∧ Aside0 (Below w.heap.size w wc))
    case first =>
      have H := HC5.out
      clear HC5
      by_cases c7 : t126 = true
      · subst c7
        have H1 : (laws_FnLengthBack.j0 k a0 a1 (t125 != 12)) = some r := by rw [if_pos rfl] at H; exact H
        clear H
        have H := H1
        clear H1
        have H' := Aside0.mk H
        clear H
        go_wp2
        go_meet
        case rel => exact ⟨_, ((t125 != 12)), (by first | rfl | (simp; done) | (rw [prx_ne]; first | done | rfl) | (simp [*]; done)), H', ⟨by first | omega | exact Nat.le_refl _⟩, ⟨by repeat (first | (with_reducible first | exact HB.out | apply below_alloc | apply pw_below_drewN | apply below_drew1) | exact HB.out)⟩⟩
      · replace c7 := Bool.eq_false_iff.mpr c7
        subst c7
        have H1 : (laws_FnLengthBack.j0 k a0 a1 true) = some r := by rw [if_neg (show ¬ (false = true) by decide)] at H; exact H
        clear H
        have H := H1
        clear H1
        have H' := Aside0.mk H
        clear H
        go_wp2
        go_meet
        case rel => exact ⟨_, (true), (by first | rfl | (simp; done) | (rw [prx_ne]; first | done | rfl) | (simp [*]; done)), H', ⟨by first | omega | exact Nat.le_refl _⟩, ⟨by repeat (first | (with_reducible first | exact HB.out | apply below_alloc | apply pw_below_drewN | apply below_drew1) | exact HB.out)⟩⟩
    case rest =>
      clear HC5
      try clear p2
      try clear c3
      try clear c3b0
      try clear c3b1
      try clear c4
      try clear c7
      obtain ⟨kq, x24_4, rfl, HA, HJ4, HB⟩ := hcut
      cases kq with
      | zero => exact absurd HA.out (by simp [laws_FnLengthBack.j0])
      | succ kj4 =>
        have H := HA.out
        clear HA
        simp only [laws_FnLengthBack.j0] at H
        by_cases c8 : x24_4 = true
        · subst c8
          have H1 : (some false) = some r := by rw [if_pos rfl] at H; exact H
          clear H
          have H := H1
          clear H1
          obtain rfl := Option.some.inj H
          go_wp2
          go_ret
          exact ⟨by first | rfl | (simp [errW_none, errW_some] <;> rfl) | (simp [*, errW_none, errW_some] <;> rfl), by repeat (first | (with_reducible first | exact HB.out | apply below_alloc | apply pw_below_drewN | apply below_drew1) | exact HB.out)⟩
        · replace c8 := Bool.eq_false_iff.mpr c8
          subst c8
          have H1 : (if a0 < 0 then (laws_FnLengthBack.j1 kj4 a0 a1 true) else (if a0 > 1125899906842624 then (laws_FnLengthBack.j1 kj4 a0 a1 true) else ((laws_short.f kj4 (([a1] : List ByteArray))).bind fun t130 => (laws_FnLengthBack.j1 kj4 a0 a1 (!t130))))) = some r := by rw [if_neg (show ¬ (false = true) by decide)] at H; exact H
          clear H
          have H := H1
          clear H1
          have HC9 := Aside0.mk H
          clear H
          go_upto_region 6 with (fail)
          go_cut [36] (fun v36 wc => ∃ (kq : Nat) (x36_8 : Bool), v36 = .bool x36_8 ∧ Aside0 (laws_FnLengthBack.j1 kq a0 a1 x36_8 = some r) ∧ Aside0 (kq ≤ kj4) ∧ Aside0 (Below w.heap.size w wc))
          case first =>
            have H := HC9.out
            clear HC9
            by_cases c10 : a0 < 0
            · rw [if_pos c10] at H
              have c10b0 : decide (a0 < 0) = true := decide_eq_true c10
              clear c10
              (first | rw [c10b0] | (simp only [i64_w, i32_w]; rw [c10b0]) | skip)
              have H' := Aside0.mk H
              clear H
              go_wp2
              go_meet
              case rel => exact ⟨_, (true), (by first | rfl | (simp; done) | (rw [prx_ne]; first | done | rfl) | (simp [*]; done)), H', ⟨by have := HJ4.out; first | omega | exact Nat.le_refl _⟩, ⟨by repeat (first | (with_reducible first | exact HB.out | apply below_alloc | apply pw_below_drewN | apply below_drew1) | exact HB.out)⟩⟩
            · rw [if_neg c10] at H
              have c10b0 : decide (a0 < 0) = false := decide_eq_false c10
              clear c10
              (first | rw [c10b0] | (simp only [i64_w, i32_w]; rw [c10b0]) | skip)
              by_cases c11 : a0 > 1125899906842624
              · rw [if_pos c11] at H
                have c11b0 : decide (1125899906842624 < a0) = true := decide_eq_true c11
                clear c11
                have H' := Aside0.mk H
                clear H
                go_wp2
                go_meet
                case rel => exact ⟨_, (true), (by first | rfl | (simp; done) | (rw [prx_ne]; first | done | rfl) | (simp [*]; done)), H', ⟨by have := HJ4.out; first | omega | exact Nat.le_refl _⟩, ⟨by repeat (first | (with_reducible first | exact HB.out | apply below_alloc | apply pw_below_drewN | apply below_drew1) | exact HB.out)⟩⟩
              · rw [if_neg c11] at H
                have c11b0 : decide (1125899906842624 < a0) = false := decide_eq_false c11
                clear c11
                obtain ⟨y127, hy127⟩ : ∃ y_ : List ByteArray, y_ = (([a1] : List ByteArray)) := ⟨_, rfl⟩
                replace H : ((laws_short.f kj4 y127).bind fun t130 => (laws_FnLengthBack.j1 kj4 a0 a1 (!t130))) = some r := by first | (rw [hy127]; with_reducible exact H) | (have H2_ := (Option.bind_some _ _).symm.trans H; rw [hy127]; with_reducible exact H2_) | (have H2_ := (Option.bind_some _ _).symm.trans H; with_reducible exact H2_) | with_reducible exact H | (rw [hy127]; exact H) | exact H
                have Ny127 := Aside0.mk hy127
                clear hy127
                replace H := Option.bind_eq_some_iff.mp H
                obtain ⟨t130, A120, H⟩ := H
                replace H : (laws_FnLengthBack.j1 kj4 a0 a1 (!t130)) = some r := H
                have A12 := Aside0.mk A120
                clear A120
                have H' := Aside0.mk H
                clear H
                go_wp2_with (first | ((with_reducible refine gate_dst (N := 33) rfl ?_); (try (refine gate_guard (by rfl) ?_; dsimp only)); refine Kd.R_lit Kd.string _ 9 ?hg (N := 33) ?hd (xs := ([a1] : List ByteArray)) (inner := [.string a1]) (ok := fun _ => True) (okp := fun _ => True) ?hr ?hp (fun _ hk => hk) trivial (Below.refl _ _) (Nat.le_refl _) (by simp) ?_; (case hd => rfl); (case hg => rfl); (case hr => first | (go_simp; done) | (go_simp; rfl)); (case hp => exact (Reps.one (show Kd.M Kd.string _ _ _ a1 [.string a1] from rfl) (Reps.none _ _))); intro v128 w13 ho14 hb hg_ hnew_; clear hg_ hnew_; (first | rw [← Ny127.out] at ho14 | (simp only [Int.reduceToNat] at ho14; rw [← Ny127.out] at ho14)); have n0_ := Aside0.mk (Kd.R_lower ho14 (below_size (by repeat (first | (with_reducible first | exact HB.out | apply below_alloc | apply pw_below_drewN | apply below_drew1) | exact HB.out)))); have n1_ := Aside0.mk (below_step (by repeat (first | (with_reducible first | exact HB.out | apply below_alloc | apply pw_below_drewN | apply below_drew1) | exact HB.out)) hb); clear HB; have HO129 := n0_; have HB := n1_; clear n0_ n1_; clear hb ho14; obtain ⟨Ao15, co15, eo15⟩ := Kd.R_slice HO129.out; subst eo15) | (go_at_call 7; (with_reducible refine (laws_short.calls kj4 _ _ y127 t130 _ ?side1 ?side2 A12.out).mono ?_); (case side1 => repeat (first | exact (Kd.R_reads' HO129.out).2.2 | (with_reducible refine Kd.C_alloc ?_ _) | (with_reducible refine Kd.C_drewN ?_ _) | (with_reducible refine Kd.C_drew ?_))); (case side2 => exact (Kd.R_reads' HO129.out).2.1); rintro e w' ⟨rfl, ⟨nd, rfl⟩⟩))
                go_meet
                case rel => exact ⟨_, (!t130), (by first | rfl | (simp; done) | (rw [prx_ne]; first | done | rfl) | (simp [*]; done)), H', ⟨by have := HJ4.out; first | omega | exact Nat.le_refl _⟩, ⟨by repeat (first | (with_reducible first | exact HB.out | apply below_alloc | apply pw_below_drewN | apply below_drew1) | exact HB.out)⟩⟩
          case rest =>
            clear HC9
            try clear c1
            try clear p2
            try clear c3
            try clear c3b0
            try clear c3b1
            try clear c4
            try clear c7
            try clear c8
            try clear c9
            try clear c10
            try clear c10b0
            try clear c11
            try clear c11b0
            try clear p2
            obtain ⟨kq, x36_8, rfl, HA, HJ8, HB⟩ := hcut
            cases kq with
            | zero => exact absurd HA.out (by simp [laws_FnLengthBack.j1])
            | succ kj8 =>
              have H := HA.out
              clear HA
              simp only [laws_FnLengthBack.j1] at H
              by_cases c16 : x36_8 = true
              · subst c16
                have H1 : (some true) = some r := by rw [if_pos rfl] at H; exact H
                clear H
                have H := H1
                clear H1
                obtain rfl := Option.some.inj H
                go_wp2
                go_ret
                exact ⟨by first | rfl | (simp [errW_none, errW_some] <;> rfl) | (simp [*, errW_none, errW_some] <;> rfl), by repeat (first | (with_reducible first | exact HB.out | apply below_alloc | apply pw_below_drewN | apply below_drew1) | exact HB.out)⟩
              · replace c16 := Bool.eq_false_iff.mpr c16
                subst c16
                have H1 : ((laws_decimal.f kj8 a0).bind fun t131 => ((impl_LengthOf.f t131).bind fun bt132 => (if bt132.2 = true then (laws_FnLengthBack.j2 kj8 a1 (bt132.1 != a0)) else (laws_FnLengthBack.j2 kj8 a1 true)))) = some r := by rw [if_neg (show ¬ (false = true) by decide)] at H; exact H
                clear H
                have H := H1
                clear H1
                replace H := Option.bind_eq_some_iff.mp H
                obtain ⟨t131, A170, H⟩ := H
                replace H : ((impl_LengthOf.f t131).bind fun bt132 => (if bt132.2 = true then (laws_FnLengthBack.j2 kj8 a1 (bt132.1 != a0)) else (laws_FnLengthBack.j2 kj8 a1 true))) = some r := H
                have A17 := Aside0.mk A170
                clear A170
                replace H := Option.bind_eq_some_iff.mp H
                obtain ⟨⟨t132, t133⟩, A180, H⟩ := H
                replace H : (if t133 = true then (laws_FnLengthBack.j2 kj8 a1 (t132 != a0)) else (laws_FnLengthBack.j2 kj8 a1 true)) = some r := H
                have A18 := Aside0.mk A180
                clear A180
                have HC19 := Aside0.mk H
                clear H
                go_upto_region 9 with (first | ((with_reducible refine gate_callee (f := 10) rfl ?_); refine goesL_ (some 39) rfl rfl Tryd.func10 (by kernel_rfl) rfl #[.int .i64 a0] rfl (by (try simp only [List.map_toArray, List.map_cons, List.map_nil]); first | done | rfl | (simp only [List.length_drop, List.length_take]; rfl)) ?_; (with_reducible refine (laws_decimal.calls kj8 a0 t131 _ A17.out).mono ?_); rintro e w20 ⟨rfl, hb⟩; refine ⟨_, rfl, ?_⟩; have n0_ := Aside0.mk (below_step (by repeat (first | (with_reducible first | exact HB.out | apply below_alloc | apply pw_below_drewN | apply below_drew1) | exact HB.out)) hb); clear HB; have HB := n0_; clear n0_; (try clear hb); (try clear hb2); (try clear hk); (try clear hi)) | ((with_reducible refine gate_callee (f := 9) rfl ?_); refine goesL_ (some 40) rfl rfl Tryd.func9 (by kernel_rfl) rfl #[.string t131] rfl (by (try simp only [List.map_toArray, List.map_cons, List.map_nil]); first | done | rfl | (simp only [List.length_drop, List.length_take]; rfl)) ?_; (with_reducible refine (impl_LengthOf.calls t131 t132 t133 _ (GlS.at HG_.out (by first | exact HB.out | (repeat (first | (with_reducible first | exact HB.out | exact Below.refl _ _ | apply below_alloc | apply pw_below_drewN | apply below_drew1) | exact HB.out))) (by decide)) A18.out).mono ?_); rintro e w21 ⟨rfl, hb⟩; refine ⟨_, rfl, ?_⟩; have n0_ := Aside0.mk (below_step (by repeat (first | (with_reducible first | exact HB.out | apply below_alloc | apply pw_below_drewN | apply below_drew1) | exact HB.out)) hb); clear HB; have HB := n0_; clear n0_; (try clear hb); (try clear hb2); (try clear hk); (try clear hi)))
                (try simp only [Act.put, List.setIfInBounds_toArray, List.set_cons_zero, List.set_cons_succ])
                go_cut [49] (fun v49 wc => ∃ (kq : Nat) (x49_18 : Bool), v49 = .bool x49_18 ∧ Aside0 (laws_FnLengthBack.j2 kq a1 x49_18 = some r) ∧ Aside0 (kq ≤ kj8) ∧ Aside0 (Below w.heap.size w wc))
                case first =>
                  have H := HC19.out
                  clear HC19
                  by_cases c22 : t133 = true
                  · subst c22
                    have H1 : (laws_FnLengthBack.j2 kj8 a1 (t132 != a0)) = some r := by rw [if_pos rfl] at H; exact H
                    clear H
                    have H := H1
                    clear H1
                    have H' := Aside0.mk H
                    clear H
                    go_wp2
                    go_meet
                    case rel => exact ⟨_, ((t132 != a0)), (by first | rfl | (simp; done) | (rw [prx_ne]; first | done | rfl) | (simp [*]; done)), H', ⟨by have := HJ4.out; have := HJ8.out; first | omega | exact Nat.le_refl _⟩, ⟨by repeat (first | (with_reducible first | exact HB.out | apply below_alloc | apply pw_below_drewN | apply below_drew1) | exact HB.out)⟩⟩
                  · replace c22 := Bool.eq_false_iff.mpr c22
                    subst c22
                    have H1 : (laws_FnLengthBack.j2 kj8 a1 true) = some r := by rw [if_neg (show ¬ (false = true) by decide)] at H; exact H
                    clear H
                    have H := H1
                    clear H1
                    have H' := Aside0.mk H
                    clear H
                    go_wp2
                    go_meet
                    case rel => exact ⟨_, (true), (by first | rfl | (simp; done) | (rw [prx_ne]; first | done | rfl) | (simp [*]; done)), H', ⟨by have := HJ4.out; have := HJ8.out; first | omega | exact Nat.le_refl _⟩, ⟨by repeat (first | (with_reducible first | exact HB.out | apply below_alloc | apply pw_below_drewN | apply below_drew1) | exact HB.out)⟩⟩
                case rest =>
                  clear HC19
                  try clear c1
                  try clear c2
                  try clear p2
                  try clear c3
                  try clear c3b0
                  try clear c3b1
                  try clear c4
                  try clear c7
                  try clear c8
                  try clear c9
                  try clear c10
                  try clear c10b0
                  try clear c11
                  try clear c11b0
                  try clear c16
                  try clear c22
                  try clear p2
                  obtain ⟨kq, x49_18, rfl, HA, HJ18, HB⟩ := hcut
                  cases kq with
                  | zero => exact absurd HA.out (by simp [laws_FnLengthBack.j2])
                  | succ kj18 =>
                    have H := HA.out
                    clear HA
                    simp only [laws_FnLengthBack.j2] at H
                    by_cases c23 : x49_18 = true
                    · subst c23
                      have H1 : (some false) = some r := by rw [if_pos rfl] at H; exact H
                      clear H
                      have H := H1
                      clear H1
                      obtain rfl := Option.some.inj H
                      go_wp2
                      go_ret
                      exact ⟨by first | rfl | (simp [errW_none, errW_some] <;> rfl) | (simp [*, errW_none, errW_some] <;> rfl), by repeat (first | (with_reducible first | exact HB.out | apply below_alloc | apply pw_below_drewN | apply below_drew1) | exact HB.out)⟩
                    · replace c23 := Bool.eq_false_iff.mpr c23
                      subst c23
                      have H1 : (laws_FnLengthBack.l0 kj18 a1 (a1.size : Int) 0) = some r := by rw [if_neg (show ¬ (false = true) by decide)] at H; exact H
                      clear H
                      have H := H1
                      clear H1
                      have H' := Aside0.mk H
                      clear H
                      go_wp2
                      go_loopg [52] kj18 (fun kq v52 w' => ∃ (x52_4 : Int), v52 = .int .i64 x52_4 ∧ Aside0 (laws_FnLengthBack.l0 kq a1 (a1.size : Int) x52_4 = some r) ∧ Aside0 (kq ≤ kj18) ∧ Aside0 (Below w.heap.size w w'))
                      case atStart => exact ⟨(0), (by first | rfl | (simp; done) | (rw [prx_ne]; first | done | rfl) | (simp [*]; done)), H', ⟨Nat.le_refl _⟩, ⟨by repeat (first | (with_reducible first | exact HB.out | apply below_alloc | apply pw_below_drewN | apply below_drew1) | exact HB.out)⟩⟩
                      case round =>
                        clear H'
                        try clear c1
                        try clear c2
                        try clear p2
                        try clear c3
                        try clear c3b0
                        try clear c3b1
                        try clear c4
                        try clear c7
                        try clear c8
                        try clear c9
                        try clear c10
                        try clear c10b0
                        try clear c11
                        try clear c11b0
                        try clear c16
                        try clear c22
                        try clear c23
                        try clear p2
                        obtain ⟨x52_4, rfl, HA, HK4, HB⟩ := hrel
                        cases gk with
                        | zero => exact absurd HA.out (by simp [laws_FnLengthBack.l0])
                        | succ k4 =>
                          have H := HA.out
                          clear HA
                          simp only [laws_FnLengthBack.l0] at H
                          by_cases c24 : x52_4 < (a1.size : Int)
                          · rw [if_pos c24] at H
                            have c24b0 : decide (x52_4 < (a1.size : Int)) = true := decide_eq_true c24
                            clear c24
                            by_cases c25 : 0 ≤ x52_4
                            · rw [if_pos c25] at H
                              have c25b0 : decide (0 ≤ x52_4) = true := decide_eq_true c25
                              clear c25
                              by_cases c26 : x52_4 < (a1.size : Int)
                              · rw [if_pos c26] at H
                                have c26b0 : decide (x52_4 < (a1.size : Int)) = true := decide_eq_true c26
                                clear c26
                                by_cases c28 : (bt a1 x52_4) < 48
                                · rw [if_pos c28] at H
                                  have c28b0 : decide ((bt a1 x52_4) < 48) = true := decide_eq_true c28
                                  clear c28
                                  replace H := Option.bind_eq_some_iff.mp H
                                  obtain ⟨⟨t134, t135⟩, A290, H⟩ := H
                                  replace H : (some (!t135)) = some r := H
                                  have A29 := Aside0.mk A290
                                  clear A290
                                  obtain rfl := Option.some.inj H
                                  have p27 : 0 ≤ (x52_4 : Int) := of_decide_eq_true (by first | (with_reducible assumption) | assumption)
                                  have q27 : x52_4 < (a1.size : Int) := of_decide_eq_true (by first | (with_reducible assumption) | assumption)
                                  have hx27 := bt_at a1 x52_4
                                  replace p27 := eq_true p27
                                  replace q27 := eq_true q27
                                  go_wp2_with (first | ((with_reducible refine gate_callee (f := 9) rfl ?_); refine goesL_ (some 67) rfl rfl Tryd.func9 (by kernel_rfl) rfl #[.string a1] rfl (by (try simp only [List.map_toArray, List.map_cons, List.map_nil]); first | done | rfl | (simp only [List.length_drop, List.length_take]; rfl)) ?_; (with_reducible refine (impl_LengthOf.calls a1 t134 t135 _ (GlS.at HG_.out (by first | exact HB.out | (repeat (first | (with_reducible first | exact HB.out | exact Below.refl _ _ | apply below_alloc | apply pw_below_drewN | apply below_drew1) | exact HB.out))) (by decide)) A29.out).mono ?_); rintro e w30 ⟨rfl, hb⟩; refine ⟨_, rfl, ?_⟩; have n0_ := Aside0.mk (below_step (by repeat (first | (with_reducible first | exact HB.out | apply below_alloc | apply pw_below_drewN | apply below_drew1) | exact HB.out)) hb); clear HB; have HB := n0_; clear n0_; (try clear hb); (try clear hb2); (try clear hk); (try clear hi)))
                                  go_ret
                                  exact ⟨by first | rfl | (simp [errW_none, errW_some] <;> rfl) | (simp [*, errW_none, errW_some] <;> rfl), by repeat (first | (with_reducible first | exact HB.out | apply below_alloc | apply pw_below_drewN | apply below_drew1) | exact HB.out)⟩
                                · rw [if_neg c28] at H
                                  have c28b0 : decide ((bt a1 x52_4) < 48) = false := decide_eq_false c28
                                  clear c28
                                  by_cases c32 : (bt a1 x52_4) > 57
                                  · rw [if_pos c32] at H
                                    have c32b0 : decide (57 < (bt a1 x52_4)) = true := decide_eq_true c32
                                    clear c32
                                    replace H := Option.bind_eq_some_iff.mp H
                                    obtain ⟨⟨t136, t137⟩, A330, H⟩ := H
                                    replace H : (some (!t137)) = some r := H
                                    have A33 := Aside0.mk A330
                                    clear A330
                                    obtain rfl := Option.some.inj H
                                    have p27 : 0 ≤ (x52_4 : Int) := of_decide_eq_true (by first | (with_reducible assumption) | assumption)
                                    have q27 : x52_4 < (a1.size : Int) := of_decide_eq_true (by first | (with_reducible assumption) | assumption)
                                    have hx27 := bt_at a1 x52_4
                                    replace p27 := eq_true p27
                                    replace q27 := eq_true q27
                                    have p31 : 0 ≤ (x52_4 : Int) := of_decide_eq_true (by first | (with_reducible assumption) | assumption)
                                    have q31 : x52_4 < (a1.size : Int) := of_decide_eq_true (by first | (with_reducible assumption) | assumption)
                                    have hx31 := bt_at a1 x52_4
                                    replace p31 := eq_true p31
                                    replace q31 := eq_true q31
                                    go_wp2_with (first | ((with_reducible refine gate_callee (f := 9) rfl ?_); refine goesL_ (some 67) rfl rfl Tryd.func9 (by kernel_rfl) rfl #[.string a1] rfl (by (try simp only [List.map_toArray, List.map_cons, List.map_nil]); first | done | rfl | (simp only [List.length_drop, List.length_take]; rfl)) ?_; (with_reducible refine (impl_LengthOf.calls a1 t136 t137 _ (GlS.at HG_.out (by first | exact HB.out | (repeat (first | (with_reducible first | exact HB.out | exact Below.refl _ _ | apply below_alloc | apply pw_below_drewN | apply below_drew1) | exact HB.out))) (by decide)) A33.out).mono ?_); rintro e w34 ⟨rfl, hb⟩; refine ⟨_, rfl, ?_⟩; have n0_ := Aside0.mk (below_step (by repeat (first | (with_reducible first | exact HB.out | apply below_alloc | apply pw_below_drewN | apply below_drew1) | exact HB.out)) hb); clear HB; have HB := n0_; clear n0_; (try clear hb); (try clear hb2); (try clear hk); (try clear hi)))
                                    go_ret
                                    exact ⟨by first | rfl | (simp [errW_none, errW_some] <;> rfl) | (simp [*, errW_none, errW_some] <;> rfl), by repeat (first | (with_reducible first | exact HB.out | apply below_alloc | apply pw_below_drewN | apply below_drew1) | exact HB.out)⟩
                                  · rw [if_neg c32] at H
                                    have c32b0 : decide (57 < (bt a1 x52_4)) = false := decide_eq_false c32
                                    clear c32
                                    have H' := Aside0.mk H
                                    clear H
                                    have p27 : 0 ≤ (x52_4 : Int) := of_decide_eq_true (by first | (with_reducible assumption) | assumption)
                                    have q27 : x52_4 < (a1.size : Int) := of_decide_eq_true (by first | (with_reducible assumption) | assumption)
                                    have hx27 := bt_at a1 x52_4
                                    replace p27 := eq_true p27
                                    replace q27 := eq_true q27
                                    have p31 : 0 ≤ (x52_4 : Int) := of_decide_eq_true (by first | (with_reducible assumption) | assumption)
                                    have q31 : x52_4 < (a1.size : Int) := of_decide_eq_true (by first | (with_reducible assumption) | assumption)
                                    have hx31 := bt_at a1 x52_4
                                    replace p31 := eq_true p31
                                    replace q31 := eq_true q31
                                    go_wp2
                                    go_roundg k4
                                    case measure => have := HJ4.out; have := HJ8.out; have := HJ18.out; have := HK4.out; omega
                                    case rel => exact ⟨(wrap64 (x52_4 + 1)), (by first | rfl | (simp; done) | (rw [prx_ne]; first | done | rfl) | (simp [*]; done)), H', ⟨by have := HJ4.out; have := HJ8.out; have := HJ18.out; have := HK4.out; omega⟩, ⟨by repeat (first | (with_reducible first | exact HB.out | apply below_alloc | apply pw_below_drewN | apply below_drew1) | exact HB.out)⟩⟩
                              · rw [if_neg c26] at H
                                exact absurd H (by simp)
                            · rw [if_neg c25] at H
                              exact absurd H (by simp)
                          · rw [if_neg c24] at H
                            have c24b0 : decide (x52_4 < (a1.size : Int)) = false := decide_eq_false c24
                            clear c24
                            obtain rfl := Option.some.inj H
                            go_wp2
                            go_ret
                            exact ⟨by first | rfl | (simp [errW_none, errW_some] <;> rfl) | (simp [*, errW_none, errW_some] <;> rfl), by repeat (first | (with_reducible first | exact HB.out | apply below_alloc | apply pw_below_drewN | apply below_drew1) | exact HB.out)⟩

/-- THE ONE PURE STATEMENT of laws_FnLengthBack: yours. -/
def laws_FnLengthBack.Pure : Prop := ∀ (a0 : Int) (a1 : ByteArray), (Lit.int .i64 a0).wf = true → a1.size ≤ 140737488351232 → ∃ k, laws_FnLengthBack.f k a0 a1 = some true
theorem laws_FnLengthBack.walk (P : laws_FnLengthBack.Pure) (a0 : Int) (a1 : ByteArray) (w : World) (w0 : (Lit.int .i64 a0).wf = true) (w1 : a1.size ≤ 140737488351232) (hg : GlS [1, 2, 3] w) :
    Calls Tryd.prog 4 #[.int .i64 a0, .string a1] w fun e w' => e = .returned (.bool true) ∧ Below w.heap.size w w' := by
  obtain ⟨k, h⟩ := P a0 a1 w0 w1
  refine (laws_FnLengthBack.calls k a0 a1 true w hg h).mono ?_
  rintro e w' ⟨rfl, hd⟩
  exact ⟨rfl, hd⟩

end Go.Proofs.YtdfeojkombmiaaaDoor.QA
