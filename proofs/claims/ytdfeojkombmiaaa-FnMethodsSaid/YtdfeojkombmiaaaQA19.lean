-- Printed by wip/pr.py (a program of this repo over the kit's print program). Not trusted: Lean checks it.
import Derived.Test.YtdfeojkombmiaaaQA0
import Derived.Test.YtdfeojkombmiaaaQA16
import Derived.Test.YtdfeojkombmiaaaQA17
import Derived.Test.YtdfeojkombmiaaaQA18
namespace Go.Proofs.Ytdfeojkombmiaaa.QA
open Go.Proofs.Ytdfeojkombmiaaa.PrX
open Go.RowKit Go.Proofs.YtdfeojkombmiaaaW.PrintWords Go.Proofs.YtdfeojkombmiaaaW.PrintLast Go.Proofs.YtdfeojkombmiaaaW.PrintMore
attribute [local go_sem] max2_int min2_int max_two min_two max_three min_three max_four min_four   -- for this text's walks alone
set_option linter.unusedVariables false
set_option linter.unusedSimpArgs false

/-! ### laws_FnMethods: function 7 -/
def laws_FnMethods.f (k : Nat) (a0 : ByteArray) : Option (Bool) := if (a0.size : Int) > 2147483647 then (some true) else ((laws_oneOf.f k a0 (([(⟨#[71, 69, 84]⟩ : ByteArray), (⟨#[72, 69, 65, 68]⟩ : ByteArray), (⟨#[79, 80, 84, 73, 79, 78, 83]⟩ : ByteArray), (⟨#[84, 82, 65, 67, 69]⟩ : ByteArray)] : List ByteArray))).bind fun t142 => ((impl_Safe.f (⟨#[71, 69, 84]⟩ : ByteArray)).bind fun t143 => (if t143 = true then ((impl_Idempotent.f (⟨#[80, 85, 84]⟩ : ByteArray)).bind fun t144 => (if t144 = true then ((impl_Safe.f a0).bind fun t145 => (if (t145 == t142) = true then ((impl_Idempotent.f a0).bind fun t146 => (if t142 = true then (some (t146 == true)) else ((laws_oneOf.f k a0 (([(⟨#[80, 85, 84]⟩ : ByteArray), (⟨#[68, 69, 76, 69, 84, 69]⟩ : ByteArray)] : List ByteArray))).bind fun t150 => (some (t146 == t150))))) else (some false))) else (some false))) else (some false))))
theorem laws_FnMethods.mono : ∀ a0 k, LeO (laws_FnMethods.f k a0) (laws_FnMethods.f (k + 1) a0) := by
  intro a0 k
  unfold laws_FnMethods.f
  repeat' first
      | (with_reducible exact laws_oneOf.mono _ _ _)
      | (with_reducible exact LeO.refl _)
      | (with_reducible exact LeO.none _)
      | (with_reducible refine LeO.ite ?_ ?_)
      | (with_reducible refine LeO.bind ?_ (fun _ => ?_))
      | exact laws_oneOf.mono _ _ _
      | exact LeO.none _
      | refine LeO.ite ?_ ?_
      | refine LeO.bind ?_ (fun _ => ?_)
set_option maxHeartbeats 8000000 in
set_option maxRecDepth 100000 in
theorem laws_FnMethods.calls (k : Nat) (a0 : ByteArray) (r : Bool) (w : World) (h : laws_FnMethods.f k a0 = some r) :
    Calls Try.prog 7 #[.string a0] w fun e w' => e = .returned (.bool r) ∧ Below w.heap.size w w' := by
  have HB := Aside0.mk (Below.refl w.heap.size w)
  have H : (if (a0.size : Int) > 2147483647 then (some true) else ((laws_oneOf.f k a0 (([(⟨#[71, 69, 84]⟩ : ByteArray), (⟨#[72, 69, 65, 68]⟩ : ByteArray), (⟨#[79, 80, 84, 73, 79, 78, 83]⟩ : ByteArray), (⟨#[84, 82, 65, 67, 69]⟩ : ByteArray)] : List ByteArray))).bind fun t142 => ((impl_Safe.f (⟨#[71, 69, 84]⟩ : ByteArray)).bind fun t143 => (if t143 = true then ((impl_Idempotent.f (⟨#[80, 85, 84]⟩ : ByteArray)).bind fun t144 => (if t144 = true then ((impl_Safe.f a0).bind fun t145 => (if (t145 == t142) = true then ((impl_Idempotent.f a0).bind fun t146 => (if t142 = true then (some (t146 == true)) else ((laws_oneOf.f k a0 (([(⟨#[80, 85, 84]⟩ : ByteArray), (⟨#[68, 69, 76, 69, 84, 69]⟩ : ByteArray)] : List ByteArray))).bind fun t150 => (some (t146 == t150))))) else (some false))) else (some false))) else (some false))))) = some r := h
  clear h
  by_cases c2 : (a0.size : Int) > 2147483647
  · rw [if_pos c2] at H
    have c2b0 : decide (2147483647 < (a0.size : Int)) = true := decide_eq_true c2
    have c2b1 : decide (2147483647 < a0.size) = true := decide_eq_true (by omega)
    clear c2
    obtain rfl := Option.some.inj H
    go_enter Try.func7, Try.ntmps7
    go_wp2
    go_ret
    exact ⟨by first | rfl | (simp [errW_none, errW_some] <;> rfl) | (simp [*, errW_none, errW_some] <;> rfl), by repeat (first | (with_reducible first | exact HB.out | apply below_alloc | apply pw_below_drewN | apply below_drew1) | exact HB.out)⟩
  · rw [if_neg c2] at H
    have c2b0 : decide (2147483647 < (a0.size : Int)) = false := decide_eq_false c2
    have c2b1 : decide (2147483647 < a0.size) = false := decide_eq_false (by omega)
    clear c2
    obtain ⟨y139, hy139⟩ : ∃ y_ : List ByteArray, y_ = (([(⟨#[71, 69, 84]⟩ : ByteArray), (⟨#[72, 69, 65, 68]⟩ : ByteArray), (⟨#[79, 80, 84, 73, 79, 78, 83]⟩ : ByteArray), (⟨#[84, 82, 65, 67, 69]⟩ : ByteArray)] : List ByteArray)) := ⟨_, rfl⟩
    replace H : ((laws_oneOf.f k a0 y139).bind fun t142 => ((impl_Safe.f (⟨#[71, 69, 84]⟩ : ByteArray)).bind fun t143 => (if t143 = true then ((impl_Idempotent.f (⟨#[80, 85, 84]⟩ : ByteArray)).bind fun t144 => (if t144 = true then ((impl_Safe.f a0).bind fun t145 => (if (t145 == t142) = true then ((impl_Idempotent.f a0).bind fun t146 => (if t142 = true then (some (t146 == true)) else ((laws_oneOf.f k a0 (([(⟨#[80, 85, 84]⟩ : ByteArray), (⟨#[68, 69, 76, 69, 84, 69]⟩ : ByteArray)] : List ByteArray))).bind fun t150 => (some (t146 == t150))))) else (some false))) else (some false))) else (some false)))) = some r := by first | (rw [hy139]; with_reducible exact H) | (have H2_ := (Option.bind_some _ _).symm.trans H; rw [hy139]; with_reducible exact H2_) | (have H2_ := (Option.bind_some _ _).symm.trans H; with_reducible exact H2_) | with_reducible exact H | (rw [hy139]; exact H) | exact H
    have Ny139 := Aside0.mk hy139
    clear hy139
    replace H := Option.bind_eq_some_iff.mp H
    obtain ⟨t142, A30, H⟩ := H
    replace H : ((impl_Safe.f (⟨#[71, 69, 84]⟩ : ByteArray)).bind fun t143 => (if t143 = true then ((impl_Idempotent.f (⟨#[80, 85, 84]⟩ : ByteArray)).bind fun t144 => (if t144 = true then ((impl_Safe.f a0).bind fun t145 => (if (t145 == t142) = true then ((impl_Idempotent.f a0).bind fun t146 => (if t142 = true then (some (t146 == true)) else ((laws_oneOf.f k a0 (([(⟨#[80, 85, 84]⟩ : ByteArray), (⟨#[68, 69, 76, 69, 84, 69]⟩ : ByteArray)] : List ByteArray))).bind fun t150 => (some (t146 == t150))))) else (some false))) else (some false))) else (some false))) = some r := H
    have A3 := Aside0.mk A30
    clear A30
    replace H := Option.bind_eq_some_iff.mp H
    obtain ⟨t143, A40, H⟩ := H
    replace H : (if t143 = true then ((impl_Idempotent.f (⟨#[80, 85, 84]⟩ : ByteArray)).bind fun t144 => (if t144 = true then ((impl_Safe.f a0).bind fun t145 => (if (t145 == t142) = true then ((impl_Idempotent.f a0).bind fun t146 => (if t142 = true then (some (t146 == true)) else ((laws_oneOf.f k a0 (([(⟨#[80, 85, 84]⟩ : ByteArray), (⟨#[68, 69, 76, 69, 84, 69]⟩ : ByteArray)] : List ByteArray))).bind fun t150 => (some (t146 == t150))))) else (some false))) else (some false))) else (some false)) = some r := H
    have A4 := Aside0.mk A40
    clear A40
    by_cases c5 : t143 = true
    · subst c5
      have H1 : ((impl_Idempotent.f (⟨#[80, 85, 84]⟩ : ByteArray)).bind fun t144 => (if t144 = true then ((impl_Safe.f a0).bind fun t145 => (if (t145 == t142) = true then ((impl_Idempotent.f a0).bind fun t146 => (if t142 = true then (some (t146 == true)) else ((laws_oneOf.f k a0 (([(⟨#[80, 85, 84]⟩ : ByteArray), (⟨#[68, 69, 76, 69, 84, 69]⟩ : ByteArray)] : List ByteArray))).bind fun t150 => (some (t146 == t150))))) else (some false))) else (some false))) = some r := by rw [if_pos rfl] at H; exact H
      clear H
      have H := H1
      clear H1
      replace H := Option.bind_eq_some_iff.mp H
      obtain ⟨t144, A60, H⟩ := H
      replace H : (if t144 = true then ((impl_Safe.f a0).bind fun t145 => (if (t145 == t142) = true then ((impl_Idempotent.f a0).bind fun t146 => (if t142 = true then (some (t146 == true)) else ((laws_oneOf.f k a0 (([(⟨#[80, 85, 84]⟩ : ByteArray), (⟨#[68, 69, 76, 69, 84, 69]⟩ : ByteArray)] : List ByteArray))).bind fun t150 => (some (t146 == t150))))) else (some false))) else (some false)) = some r := H
      have A6 := Aside0.mk A60
      clear A60
      by_cases c7 : t144 = true
      · subst c7
        have H1 : ((impl_Safe.f a0).bind fun t145 => (if (t145 == t142) = true then ((impl_Idempotent.f a0).bind fun t146 => (if t142 = true then (some (t146 == true)) else ((laws_oneOf.f k a0 (([(⟨#[80, 85, 84]⟩ : ByteArray), (⟨#[68, 69, 76, 69, 84, 69]⟩ : ByteArray)] : List ByteArray))).bind fun t150 => (some (t146 == t150))))) else (some false))) = some r := by rw [if_pos rfl] at H; exact H
        clear H
        have H := H1
        clear H1
        replace H := Option.bind_eq_some_iff.mp H
        obtain ⟨t145, A80, H⟩ := H
        replace H : (if (t145 == t142) = true then ((impl_Idempotent.f a0).bind fun t146 => (if t142 = true then (some (t146 == true)) else ((laws_oneOf.f k a0 (([(⟨#[80, 85, 84]⟩ : ByteArray), (⟨#[68, 69, 76, 69, 84, 69]⟩ : ByteArray)] : List ByteArray))).bind fun t150 => (some (t146 == t150))))) else (some false)) = some r := H
        have A8 := Aside0.mk A80
        clear A80
        by_cases c9 : (t145 == t142) = true
        · rw [if_pos c9] at H
          have c9b0 : (t145 == t142) = true := c9
          (try (have c9b1 : decide (t145 = t142) = true := by simpa using c9))
          (try (have c9b2 : (t145 == t142) = true := by simpa using c9))
          clear c9
          replace H := Option.bind_eq_some_iff.mp H
          obtain ⟨t146, A100, H⟩ := H
          replace H : (if t142 = true then (some (t146 == true)) else ((laws_oneOf.f k a0 (([(⟨#[80, 85, 84]⟩ : ByteArray), (⟨#[68, 69, 76, 69, 84, 69]⟩ : ByteArray)] : List ByteArray))).bind fun t150 => (some (t146 == t150)))) = some r := H
          have A10 := Aside0.mk A100
          clear A100
          by_cases c11 : t142 = true
          · subst c11
            have H1 : (some (t146 == true)) = some r := by rw [if_pos rfl] at H; exact H
            clear H
            have H := H1
            clear H1
            obtain rfl := Option.some.inj H
            go_enter Try.func7, Try.ntmps7
            go_wp2_with (first | ((with_reducible refine gate_dst (N := 8) rfl ?_); (try (refine gate_guard (by rfl) ?_; dsimp only)); refine Kd.R_lit Kd.string _ 9 ?hg (N := 8) ?hd (xs := ([(⟨#[71, 69, 84]⟩ : ByteArray), (⟨#[72, 69, 65, 68]⟩ : ByteArray), (⟨#[79, 80, 84, 73, 79, 78, 83]⟩ : ByteArray), (⟨#[84, 82, 65, 67, 69]⟩ : ByteArray)] : List ByteArray)) (inner := [.string (⟨#[71, 69, 84]⟩ : ByteArray), .string (⟨#[72, 69, 65, 68]⟩ : ByteArray), .string (⟨#[79, 80, 84, 73, 79, 78, 83]⟩ : ByteArray), .string (⟨#[84, 82, 65, 67, 69]⟩ : ByteArray)]) (ok := fun _ => True) (okp := fun _ => True) ?hr ?hp (fun _ hk => hk) trivial (Below.refl _ _) (Nat.le_refl _) (by simp) ?_; (case hd => rfl); (case hg => rfl); (case hr => first | (go_simp; done) | (go_simp; rfl)); (case hp => exact (Reps.one (show Kd.M Kd.string _ _ _ (⟨#[71, 69, 84]⟩ : ByteArray) [.string (⟨#[71, 69, 84]⟩ : ByteArray)] from rfl) (Reps.one (show Kd.M Kd.string _ _ _ (⟨#[72, 69, 65, 68]⟩ : ByteArray) [.string (⟨#[72, 69, 65, 68]⟩ : ByteArray)] from rfl) (Reps.one (show Kd.M Kd.string _ _ _ (⟨#[79, 80, 84, 73, 79, 78, 83]⟩ : ByteArray) [.string (⟨#[79, 80, 84, 73, 79, 78, 83]⟩ : ByteArray)] from rfl) (Reps.one (show Kd.M Kd.string _ _ _ (⟨#[84, 82, 65, 67, 69]⟩ : ByteArray) [.string (⟨#[84, 82, 65, 67, 69]⟩ : ByteArray)] from rfl) (Reps.none _ _)))))); intro v140 w12 ho13 hb hg_ hnew_; clear hg_ hnew_; (first | rw [← Ny139.out] at ho13 | (simp only [Int.reduceToNat] at ho13; rw [← Ny139.out] at ho13)); have n0_ := Aside0.mk (Kd.R_lower ho13 (below_size (by repeat (first | (with_reducible first | exact HB.out | apply below_alloc | apply pw_below_drewN | apply below_drew1) | exact HB.out)))); have n1_ := Aside0.mk (below_step (by repeat (first | (with_reducible first | exact HB.out | apply below_alloc | apply pw_below_drewN | apply below_drew1) | exact HB.out)) hb); clear HB; have HO141 := n0_; have HB := n1_; clear n0_ n1_; clear hb ho13; obtain ⟨Ao14, co14, eo14⟩ := Kd.R_slice HO141.out; subst eo14) | ((with_reducible refine gate_callee (f := 21) rfl ?_); refine goesL_ (some 9) rfl rfl Try.func21 (by kernel_rfl) rfl #[.string a0, .slice Ao14 y139.length co14] rfl (by (try simp only [List.map_toArray, List.map_cons, List.map_nil]); first | done | rfl | (simp only [List.length_drop, List.length_take]; rfl)) ?_; (with_reducible refine (laws_oneOf.calls k a0 _ _ y139 true _ ?side1 ?side2 A3.out).mono ?_); (case side1 => repeat (first | exact (Kd.R_reads' HO141.out).2.2 | (with_reducible refine Kd.C_alloc ?_ _) | (with_reducible refine Kd.C_drewN ?_ _) | (with_reducible refine Kd.C_drew ?_))); (case side2 => exact (Kd.R_reads' HO141.out).2.1); rintro e w' ⟨rfl, ⟨nd, rfl⟩⟩; refine ⟨_, rfl, ?_⟩) | ((with_reducible refine gate_callee (f := 22) rfl ?_); refine goesL_ (some 10) rfl rfl Try.func22 (by kernel_rfl) rfl #[.string (⟨#[71, 69, 84]⟩ : ByteArray)] rfl (by (try simp only [List.map_toArray, List.map_cons, List.map_nil]); first | done | rfl | (simp only [List.length_drop, List.length_take]; rfl)) ?_; (with_reducible refine (impl_Safe.calls (⟨#[71, 69, 84]⟩ : ByteArray) true _ A4.out).mono ?_); rintro e w' ⟨rfl, ⟨nd, rfl⟩⟩; refine ⟨_, rfl, ?_⟩) | (go_at_call 23; (with_reducible refine (impl_Idempotent.calls (⟨#[80, 85, 84]⟩ : ByteArray) true _ A6.out).mono ?_); rintro e w' ⟨rfl, ⟨nd, rfl⟩⟩) | (go_at_call 22; (with_reducible refine (impl_Safe.calls a0 t145 _ A8.out).mono ?_); rintro e w' ⟨rfl, ⟨nd, rfl⟩⟩) | (go_at_call 23; (with_reducible refine (impl_Idempotent.calls a0 t146 _ A10.out).mono ?_); rintro e w' ⟨rfl, ⟨nd, rfl⟩⟩))
            go_ret
            exact ⟨by first | rfl | (simp [errW_none, errW_some] <;> rfl) | (simp [*, errW_none, errW_some] <;> rfl), by repeat (first | (with_reducible first | exact HB.out | apply below_alloc | apply pw_below_drewN | apply below_drew1) | exact HB.out)⟩
          · replace c11 := Bool.eq_false_iff.mpr c11
            subst c11
            have H1 : ((laws_oneOf.f k a0 (([(⟨#[80, 85, 84]⟩ : ByteArray), (⟨#[68, 69, 76, 69, 84, 69]⟩ : ByteArray)] : List ByteArray))).bind fun t150 => (some (t146 == t150))) = some r := by rw [if_neg (show ¬ (false = true) by decide)] at H; exact H
            clear H
            have H := H1
            clear H1
            obtain ⟨y147, hy147⟩ : ∃ y_ : List ByteArray, y_ = (([(⟨#[80, 85, 84]⟩ : ByteArray), (⟨#[68, 69, 76, 69, 84, 69]⟩ : ByteArray)] : List ByteArray)) := ⟨_, rfl⟩
            replace H : ((laws_oneOf.f k a0 y147).bind fun t150 => (some (t146 == t150))) = some r := by first | (rw [hy147]; with_reducible exact H) | (have H2_ := (Option.bind_some _ _).symm.trans H; rw [hy147]; with_reducible exact H2_) | (have H2_ := (Option.bind_some _ _).symm.trans H; with_reducible exact H2_) | with_reducible exact H | (rw [hy147]; exact H) | exact H
            have Ny147 := Aside0.mk hy147
            clear hy147
            replace H := Option.bind_eq_some_iff.mp H
            obtain ⟨t150, A150, H⟩ := H
            replace H : (some (t146 == t150)) = some r := H
            have A15 := Aside0.mk A150
            clear A150
            obtain rfl := Option.some.inj H
            go_enter Try.func7, Try.ntmps7
            go_wp2_with (first | ((with_reducible refine gate_dst (N := 8) rfl ?_); (try (refine gate_guard (by rfl) ?_; dsimp only)); refine Kd.R_lit Kd.string _ 9 ?hg (N := 8) ?hd (xs := ([(⟨#[71, 69, 84]⟩ : ByteArray), (⟨#[72, 69, 65, 68]⟩ : ByteArray), (⟨#[79, 80, 84, 73, 79, 78, 83]⟩ : ByteArray), (⟨#[84, 82, 65, 67, 69]⟩ : ByteArray)] : List ByteArray)) (inner := [.string (⟨#[71, 69, 84]⟩ : ByteArray), .string (⟨#[72, 69, 65, 68]⟩ : ByteArray), .string (⟨#[79, 80, 84, 73, 79, 78, 83]⟩ : ByteArray), .string (⟨#[84, 82, 65, 67, 69]⟩ : ByteArray)]) (ok := fun _ => True) (okp := fun _ => True) ?hr ?hp (fun _ hk => hk) trivial (Below.refl _ _) (Nat.le_refl _) (by simp) ?_; (case hd => rfl); (case hg => rfl); (case hr => first | (go_simp; done) | (go_simp; rfl)); (case hp => exact (Reps.one (show Kd.M Kd.string _ _ _ (⟨#[71, 69, 84]⟩ : ByteArray) [.string (⟨#[71, 69, 84]⟩ : ByteArray)] from rfl) (Reps.one (show Kd.M Kd.string _ _ _ (⟨#[72, 69, 65, 68]⟩ : ByteArray) [.string (⟨#[72, 69, 65, 68]⟩ : ByteArray)] from rfl) (Reps.one (show Kd.M Kd.string _ _ _ (⟨#[79, 80, 84, 73, 79, 78, 83]⟩ : ByteArray) [.string (⟨#[79, 80, 84, 73, 79, 78, 83]⟩ : ByteArray)] from rfl) (Reps.one (show Kd.M Kd.string _ _ _ (⟨#[84, 82, 65, 67, 69]⟩ : ByteArray) [.string (⟨#[84, 82, 65, 67, 69]⟩ : ByteArray)] from rfl) (Reps.none _ _)))))); intro v140 w16 ho17 hb hg_ hnew_; clear hg_ hnew_; (first | rw [← Ny139.out] at ho17 | (simp only [Int.reduceToNat] at ho17; rw [← Ny139.out] at ho17)); have n0_ := Aside0.mk (Kd.R_lower ho17 (below_size (by repeat (first | (with_reducible first | exact HB.out | apply below_alloc | apply pw_below_drewN | apply below_drew1) | exact HB.out)))); have n1_ := Aside0.mk (below_step (by repeat (first | (with_reducible first | exact HB.out | apply below_alloc | apply pw_below_drewN | apply below_drew1) | exact HB.out)) hb); clear HB; have HO141 := n0_; have HB := n1_; clear n0_ n1_; clear hb ho17; obtain ⟨Ao18, co18, eo18⟩ := Kd.R_slice HO141.out; subst eo18) | ((with_reducible refine gate_callee (f := 21) rfl ?_); refine goesL_ (some 9) rfl rfl Try.func21 (by kernel_rfl) rfl #[.string a0, .slice Ao18 y139.length co18] rfl (by (try simp only [List.map_toArray, List.map_cons, List.map_nil]); first | done | rfl | (simp only [List.length_drop, List.length_take]; rfl)) ?_; (with_reducible refine (laws_oneOf.calls k a0 _ _ y139 false _ ?side1 ?side2 A3.out).mono ?_); (case side1 => repeat (first | exact (Kd.R_reads' HO141.out).2.2 | (with_reducible refine Kd.C_alloc ?_ _) | (with_reducible refine Kd.C_drewN ?_ _) | (with_reducible refine Kd.C_drew ?_))); (case side2 => exact (Kd.R_reads' HO141.out).2.1); rintro e w' ⟨rfl, ⟨nd, rfl⟩⟩; refine ⟨_, rfl, ?_⟩) | ((with_reducible refine gate_callee (f := 22) rfl ?_); refine goesL_ (some 10) rfl rfl Try.func22 (by kernel_rfl) rfl #[.string (⟨#[71, 69, 84]⟩ : ByteArray)] rfl (by (try simp only [List.map_toArray, List.map_cons, List.map_nil]); first | done | rfl | (simp only [List.length_drop, List.length_take]; rfl)) ?_; (with_reducible refine (impl_Safe.calls (⟨#[71, 69, 84]⟩ : ByteArray) true _ A4.out).mono ?_); rintro e w' ⟨rfl, ⟨nd, rfl⟩⟩; refine ⟨_, rfl, ?_⟩) | (go_at_call 23; (with_reducible refine (impl_Idempotent.calls (⟨#[80, 85, 84]⟩ : ByteArray) true _ A6.out).mono ?_); rintro e w' ⟨rfl, ⟨nd, rfl⟩⟩) | (go_at_call 22; (with_reducible refine (impl_Safe.calls a0 t145 _ A8.out).mono ?_); rintro e w' ⟨rfl, ⟨nd, rfl⟩⟩) | (go_at_call 23; (with_reducible refine (impl_Idempotent.calls a0 t146 _ A10.out).mono ?_); rintro e w' ⟨rfl, ⟨nd, rfl⟩⟩) | ((with_reducible refine gate_dst (N := 26) rfl ?_); (try (refine gate_guard (by rfl) ?_; dsimp only)); refine Kd.R_lit Kd.string _ 9 ?hg (N := 26) ?hd (xs := ([(⟨#[80, 85, 84]⟩ : ByteArray), (⟨#[68, 69, 76, 69, 84, 69]⟩ : ByteArray)] : List ByteArray)) (inner := [.string (⟨#[80, 85, 84]⟩ : ByteArray), .string (⟨#[68, 69, 76, 69, 84, 69]⟩ : ByteArray)]) (ok := fun _ => True) (okp := fun _ => True) ?hr ?hp (fun _ hk => hk) trivial (Below.refl _ _) (Nat.le_refl _) (by simp) ?_; (case hd => rfl); (case hg => rfl); (case hr => first | (go_simp; done) | (go_simp; rfl)); (case hp => exact (Reps.one (show Kd.M Kd.string _ _ _ (⟨#[80, 85, 84]⟩ : ByteArray) [.string (⟨#[80, 85, 84]⟩ : ByteArray)] from rfl) (Reps.one (show Kd.M Kd.string _ _ _ (⟨#[68, 69, 76, 69, 84, 69]⟩ : ByteArray) [.string (⟨#[68, 69, 76, 69, 84, 69]⟩ : ByteArray)] from rfl) (Reps.none _ _)))); intro v148 w19 ho20 hb hg_ hnew_; clear hg_ hnew_; (first | rw [← Ny147.out] at ho20 | (simp only [Int.reduceToNat] at ho20; rw [← Ny147.out] at ho20)); have n0_ := Aside0.mk (Kd.R_elder' (by (with_reducible repeat (first | apply Kd.R_alloc | apply Kd.R_drewN | apply Kd.R_drew)); exact HO141.out) (Kd.R_base ho20) hb); have n1_ := Aside0.mk (Kd.R_lower (Kd.R_new' ho20 (Kd.R_lt (by (with_reducible repeat (first | apply Kd.R_alloc | apply Kd.R_drewN | apply Kd.R_drew)); exact HO141.out))) (below_size (by repeat (first | (with_reducible first | exact HB.out | apply below_alloc | apply pw_below_drewN | apply below_drew1) | exact HB.out)))); have n2_ := Aside0.mk (below_step (by repeat (first | (with_reducible first | exact HB.out | apply below_alloc | apply pw_below_drewN | apply below_drew1) | exact HB.out)) hb); clear HO141; clear HB; have HO141 := n0_; have HO149 := n1_; have HB := n2_; clear n0_ n1_ n2_; clear hb ho20; obtain ⟨Ao21, co21, eo21⟩ := Kd.R_slice HO149.out; subst eo21) | (go_at_call 21; (with_reducible refine (laws_oneOf.calls k a0 _ _ y147 t150 _ ?side1 ?side2 A15.out).mono ?_); (case side1 => repeat (first | exact (Kd.R_reads' HO149.out).2.2 | (with_reducible refine Kd.C_alloc ?_ _) | (with_reducible refine Kd.C_drewN ?_ _) | (with_reducible refine Kd.C_drew ?_))); (case side2 => exact (Kd.R_reads' HO149.out).2.1); rintro e w' ⟨rfl, ⟨nd, rfl⟩⟩))
            go_ret
            exact ⟨by first | rfl | (simp [errW_none, errW_some] <;> rfl) | (simp [*, errW_none, errW_some] <;> rfl), by repeat (first | (with_reducible first | exact HB.out | apply below_alloc | apply pw_below_drewN | apply below_drew1) | exact HB.out)⟩
        · rw [if_neg c9] at H
          have c9b0 : (t145 == t142) = false := by simpa using c9
          (try (have c9b1 : decide (t145 = t142) = false := by simpa using c9))
          (try (have c9b2 : (t145 == t142) = false := by simpa using c9))
          (try (have c9b3 : ¬ (t145 = t142) := by simpa using c9))
          clear c9
          obtain rfl := Option.some.inj H
          go_enter Try.func7, Try.ntmps7
          go_wp2_with (first | ((with_reducible refine gate_dst (N := 8) rfl ?_); (try (refine gate_guard (by rfl) ?_; dsimp only)); refine Kd.R_lit Kd.string _ 9 ?hg (N := 8) ?hd (xs := ([(⟨#[71, 69, 84]⟩ : ByteArray), (⟨#[72, 69, 65, 68]⟩ : ByteArray), (⟨#[79, 80, 84, 73, 79, 78, 83]⟩ : ByteArray), (⟨#[84, 82, 65, 67, 69]⟩ : ByteArray)] : List ByteArray)) (inner := [.string (⟨#[71, 69, 84]⟩ : ByteArray), .string (⟨#[72, 69, 65, 68]⟩ : ByteArray), .string (⟨#[79, 80, 84, 73, 79, 78, 83]⟩ : ByteArray), .string (⟨#[84, 82, 65, 67, 69]⟩ : ByteArray)]) (ok := fun _ => True) (okp := fun _ => True) ?hr ?hp (fun _ hk => hk) trivial (Below.refl _ _) (Nat.le_refl _) (by simp) ?_; (case hd => rfl); (case hg => rfl); (case hr => first | (go_simp; done) | (go_simp; rfl)); (case hp => exact (Reps.one (show Kd.M Kd.string _ _ _ (⟨#[71, 69, 84]⟩ : ByteArray) [.string (⟨#[71, 69, 84]⟩ : ByteArray)] from rfl) (Reps.one (show Kd.M Kd.string _ _ _ (⟨#[72, 69, 65, 68]⟩ : ByteArray) [.string (⟨#[72, 69, 65, 68]⟩ : ByteArray)] from rfl) (Reps.one (show Kd.M Kd.string _ _ _ (⟨#[79, 80, 84, 73, 79, 78, 83]⟩ : ByteArray) [.string (⟨#[79, 80, 84, 73, 79, 78, 83]⟩ : ByteArray)] from rfl) (Reps.one (show Kd.M Kd.string _ _ _ (⟨#[84, 82, 65, 67, 69]⟩ : ByteArray) [.string (⟨#[84, 82, 65, 67, 69]⟩ : ByteArray)] from rfl) (Reps.none _ _)))))); intro v140 w22 ho23 hb hg_ hnew_; clear hg_ hnew_; (first | rw [← Ny139.out] at ho23 | (simp only [Int.reduceToNat] at ho23; rw [← Ny139.out] at ho23)); have n0_ := Aside0.mk (Kd.R_lower ho23 (below_size (by repeat (first | (with_reducible first | exact HB.out | apply below_alloc | apply pw_below_drewN | apply below_drew1) | exact HB.out)))); have n1_ := Aside0.mk (below_step (by repeat (first | (with_reducible first | exact HB.out | apply below_alloc | apply pw_below_drewN | apply below_drew1) | exact HB.out)) hb); clear HB; have HO141 := n0_; have HB := n1_; clear n0_ n1_; clear hb ho23; obtain ⟨Ao24, co24, eo24⟩ := Kd.R_slice HO141.out; subst eo24) | ((with_reducible refine gate_callee (f := 21) rfl ?_); refine goesL_ (some 9) rfl rfl Try.func21 (by kernel_rfl) rfl #[.string a0, .slice Ao24 y139.length co24] rfl (by (try simp only [List.map_toArray, List.map_cons, List.map_nil]); first | done | rfl | (simp only [List.length_drop, List.length_take]; rfl)) ?_; (with_reducible refine (laws_oneOf.calls k a0 _ _ y139 t142 _ ?side1 ?side2 A3.out).mono ?_); (case side1 => repeat (first | exact (Kd.R_reads' HO141.out).2.2 | (with_reducible refine Kd.C_alloc ?_ _) | (with_reducible refine Kd.C_drewN ?_ _) | (with_reducible refine Kd.C_drew ?_))); (case side2 => exact (Kd.R_reads' HO141.out).2.1); rintro e w' ⟨rfl, ⟨nd, rfl⟩⟩; refine ⟨_, rfl, ?_⟩) | ((with_reducible refine gate_callee (f := 22) rfl ?_); refine goesL_ (some 10) rfl rfl Try.func22 (by kernel_rfl) rfl #[.string (⟨#[71, 69, 84]⟩ : ByteArray)] rfl (by (try simp only [List.map_toArray, List.map_cons, List.map_nil]); first | done | rfl | (simp only [List.length_drop, List.length_take]; rfl)) ?_; (with_reducible refine (impl_Safe.calls (⟨#[71, 69, 84]⟩ : ByteArray) true _ A4.out).mono ?_); rintro e w' ⟨rfl, ⟨nd, rfl⟩⟩; refine ⟨_, rfl, ?_⟩) | (go_at_call 23; (with_reducible refine (impl_Idempotent.calls (⟨#[80, 85, 84]⟩ : ByteArray) true _ A6.out).mono ?_); rintro e w' ⟨rfl, ⟨nd, rfl⟩⟩) | (go_at_call 22; (with_reducible refine (impl_Safe.calls a0 t145 _ A8.out).mono ?_); rintro e w' ⟨rfl, ⟨nd, rfl⟩⟩))
          go_ret
          exact ⟨by first | rfl | (simp [errW_none, errW_some] <;> rfl) | (simp [*, errW_none, errW_some] <;> rfl), by repeat (first | (with_reducible first | exact HB.out | apply below_alloc | apply pw_below_drewN | apply below_drew1) | exact HB.out)⟩
      · replace c7 := Bool.eq_false_iff.mpr c7
        subst c7
        have H1 : (some false) = some r := by rw [if_neg (show ¬ (false = true) by decide)] at H; exact H
        clear H
        have H := H1
        clear H1
        obtain rfl := Option.some.inj H
        go_enter Try.func7, Try.ntmps7
        go_wp2_with (first | ((with_reducible refine gate_dst (N := 8) rfl ?_); (try (refine gate_guard (by rfl) ?_; dsimp only)); refine Kd.R_lit Kd.string _ 9 ?hg (N := 8) ?hd (xs := ([(⟨#[71, 69, 84]⟩ : ByteArray), (⟨#[72, 69, 65, 68]⟩ : ByteArray), (⟨#[79, 80, 84, 73, 79, 78, 83]⟩ : ByteArray), (⟨#[84, 82, 65, 67, 69]⟩ : ByteArray)] : List ByteArray)) (inner := [.string (⟨#[71, 69, 84]⟩ : ByteArray), .string (⟨#[72, 69, 65, 68]⟩ : ByteArray), .string (⟨#[79, 80, 84, 73, 79, 78, 83]⟩ : ByteArray), .string (⟨#[84, 82, 65, 67, 69]⟩ : ByteArray)]) (ok := fun _ => True) (okp := fun _ => True) ?hr ?hp (fun _ hk => hk) trivial (Below.refl _ _) (Nat.le_refl _) (by simp) ?_; (case hd => rfl); (case hg => rfl); (case hr => first | (go_simp; done) | (go_simp; rfl)); (case hp => exact (Reps.one (show Kd.M Kd.string _ _ _ (⟨#[71, 69, 84]⟩ : ByteArray) [.string (⟨#[71, 69, 84]⟩ : ByteArray)] from rfl) (Reps.one (show Kd.M Kd.string _ _ _ (⟨#[72, 69, 65, 68]⟩ : ByteArray) [.string (⟨#[72, 69, 65, 68]⟩ : ByteArray)] from rfl) (Reps.one (show Kd.M Kd.string _ _ _ (⟨#[79, 80, 84, 73, 79, 78, 83]⟩ : ByteArray) [.string (⟨#[79, 80, 84, 73, 79, 78, 83]⟩ : ByteArray)] from rfl) (Reps.one (show Kd.M Kd.string _ _ _ (⟨#[84, 82, 65, 67, 69]⟩ : ByteArray) [.string (⟨#[84, 82, 65, 67, 69]⟩ : ByteArray)] from rfl) (Reps.none _ _)))))); intro v140 w25 ho26 hb hg_ hnew_; clear hg_ hnew_; (first | rw [← Ny139.out] at ho26 | (simp only [Int.reduceToNat] at ho26; rw [← Ny139.out] at ho26)); have n0_ := Aside0.mk (Kd.R_lower ho26 (below_size (by repeat (first | (with_reducible first | exact HB.out | apply below_alloc | apply pw_below_drewN | apply below_drew1) | exact HB.out)))); have n1_ := Aside0.mk (below_step (by repeat (first | (with_reducible first | exact HB.out | apply below_alloc | apply pw_below_drewN | apply below_drew1) | exact HB.out)) hb); clear HB; have HO141 := n0_; have HB := n1_; clear n0_ n1_; clear hb ho26; obtain ⟨Ao27, co27, eo27⟩ := Kd.R_slice HO141.out; subst eo27) | ((with_reducible refine gate_callee (f := 21) rfl ?_); refine goesL_ (some 9) rfl rfl Try.func21 (by kernel_rfl) rfl #[.string a0, .slice Ao27 y139.length co27] rfl (by (try simp only [List.map_toArray, List.map_cons, List.map_nil]); first | done | rfl | (simp only [List.length_drop, List.length_take]; rfl)) ?_; (with_reducible refine (laws_oneOf.calls k a0 _ _ y139 t142 _ ?side1 ?side2 A3.out).mono ?_); (case side1 => repeat (first | exact (Kd.R_reads' HO141.out).2.2 | (with_reducible refine Kd.C_alloc ?_ _) | (with_reducible refine Kd.C_drewN ?_ _) | (with_reducible refine Kd.C_drew ?_))); (case side2 => exact (Kd.R_reads' HO141.out).2.1); rintro e w' ⟨rfl, ⟨nd, rfl⟩⟩; refine ⟨_, rfl, ?_⟩) | ((with_reducible refine gate_callee (f := 22) rfl ?_); refine goesL_ (some 10) rfl rfl Try.func22 (by kernel_rfl) rfl #[.string (⟨#[71, 69, 84]⟩ : ByteArray)] rfl (by (try simp only [List.map_toArray, List.map_cons, List.map_nil]); first | done | rfl | (simp only [List.length_drop, List.length_take]; rfl)) ?_; (with_reducible refine (impl_Safe.calls (⟨#[71, 69, 84]⟩ : ByteArray) true _ A4.out).mono ?_); rintro e w' ⟨rfl, ⟨nd, rfl⟩⟩; refine ⟨_, rfl, ?_⟩) | (go_at_call 23; (with_reducible refine (impl_Idempotent.calls (⟨#[80, 85, 84]⟩ : ByteArray) false _ A6.out).mono ?_); rintro e w' ⟨rfl, ⟨nd, rfl⟩⟩))
        go_ret
        exact ⟨by first | rfl | (simp [errW_none, errW_some] <;> rfl) | (simp [*, errW_none, errW_some] <;> rfl), by repeat (first | (with_reducible first | exact HB.out | apply below_alloc | apply pw_below_drewN | apply below_drew1) | exact HB.out)⟩
    · replace c5 := Bool.eq_false_iff.mpr c5
      subst c5
      have H1 : (some false) = some r := by rw [if_neg (show ¬ (false = true) by decide)] at H; exact H
      clear H
      have H := H1
      clear H1
      obtain rfl := Option.some.inj H
      go_enter Try.func7, Try.ntmps7
      go_wp2_with (first | ((with_reducible refine gate_dst (N := 8) rfl ?_); (try (refine gate_guard (by rfl) ?_; dsimp only)); refine Kd.R_lit Kd.string _ 9 ?hg (N := 8) ?hd (xs := ([(⟨#[71, 69, 84]⟩ : ByteArray), (⟨#[72, 69, 65, 68]⟩ : ByteArray), (⟨#[79, 80, 84, 73, 79, 78, 83]⟩ : ByteArray), (⟨#[84, 82, 65, 67, 69]⟩ : ByteArray)] : List ByteArray)) (inner := [.string (⟨#[71, 69, 84]⟩ : ByteArray), .string (⟨#[72, 69, 65, 68]⟩ : ByteArray), .string (⟨#[79, 80, 84, 73, 79, 78, 83]⟩ : ByteArray), .string (⟨#[84, 82, 65, 67, 69]⟩ : ByteArray)]) (ok := fun _ => True) (okp := fun _ => True) ?hr ?hp (fun _ hk => hk) trivial (Below.refl _ _) (Nat.le_refl _) (by simp) ?_; (case hd => rfl); (case hg => rfl); (case hr => first | (go_simp; done) | (go_simp; rfl)); (case hp => exact (Reps.one (show Kd.M Kd.string _ _ _ (⟨#[71, 69, 84]⟩ : ByteArray) [.string (⟨#[71, 69, 84]⟩ : ByteArray)] from rfl) (Reps.one (show Kd.M Kd.string _ _ _ (⟨#[72, 69, 65, 68]⟩ : ByteArray) [.string (⟨#[72, 69, 65, 68]⟩ : ByteArray)] from rfl) (Reps.one (show Kd.M Kd.string _ _ _ (⟨#[79, 80, 84, 73, 79, 78, 83]⟩ : ByteArray) [.string (⟨#[79, 80, 84, 73, 79, 78, 83]⟩ : ByteArray)] from rfl) (Reps.one (show Kd.M Kd.string _ _ _ (⟨#[84, 82, 65, 67, 69]⟩ : ByteArray) [.string (⟨#[84, 82, 65, 67, 69]⟩ : ByteArray)] from rfl) (Reps.none _ _)))))); intro v140 w28 ho29 hb hg_ hnew_; clear hg_ hnew_; (first | rw [← Ny139.out] at ho29 | (simp only [Int.reduceToNat] at ho29; rw [← Ny139.out] at ho29)); have n0_ := Aside0.mk (Kd.R_lower ho29 (below_size (by repeat (first | (with_reducible first | exact HB.out | apply below_alloc | apply pw_below_drewN | apply below_drew1) | exact HB.out)))); have n1_ := Aside0.mk (below_step (by repeat (first | (with_reducible first | exact HB.out | apply below_alloc | apply pw_below_drewN | apply below_drew1) | exact HB.out)) hb); clear HB; have HO141 := n0_; have HB := n1_; clear n0_ n1_; clear hb ho29; obtain ⟨Ao30, co30, eo30⟩ := Kd.R_slice HO141.out; subst eo30) | ((with_reducible refine gate_callee (f := 21) rfl ?_); refine goesL_ (some 9) rfl rfl Try.func21 (by kernel_rfl) rfl #[.string a0, .slice Ao30 y139.length co30] rfl (by (try simp only [List.map_toArray, List.map_cons, List.map_nil]); first | done | rfl | (simp only [List.length_drop, List.length_take]; rfl)) ?_; (with_reducible refine (laws_oneOf.calls k a0 _ _ y139 t142 _ ?side1 ?side2 A3.out).mono ?_); (case side1 => repeat (first | exact (Kd.R_reads' HO141.out).2.2 | (with_reducible refine Kd.C_alloc ?_ _) | (with_reducible refine Kd.C_drewN ?_ _) | (with_reducible refine Kd.C_drew ?_))); (case side2 => exact (Kd.R_reads' HO141.out).2.1); rintro e w' ⟨rfl, ⟨nd, rfl⟩⟩; refine ⟨_, rfl, ?_⟩) | ((with_reducible refine gate_callee (f := 22) rfl ?_); refine goesL_ (some 10) rfl rfl Try.func22 (by kernel_rfl) rfl #[.string (⟨#[71, 69, 84]⟩ : ByteArray)] rfl (by (try simp only [List.map_toArray, List.map_cons, List.map_nil]); first | done | rfl | (simp only [List.length_drop, List.length_take]; rfl)) ?_; (with_reducible refine (impl_Safe.calls (⟨#[71, 69, 84]⟩ : ByteArray) false _ A4.out).mono ?_); rintro e w' ⟨rfl, ⟨nd, rfl⟩⟩; refine ⟨_, rfl, ?_⟩))
      go_ret
      exact ⟨by first | rfl | (simp [errW_none, errW_some] <;> rfl) | (simp [*, errW_none, errW_some] <;> rfl), by repeat (first | (with_reducible first | exact HB.out | apply below_alloc | apply pw_below_drewN | apply below_drew1) | exact HB.out)⟩

/-- THE ONE PURE STATEMENT of laws_FnMethods: yours. -/
def laws_FnMethods.Pure : Prop := ∀ (a0 : ByteArray), a0.size ≤ 140737488351232 → ∃ k, laws_FnMethods.f k a0 = some true
theorem laws_FnMethods.walk (P : laws_FnMethods.Pure) (a0 : ByteArray) (w : World) (w0 : a0.size ≤ 140737488351232) :
    Calls Try.prog 7 #[.string a0] w fun e w' => e = .returned (.bool true) ∧ Below w.heap.size w w' := by
  obtain ⟨k, h⟩ := P a0 w0
  refine (laws_FnMethods.calls k a0 true w h).mono ?_
  rintro e w' ⟨rfl, hd⟩
  exact ⟨rfl, hd⟩

end Go.Proofs.Ytdfeojkombmiaaa.QA
