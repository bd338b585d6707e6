/- Printed by wip/pr.py (a program of this repo over the print program of the kit). Not trusted: Lean checks it. -/
import Derived.Test.YtjnnadpecendpaaQA0
import Derived.Test.YtjnnadpecendpaaQA1
import Derived.Test.YtjnnadpecendpaaQA3
import Derived.Test.YtjnnadpecendpaaQA4
import Derived.Test.YtjnnadpecendpaaGBoundF
import Derived.Test.YtjnnadpecendpaaGBoundT
namespace Go.Proofs.Ytjnnadpecendpaa.QA
open Go.Proofs.Ytjnnadpecendpaa.Given
open Go.Proofs.Ytjnnadpecendpaa.PrX
open Go.RowKit Go.Proofs.YtjnnadpecendpaaW.PrintWords Go.Proofs.YtjnnadpecendpaaW.PrintLast Go.Proofs.YtjnnadpecendpaaW.PrintMore
attribute [local go_sem] max2_int min2_int max_two min_two max_three min_three max_four min_four   -- for this text's walks alone
set_option linter.unusedVariables false
set_option linter.unusedSimpArgs false

/-! ### laws_FnBoundary: function 4 -/
def laws_FnBoundary.j0 : Nat → ByteArray → Bool → Option (Bool)
  | 0, _, _ => none
  | k + 1, x0, x18 => if x18 = true then (some true) else ((impl_BoundaryType.f x0).bind fun t117 => ((impl_Boundary.f t117).bind fun t118 => (if t118.toList = x0.toList then ((laws_begins.f t117 (⟨#[109, 117, 108, 116, 105, 112, 97, 114, 116, 47, 102, 111, 114, 109, 45, 100, 97, 116, 97]⟩ : ByteArray)).bind fun t119 => (if t119 = true then (if t117.size + 11 ≤ 9223372036854775807 then ((impl_Boundary.f (t117 ++ (⟨#[59, 32, 99, 104, 97, 114, 115, 101, 116, 61, 120]⟩ : ByteArray))).bind fun t120 => (if t120.toList = x0.toList then ((impl_Boundary.f (⟨#[116, 101, 120, 116, 47, 112, 108, 97, 105, 110]⟩ : ByteArray)).bind fun t121 => (some (t121.toList == ([] : List UInt8)))) else (some false))) else (none)) else (some false))) else (some false))))
def laws_FnBoundary.f (k : Nat) (a0 : ByteArray) : Option (Bool) := if (a0.size : Int) > 2147483647 then (some true) else ((impl_BoundaryType.f (⟨#[97, 98]⟩ : ByteArray)).bind fun t110 => ((impl_Boundary.f t110).bind fun t111 => (if t111.toList = ([97, 98] : List UInt8) then ((laws_word.f k a0).bind fun t112 => (if t112 = true then ((laws_short.f k (([a0] : List ByteArray))).bind fun t116 => (laws_FnBoundary.j0 k a0 (!t116))) else (laws_FnBoundary.j0 k a0 true))) else (some false))))
theorem laws_FnBoundary.mono_l : ∀ k, (∀ y0 y1, LeO (laws_FnBoundary.j0 k y0 y1) (laws_FnBoundary.j0 (k + 1) y0 y1))
  | 0 => fun _ _ r h => by simp [laws_FnBoundary.j0] at h
  | k + 1 => by
    have ih0 := laws_FnBoundary.mono_l k
    · intro y0 y1
      unfold laws_FnBoundary.j0
      repeat' first
      | (with_reducible exact ih0 _ _)
      | (with_reducible exact laws_short.mono _ _)
      | (with_reducible exact laws_word.mono _ _)
      | (with_reducible exact LeO.refl _)
      | (with_reducible exact LeO.none _)
      | (with_reducible refine LeO.ite ?_ ?_)
      | (with_reducible refine LeO.bind ?_ (fun _ => ?_))
      | exact ih0 _ _
      | exact laws_short.mono _ _
      | exact laws_word.mono _ _
      | exact LeO.none _
      | refine LeO.ite ?_ ?_
      | refine LeO.bind ?_ (fun _ => ?_)
theorem laws_FnBoundary.mono : ∀ a0 k, LeO (laws_FnBoundary.f k a0) (laws_FnBoundary.f (k + 1) a0) := by
  intro a0 k
  have ih0 := laws_FnBoundary.mono_l k
  unfold laws_FnBoundary.f
  repeat' first
      | (with_reducible exact ih0 _ _)
      | (with_reducible exact laws_short.mono _ _)
      | (with_reducible exact laws_word.mono _ _)
      | (with_reducible exact LeO.refl _)
      | (with_reducible exact LeO.none _)
      | (with_reducible refine LeO.ite ?_ ?_)
      | (with_reducible refine LeO.bind ?_ (fun _ => ?_))
      | exact ih0 _ _
      | exact laws_short.mono _ _
      | exact laws_word.mono _ _
      | exact LeO.none _
      | refine LeO.ite ?_ ?_
      | refine LeO.bind ?_ (fun _ => ?_)
set_option maxHeartbeats 8000000 in
set_option maxRecDepth 100000 in
theorem laws_FnBoundary.calls (k : Nat) (a0 : ByteArray) (r : Bool) (w : World) (h : laws_FnBoundary.f k a0 = some r) :
    Calls Try.prog 4 #[.string a0] w fun e w' => e = .returned (.bool r) ∧ Below w.heap.size w w' := by
  have HB := Aside0.mk (Below.refl w.heap.size w)
  have H : (if (a0.size : Int) > 2147483647 then (some true) else ((impl_BoundaryType.f (⟨#[97, 98]⟩ : ByteArray)).bind fun t110 => ((impl_Boundary.f t110).bind fun t111 => (if t111.toList = ([97, 98] : List UInt8) then ((laws_word.f k a0).bind fun t112 => (if t112 = true then ((laws_short.f k (([a0] : List ByteArray))).bind fun t116 => (laws_FnBoundary.j0 k a0 (!t116))) else (laws_FnBoundary.j0 k a0 true))) else (some false))))) = some r := h
  clear h
  by_cases c2 : (a0.size : Int) > 2147483647
  · rw [if_pos c2] at H
    have c2b0 : decide (2147483647 < (a0.size : Int)) = true := decide_eq_true c2
    have c2b1 : decide (2147483647 < a0.size) = true := decide_eq_true (by omega)
    clear c2
    obtain rfl := Option.some.inj H
    go_enter Try.func4, Try.ntmps4
    go_wp2
    go_ret
    exact ⟨by first | rfl | (simp [errW_none, errW_some] <;> rfl) | (simp [*, errW_none, errW_some] <;> rfl), by repeat (first | (with_reducible first | exact HB.out | apply below_alloc | apply pw_below_drewN | apply below_drew1) | exact HB.out)⟩
  · rw [if_neg c2] at H
    have c2b0 : decide (2147483647 < (a0.size : Int)) = false := decide_eq_false c2
    have c2b1 : decide (2147483647 < a0.size) = false := decide_eq_false (by omega)
    clear c2
    replace H := Option.bind_eq_some_iff.mp H
    obtain ⟨t110, A30, H⟩ := H
    replace H : ((impl_Boundary.f t110).bind fun t111 => (if t111.toList = ([97, 98] : List UInt8) then ((laws_word.f k a0).bind fun t112 => (if t112 = true then ((laws_short.f k (([a0] : List ByteArray))).bind fun t116 => (laws_FnBoundary.j0 k a0 (!t116))) else (laws_FnBoundary.j0 k a0 true))) else (some false))) = some r := H
    have A3 := Aside0.mk A30
    clear A30
    replace H := Option.bind_eq_some_iff.mp H
    obtain ⟨t111, A40, H⟩ := H
    replace H : (if t111.toList = ([97, 98] : List UInt8) then ((laws_word.f k a0).bind fun t112 => (if t112 = true then ((laws_short.f k (([a0] : List ByteArray))).bind fun t116 => (laws_FnBoundary.j0 k a0 (!t116))) else (laws_FnBoundary.j0 k a0 true))) else (some false)) = some r := H
    have A4 := Aside0.mk A40
    clear A40
    by_cases c5 : t111.toList = ([97, 98] : List UInt8)
    · rw [if_pos c5] at H
      have c5b0 : (t111.toList == ([97, 98] : List UInt8)) = true := beq_iff_eq.mpr c5
      have c5b1 : (t111.toList != ([97, 98] : List UInt8)) = false := bne_eq_false_iff_eq.mpr c5
      clear c5
      have HC6 := Aside0.mk H
      clear H
      go_enter Try.func4, Try.ntmps4
      go_upto_region 5 with (first | ((with_reducible refine gate_callee (f := 16) rfl ?_); refine goesL_ (some 7) rfl rfl Try.func16 (by kernel_rfl) rfl #[.string (⟨#[97, 98]⟩ : ByteArray)] rfl (by (try simp only [List.map_toArray, List.map_cons, List.map_nil]); first | done | rfl | (simp only [List.length_drop, List.length_take]; rfl)) ?_; (with_reducible refine (impl_BoundaryType.calls (⟨#[97, 98]⟩ : ByteArray) t110 _ A3.out).mono ?_); rintro e w7 ⟨rfl, hb⟩; refine ⟨_, rfl, ?_⟩; have n0_ := Aside0.mk (below_step (by repeat (first | (with_reducible first | exact HB.out | apply below_alloc | apply pw_below_drewN | apply below_drew1) | exact HB.out)) hb); clear HB; have HB := n0_; clear n0_; (try clear hb); (try clear hb2); (try clear hk); (try clear hi)) | ((with_reducible refine gate_callee (f := 15) rfl ?_); refine goesL_ (some 8) rfl rfl Try.func15 (by kernel_rfl) rfl #[.string t110] rfl (by (try simp only [List.map_toArray, List.map_cons, List.map_nil]); first | done | rfl | (simp only [List.length_drop, List.length_take]; rfl)) ?_; (with_reducible refine (impl_Boundary.calls t110 t111 _ A4.out).mono ?_); rintro e w8 ⟨rfl, hb⟩; refine ⟨_, rfl, ?_⟩; have n0_ := Aside0.mk (below_step (by repeat (first | (with_reducible first | exact HB.out | apply below_alloc | apply pw_below_drewN | apply below_drew1) | exact HB.out)) hb); clear HB; have HB := n0_; clear n0_; (try clear hb); (try clear hb2); (try clear hk); (try clear hi)))
      (try simp only [Act.put, List.setIfInBounds_toArray, List.set_cons_zero, List.set_cons_succ])
      go_cut [18] (fun v18 wc => ∃ (kq : Nat) (x18_5 : Bool), v18 = .bool x18_5 ∧ Aside0 (laws_FnBoundary.j0 kq a0 x18_5 = some r) ∧ Aside0 (kq ≤ k) ∧ Aside0 (Below w.heap.size w wc))
      case first =>
        have H := HC6.out
        clear HC6
        replace H := Option.bind_eq_some_iff.mp H
        obtain ⟨t112, A90, H⟩ := H
        replace H : (if t112 = true then ((laws_short.f k (([a0] : List ByteArray))).bind fun t116 => (laws_FnBoundary.j0 k a0 (!t116))) else (laws_FnBoundary.j0 k a0 true)) = some r := H
        have A9 := Aside0.mk A90
        clear A90
        by_cases c10 : t112 = true
        · subst c10
          have H1 : ((laws_short.f k (([a0] : List ByteArray))).bind fun t116 => (laws_FnBoundary.j0 k a0 (!t116))) = some r := by rw [if_pos rfl] at H; exact H
          clear H
          have H := H1
          clear H1
          obtain ⟨y113, hy113⟩ : ∃ y_ : List ByteArray, y_ = (([a0] : List ByteArray)) := ⟨_, rfl⟩
          replace H : ((laws_short.f k y113).bind fun t116 => (laws_FnBoundary.j0 k a0 (!t116))) = some r := by first | (rw [hy113]; with_reducible exact H) | (have H2_ := (Option.bind_some _ _).symm.trans H; rw [hy113]; with_reducible exact H2_) | (have H2_ := (Option.bind_some _ _).symm.trans H; with_reducible exact H2_) | with_reducible exact H | (rw [hy113]; exact H) | exact H
          have Ny113 := Aside0.mk hy113
          clear hy113
          replace H := Option.bind_eq_some_iff.mp H
          obtain ⟨t116, A110, H⟩ := H
          replace H : (laws_FnBoundary.j0 k a0 (!t116)) = some r := H
          have A11 := Aside0.mk A110
          clear A110
          have H' := Aside0.mk H
          clear H
          go_wp2_with (first | ((with_reducible refine gate_callee (f := 17) rfl ?_); refine goesL_ (some 11) rfl rfl Try.func17 (by kernel_rfl) rfl #[.string a0] rfl (by (try simp only [List.map_toArray, List.map_cons, List.map_nil]); first | done | rfl | (simp only [List.length_drop, List.length_take]; rfl)) ?_; (with_reducible refine (laws_word.calls k a0 true _ A9.out).mono ?_); rintro e w' ⟨rfl, ⟨nd, rfl⟩⟩; refine ⟨_, rfl, ?_⟩) | ((with_reducible refine gate_dst (N := 15) rfl ?_); (try (refine gate_guard (by rfl) ?_; dsimp only)); refine Kd.R_lit Kd.string _ 9 ?hg (N := 15) ?hd (xs := ([a0] : List ByteArray)) (inner := [.string a0]) (ok := fun _ => True) (okp := fun _ => True) ?hr ?hp (fun _ hk => hk) trivial (Below.refl _ _) (Nat.le_refl _) (by simp) ?_; (case hd => rfl); (case hg => rfl); (case hr => first | (go_simp; done) | (go_simp; rfl)); (case hp => exact (Reps.one (show Kd.M Kd.string _ _ _ a0 [.string a0] from rfl) (Reps.none _ _))); intro v114 w12 ho13 hb hg_ hnew_; clear hg_ hnew_; (first | rw [← Ny113.out] at ho13 | (simp only [Int.reduceToNat] at ho13; rw [← Ny113.out] at ho13)); have n0_ := Aside0.mk (Kd.R_lower ho13 (below_size (by repeat (first | (with_reducible first | exact HB.out | apply below_alloc | apply pw_below_drewN | apply below_drew1) | exact HB.out)))); have n1_ := Aside0.mk (below_step (by repeat (first | (with_reducible first | exact HB.out | apply below_alloc | apply pw_below_drewN | apply below_drew1) | exact HB.out)) hb); clear HB; have HO115 := n0_; have HB := n1_; clear n0_ n1_; clear hb ho13; obtain ⟨Ao14, co14, eo14⟩ := Kd.R_slice HO115.out; subst eo14) | (go_at_call 11; (with_reducible refine (laws_short.calls k _ _ y113 t116 _ ?side1 ?side2 A11.out).mono ?_); (case side1 => repeat (first | exact (Kd.R_reads' HO115.out).2.2 | (with_reducible refine Kd.C_alloc ?_ _) | (with_reducible refine Kd.C_drewN ?_ _) | (with_reducible refine Kd.C_drew ?_))); (case side2 => exact (Kd.R_reads' HO115.out).2.1); rintro e w' ⟨rfl, ⟨nd, rfl⟩⟩))
          go_meet
          case rel => exact ⟨_, (!t116), (by first | rfl | (simp; done) | (rw [prx_ne]; first | done | rfl) | (simp [*]; done)), H', ⟨by first | omega | exact Nat.le_refl _⟩, ⟨by repeat (first | (with_reducible first | exact HB.out | apply below_alloc | apply pw_below_drewN | apply below_drew1) | exact HB.out)⟩⟩
        · replace c10 := Bool.eq_false_iff.mpr c10
          subst c10
          have H1 : (laws_FnBoundary.j0 k a0 true) = some r := by rw [if_neg (show ¬ (false = true) by decide)] at H; exact H
          clear H
          have H := H1
          clear H1
          have H' := Aside0.mk H
          clear H
          go_wp2_with (first | ((with_reducible refine gate_callee (f := 17) rfl ?_); refine goesL_ (some 11) rfl rfl Try.func17 (by kernel_rfl) rfl #[.string a0] rfl (by (try simp only [List.map_toArray, List.map_cons, List.map_nil]); first | done | rfl | (simp only [List.length_drop, List.length_take]; rfl)) ?_; (with_reducible refine (laws_word.calls k a0 false _ A9.out).mono ?_); rintro e w' ⟨rfl, ⟨nd, rfl⟩⟩; refine ⟨_, rfl, ?_⟩))
          go_meet
          case rel => exact ⟨_, (true), (by first | rfl | (simp; done) | (rw [prx_ne]; first | done | rfl) | (simp [*]; done)), H', ⟨by first | omega | exact Nat.le_refl _⟩, ⟨by repeat (first | (with_reducible first | exact HB.out | apply below_alloc | apply pw_below_drewN | apply below_drew1) | exact HB.out)⟩⟩
      case rest =>
        clear HC6
        try clear c1
        try clear c2
        try clear c2b0
        try clear c2b1
        try clear p2
        try clear c4
        try clear c5
        try clear c5b0
        try clear c5b1
        try clear c10
        obtain ⟨kq, x18_5, rfl, HA, HJ5, HB⟩ := hcut
        cases kq with
        | zero => exact absurd HA.out (by simp [laws_FnBoundary.j0])
        | succ kj5 =>
          have H := HA.out
          clear HA
          simp only [laws_FnBoundary.j0] at H
          by_cases c15 : x18_5 = true
          · subst c15
            have H1 : (some true) = some r := by rw [if_pos rfl] at H; exact H
            clear H
            have H := H1
            clear H1
            obtain rfl := Option.some.inj H
            go_wp2
            go_ret
            exact ⟨by first | rfl | (simp [errW_none, errW_some] <;> rfl) | (simp [*, errW_none, errW_some] <;> rfl), by repeat (first | (with_reducible first | exact HB.out | apply below_alloc | apply pw_below_drewN | apply below_drew1) | exact HB.out)⟩
          · replace c15 := Bool.eq_false_iff.mpr c15
            subst c15
            have H1 : ((impl_BoundaryType.f a0).bind fun t117 => ((impl_Boundary.f t117).bind fun t118 => (if t118.toList = a0.toList then ((laws_begins.f t117 (⟨#[109, 117, 108, 116, 105, 112, 97, 114, 116, 47, 102, 111, 114, 109, 45, 100, 97, 116, 97]⟩ : ByteArray)).bind fun t119 => (if t119 = true then (if t117.size + 11 ≤ 9223372036854775807 then ((impl_Boundary.f (t117 ++ (⟨#[59, 32, 99, 104, 97, 114, 115, 101, 116, 61, 120]⟩ : ByteArray))).bind fun t120 => (if t120.toList = a0.toList then ((impl_Boundary.f (⟨#[116, 101, 120, 116, 47, 112, 108, 97, 105, 110]⟩ : ByteArray)).bind fun t121 => (some (t121.toList == ([] : List UInt8)))) else (some false))) else (none)) else (some false))) else (some false)))) = some r := by rw [if_neg (show ¬ (false = true) by decide)] at H; exact H
            clear H
            have H := H1
            clear H1
            replace H := Option.bind_eq_some_iff.mp H
            obtain ⟨t117, A160, H⟩ := H
            replace H : ((impl_Boundary.f t117).bind fun t118 => (if t118.toList = a0.toList then ((laws_begins.f t117 (⟨#[109, 117, 108, 116, 105, 112, 97, 114, 116, 47, 102, 111, 114, 109, 45, 100, 97, 116, 97]⟩ : ByteArray)).bind fun t119 => (if t119 = true then (if t117.size + 11 ≤ 9223372036854775807 then ((impl_Boundary.f (t117 ++ (⟨#[59, 32, 99, 104, 97, 114, 115, 101, 116, 61, 120]⟩ : ByteArray))).bind fun t120 => (if t120.toList = a0.toList then ((impl_Boundary.f (⟨#[116, 101, 120, 116, 47, 112, 108, 97, 105, 110]⟩ : ByteArray)).bind fun t121 => (some (t121.toList == ([] : List UInt8)))) else (some false))) else (none)) else (some false))) else (some false))) = some r := H
            have A16 := Aside0.mk A160
            clear A160
            replace H := Option.bind_eq_some_iff.mp H
            obtain ⟨t118, A170, H⟩ := H
            replace H : (if t118.toList = a0.toList then ((laws_begins.f t117 (⟨#[109, 117, 108, 116, 105, 112, 97, 114, 116, 47, 102, 111, 114, 109, 45, 100, 97, 116, 97]⟩ : ByteArray)).bind fun t119 => (if t119 = true then (if t117.size + 11 ≤ 9223372036854775807 then ((impl_Boundary.f (t117 ++ (⟨#[59, 32, 99, 104, 97, 114, 115, 101, 116, 61, 120]⟩ : ByteArray))).bind fun t120 => (if t120.toList = a0.toList then ((impl_Boundary.f (⟨#[116, 101, 120, 116, 47, 112, 108, 97, 105, 110]⟩ : ByteArray)).bind fun t121 => (some (t121.toList == ([] : List UInt8)))) else (some false))) else (none)) else (some false))) else (some false)) = some r := H
            have A17 := Aside0.mk A170
            clear A170
            by_cases c18 : t118.toList = a0.toList
            · rw [if_pos c18] at H
              have c18b0 : (t118.toList == a0.toList) = true := beq_iff_eq.mpr c18
              have c18b1 : (t118.toList != a0.toList) = false := bne_eq_false_iff_eq.mpr c18
              clear c18
              replace H := Option.bind_eq_some_iff.mp H
              obtain ⟨t119, A190, H⟩ := H
              replace H : (if t119 = true then (if t117.size + 11 ≤ 9223372036854775807 then ((impl_Boundary.f (t117 ++ (⟨#[59, 32, 99, 104, 97, 114, 115, 101, 116, 61, 120]⟩ : ByteArray))).bind fun t120 => (if t120.toList = a0.toList then ((impl_Boundary.f (⟨#[116, 101, 120, 116, 47, 112, 108, 97, 105, 110]⟩ : ByteArray)).bind fun t121 => (some (t121.toList == ([] : List UInt8)))) else (some false))) else (none)) else (some false)) = some r := H
              have A19 := Aside0.mk A190
              clear A190
              by_cases c20 : t119 = true
              · subst c20
                have H1 : (if t117.size + 11 ≤ 9223372036854775807 then ((impl_Boundary.f (t117 ++ (⟨#[59, 32, 99, 104, 97, 114, 115, 101, 116, 61, 120]⟩ : ByteArray))).bind fun t120 => (if t120.toList = a0.toList then ((impl_Boundary.f (⟨#[116, 101, 120, 116, 47, 112, 108, 97, 105, 110]⟩ : ByteArray)).bind fun t121 => (some (t121.toList == ([] : List UInt8)))) else (some false))) else (none)) = some r := by rw [if_pos rfl] at H; exact H
                clear H
                have H := H1
                clear H1
                by_cases c21 : t117.size + 11 ≤ 9223372036854775807
                · rw [if_pos c21] at H
                  have c21b0 := eq_true c21
                  have c21b1 : decide (t117.size + 11 ≤ 9223372036854775807) = true := decide_eq_true c21
                  try have c21b2 : (9223372036854775807 < t117.size + 11) = False := eq_false (Nat.not_lt.2 c21)
                  try (have c21b3 := c21; simp only [ByteArray.size_append, prx_sz, List.length_cons, List.length_nil] at c21b3)
                  replace H := Option.bind_eq_some_iff.mp H
                  obtain ⟨t120, A220, H⟩ := H
                  replace H : (if t120.toList = a0.toList then ((impl_Boundary.f (⟨#[116, 101, 120, 116, 47, 112, 108, 97, 105, 110]⟩ : ByteArray)).bind fun t121 => (some (t121.toList == ([] : List UInt8)))) else (some false)) = some r := H
                  have A22 := Aside0.mk A220
                  clear A220
                  by_cases c23 : t120.toList = a0.toList
                  · rw [if_pos c23] at H
                    have c23b0 : (t120.toList == a0.toList) = true := beq_iff_eq.mpr c23
                    have c23b1 : (t120.toList != a0.toList) = false := bne_eq_false_iff_eq.mpr c23
                    clear c23
                    replace H := Option.bind_eq_some_iff.mp H
                    obtain ⟨t121, A240, H⟩ := H
                    replace H : (some (t121.toList == ([] : List UInt8))) = some r := H
                    have A24 := Aside0.mk A240
                    clear A240
                    obtain rfl := Option.some.inj H
                    go_wp2_with (first | ((with_reducible refine gate_callee (f := 16) rfl ?_); refine goesL_ (some 20) rfl rfl Try.func16 (by kernel_rfl) rfl #[.string a0] rfl (by (try simp only [List.map_toArray, List.map_cons, List.map_nil]); first | done | rfl | (simp only [List.length_drop, List.length_take]; rfl)) ?_; (with_reducible refine (impl_BoundaryType.calls a0 t117 _ A16.out).mono ?_); rintro e w25 ⟨rfl, hb⟩; refine ⟨_, rfl, ?_⟩; have n0_ := Aside0.mk (below_step (by repeat (first | (with_reducible first | exact HB.out | apply below_alloc | apply pw_below_drewN | apply below_drew1) | exact HB.out)) hb); clear HB; have HB := n0_; clear n0_; (try clear hb); (try clear hb2); (try clear hk); (try clear hi)) | ((with_reducible refine gate_callee (f := 15) rfl ?_); refine goesL_ (some 22) rfl rfl Try.func15 (by kernel_rfl) rfl #[.string t117] rfl (by (try simp only [List.map_toArray, List.map_cons, List.map_nil]); first | done | rfl | (simp only [List.length_drop, List.length_take]; rfl)) ?_; (with_reducible refine (impl_Boundary.calls t117 t118 _ A17.out).mono ?_); rintro e w26 ⟨rfl, hb⟩; refine ⟨_, rfl, ?_⟩; have n0_ := Aside0.mk (below_step (by repeat (first | (with_reducible first | exact HB.out | apply below_alloc | apply pw_below_drewN | apply below_drew1) | exact HB.out)) hb); clear HB; have HB := n0_; clear n0_; (try clear hb); (try clear hb2); (try clear hk); (try clear hi)) | (go_at_call 18; (with_reducible refine (laws_begins.calls t117 (⟨#[109, 117, 108, 116, 105, 112, 97, 114, 116, 47, 102, 111, 114, 109, 45, 100, 97, 116, 97]⟩ : ByteArray) true _ A19.out).mono ?_); rintro e w' ⟨rfl, ⟨nd, rfl⟩⟩) | (go_at_call 15; (with_reducible refine (impl_Boundary.calls (t117 ++ (⟨#[59, 32, 99, 104, 97, 114, 115, 101, 116, 61, 120]⟩ : ByteArray)) t120 _ A22.out).mono ?_); rintro e w27 ⟨rfl, hb⟩; have n0_ := Aside0.mk (below_step (by repeat (first | (with_reducible first | exact HB.out | apply below_alloc | apply pw_below_drewN | apply below_drew1) | exact HB.out)) hb); clear HB; have HB := n0_; clear n0_; (try clear hb); (try clear hb2); (try clear hk); (try clear hi)) | (go_at_call 15; (with_reducible refine (impl_Boundary.calls (⟨#[116, 101, 120, 116, 47, 112, 108, 97, 105, 110]⟩ : ByteArray) t121 _ A24.out).mono ?_); rintro e w28 ⟨rfl, hb⟩; have n0_ := Aside0.mk (below_step (by repeat (first | (with_reducible first | exact HB.out | apply below_alloc | apply pw_below_drewN | apply below_drew1) | exact HB.out)) hb); clear HB; have HB := n0_; clear n0_; (try clear hb); (try clear hb2); (try clear hk); (try clear hi)))
                    go_ret
                    exact ⟨by first | rfl | (simp [errW_none, errW_some] <;> rfl) | (simp [*, errW_none, errW_some] <;> rfl), by repeat (first | (with_reducible first | exact HB.out | apply below_alloc | apply pw_below_drewN | apply below_drew1) | exact HB.out)⟩
                  · rw [if_neg c23] at H
                    have c23b0 : (t120.toList == a0.toList) = false := beq_eq_false_iff_ne.mpr c23
                    have c23b1 : (t120.toList != a0.toList) = true := bne_iff_ne.mpr c23
                    obtain rfl := Option.some.inj H
                    go_wp2_with (first | ((with_reducible refine gate_callee (f := 16) rfl ?_); refine goesL_ (some 20) rfl rfl Try.func16 (by kernel_rfl) rfl #[.string a0] rfl (by (try simp only [List.map_toArray, List.map_cons, List.map_nil]); first | done | rfl | (simp only [List.length_drop, List.length_take]; rfl)) ?_; (with_reducible refine (impl_BoundaryType.calls a0 t117 _ A16.out).mono ?_); rintro e w29 ⟨rfl, hb⟩; refine ⟨_, rfl, ?_⟩; have n0_ := Aside0.mk (below_step (by repeat (first | (with_reducible first | exact HB.out | apply below_alloc | apply pw_below_drewN | apply below_drew1) | exact HB.out)) hb); clear HB; have HB := n0_; clear n0_; (try clear hb); (try clear hb2); (try clear hk); (try clear hi)) | ((with_reducible refine gate_callee (f := 15) rfl ?_); refine goesL_ (some 22) rfl rfl Try.func15 (by kernel_rfl) rfl #[.string t117] rfl (by (try simp only [List.map_toArray, List.map_cons, List.map_nil]); first | done | rfl | (simp only [List.length_drop, List.length_take]; rfl)) ?_; (with_reducible refine (impl_Boundary.calls t117 t118 _ A17.out).mono ?_); rintro e w30 ⟨rfl, hb⟩; refine ⟨_, rfl, ?_⟩; have n0_ := Aside0.mk (below_step (by repeat (first | (with_reducible first | exact HB.out | apply below_alloc | apply pw_below_drewN | apply below_drew1) | exact HB.out)) hb); clear HB; have HB := n0_; clear n0_; (try clear hb); (try clear hb2); (try clear hk); (try clear hi)) | (go_at_call 18; (with_reducible refine (laws_begins.calls t117 (⟨#[109, 117, 108, 116, 105, 112, 97, 114, 116, 47, 102, 111, 114, 109, 45, 100, 97, 116, 97]⟩ : ByteArray) true _ A19.out).mono ?_); rintro e w' ⟨rfl, ⟨nd, rfl⟩⟩) | (go_at_call 15; (with_reducible refine (impl_Boundary.calls (t117 ++ (⟨#[59, 32, 99, 104, 97, 114, 115, 101, 116, 61, 120]⟩ : ByteArray)) t120 _ A22.out).mono ?_); rintro e w31 ⟨rfl, hb⟩; have n0_ := Aside0.mk (below_step (by repeat (first | (with_reducible first | exact HB.out | apply below_alloc | apply pw_below_drewN | apply below_drew1) | exact HB.out)) hb); clear HB; have HB := n0_; clear n0_; (try clear hb); (try clear hb2); (try clear hk); (try clear hi)))
                    go_ret
                    exact ⟨by first | rfl | (simp [errW_none, errW_some] <;> rfl) | (simp [*, errW_none, errW_some] <;> rfl), by repeat (first | (with_reducible first | exact HB.out | apply below_alloc | apply pw_below_drewN | apply below_drew1) | exact HB.out)⟩
                · rw [if_neg c21] at H
                  exact absurd H (by simp)
              · replace c20 := Bool.eq_false_iff.mpr c20
                subst c20
                have H1 : (some false) = some r := by rw [if_neg (show ¬ (false = true) by decide)] at H; exact H
                clear H
                have H := H1
                clear H1
                obtain rfl := Option.some.inj H
                go_wp2_with (first | ((with_reducible refine gate_callee (f := 16) rfl ?_); refine goesL_ (some 20) rfl rfl Try.func16 (by kernel_rfl) rfl #[.string a0] rfl (by (try simp only [List.map_toArray, List.map_cons, List.map_nil]); first | done | rfl | (simp only [List.length_drop, List.length_take]; rfl)) ?_; (with_reducible refine (impl_BoundaryType.calls a0 t117 _ A16.out).mono ?_); rintro e w32 ⟨rfl, hb⟩; refine ⟨_, rfl, ?_⟩; have n0_ := Aside0.mk (below_step (by repeat (first | (with_reducible first | exact HB.out | apply below_alloc | apply pw_below_drewN | apply below_drew1) | exact HB.out)) hb); clear HB; have HB := n0_; clear n0_; (try clear hb); (try clear hb2); (try clear hk); (try clear hi)) | ((with_reducible refine gate_callee (f := 15) rfl ?_); refine goesL_ (some 22) rfl rfl Try.func15 (by kernel_rfl) rfl #[.string t117] rfl (by (try simp only [List.map_toArray, List.map_cons, List.map_nil]); first | done | rfl | (simp only [List.length_drop, List.length_take]; rfl)) ?_; (with_reducible refine (impl_Boundary.calls t117 t118 _ A17.out).mono ?_); rintro e w33 ⟨rfl, hb⟩; refine ⟨_, rfl, ?_⟩; have n0_ := Aside0.mk (below_step (by repeat (first | (with_reducible first | exact HB.out | apply below_alloc | apply pw_below_drewN | apply below_drew1) | exact HB.out)) hb); clear HB; have HB := n0_; clear n0_; (try clear hb); (try clear hb2); (try clear hk); (try clear hi)) | (go_at_call 18; (with_reducible refine (laws_begins.calls t117 (⟨#[109, 117, 108, 116, 105, 112, 97, 114, 116, 47, 102, 111, 114, 109, 45, 100, 97, 116, 97]⟩ : ByteArray) false _ A19.out).mono ?_); rintro e w' ⟨rfl, ⟨nd, rfl⟩⟩))
                go_ret
                exact ⟨by first | rfl | (simp [errW_none, errW_some] <;> rfl) | (simp [*, errW_none, errW_some] <;> rfl), by repeat (first | (with_reducible first | exact HB.out | apply below_alloc | apply pw_below_drewN | apply below_drew1) | exact HB.out)⟩
            · rw [if_neg c18] at H
              have c18b0 : (t118.toList == a0.toList) = false := beq_eq_false_iff_ne.mpr c18
              have c18b1 : (t118.toList != a0.toList) = true := bne_iff_ne.mpr c18
              obtain rfl := Option.some.inj H
              go_wp2_with (first | ((with_reducible refine gate_callee (f := 16) rfl ?_); refine goesL_ (some 20) rfl rfl Try.func16 (by kernel_rfl) rfl #[.string a0] rfl (by (try simp only [List.map_toArray, List.map_cons, List.map_nil]); first | done | rfl | (simp only [List.length_drop, List.length_take]; rfl)) ?_; (with_reducible refine (impl_BoundaryType.calls a0 t117 _ A16.out).mono ?_); rintro e w34 ⟨rfl, hb⟩; refine ⟨_, rfl, ?_⟩; have n0_ := Aside0.mk (below_step (by repeat (first | (with_reducible first | exact HB.out | apply below_alloc | apply pw_below_drewN | apply below_drew1) | exact HB.out)) hb); clear HB; have HB := n0_; clear n0_; (try clear hb); (try clear hb2); (try clear hk); (try clear hi)) | ((with_reducible refine gate_callee (f := 15) rfl ?_); refine goesL_ (some 22) rfl rfl Try.func15 (by kernel_rfl) rfl #[.string t117] rfl (by (try simp only [List.map_toArray, List.map_cons, List.map_nil]); first | done | rfl | (simp only [List.length_drop, List.length_take]; rfl)) ?_; (with_reducible refine (impl_Boundary.calls t117 t118 _ A17.out).mono ?_); rintro e w35 ⟨rfl, hb⟩; refine ⟨_, rfl, ?_⟩; have n0_ := Aside0.mk (below_step (by repeat (first | (with_reducible first | exact HB.out | apply below_alloc | apply pw_below_drewN | apply below_drew1) | exact HB.out)) hb); clear HB; have HB := n0_; clear n0_; (try clear hb); (try clear hb2); (try clear hk); (try clear hi)))
              go_ret
              exact ⟨by first | rfl | (simp [errW_none, errW_some] <;> rfl) | (simp [*, errW_none, errW_some] <;> rfl), by repeat (first | (with_reducible first | exact HB.out | apply below_alloc | apply pw_below_drewN | apply below_drew1) | exact HB.out)⟩
    · rw [if_neg c5] at H
      have c5b0 : (t111.toList == ([97, 98] : List UInt8)) = false := beq_eq_false_iff_ne.mpr c5
      have c5b1 : (t111.toList != ([97, 98] : List UInt8)) = true := bne_iff_ne.mpr c5
      obtain rfl := Option.some.inj H
      go_enter Try.func4, Try.ntmps4
      go_wp2_with (first | ((with_reducible refine gate_callee (f := 16) rfl ?_); refine goesL_ (some 7) rfl rfl Try.func16 (by kernel_rfl) rfl #[.string (⟨#[97, 98]⟩ : ByteArray)] rfl (by (try simp only [List.map_toArray, List.map_cons, List.map_nil]); first | done | rfl | (simp only [List.length_drop, List.length_take]; rfl)) ?_; (with_reducible refine (impl_BoundaryType.calls (⟨#[97, 98]⟩ : ByteArray) t110 _ A3.out).mono ?_); rintro e w36 ⟨rfl, hb⟩; refine ⟨_, rfl, ?_⟩; have n0_ := Aside0.mk (below_step (by repeat (first | (with_reducible first | exact HB.out | apply below_alloc | apply pw_below_drewN | apply below_drew1) | exact HB.out)) hb); clear HB; have HB := n0_; clear n0_; (try clear hb); (try clear hb2); (try clear hk); (try clear hi)) | ((with_reducible refine gate_callee (f := 15) rfl ?_); refine goesL_ (some 8) rfl rfl Try.func15 (by kernel_rfl) rfl #[.string t110] rfl (by (try simp only [List.map_toArray, List.map_cons, List.map_nil]); first | done | rfl | (simp only [List.length_drop, List.length_take]; rfl)) ?_; (with_reducible refine (impl_Boundary.calls t110 t111 _ A4.out).mono ?_); rintro e w37 ⟨rfl, hb⟩; refine ⟨_, rfl, ?_⟩; have n0_ := Aside0.mk (below_step (by repeat (first | (with_reducible first | exact HB.out | apply below_alloc | apply pw_below_drewN | apply below_drew1) | exact HB.out)) hb); clear HB; have HB := n0_; clear n0_; (try clear hb); (try clear hb2); (try clear hk); (try clear hi)))
      go_ret
      exact ⟨by first | rfl | (simp [errW_none, errW_some] <;> rfl) | (simp [*, errW_none, errW_some] <;> rfl), by repeat (first | (with_reducible first | exact HB.out | apply below_alloc | apply pw_below_drewN | apply below_drew1) | exact HB.out)⟩

/-- THE ONE PURE STATEMENT of laws_FnBoundary: yours. -/
def laws_FnBoundary.Pure : Prop := ∀ (a0 : ByteArray), a0.size ≤ 140737488351232 → ∃ k, laws_FnBoundary.f k a0 = some true
theorem laws_FnBoundary.walk (P : laws_FnBoundary.Pure) (a0 : ByteArray) (w : World) (w0 : a0.size ≤ 140737488351232) :
    Calls Try.prog 4 #[.string a0] w fun e w' => e = .returned (.bool true) ∧ Below w.heap.size w w' := by
  obtain ⟨k, h⟩ := P a0 w0
  refine (laws_FnBoundary.calls k a0 true w h).mono ?_
  rintro e w' ⟨rfl, hd⟩
  exact ⟨rfl, hd⟩

end Go.Proofs.Ytjnnadpecendpaa.QA
