/- Printed by wip/pr.py (a program of this repo over the print program of the kit). Not trusted: Lean checks it. -/
import Derived.Test.YtdfeojkombmiaaaQA0
import Derived.Test.YtdfeojkombmiaaaQA2
import Derived.Test.YtdfeojkombmiaaaQA27
import Derived.Test.YtdfeojkombmiaaaQA38
namespace Go.Proofs.Ytdfeojkombmiaaa.QA
open Go.Proofs.Ytdfeojkombmiaaa.Given
open Go.Proofs.Ytdfeojkombmiaaa.PrX
open Go.RowKit Go.Proofs.YtdfeojkombmiaaaW.PrintWords Go.Proofs.YtdfeojkombmiaaaW.PrintLast Go.Proofs.YtdfeojkombmiaaaW.PrintMore
attribute [local go_sem] max2_int min2_int max_two min_two max_three min_three max_four min_four   -- for this text's walks alone
set_option linter.unusedVariables false
set_option linter.unusedSimpArgs false

/-! ### laws_FnTypeAhead: function 3 -/
mutual
def laws_FnTypeAhead.j0 : Nat → ByteArray → ByteArray → Bool → Bool → Option (Bool)
  | 0, _, _, _, _ => none
  | k + 1, x0, x1, x2, x15 => if x15 = true then (some true) else ((impl_TypeAhead.f (⟨#[97, 47, 98, 59, 32, 99, 61, 100]⟩ : ByteArray)).bind fun t256 => (if t256.toList = ([97, 47, 98] : List UInt8) then ((laws_words.f k (([x0] : List ByteArray))).bind fun t260 => (if t260 = true then ((laws_short.f k (([x1] : List ByteArray))).bind fun t264 => (laws_FnTypeAhead.j1 k x0 x1 x2 (!t264))) else (laws_FnTypeAhead.j1 k x0 x1 x2 true))) else (some false)))
def laws_FnTypeAhead.j1 : Nat → ByteArray → ByteArray → Bool → Bool → Option (Bool)
  | 0, _, _, _, _ => none
  | k + 1, x0, x1, x2, x27 => if x27 = true then (some true) else (if x2 = true then (if x0.size + 1 ≤ 9223372036854775807 then (if (x0 ++ (⟨#[47]⟩ : ByteArray)).size + x0.size ≤ 9223372036854775807 then (if ((x0 ++ (⟨#[47]⟩ : ByteArray)) ++ x0).size + 1 ≤ 9223372036854775807 then (if (((x0 ++ (⟨#[47]⟩ : ByteArray)) ++ x0) ++ (⟨#[32]⟩ : ByteArray)).size + x1.size ≤ 9223372036854775807 then ((impl_TypeAhead.f ((((x0 ++ (⟨#[47]⟩ : ByteArray)) ++ x0) ++ (⟨#[32]⟩ : ByteArray)) ++ x1)).bind fun t265 => (if t265.toList = ((x0 ++ (⟨#[47]⟩ : ByteArray)) ++ x0).toList then ((impl_TypeAhead.f x0).bind fun t266 => (some (t266.toList == x0.toList))) else (some false))) else (none)) else (none)) else (none)) else (none)) else (if x0.size + 1 ≤ 9223372036854775807 then (if (x0 ++ (⟨#[47]⟩ : ByteArray)).size + x0.size ≤ 9223372036854775807 then (if ((x0 ++ (⟨#[47]⟩ : ByteArray)) ++ x0).size + 1 ≤ 9223372036854775807 then (if (((x0 ++ (⟨#[47]⟩ : ByteArray)) ++ x0) ++ (⟨#[59]⟩ : ByteArray)).size + x1.size ≤ 9223372036854775807 then ((impl_TypeAhead.f ((((x0 ++ (⟨#[47]⟩ : ByteArray)) ++ x0) ++ (⟨#[59]⟩ : ByteArray)) ++ x1)).bind fun t267 => (if t267.toList = ((x0 ++ (⟨#[47]⟩ : ByteArray)) ++ x0).toList then ((impl_TypeAhead.f x0).bind fun t268 => (some (t268.toList == x0.toList))) else (some false))) else (none)) else (none)) else (none)) else (none)))
end
def laws_FnTypeAhead.f (k : Nat) (a0 : ByteArray) (a1 : ByteArray) (a2 : Bool) : Option (Bool) := if (a0.size : Int) > 2147483647 then (laws_FnTypeAhead.j0 k a0 a1 a2 true) else (laws_FnTypeAhead.j0 k a0 a1 a2 (decide ((a1.size : Int) > 2147483647)))
theorem laws_FnTypeAhead.mono_l : ∀ k, (∀ y0 y1 y2 y3, LeO (laws_FnTypeAhead.j0 k y0 y1 y2 y3) (laws_FnTypeAhead.j0 (k + 1) y0 y1 y2 y3)) ∧ (∀ y0 y1 y2 y3, LeO (laws_FnTypeAhead.j1 k y0 y1 y2 y3) (laws_FnTypeAhead.j1 (k + 1) y0 y1 y2 y3))
  | 0 => ⟨fun _ _ _ _ r h => by simp [laws_FnTypeAhead.j0] at h, fun _ _ _ _ r h => by simp [laws_FnTypeAhead.j1] at h⟩
  | k + 1 => by
    obtain ⟨ih0, ih1⟩ := laws_FnTypeAhead.mono_l k
    refine ⟨?_, ?_⟩
    · intro y0 y1 y2 y3
      unfold laws_FnTypeAhead.j0
      repeat' first
      | (with_reducible exact ih0 _ _ _ _)
      | (with_reducible exact ih1 _ _ _ _)
      | (with_reducible exact laws_short.mono _ _)
      | (with_reducible exact laws_words.mono _ _)
      | (with_reducible exact LeO.refl _)
      | (with_reducible exact LeO.none _)
      | (with_reducible refine LeO.ite ?_ ?_)
      | (with_reducible refine LeO.bind ?_ (fun _ => ?_))
      | exact ih0 _ _ _ _
      | exact ih1 _ _ _ _
      | exact laws_short.mono _ _
      | exact laws_words.mono _ _
      | exact LeO.none _
      | refine LeO.ite ?_ ?_
      | refine LeO.bind ?_ (fun _ => ?_)
    · intro y0 y1 y2 y3
      unfold laws_FnTypeAhead.j1
      repeat' first
      | (with_reducible exact ih0 _ _ _ _)
      | (with_reducible exact ih1 _ _ _ _)
      | (with_reducible exact laws_short.mono _ _)
      | (with_reducible exact laws_words.mono _ _)
      | (with_reducible exact LeO.refl _)
      | (with_reducible exact LeO.none _)
      | (with_reducible refine LeO.ite ?_ ?_)
      | (with_reducible refine LeO.bind ?_ (fun _ => ?_))
      | exact ih0 _ _ _ _
      | exact ih1 _ _ _ _
      | exact laws_short.mono _ _
      | exact laws_words.mono _ _
      | exact LeO.none _
      | refine LeO.ite ?_ ?_
      | refine LeO.bind ?_ (fun _ => ?_)
theorem laws_FnTypeAhead.mono : ∀ a0 a1 a2 k, LeO (laws_FnTypeAhead.f k a0 a1 a2) (laws_FnTypeAhead.f (k + 1) a0 a1 a2) := by
  intro a0 a1 a2 k
  obtain ⟨ih0, ih1⟩ := laws_FnTypeAhead.mono_l k
  unfold laws_FnTypeAhead.f
  repeat' first
      | (with_reducible exact ih0 _ _ _ _)
      | (with_reducible exact ih1 _ _ _ _)
      | (with_reducible exact laws_short.mono _ _)
      | (with_reducible exact laws_words.mono _ _)
      | (with_reducible exact LeO.refl _)
      | (with_reducible exact LeO.none _)
      | (with_reducible refine LeO.ite ?_ ?_)
      | (with_reducible refine LeO.bind ?_ (fun _ => ?_))
      | exact ih0 _ _ _ _
      | exact ih1 _ _ _ _
      | exact laws_short.mono _ _
      | exact laws_words.mono _ _
      | exact LeO.none _
      | refine LeO.ite ?_ ?_
      | refine LeO.bind ?_ (fun _ => ?_)
set_option maxHeartbeats 8000000 in
set_option maxRecDepth 100000 in
theorem laws_FnTypeAhead.calls (k : Nat) (a0 : ByteArray) (a1 : ByteArray) (a2 : Bool) (r : Bool) (w : World) (h : laws_FnTypeAhead.f k a0 a1 a2 = some r) :
    Calls Try.prog 3 #[.string a0, .string a1, .bool a2] w fun e w' => e = .returned (.bool r) ∧ Below w.heap.size w w' := by
  have HB := Aside0.mk (Below.refl w.heap.size w)
  have H : (if (a0.size : Int) > 2147483647 then (laws_FnTypeAhead.j0 k a0 a1 a2 true) else (laws_FnTypeAhead.j0 k a0 a1 a2 (decide ((a1.size : Int) > 2147483647)))) = some r := h
  clear h
  have HC4 := Aside0.mk H
  clear H
  go_enter Try.func3, Try.ntmps3
  go_upto_region 1 with (fail)
  go_cut [15] (fun v15 wc => ∃ (kq : Nat) (x15_3 : Bool), v15 = .bool x15_3 ∧ Aside0 (laws_FnTypeAhead.j0 kq a0 a1 a2 x15_3 = some r) ∧ Aside0 (kq ≤ k) ∧ Aside0 (Below w.heap.size w wc))
  case first =>
    have H := HC4.out
    clear HC4
    by_cases c5 : (a0.size : Int) > 2147483647
    · rw [if_pos c5] at H
      have c5b0 : decide (2147483647 < (a0.size : Int)) = true := decide_eq_true c5
      have c5b1 : decide (2147483647 < a0.size) = true := decide_eq_true (by omega)
      clear c5
      (first | rw [c5b0] | (simp only [i64_w, i32_w]; rw [c5b0]) | skip)
      have H' := Aside0.mk H
      clear H
      go_wp2
      go_meet
      case rel => exact ⟨_, (true), (by first | rfl | (simp; done) | (rw [prx_ne]; first | done | rfl) | (simp [*]; done)), H', ⟨by first | omega | exact Nat.le_refl _⟩, ⟨by repeat (first | (with_reducible first | exact HB.out | apply below_alloc | apply pw_below_drewN | apply below_drew1) | exact HB.out)⟩⟩
    · rw [if_neg c5] at H
      have c5b0 : decide (2147483647 < (a0.size : Int)) = false := decide_eq_false c5
      have c5b1 : decide (2147483647 < a0.size) = false := decide_eq_false (by omega)
      clear c5
      (first | rw [c5b0] | (simp only [i64_w, i32_w]; rw [c5b0]) | skip)
      have H' := Aside0.mk H
      clear H
      go_wp2
      go_meet
      case rel => exact ⟨_, (decide ((a1.size : Int) > 2147483647)), (by first | rfl | (simp; done) | (rw [prx_ne]; first | done | rfl) | (simp [*]; done)), H', ⟨by first | omega | exact Nat.le_refl _⟩, ⟨by repeat (first | (with_reducible first | exact HB.out | apply below_alloc | apply pw_below_drewN | apply below_drew1) | exact HB.out)⟩⟩
  case rest =>
    clear HC4
    try clear p2
    try clear c3
    try clear c5
    try clear c5b0
    try clear c5b1
    obtain ⟨kq, x15_3, rfl, HA, HJ3, HB⟩ := hcut
    cases kq with
    | zero => exact absurd HA.out (by simp [laws_FnTypeAhead.j0])
    | succ kj3 =>
      have H := HA.out
      clear HA
      simp only [laws_FnTypeAhead.j0] at H
      by_cases c6 : x15_3 = true
      · subst c6
        have H1 : (some true) = some r := by rw [if_pos rfl] at H; exact H
        clear H
        have H := H1
        clear H1
        obtain rfl := Option.some.inj H
        go_wp2
        go_ret
        exact ⟨by first | rfl | (simp [errW_none, errW_some] <;> rfl) | (simp [*, errW_none, errW_some] <;> rfl), by repeat (first | (with_reducible first | exact HB.out | apply below_alloc | apply pw_below_drewN | apply below_drew1) | exact HB.out)⟩
      · replace c6 := Bool.eq_false_iff.mpr c6
        subst c6
        have H1 : ((impl_TypeAhead.f (⟨#[97, 47, 98, 59, 32, 99, 61, 100]⟩ : ByteArray)).bind fun t256 => (if t256.toList = ([97, 47, 98] : List UInt8) then ((laws_words.f kj3 (([a0] : List ByteArray))).bind fun t260 => (if t260 = true then ((laws_short.f kj3 (([a1] : List ByteArray))).bind fun t264 => (laws_FnTypeAhead.j1 kj3 a0 a1 a2 (!t264))) else (laws_FnTypeAhead.j1 kj3 a0 a1 a2 true))) else (some false))) = some r := by rw [if_neg (show ¬ (false = true) by decide)] at H; exact H
        clear H
        have H := H1
        clear H1
        replace H := Option.bind_eq_some_iff.mp H
        obtain ⟨t256, A70, H⟩ := H
        replace H : (if t256.toList = ([97, 47, 98] : List UInt8) then ((laws_words.f kj3 (([a0] : List ByteArray))).bind fun t260 => (if t260 = true then ((laws_short.f kj3 (([a1] : List ByteArray))).bind fun t264 => (laws_FnTypeAhead.j1 kj3 a0 a1 a2 (!t264))) else (laws_FnTypeAhead.j1 kj3 a0 a1 a2 true))) else (some false)) = some r := H
        have A7 := Aside0.mk A70
        clear A70
        by_cases c8 : t256.toList = ([97, 47, 98] : List UInt8)
        · rw [if_pos c8] at H
          have c8b0 : (t256.toList == ([97, 47, 98] : List UInt8)) = true := beq_iff_eq.mpr c8
          have c8b1 : (t256.toList != ([97, 47, 98] : List UInt8)) = false := bne_eq_false_iff_eq.mpr c8
          clear c8
          have HC9 := Aside0.mk H
          clear H
          go_upto_region 5 with (first | ((with_reducible refine gate_callee (f := 13) rfl ?_); refine goesL_ (some 16) rfl rfl Try.func13 (by kernel_rfl) rfl #[.string (⟨#[97, 47, 98, 59, 32, 99, 61, 100]⟩ : ByteArray)] rfl (by (try simp only [List.map_toArray, List.map_cons, List.map_nil]); first | done | rfl | (simp only [List.length_drop, List.length_take]; rfl)) ?_; (with_reducible refine (impl_TypeAhead.calls (⟨#[97, 47, 98, 59, 32, 99, 61, 100]⟩ : ByteArray) t256 _ A7.out).mono ?_); rintro e w10 ⟨rfl, hb⟩; refine ⟨_, rfl, ?_⟩; have n0_ := Aside0.mk (below_step (by repeat (first | (with_reducible first | exact HB.out | apply below_alloc | apply pw_below_drewN | apply below_drew1) | exact HB.out)) hb); clear HB; have HB := n0_; clear n0_; (try clear hb); (try clear hb2); (try clear hk); (try clear hi)))
          (try simp only [Act.put, List.setIfInBounds_toArray, List.set_cons_zero, List.set_cons_succ])
          go_cut [27] (fun v27 wc => ∃ (kq : Nat) (x27_8 : Bool), v27 = .bool x27_8 ∧ Aside0 (laws_FnTypeAhead.j1 kq a0 a1 a2 x27_8 = some r) ∧ Aside0 (kq ≤ kj3) ∧ Aside0 (Below w.heap.size w wc))
          case first =>
            have H := HC9.out
            clear HC9
            obtain ⟨y257, hy257⟩ : ∃ y_ : List ByteArray, y_ = (([a0] : List ByteArray)) := ⟨_, rfl⟩
            replace H : ((laws_words.f kj3 y257).bind fun t260 => (if t260 = true then ((laws_short.f kj3 (([a1] : List ByteArray))).bind fun t264 => (laws_FnTypeAhead.j1 kj3 a0 a1 a2 (!t264))) else (laws_FnTypeAhead.j1 kj3 a0 a1 a2 true))) = some r := by first | (rw [hy257]; with_reducible exact H) | (have H2_ := (Option.bind_some _ _).symm.trans H; rw [hy257]; with_reducible exact H2_) | (have H2_ := (Option.bind_some _ _).symm.trans H; with_reducible exact H2_) | with_reducible exact H | (rw [hy257]; exact H) | exact H
            have Ny257 := Aside0.mk hy257
            clear hy257
            replace H := Option.bind_eq_some_iff.mp H
            obtain ⟨t260, A110, H⟩ := H
            replace H : (if t260 = true then ((laws_short.f kj3 (([a1] : List ByteArray))).bind fun t264 => (laws_FnTypeAhead.j1 kj3 a0 a1 a2 (!t264))) else (laws_FnTypeAhead.j1 kj3 a0 a1 a2 true)) = some r := H
            have A11 := Aside0.mk A110
            clear A110
            by_cases c12 : t260 = true
            · subst c12
              have H1 : ((laws_short.f kj3 (([a1] : List ByteArray))).bind fun t264 => (laws_FnTypeAhead.j1 kj3 a0 a1 a2 (!t264))) = some r := by rw [if_pos rfl] at H; exact H
              clear H
              have H := H1
              clear H1
              obtain ⟨y261, hy261⟩ : ∃ y_ : List ByteArray, y_ = (([a1] : List ByteArray)) := ⟨_, rfl⟩
              replace H : ((laws_short.f kj3 y261).bind fun t264 => (laws_FnTypeAhead.j1 kj3 a0 a1 a2 (!t264))) = some r := by first | (rw [hy261]; with_reducible exact H) | (have H2_ := (Option.bind_some _ _).symm.trans H; rw [hy261]; with_reducible exact H2_) | (have H2_ := (Option.bind_some _ _).symm.trans H; with_reducible exact H2_) | with_reducible exact H | (rw [hy261]; exact H) | exact H
              have Ny261 := Aside0.mk hy261
              clear hy261
              replace H := Option.bind_eq_some_iff.mp H
              obtain ⟨t264, A130, H⟩ := H
              replace H : (laws_FnTypeAhead.j1 kj3 a0 a1 a2 (!t264)) = some r := H
              have A13 := Aside0.mk A130
              clear A130
              have H' := Aside0.mk H
              clear H
              go_wp2_with (first | ((with_reducible refine gate_dst (N := 19) rfl ?_); (try (refine gate_guard (by rfl) ?_; dsimp only)); refine Kd.R_lit Kd.string _ 9 ?hg (N := 19) ?hd (xs := ([a0] : List ByteArray)) (inner := [.string a0]) (ok := fun _ => True) (okp := fun _ => True) ?hr ?hp (fun _ hk => hk) trivial (Below.refl _ _) (Nat.le_refl _) (by simp) ?_; (case hd => rfl); (case hg => rfl); (case hr => first | (go_simp; done) | (go_simp; rfl)); (case hp => exact (Reps.one (show Kd.M Kd.string _ _ _ a0 [.string a0] from rfl) (Reps.none _ _))); intro v258 w14 ho15 hb hg_ hnew_; clear hg_ hnew_; (first | rw [← Ny257.out] at ho15 | (simp only [Int.reduceToNat] at ho15; rw [← Ny257.out] at ho15)); have n0_ := Aside0.mk (Kd.R_lower ho15 (below_size (by repeat (first | (with_reducible first | exact HB.out | apply below_alloc | apply pw_below_drewN | apply below_drew1) | exact HB.out)))); have n1_ := Aside0.mk (below_step (by repeat (first | (with_reducible first | exact HB.out | apply below_alloc | apply pw_below_drewN | apply below_drew1) | exact HB.out)) hb); clear HB; have HO259 := n0_; have HB := n1_; clear n0_ n1_; clear hb ho15; obtain ⟨Ao16, co16, eo16⟩ := Kd.R_slice HO259.out; subst eo16) | ((with_reducible refine gate_callee (f := 14) rfl ?_); refine goesL_ (some 20) rfl rfl Try.func14 (by kernel_rfl) rfl #[.slice Ao16 y257.length co16] rfl (by (try simp only [List.map_toArray, List.map_cons, List.map_nil]); first | done | rfl | (simp only [List.length_drop, List.length_take]; rfl)) ?_; (with_reducible refine (laws_words.calls kj3 _ _ y257 true _ ?side1 ?side2 A11.out).mono ?_); (case side1 => repeat (first | exact (Kd.R_reads' HO259.out).2.2 | (with_reducible refine Kd.C_alloc ?_ _) | (with_reducible refine Kd.C_drewN ?_ _) | (with_reducible refine Kd.C_drew ?_))); (case side2 => exact (Kd.R_reads' HO259.out).2.1); rintro e w' ⟨rfl, ⟨nd, rfl⟩⟩; refine ⟨_, rfl, ?_⟩) | ((with_reducible refine gate_dst (N := 24) rfl ?_); (try (refine gate_guard (by rfl) ?_; dsimp only)); refine Kd.R_lit Kd.string _ 9 ?hg (N := 24) ?hd (xs := ([a1] : List ByteArray)) (inner := [.string a1]) (ok := fun _ => True) (okp := fun _ => True) ?hr ?hp (fun _ hk => hk) trivial (Below.refl _ _) (Nat.le_refl _) (by simp) ?_; (case hd => rfl); (case hg => rfl); (case hr => first | (go_simp; done) | (go_simp; rfl)); (case hp => exact (Reps.one (show Kd.M Kd.string _ _ _ a1 [.string a1] from rfl) (Reps.none _ _))); intro v262 w17 ho18 hb hg_ hnew_; clear hg_ hnew_; (first | rw [← Ny261.out] at ho18 | (simp only [Int.reduceToNat] at ho18; rw [← Ny261.out] at ho18)); have n0_ := Aside0.mk (Kd.R_elder' (by (with_reducible repeat (first | apply Kd.R_alloc | apply Kd.R_drewN | apply Kd.R_drew)); exact HO259.out) (Kd.R_base ho18) hb); have n1_ := Aside0.mk (Kd.R_lower (Kd.R_new' ho18 (Kd.R_lt (by (with_reducible repeat (first | apply Kd.R_alloc | apply Kd.R_drewN | apply Kd.R_drew)); exact HO259.out))) (below_size (by repeat (first | (with_reducible first | exact HB.out | apply below_alloc | apply pw_below_drewN | apply below_drew1) | exact HB.out)))); have n2_ := Aside0.mk (below_step (by repeat (first | (with_reducible first | exact HB.out | apply below_alloc | apply pw_below_drewN | apply below_drew1) | exact HB.out)) hb); clear HO259; clear HB; have HO259 := n0_; have HO263 := n1_; have HB := n2_; clear n0_ n1_ n2_; clear hb ho18; obtain ⟨Ao19, co19, eo19⟩ := Kd.R_slice HO263.out; subst eo19) | (go_at_call 15; (with_reducible refine (laws_short.calls kj3 _ _ y261 t264 _ ?side1 ?side2 A13.out).mono ?_); (case side1 => repeat (first | exact (Kd.R_reads' HO263.out).2.2 | (with_reducible refine Kd.C_alloc ?_ _) | (with_reducible refine Kd.C_drewN ?_ _) | (with_reducible refine Kd.C_drew ?_))); (case side2 => exact (Kd.R_reads' HO263.out).2.1); rintro e w' ⟨rfl, ⟨nd, rfl⟩⟩))
              go_meet
              case rel => exact ⟨_, (!t264), (by first | rfl | (simp; done) | (rw [prx_ne]; first | done | rfl) | (simp [*]; done)), H', ⟨by have := HJ3.out; first | omega | exact Nat.le_refl _⟩, ⟨by repeat (first | (with_reducible first | exact HB.out | apply below_alloc | apply pw_below_drewN | apply below_drew1) | exact HB.out)⟩⟩
            · replace c12 := Bool.eq_false_iff.mpr c12
              subst c12
              have H1 : (laws_FnTypeAhead.j1 kj3 a0 a1 a2 true) = some r := by rw [if_neg (show ¬ (false = true) by decide)] at H; exact H
              clear H
              have H := H1
              clear H1
              have H' := Aside0.mk H
              clear H
              go_wp2_with (first | ((with_reducible refine gate_dst (N := 19) rfl ?_); (try (refine gate_guard (by rfl) ?_; dsimp only)); refine Kd.R_lit Kd.string _ 9 ?hg (N := 19) ?hd (xs := ([a0] : List ByteArray)) (inner := [.string a0]) (ok := fun _ => True) (okp := fun _ => True) ?hr ?hp (fun _ hk => hk) trivial (Below.refl _ _) (Nat.le_refl _) (by simp) ?_; (case hd => rfl); (case hg => rfl); (case hr => first | (go_simp; done) | (go_simp; rfl)); (case hp => exact (Reps.one (show Kd.M Kd.string _ _ _ a0 [.string a0] from rfl) (Reps.none _ _))); intro v258 w20 ho21 hb hg_ hnew_; clear hg_ hnew_; (first | rw [← Ny257.out] at ho21 | (simp only [Int.reduceToNat] at ho21; rw [← Ny257.out] at ho21)); have n0_ := Aside0.mk (Kd.R_lower ho21 (below_size (by repeat (first | (with_reducible first | exact HB.out | apply below_alloc | apply pw_below_drewN | apply below_drew1) | exact HB.out)))); have n1_ := Aside0.mk (below_step (by repeat (first | (with_reducible first | exact HB.out | apply below_alloc | apply pw_below_drewN | apply below_drew1) | exact HB.out)) hb); clear HB; have HO259 := n0_; have HB := n1_; clear n0_ n1_; clear hb ho21; obtain ⟨Ao22, co22, eo22⟩ := Kd.R_slice HO259.out; subst eo22) | ((with_reducible refine gate_callee (f := 14) rfl ?_); refine goesL_ (some 20) rfl rfl Try.func14 (by kernel_rfl) rfl #[.slice Ao22 y257.length co22] rfl (by (try simp only [List.map_toArray, List.map_cons, List.map_nil]); first | done | rfl | (simp only [List.length_drop, List.length_take]; rfl)) ?_; (with_reducible refine (laws_words.calls kj3 _ _ y257 false _ ?side1 ?side2 A11.out).mono ?_); (case side1 => repeat (first | exact (Kd.R_reads' HO259.out).2.2 | (with_reducible refine Kd.C_alloc ?_ _) | (with_reducible refine Kd.C_drewN ?_ _) | (with_reducible refine Kd.C_drew ?_))); (case side2 => exact (Kd.R_reads' HO259.out).2.1); rintro e w' ⟨rfl, ⟨nd, rfl⟩⟩; refine ⟨_, rfl, ?_⟩))
              go_meet
              case rel => exact ⟨_, (true), (by first | rfl | (simp; done) | (rw [prx_ne]; first | done | rfl) | (simp [*]; done)), H', ⟨by have := HJ3.out; first | omega | exact Nat.le_refl _⟩, ⟨by repeat (first | (with_reducible first | exact HB.out | apply below_alloc | apply pw_below_drewN | apply below_drew1) | exact HB.out)⟩⟩
          case rest =>
            clear HC9
            try clear c1
            try clear p2
            try clear c3
            try clear c5
            try clear c5b0
            try clear c5b1
            try clear c6
            try clear c8
            try clear c8b0
            try clear c8b1
            try clear c12
            try clear c13
            try clear c14
            try clear p2
            obtain ⟨kq, x27_8, rfl, HA, HJ8, HB⟩ := hcut
            cases kq with
            | zero => exact absurd HA.out (by simp [laws_FnTypeAhead.j1])
            | succ kj8 =>
              have H := HA.out
              clear HA
              simp only [laws_FnTypeAhead.j1] at H
              by_cases c23 : x27_8 = true
              · subst c23
                have H1 : (some true) = some r := by rw [if_pos rfl] at H; exact H
                clear H
                have H := H1
                clear H1
                obtain rfl := Option.some.inj H
                go_wp2
                go_ret
                exact ⟨by first | rfl | (simp [errW_none, errW_some] <;> rfl) | (simp [*, errW_none, errW_some] <;> rfl), by repeat (first | (with_reducible first | exact HB.out | apply below_alloc | apply pw_below_drewN | apply below_drew1) | exact HB.out)⟩
              · replace c23 := Bool.eq_false_iff.mpr c23
                subst c23
                have H1 : (if a2 = true then (if a0.size + 1 ≤ 9223372036854775807 then (if (a0 ++ (⟨#[47]⟩ : ByteArray)).size + a0.size ≤ 9223372036854775807 then (if ((a0 ++ (⟨#[47]⟩ : ByteArray)) ++ a0).size + 1 ≤ 9223372036854775807 then (if (((a0 ++ (⟨#[47]⟩ : ByteArray)) ++ a0) ++ (⟨#[32]⟩ : ByteArray)).size + a1.size ≤ 9223372036854775807 then ((impl_TypeAhead.f ((((a0 ++ (⟨#[47]⟩ : ByteArray)) ++ a0) ++ (⟨#[32]⟩ : ByteArray)) ++ a1)).bind fun t265 => (if t265.toList = ((a0 ++ (⟨#[47]⟩ : ByteArray)) ++ a0).toList then ((impl_TypeAhead.f a0).bind fun t266 => (some (t266.toList == a0.toList))) else (some false))) else (none)) else (none)) else (none)) else (none)) else (if a0.size + 1 ≤ 9223372036854775807 then (if (a0 ++ (⟨#[47]⟩ : ByteArray)).size + a0.size ≤ 9223372036854775807 then (if ((a0 ++ (⟨#[47]⟩ : ByteArray)) ++ a0).size + 1 ≤ 9223372036854775807 then (if (((a0 ++ (⟨#[47]⟩ : ByteArray)) ++ a0) ++ (⟨#[59]⟩ : ByteArray)).size + a1.size ≤ 9223372036854775807 then ((impl_TypeAhead.f ((((a0 ++ (⟨#[47]⟩ : ByteArray)) ++ a0) ++ (⟨#[59]⟩ : ByteArray)) ++ a1)).bind fun t267 => (if t267.toList = ((a0 ++ (⟨#[47]⟩ : ByteArray)) ++ a0).toList then ((impl_TypeAhead.f a0).bind fun t268 => (some (t268.toList == a0.toList))) else (some false))) else (none)) else (none)) else (none)) else (none))) = some r := by rw [if_neg (show ¬ (false = true) by decide)] at H; exact H
                clear H
                have H := H1
                clear H1
                by_cases c24 : a2 = true
                · subst c24
                  have H1 : (if a0.size + 1 ≤ 9223372036854775807 then (if (a0 ++ (⟨#[47]⟩ : ByteArray)).size + a0.size ≤ 9223372036854775807 then (if ((a0 ++ (⟨#[47]⟩ : ByteArray)) ++ a0).size + 1 ≤ 9223372036854775807 then (if (((a0 ++ (⟨#[47]⟩ : ByteArray)) ++ a0) ++ (⟨#[32]⟩ : ByteArray)).size + a1.size ≤ 9223372036854775807 then ((impl_TypeAhead.f ((((a0 ++ (⟨#[47]⟩ : ByteArray)) ++ a0) ++ (⟨#[32]⟩ : ByteArray)) ++ a1)).bind fun t265 => (if t265.toList = ((a0 ++ (⟨#[47]⟩ : ByteArray)) ++ a0).toList then ((impl_TypeAhead.f a0).bind fun t266 => (some (t266.toList == a0.toList))) else (some false))) else (none)) else (none)) else (none)) else (none)) = some r := by rw [if_pos rfl] at H; exact H
                  clear H
                  have H := H1
                  clear H1
                  by_cases c25 : a0.size + 1 ≤ 9223372036854775807
                  · rw [if_pos c25] at H
                    have c25b0 := eq_true c25
                    have c25b1 : decide (a0.size + 1 ≤ 9223372036854775807) = true := decide_eq_true c25
                    try have c25b2 : (9223372036854775807 < a0.size + 1) = False := eq_false (Nat.not_lt.2 c25)
                    try (have c25b3 := c25; simp only [ByteArray.size_append, prx_sz, List.length_cons, List.length_nil] at c25b3)
                    by_cases c26 : (a0 ++ (⟨#[47]⟩ : ByteArray)).size + a0.size ≤ 9223372036854775807
                    · rw [if_pos c26] at H
                      have c26b0 := eq_true c26
                      have c26b1 : decide ((a0 ++ (⟨#[47]⟩ : ByteArray)).size + a0.size ≤ 9223372036854775807) = true := decide_eq_true c26
                      try have c26b2 : (9223372036854775807 < (a0 ++ (⟨#[47]⟩ : ByteArray)).size + a0.size) = False := eq_false (Nat.not_lt.2 c26)
                      try (have c26b3 := c26; simp only [ByteArray.size_append, prx_sz, List.length_cons, List.length_nil] at c26b3)
                      by_cases c27 : ((a0 ++ (⟨#[47]⟩ : ByteArray)) ++ a0).size + 1 ≤ 9223372036854775807
                      · rw [if_pos c27] at H
                        have c27b0 := eq_true c27
                        have c27b1 : decide (((a0 ++ (⟨#[47]⟩ : ByteArray)) ++ a0).size + 1 ≤ 9223372036854775807) = true := decide_eq_true c27
                        try have c27b2 : (9223372036854775807 < ((a0 ++ (⟨#[47]⟩ : ByteArray)) ++ a0).size + 1) = False := eq_false (Nat.not_lt.2 c27)
                        try (have c27b3 := c27; simp only [ByteArray.size_append, prx_sz, List.length_cons, List.length_nil] at c27b3)
                        by_cases c28 : (((a0 ++ (⟨#[47]⟩ : ByteArray)) ++ a0) ++ (⟨#[32]⟩ : ByteArray)).size + a1.size ≤ 9223372036854775807
                        · rw [if_pos c28] at H
                          have c28b0 := eq_true c28
                          have c28b1 : decide ((((a0 ++ (⟨#[47]⟩ : ByteArray)) ++ a0) ++ (⟨#[32]⟩ : ByteArray)).size + a1.size ≤ 9223372036854775807) = true := decide_eq_true c28
                          try have c28b2 : (9223372036854775807 < (((a0 ++ (⟨#[47]⟩ : ByteArray)) ++ a0) ++ (⟨#[32]⟩ : ByteArray)).size + a1.size) = False := eq_false (Nat.not_lt.2 c28)
                          try (have c28b3 := c28; simp only [ByteArray.size_append, prx_sz, List.length_cons, List.length_nil] at c28b3)
                          replace H := Option.bind_eq_some_iff.mp H
                          obtain ⟨t265, A290, H⟩ := H
                          replace H : (if t265.toList = ((a0 ++ (⟨#[47]⟩ : ByteArray)) ++ a0).toList then ((impl_TypeAhead.f a0).bind fun t266 => (some (t266.toList == a0.toList))) else (some false)) = some r := H
                          have A29 := Aside0.mk A290
                          clear A290
                          by_cases c30 : t265.toList = ((a0 ++ (⟨#[47]⟩ : ByteArray)) ++ a0).toList
                          · rw [if_pos c30] at H
                            have c30b0 : (t265.toList == ((a0 ++ (⟨#[47]⟩ : ByteArray)) ++ a0).toList) = true := beq_iff_eq.mpr c30
                            have c30b1 : (t265.toList != ((a0 ++ (⟨#[47]⟩ : ByteArray)) ++ a0).toList) = false := bne_eq_false_iff_eq.mpr c30
                            clear c30
                            replace H := Option.bind_eq_some_iff.mp H
                            obtain ⟨t266, A310, H⟩ := H
                            replace H : (some (t266.toList == a0.toList)) = some r := H
                            have A31 := Aside0.mk A310
                            clear A310
                            obtain rfl := Option.some.inj H
                            go_wp2_with (first | ((with_reducible refine gate_callee (f := 13) rfl ?_); refine goesL_ (some 37) rfl rfl Try.func13 (by kernel_rfl) rfl #[.string ((((a0 ++ (⟨#[47]⟩ : ByteArray)) ++ a0) ++ (⟨#[32]⟩ : ByteArray)) ++ a1)] rfl (by (try simp only [List.map_toArray, List.map_cons, List.map_nil]); first | done | rfl | (simp only [List.length_drop, List.length_take]; rfl)) ?_; (with_reducible refine (impl_TypeAhead.calls ((((a0 ++ (⟨#[47]⟩ : ByteArray)) ++ a0) ++ (⟨#[32]⟩ : ByteArray)) ++ a1) t265 _ A29.out).mono ?_); rintro e w32 ⟨rfl, hb⟩; refine ⟨_, rfl, ?_⟩; have n0_ := Aside0.mk (below_step (by repeat (first | (with_reducible first | exact HB.out | apply below_alloc | apply pw_below_drewN | apply below_drew1) | exact HB.out)) hb); clear HB; have HB := n0_; clear n0_; (try clear hb); (try clear hb2); (try clear hk); (try clear hi)) | (go_at_call 13; (with_reducible refine (impl_TypeAhead.calls a0 t266 _ A31.out).mono ?_); rintro e w33 ⟨rfl, hb⟩; have n0_ := Aside0.mk (below_step (by repeat (first | (with_reducible first | exact HB.out | apply below_alloc | apply pw_below_drewN | apply below_drew1) | exact HB.out)) hb); clear HB; have HB := n0_; clear n0_; (try clear hb); (try clear hb2); (try clear hk); (try clear hi)))
                            go_ret
                            exact ⟨by first | rfl | (simp [errW_none, errW_some] <;> rfl) | (simp [*, errW_none, errW_some] <;> rfl), by repeat (first | (with_reducible first | exact HB.out | apply below_alloc | apply pw_below_drewN | apply below_drew1) | exact HB.out)⟩
                          · rw [if_neg c30] at H
                            have c30b0 : (t265.toList == ((a0 ++ (⟨#[47]⟩ : ByteArray)) ++ a0).toList) = false := beq_eq_false_iff_ne.mpr c30
                            have c30b1 : (t265.toList != ((a0 ++ (⟨#[47]⟩ : ByteArray)) ++ a0).toList) = true := bne_iff_ne.mpr c30
                            obtain rfl := Option.some.inj H
                            go_wp2_with (first | ((with_reducible refine gate_callee (f := 13) rfl ?_); refine goesL_ (some 37) rfl rfl Try.func13 (by kernel_rfl) rfl #[.string ((((a0 ++ (⟨#[47]⟩ : ByteArray)) ++ a0) ++ (⟨#[32]⟩ : ByteArray)) ++ a1)] rfl (by (try simp only [List.map_toArray, List.map_cons, List.map_nil]); first | done | rfl | (simp only [List.length_drop, List.length_take]; rfl)) ?_; (with_reducible refine (impl_TypeAhead.calls ((((a0 ++ (⟨#[47]⟩ : ByteArray)) ++ a0) ++ (⟨#[32]⟩ : ByteArray)) ++ a1) t265 _ A29.out).mono ?_); rintro e w34 ⟨rfl, hb⟩; refine ⟨_, rfl, ?_⟩; have n0_ := Aside0.mk (below_step (by repeat (first | (with_reducible first | exact HB.out | apply below_alloc | apply pw_below_drewN | apply below_drew1) | exact HB.out)) hb); clear HB; have HB := n0_; clear n0_; (try clear hb); (try clear hb2); (try clear hk); (try clear hi)))
                            go_ret
                            exact ⟨by first | rfl | (simp [errW_none, errW_some] <;> rfl) | (simp [*, errW_none, errW_some] <;> rfl), by repeat (first | (with_reducible first | exact HB.out | apply below_alloc | apply pw_below_drewN | apply below_drew1) | exact HB.out)⟩
                        · rw [if_neg c28] at H
                          exact absurd H (by simp)
                      · rw [if_neg c27] at H
                        exact absurd H (by simp)
                    · rw [if_neg c26] at H
                      exact absurd H (by simp)
                  · rw [if_neg c25] at H
                    exact absurd H (by simp)
                · replace c24 := Bool.eq_false_iff.mpr c24
                  subst c24
                  have H1 : (if a0.size + 1 ≤ 9223372036854775807 then (if (a0 ++ (⟨#[47]⟩ : ByteArray)).size + a0.size ≤ 9223372036854775807 then (if ((a0 ++ (⟨#[47]⟩ : ByteArray)) ++ a0).size + 1 ≤ 9223372036854775807 then (if (((a0 ++ (⟨#[47]⟩ : ByteArray)) ++ a0) ++ (⟨#[59]⟩ : ByteArray)).size + a1.size ≤ 9223372036854775807 then ((impl_TypeAhead.f ((((a0 ++ (⟨#[47]⟩ : ByteArray)) ++ a0) ++ (⟨#[59]⟩ : ByteArray)) ++ a1)).bind fun t267 => (if t267.toList = ((a0 ++ (⟨#[47]⟩ : ByteArray)) ++ a0).toList then ((impl_TypeAhead.f a0).bind fun t268 => (some (t268.toList == a0.toList))) else (some false))) else (none)) else (none)) else (none)) else (none)) = some r := by rw [if_neg (show ¬ (false = true) by decide)] at H; exact H
                  clear H
                  have H := H1
                  clear H1
                  by_cases c35 : a0.size + 1 ≤ 9223372036854775807
                  · rw [if_pos c35] at H
                    have c35b0 := eq_true c35
                    have c35b1 : decide (a0.size + 1 ≤ 9223372036854775807) = true := decide_eq_true c35
                    try have c35b2 : (9223372036854775807 < a0.size + 1) = False := eq_false (Nat.not_lt.2 c35)
                    try (have c35b3 := c35; simp only [ByteArray.size_append, prx_sz, List.length_cons, List.length_nil] at c35b3)
                    by_cases c36 : (a0 ++ (⟨#[47]⟩ : ByteArray)).size + a0.size ≤ 9223372036854775807
                    · rw [if_pos c36] at H
                      have c36b0 := eq_true c36
                      have c36b1 : decide ((a0 ++ (⟨#[47]⟩ : ByteArray)).size + a0.size ≤ 9223372036854775807) = true := decide_eq_true c36
                      try have c36b2 : (9223372036854775807 < (a0 ++ (⟨#[47]⟩ : ByteArray)).size + a0.size) = False := eq_false (Nat.not_lt.2 c36)
                      try (have c36b3 := c36; simp only [ByteArray.size_append, prx_sz, List.length_cons, List.length_nil] at c36b3)
                      by_cases c37 : ((a0 ++ (⟨#[47]⟩ : ByteArray)) ++ a0).size + 1 ≤ 9223372036854775807
                      · rw [if_pos c37] at H
                        have c37b0 := eq_true c37
                        have c37b1 : decide (((a0 ++ (⟨#[47]⟩ : ByteArray)) ++ a0).size + 1 ≤ 9223372036854775807) = true := decide_eq_true c37
                        try have c37b2 : (9223372036854775807 < ((a0 ++ (⟨#[47]⟩ : ByteArray)) ++ a0).size + 1) = False := eq_false (Nat.not_lt.2 c37)
                        try (have c37b3 := c37; simp only [ByteArray.size_append, prx_sz, List.length_cons, List.length_nil] at c37b3)
                        by_cases c38 : (((a0 ++ (⟨#[47]⟩ : ByteArray)) ++ a0) ++ (⟨#[59]⟩ : ByteArray)).size + a1.size ≤ 9223372036854775807
                        · rw [if_pos c38] at H
                          have c38b0 := eq_true c38
                          have c38b1 : decide ((((a0 ++ (⟨#[47]⟩ : ByteArray)) ++ a0) ++ (⟨#[59]⟩ : ByteArray)).size + a1.size ≤ 9223372036854775807) = true := decide_eq_true c38
                          try have c38b2 : (9223372036854775807 < (((a0 ++ (⟨#[47]⟩ : ByteArray)) ++ a0) ++ (⟨#[59]⟩ : ByteArray)).size + a1.size) = False := eq_false (Nat.not_lt.2 c38)
                          try (have c38b3 := c38; simp only [ByteArray.size_append, prx_sz, List.length_cons, List.length_nil] at c38b3)
                          replace H := Option.bind_eq_some_iff.mp H
                          obtain ⟨t267, A390, H⟩ := H
                          replace H : (if t267.toList = ((a0 ++ (⟨#[47]⟩ : ByteArray)) ++ a0).toList then ((impl_TypeAhead.f a0).bind fun t268 => (some (t268.toList == a0.toList))) else (some false)) = some r := H
                          have A39 := Aside0.mk A390
                          clear A390
                          by_cases c40 : t267.toList = ((a0 ++ (⟨#[47]⟩ : ByteArray)) ++ a0).toList
                          · rw [if_pos c40] at H
                            have c40b0 : (t267.toList == ((a0 ++ (⟨#[47]⟩ : ByteArray)) ++ a0).toList) = true := beq_iff_eq.mpr c40
                            have c40b1 : (t267.toList != ((a0 ++ (⟨#[47]⟩ : ByteArray)) ++ a0).toList) = false := bne_eq_false_iff_eq.mpr c40
                            clear c40
                            replace H := Option.bind_eq_some_iff.mp H
                            obtain ⟨t268, A410, H⟩ := H
                            replace H : (some (t268.toList == a0.toList)) = some r := H
                            have A41 := Aside0.mk A410
                            clear A410
                            obtain rfl := Option.some.inj H
                            go_wp2_with (first | ((with_reducible refine gate_callee (f := 13) rfl ?_); refine goesL_ (some 37) rfl rfl Try.func13 (by kernel_rfl) rfl #[.string ((((a0 ++ (⟨#[47]⟩ : ByteArray)) ++ a0) ++ (⟨#[59]⟩ : ByteArray)) ++ a1)] rfl (by (try simp only [List.map_toArray, List.map_cons, List.map_nil]); first | done | rfl | (simp only [List.length_drop, List.length_take]; rfl)) ?_; (with_reducible refine (impl_TypeAhead.calls ((((a0 ++ (⟨#[47]⟩ : ByteArray)) ++ a0) ++ (⟨#[59]⟩ : ByteArray)) ++ a1) t267 _ A39.out).mono ?_); rintro e w42 ⟨rfl, hb⟩; refine ⟨_, rfl, ?_⟩; have n0_ := Aside0.mk (below_step (by repeat (first | (with_reducible first | exact HB.out | apply below_alloc | apply pw_below_drewN | apply below_drew1) | exact HB.out)) hb); clear HB; have HB := n0_; clear n0_; (try clear hb); (try clear hb2); (try clear hk); (try clear hi)) | (go_at_call 13; (with_reducible refine (impl_TypeAhead.calls a0 t268 _ A41.out).mono ?_); rintro e w43 ⟨rfl, hb⟩; have n0_ := Aside0.mk (below_step (by repeat (first | (with_reducible first | exact HB.out | apply below_alloc | apply pw_below_drewN | apply below_drew1) | exact HB.out)) hb); clear HB; have HB := n0_; clear n0_; (try clear hb); (try clear hb2); (try clear hk); (try clear hi)))
                            go_ret
                            exact ⟨by first | rfl | (simp [errW_none, errW_some] <;> rfl) | (simp [*, errW_none, errW_some] <;> rfl), by repeat (first | (with_reducible first | exact HB.out | apply below_alloc | apply pw_below_drewN | apply below_drew1) | exact HB.out)⟩
                          · rw [if_neg c40] at H
                            have c40b0 : (t267.toList == ((a0 ++ (⟨#[47]⟩ : ByteArray)) ++ a0).toList) = false := beq_eq_false_iff_ne.mpr c40
                            have c40b1 : (t267.toList != ((a0 ++ (⟨#[47]⟩ : ByteArray)) ++ a0).toList) = true := bne_iff_ne.mpr c40
                            obtain rfl := Option.some.inj H
                            go_wp2_with (first | ((with_reducible refine gate_callee (f := 13) rfl ?_); refine goesL_ (some 37) rfl rfl Try.func13 (by kernel_rfl) rfl #[.string ((((a0 ++ (⟨#[47]⟩ : ByteArray)) ++ a0) ++ (⟨#[59]⟩ : ByteArray)) ++ a1)] rfl (by (try simp only [List.map_toArray, List.map_cons, List.map_nil]); first | done | rfl | (simp only [List.length_drop, List.length_take]; rfl)) ?_; (with_reducible refine (impl_TypeAhead.calls ((((a0 ++ (⟨#[47]⟩ : ByteArray)) ++ a0) ++ (⟨#[59]⟩ : ByteArray)) ++ a1) t267 _ A39.out).mono ?_); rintro e w44 ⟨rfl, hb⟩; refine ⟨_, rfl, ?_⟩; have n0_ := Aside0.mk (below_step (by repeat (first | (with_reducible first | exact HB.out | apply below_alloc | apply pw_below_drewN | apply below_drew1) | exact HB.out)) hb); clear HB; have HB := n0_; clear n0_; (try clear hb); (try clear hb2); (try clear hk); (try clear hi)))
                            go_ret
                            exact ⟨by first | rfl | (simp [errW_none, errW_some] <;> rfl) | (simp [*, errW_none, errW_some] <;> rfl), by repeat (first | (with_reducible first | exact HB.out | apply below_alloc | apply pw_below_drewN | apply below_drew1) | exact HB.out)⟩
                        · rw [if_neg c38] at H
                          exact absurd H (by simp)
                      · rw [if_neg c37] at H
                        exact absurd H (by simp)
                    · rw [if_neg c36] at H
                      exact absurd H (by simp)
                  · rw [if_neg c35] at H
                    exact absurd H (by simp)
        · rw [if_neg c8] at H
          have c8b0 : (t256.toList == ([97, 47, 98] : List UInt8)) = false := beq_eq_false_iff_ne.mpr c8
          have c8b1 : (t256.toList != ([97, 47, 98] : List UInt8)) = true := bne_iff_ne.mpr c8
          obtain rfl := Option.some.inj H
          go_wp2_with (first | ((with_reducible refine gate_callee (f := 13) rfl ?_); refine goesL_ (some 16) rfl rfl Try.func13 (by kernel_rfl) rfl #[.string (⟨#[97, 47, 98, 59, 32, 99, 61, 100]⟩ : ByteArray)] rfl (by (try simp only [List.map_toArray, List.map_cons, List.map_nil]); first | done | rfl | (simp only [List.length_drop, List.length_take]; rfl)) ?_; (with_reducible refine (impl_TypeAhead.calls (⟨#[97, 47, 98, 59, 32, 99, 61, 100]⟩ : ByteArray) t256 _ A7.out).mono ?_); rintro e w45 ⟨rfl, hb⟩; refine ⟨_, rfl, ?_⟩; have n0_ := Aside0.mk (below_step (by repeat (first | (with_reducible first | exact HB.out | apply below_alloc | apply pw_below_drewN | apply below_drew1) | exact HB.out)) hb); clear HB; have HB := n0_; clear n0_; (try clear hb); (try clear hb2); (try clear hk); (try clear hi)))
          go_ret
          exact ⟨by first | rfl | (simp [errW_none, errW_some] <;> rfl) | (simp [*, errW_none, errW_some] <;> rfl), by repeat (first | (with_reducible first | exact HB.out | apply below_alloc | apply pw_below_drewN | apply below_drew1) | exact HB.out)⟩

/-- THE ONE PURE STATEMENT of laws_FnTypeAhead: yours. -/
def laws_FnTypeAhead.Pure : Prop := ∀ (a0 : ByteArray) (a1 : ByteArray) (a2 : Bool), a0.size ≤ 140737488351232 → a1.size ≤ 140737488351232 → ∃ k, laws_FnTypeAhead.f k a0 a1 a2 = some true
theorem laws_FnTypeAhead.walk (P : laws_FnTypeAhead.Pure) (a0 : ByteArray) (a1 : ByteArray) (a2 : Bool) (w : World) (w0 : a0.size ≤ 140737488351232) (w1 : a1.size ≤ 140737488351232) :
    Calls Try.prog 3 #[.string a0, .string a1, .bool a2] w fun e w' => e = .returned (.bool true) ∧ Below w.heap.size w w' := by
  obtain ⟨k, h⟩ := P a0 a1 a2 w0 w1
  refine (laws_FnTypeAhead.calls k a0 a1 a2 true w h).mono ?_
  rintro e w' ⟨rfl, hd⟩
  exact ⟨rfl, hd⟩

end Go.Proofs.Ytdfeojkombmiaaa.QA
