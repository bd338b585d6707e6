/- Texts of this claim, one behind the other (merged by wip/prune.py of this repo, without what the proof does not use): QA17, QA18, QA30. -/
import Derived.Test.YtgmjaggkiifdjaaZT5
set_option linter.unusedVariables false
set_option linter.unusedSimpArgs false
namespace Go.Proofs.Ytgmjaggkiifdjaa.QA
open Go.Proofs.Ytgmjaggkiifdjaa.Given
open Go.Proofs.Ytgmjaggkiifdjaa.PrX
open Go.RowKit Go.Proofs.YtgmjaggkiifdjaaW.PrintWords Go.Proofs.YtgmjaggkiifdjaaW.PrintLast Go.Proofs.YtgmjaggkiifdjaaW.PrintMore
mutual
def spec_value.j0 : Nat → ByteArray → Bool → Option (ByteArray × ByteArray × Int)
  | 0, _, _ => none
  | k + 1, x0, x13 => if x13 = true then (if 1 ≤ (x0.size : Int) then ((spec_place.f k (x0.extract 1 x0.size) 34).bind fun t155 => (if t155 < 0 then (some ((⟨#[]⟩ : ByteArray), (⟨#[]⟩ : ByteArray), 0)) else (if 0 ≤ (wrap64 (t155 + 1)) then (if (wrap64 (t155 + 1)) ≤ (x0.size : Int) then ((spec_place.f k (x0.extract 0 ((wrap64 (t155 + 1)) : Int).toNat) 92).bind fun t156 => (if t156 ≥ 0 then (some ((⟨#[]⟩ : ByteArray), (⟨#[]⟩ : ByteArray), 2)) else (if 1 ≤ (wrap64 (t155 + 1)) then (if 0 ≤ (wrap64 (t155 + 2)) then (if (wrap64 (t155 + 2)) ≤ (x0.size : Int) then (some (x0.extract 1 ((wrap64 (t155 + 1)) : Int).toNat, x0.extract ((wrap64 (t155 + 2)) : Int).toNat x0.size, 1)) else (none)) else (none)) else (none)))) else (none)) else (none)))) else (none)) else (spec_value.l0 k x0 0)
def spec_value.l0 : Nat → ByteArray → Int → Option (ByteArray × ByteArray × Int)
  | 0, _, _ => none
  | k + 1, x0, x6 => if x6 < (x0.size : Int) then (if 0 ≤ x6 then ((spec_FieldByte.f k (bt x0 x6)).bind fun t157 => (if t157 = true then (spec_value.l0 k x0 (wrap64 (x6 + 1))) else (if x6 = 0 then (some ((⟨#[]⟩ : ByteArray), (⟨#[]⟩ : ByteArray), 0)) else (if x6 ≤ (x0.size : Int) then (some (x0.extract 0 (x6 : Int).toNat, x0.extract (x6 : Int).toNat x0.size, 1)) else (none))))) else (none)) else (if x6 = 0 then (some ((⟨#[]⟩ : ByteArray), (⟨#[]⟩ : ByteArray), 0)) else (if 0 ≤ x6 then (if x6 ≤ (x0.size : Int) then (some (x0.extract 0 (x6 : Int).toNat, x0.extract (x6 : Int).toNat x0.size, 1)) else (none)) else (none)))
end
def spec_value.f (k : Nat) (a0 : ByteArray) : Option (ByteArray × ByteArray × Int) := if a0.toList = ([] : List UInt8) then (spec_value.j0 k a0 false) else (if 0 < (a0.size : Int) then (spec_value.j0 k a0 ((bt a0 0) == 34)) else (none))
theorem spec_value.mono_l : ∀ k, (∀ y0 y1, LeO (spec_value.j0 k y0 y1) (spec_value.j0 (k + 1) y0 y1)) ∧ (∀ y0 y1, LeO (spec_value.l0 k y0 y1) (spec_value.l0 (k + 1) y0 y1))
  | 0 => ⟨fun _ _ r h => by simp [spec_value.j0] at h, fun _ _ r h => by simp [spec_value.l0] at h⟩
  | k + 1 => by
    obtain ⟨ih0, ih1⟩ := spec_value.mono_l k
    refine ⟨?_, ?_⟩
    · intro y0 y1
      unfold spec_value.j0
      repeat' first
      | (with_reducible exact ih0 _ _)
      | (with_reducible exact ih1 _ _)
      | (with_reducible exact spec_FieldByte.mono _ _)
      | (with_reducible exact spec_place.mono _ _ _)
      | (with_reducible exact LeO.refl _)
      | (with_reducible exact LeO.none _)
      | (with_reducible refine LeO.ite ?_ ?_)
      | (with_reducible refine LeO.bind ?_ (fun _ => ?_))
      | exact ih0 _ _
      | exact ih1 _ _
      | exact spec_FieldByte.mono _ _
      | exact spec_place.mono _ _ _
      | exact LeO.none _
      | refine LeO.ite ?_ ?_
      | refine LeO.bind ?_ (fun _ => ?_)
    · intro y0 y1
      unfold spec_value.l0
      repeat' first
      | (with_reducible exact ih0 _ _)
      | (with_reducible exact ih1 _ _)
      | (with_reducible exact spec_FieldByte.mono _ _)
      | (with_reducible exact spec_place.mono _ _ _)
      | (with_reducible exact LeO.refl _)
      | (with_reducible exact LeO.none _)
      | (with_reducible refine LeO.ite ?_ ?_)
      | (with_reducible refine LeO.bind ?_ (fun _ => ?_))
      | exact ih0 _ _
      | exact ih1 _ _
      | exact spec_FieldByte.mono _ _
      | exact spec_place.mono _ _ _
      | exact LeO.none _
      | refine LeO.ite ?_ ?_
      | refine LeO.bind ?_ (fun _ => ?_)
theorem spec_value.mono : ∀ a0 k, LeO (spec_value.f k a0) (spec_value.f (k + 1) a0) := by
  intro a0 k
  obtain ⟨ih0, ih1⟩ := spec_value.mono_l k
  unfold spec_value.f
  repeat' first
      | (with_reducible exact ih0 _ _)
      | (with_reducible exact ih1 _ _)
      | (with_reducible exact spec_FieldByte.mono _ _)
      | (with_reducible exact spec_place.mono _ _ _)
      | (with_reducible exact LeO.refl _)
      | (with_reducible exact LeO.none _)
      | (with_reducible refine LeO.ite ?_ ?_)
      | (with_reducible refine LeO.bind ?_ (fun _ => ?_))
      | exact ih0 _ _
      | exact ih1 _ _
      | exact spec_FieldByte.mono _ _
      | exact spec_place.mono _ _ _
      | exact LeO.none _
      | refine LeO.ite ?_ ?_
      | refine LeO.bind ?_ (fun _ => ?_)
set_option maxHeartbeats 8000000 in
set_option maxRecDepth 100000 in
theorem spec_value.calls (k : Nat) (a0 : ByteArray) (r1 : ByteArray) (r2 : ByteArray) (r3 : Int) (w : World) (h : spec_value.f k a0 = some (r1, r2, r3)) :
  Calls Try.prog 28 #[.string a0] w fun e w' => e = .returned (.tuple #[.string r1, .string r2, .int .i64 r3]) ∧ Below w.heap.size w w' := by
 have HB := Aside0.mk (Below.refl w.heap.size w)
 have H : (if a0.toList = ([] : List UInt8) then (spec_value.j0 k a0 false) else (if 0 < (a0.size : Int) then (spec_value.j0 k a0 ((bt a0 0) == 34)) else (none))) = some (r1, r2, r3) := h
 clear h
 have HC2 := Aside0.mk H
 clear H
 go_enter Try.func28, Try.ntmps28
 go_upto_region 1 with (fail)
 repeat (go_quiet (fail); go_upto_region 1 with (fail))
 go_cut [13] (fun v13 wc => ∃ (kq : Nat) (x13_1 : Bool), v13 = .bool x13_1 ∧ Aside0 (spec_value.j0 kq a0 x13_1 = some (r1, r2, r3)) ∧ Aside0 (kq ≤ k) ∧ Aside0 (Below w.heap.size w wc))
 case first =>
  have H := HC2.out
  clear HC2
  by_cases c3 : a0.toList = ([] : List UInt8)
  ·rw [if_pos c3] at H
   have c3b0 : (a0.toList == ([] : List UInt8)) = true := beq_iff_eq.mpr c3
   have c3b1 : (a0.toList != ([] : List UInt8)) = false := bne_eq_false_iff_eq.mpr c3
   clear c3
   (first | rw [c3b0] | (simp only [i64_w, i32_w]; rw [c3b0]) | skip)
   have H' := Aside0.mk H
   clear H
   go_wp2
   repeat (go_quiet (fail); try go_wp2)
   go_meet
   case rel => exact ⟨_, (false), (by first | rfl | (simp; done) | (rw [prx_ne]; first | done | rfl) | (simp [*]; done)), H', ⟨by first | omega | exact Nat.le_refl _⟩, ⟨by repeat (first | (with_reducible first | exact HB.out | apply below_alloc | apply pw_below_drewN | apply below_drew1) | exact HB.out)⟩⟩
  ·rw [if_neg c3] at H
   have c3b0 : (a0.toList == ([] : List UInt8)) = false := beq_eq_false_iff_ne.mpr c3
   have c3b1 : (a0.toList != ([] : List UInt8)) = true := bne_iff_ne.mpr c3
   (first | rw [c3b0] | (simp only [i64_w, i32_w]; rw [c3b0]) | skip)
   by_cases c4 : 0 < (a0.size : Int)
   ·rw [if_pos c4] at H
    have c4b0 : decide (0 < (a0.size : Int)) = true := decide_eq_true c4
    have c4b1 : decide (0 < a0.size) = true := decide_eq_true (by omega)
    clear c4
    have H' := Aside0.mk H
    clear H
    have p5 : 0 ≤ (0 : Int) := (by omega)
    have q5 : 0 < a0.size := (by have : (0 : Int) < (a0.size : Int) := of_decide_eq_true (by first | (with_reducible assumption) | assumption); omega)
    have hx5 : ∀ h : 0 < a0.size, ((a0[0]'h).toNat : Int) = bt a0 0 := bt_at a0 0
    clear p5
    have qi5 : (0 < (a0.size : Int)) = True := eq_true (of_decide_eq_true (by first | (with_reducible assumption) | assumption))
    replace q5 := eq_true q5
    go_wp2
    repeat (go_quiet (fail); try go_wp2)
    go_meet
    case rel => exact ⟨_, (((bt a0 0) == 34)), (by first | rfl | (simp; done) | (rw [prx_ne]; first | done | rfl) | (simp [*]; done)), H', ⟨by first | omega | exact Nat.le_refl _⟩, ⟨by repeat (first | (with_reducible first | exact HB.out | apply below_alloc | apply pw_below_drewN | apply below_drew1) | exact HB.out)⟩⟩
   ·rw [if_neg c4] at H
    exact absurd H (by simp)
 case rest =>
  clear HC2
  try clear c2
  try clear p2
  try clear c3
  try clear c3b0
  try clear c3b1
  try clear c4
  try clear c4b0
  try clear c4b1
  try clear p5
  try clear q5
  try clear hx5
  try clear qi5
  try clear p5
  try clear q5
  obtain ⟨kq, x13_1, rfl, HA, HJ1, HB⟩ := hcut
  cases kq with
  | zero => exact absurd HA.out (by simp [spec_value.j0])
  | succ kj1 =>
   have H := HA.out
   clear HA
   simp only [spec_value.j0] at H
   by_cases c6 : x13_1 = true
   ·subst c6
    have H1 : (if 1 ≤ (a0.size : Int) then ((spec_place.f kj1 (a0.extract 1 a0.size) 34).bind fun t155 => (if t155 < 0 then (some ((⟨#[]⟩ : ByteArray), (⟨#[]⟩ : ByteArray), 0)) else (if 0 ≤ (wrap64 (t155 + 1)) then (if (wrap64 (t155 + 1)) ≤ (a0.size : Int) then ((spec_place.f kj1 (a0.extract 0 ((wrap64 (t155 + 1)) : Int).toNat) 92).bind fun t156 => (if t156 ≥ 0 then (some ((⟨#[]⟩ : ByteArray), (⟨#[]⟩ : ByteArray), 2)) else (if 1 ≤ (wrap64 (t155 + 1)) then (if 0 ≤ (wrap64 (t155 + 2)) then (if (wrap64 (t155 + 2)) ≤ (a0.size : Int) then (some (a0.extract 1 ((wrap64 (t155 + 1)) : Int).toNat, a0.extract ((wrap64 (t155 + 2)) : Int).toNat a0.size, 1)) else (none)) else (none)) else (none)))) else (none)) else (none)))) else (none)) = some (r1, r2, r3) := by rw [if_pos rfl] at H; exact H
    clear H
    have H := H1
    clear H1
    by_cases c7 : 1 ≤ (a0.size : Int)
    ·rw [if_pos c7] at H
     have c7b0 := eq_true c7
     have c7b1 : decide (1 ≤ (a0.size : Int)) = true := decide_eq_true c7
     clear c7
     replace H := Option.bind_eq_some_iff.mp H
     obtain ⟨t155, A80, H⟩ := H
     replace H : (if t155 < 0 then (some ((⟨#[]⟩ : ByteArray), (⟨#[]⟩ : ByteArray), 0)) else (if 0 ≤ (wrap64 (t155 + 1)) then (if (wrap64 (t155 + 1)) ≤ (a0.size : Int) then ((spec_place.f kj1 (a0.extract 0 ((wrap64 (t155 + 1)) : Int).toNat) 92).bind fun t156 => (if t156 ≥ 0 then (some ((⟨#[]⟩ : ByteArray), (⟨#[]⟩ : ByteArray), 2)) else (if 1 ≤ (wrap64 (t155 + 1)) then (if 0 ≤ (wrap64 (t155 + 2)) then (if (wrap64 (t155 + 2)) ≤ (a0.size : Int) then (some (a0.extract 1 ((wrap64 (t155 + 1)) : Int).toNat, a0.extract ((wrap64 (t155 + 2)) : Int).toNat a0.size, 1)) else (none)) else (none)) else (none)))) else (none)) else (none))) = some (r1, r2, r3) := H
     have A8 := Aside0.mk A80
     clear A80
     by_cases c9 : t155 < 0
     ·rw [if_pos c9] at H
      have c9b0 : decide (t155 < 0) = true := decide_eq_true c9
      clear c9
      simp only [Option.some.injEq, Prod.mk.injEq] at H
      obtain ⟨rfl, rfl, rfl⟩ := H
      go_wp2_with (first | (go_at_call 24; (with_reducible refine (spec_place.calls kj1 (a0.extract 1 a0.size) 34 t155 _ A8.out).mono ?_); rintro e w' ⟨rfl, ⟨nd, rfl⟩⟩; (try first | exact ⟨rfl, _, World.drewN_drewN _ _ _⟩ | exact ⟨rfl, _, Eq.trans (World.drewN_drewN _ _ _) (congrArg (World.drewN _) (Nat.add_assoc _ _ _))⟩)))
      repeat (go_quiet (first | (go_at_call 24; (with_reducible refine (spec_place.calls kj1 (a0.extract 1 a0.size) 34 t155 _ A8.out).mono ?_); rintro e w' ⟨rfl, ⟨nd, rfl⟩⟩; (try first | exact ⟨rfl, _, World.drewN_drewN _ _ _⟩ | exact ⟨rfl, _, Eq.trans (World.drewN_drewN _ _ _) (congrArg (World.drewN _) (Nat.add_assoc _ _ _))⟩))); try go_wp2_with (first | (go_at_call 24; (with_reducible refine (spec_place.calls kj1 (a0.extract 1 a0.size) 34 t155 _ A8.out).mono ?_); rintro e w' ⟨rfl, ⟨nd, rfl⟩⟩; (try first | exact ⟨rfl, _, World.drewN_drewN _ _ _⟩ | exact ⟨rfl, _, Eq.trans (World.drewN_drewN _ _ _) (congrArg (World.drewN _) (Nat.add_assoc _ _ _))⟩))))
      go_ret3
      exact ⟨by first | rfl | (simp [errW_none, errW_some] <;> rfl) | (simp [*, errW_none, errW_some] <;> rfl), by repeat (first | (with_reducible first | exact HB.out | apply below_alloc | apply pw_below_drewN | apply below_drew1) | exact HB.out)⟩
     ·rw [if_neg c9] at H
      have c9b0 : decide (t155 < 0) = false := decide_eq_false c9
      clear c9
      obtain ⟨ji10, hji10⟩ : ∃ j_ : Int, (wrap64 (t155 + 1)) = j_ := ⟨_, rfl⟩
      replace H : (if 0 ≤ (ji10) then (if (ji10) ≤ (a0.size : Int) then ((spec_place.f kj1 (a0.extract 0 ((ji10) : Int).toNat) 92).bind fun t156 => (if t156 ≥ 0 then (some ((⟨#[]⟩ : ByteArray), (⟨#[]⟩ : ByteArray), 2)) else (if 1 ≤ (ji10) then (if 0 ≤ (wrap64 (t155 + 2)) then (if (wrap64 (t155 + 2)) ≤ (a0.size : Int) then (some (a0.extract 1 ((ji10) : Int).toNat, a0.extract ((wrap64 (t155 + 2)) : Int).toNat a0.size, 1)) else (none)) else (none)) else (none)))) else (none)) else (none)) = some (r1, r2, r3) := by first | (rw [hji10] at H; exact H) | (simp only [hji10] at H ⊢; exact H)
      (try rw [hji10] at A8)
      have hji10w : (IntKind.i64.wrap (t155 + 1)) = ji10 := (i64_w _).trans hji10
      by_cases c11 : 0 ≤ (ji10)
      ·rw [if_pos c11] at H
       have c11b0 := eq_true c11
       have c11b1 : decide (0 ≤ (ji10)) = true := decide_eq_true c11
       clear c11
       by_cases c12 : (ji10) ≤ (a0.size : Int)
       ·rw [if_pos c12] at H
        have c12b0 := eq_true c12
        have c12b1 : decide ((ji10) ≤ (a0.size : Int)) = true := decide_eq_true c12
        clear c12
        replace H := Option.bind_eq_some_iff.mp H
        obtain ⟨t156, A130, H⟩ := H
        replace H : (if t156 ≥ 0 then (some ((⟨#[]⟩ : ByteArray), (⟨#[]⟩ : ByteArray), 2)) else (if 1 ≤ (ji10) then (if 0 ≤ (wrap64 (t155 + 2)) then (if (wrap64 (t155 + 2)) ≤ (a0.size : Int) then (some (a0.extract 1 ((ji10) : Int).toNat, a0.extract ((wrap64 (t155 + 2)) : Int).toNat a0.size, 1)) else (none)) else (none)) else (none))) = some (r1, r2, r3) := H
        have A13 := Aside0.mk A130
        clear A130
        by_cases c14 : t156 ≥ 0
        ·rw [if_pos c14] at H
         have c14b0 : decide (0 ≤ t156) = true := decide_eq_true c14
         clear c14
         simp only [Option.some.injEq, Prod.mk.injEq] at H
         obtain ⟨rfl, rfl, rfl⟩ := H
         go_wp2_with (first | (go_at_call 24; (with_reducible refine (spec_place.calls kj1 (a0.extract 1 a0.size) 34 t155 _ A8.out).mono ?_); rintro e w' ⟨rfl, ⟨nd, rfl⟩⟩; (try first | exact ⟨rfl, _, World.drewN_drewN _ _ _⟩ | exact ⟨rfl, _, Eq.trans (World.drewN_drewN _ _ _) (congrArg (World.drewN _) (Nat.add_assoc _ _ _))⟩)) | (go_at_call 24; (with_reducible refine (spec_place.calls kj1 (a0.extract 0 ((ji10) : Int).toNat) 92 t156 _ A13.out).mono ?_); rintro e w' ⟨rfl, ⟨nd, rfl⟩⟩; (try first | exact ⟨rfl, _, World.drewN_drewN _ _ _⟩ | exact ⟨rfl, _, Eq.trans (World.drewN_drewN _ _ _) (congrArg (World.drewN _) (Nat.add_assoc _ _ _))⟩)))
         repeat (go_quiet (first | (go_at_call 24; (with_reducible refine (spec_place.calls kj1 (a0.extract 1 a0.size) 34 t155 _ A8.out).mono ?_); rintro e w' ⟨rfl, ⟨nd, rfl⟩⟩; (try first | exact ⟨rfl, _, World.drewN_drewN _ _ _⟩ | exact ⟨rfl, _, Eq.trans (World.drewN_drewN _ _ _) (congrArg (World.drewN _) (Nat.add_assoc _ _ _))⟩)) | (go_at_call 24; (with_reducible refine (spec_place.calls kj1 (a0.extract 0 ((ji10) : Int).toNat) 92 t156 _ A13.out).mono ?_); rintro e w' ⟨rfl, ⟨nd, rfl⟩⟩; (try first | exact ⟨rfl, _, World.drewN_drewN _ _ _⟩ | exact ⟨rfl, _, Eq.trans (World.drewN_drewN _ _ _) (congrArg (World.drewN _) (Nat.add_assoc _ _ _))⟩))); try go_wp2_with (first | (go_at_call 24; (with_reducible refine (spec_place.calls kj1 (a0.extract 1 a0.size) 34 t155 _ A8.out).mono ?_); rintro e w' ⟨rfl, ⟨nd, rfl⟩⟩; (try first | exact ⟨rfl, _, World.drewN_drewN _ _ _⟩ | exact ⟨rfl, _, Eq.trans (World.drewN_drewN _ _ _) (congrArg (World.drewN _) (Nat.add_assoc _ _ _))⟩)) | (go_at_call 24; (with_reducible refine (spec_place.calls kj1 (a0.extract 0 ((ji10) : Int).toNat) 92 t156 _ A13.out).mono ?_); rintro e w' ⟨rfl, ⟨nd, rfl⟩⟩; (try first | exact ⟨rfl, _, World.drewN_drewN _ _ _⟩ | exact ⟨rfl, _, Eq.trans (World.drewN_drewN _ _ _) (congrArg (World.drewN _) (Nat.add_assoc _ _ _))⟩))))
         go_ret3
         exact ⟨by first | rfl | (simp [errW_none, errW_some] <;> rfl) | (simp only [← hji10]; first | rfl | (simp [errW_none, errW_some] <;> rfl)) | (simp [*, errW_none, errW_some] <;> rfl), by repeat (first | (with_reducible first | exact HB.out | apply below_alloc | apply pw_below_drewN | apply below_drew1) | exact HB.out)⟩
        ·rw [if_neg c14] at H
         have c14b0 : decide (0 ≤ t156) = false := decide_eq_false c14
         clear c14
         by_cases c15 : 1 ≤ (ji10)
         ·rw [if_pos c15] at H
          have c15b0 := eq_true c15
          have c15b1 : decide (1 ≤ (ji10)) = true := decide_eq_true c15
          clear c15
          have c16b0 := eq_true (of_decide_eq_true (by first | (with_reducible assumption) | assumption) : (ji10) ≤ (a0.size : Int))
          obtain ⟨ji17, hji17⟩ : ∃ j_ : Int, (wrap64 (t155 + 2)) = j_ := ⟨_, rfl⟩
          replace H : (if 0 ≤ (ji17) then (if (ji17) ≤ (a0.size : Int) then (some (a0.extract 1 ((ji10) : Int).toNat, a0.extract ((ji17) : Int).toNat a0.size, 1)) else (none)) else (none)) = some (r1, r2, r3) := by first | (rw [hji17] at H; exact H) | (simp only [hji17] at H ⊢; exact H)
          (try rw [hji17] at A8)
          (try rw [hji17] at A13)
          have hji17w : (IntKind.i64.wrap (t155 + 2)) = ji17 := (i64_w _).trans hji17
          by_cases c18 : 0 ≤ (ji17)
          ·rw [if_pos c18] at H
           have c18b0 := eq_true c18
           have c18b1 : decide (0 ≤ (ji17)) = true := decide_eq_true c18
           clear c18
           by_cases c19 : (ji17) ≤ (a0.size : Int)
           ·rw [if_pos c19] at H
            have c19b0 := eq_true c19
            have c19b1 : decide ((ji17) ≤ (a0.size : Int)) = true := decide_eq_true c19
            clear c19
            simp only [Option.some.injEq, Prod.mk.injEq] at H
            obtain ⟨rfl, rfl, rfl⟩ := H
            go_wp2_with (first | (go_at_call 24; (with_reducible refine (spec_place.calls kj1 (a0.extract 1 a0.size) 34 t155 _ A8.out).mono ?_); rintro e w' ⟨rfl, ⟨nd, rfl⟩⟩; (try first | exact ⟨rfl, _, World.drewN_drewN _ _ _⟩ | exact ⟨rfl, _, Eq.trans (World.drewN_drewN _ _ _) (congrArg (World.drewN _) (Nat.add_assoc _ _ _))⟩)) | (go_at_call 24; (with_reducible refine (spec_place.calls kj1 (a0.extract 0 ((ji10) : Int).toNat) 92 t156 _ A13.out).mono ?_); rintro e w' ⟨rfl, ⟨nd, rfl⟩⟩; (try first | exact ⟨rfl, _, World.drewN_drewN _ _ _⟩ | exact ⟨rfl, _, Eq.trans (World.drewN_drewN _ _ _) (congrArg (World.drewN _) (Nat.add_assoc _ _ _))⟩)))
            repeat (go_quiet (first | (go_at_call 24; (with_reducible refine (spec_place.calls kj1 (a0.extract 1 a0.size) 34 t155 _ A8.out).mono ?_); rintro e w' ⟨rfl, ⟨nd, rfl⟩⟩; (try first | exact ⟨rfl, _, World.drewN_drewN _ _ _⟩ | exact ⟨rfl, _, Eq.trans (World.drewN_drewN _ _ _) (congrArg (World.drewN _) (Nat.add_assoc _ _ _))⟩)) | (go_at_call 24; (with_reducible refine (spec_place.calls kj1 (a0.extract 0 ((ji10) : Int).toNat) 92 t156 _ A13.out).mono ?_); rintro e w' ⟨rfl, ⟨nd, rfl⟩⟩; (try first | exact ⟨rfl, _, World.drewN_drewN _ _ _⟩ | exact ⟨rfl, _, Eq.trans (World.drewN_drewN _ _ _) (congrArg (World.drewN _) (Nat.add_assoc _ _ _))⟩))); try go_wp2_with (first | (go_at_call 24; (with_reducible refine (spec_place.calls kj1 (a0.extract 1 a0.size) 34 t155 _ A8.out).mono ?_); rintro e w' ⟨rfl, ⟨nd, rfl⟩⟩; (try first | exact ⟨rfl, _, World.drewN_drewN _ _ _⟩ | exact ⟨rfl, _, Eq.trans (World.drewN_drewN _ _ _) (congrArg (World.drewN _) (Nat.add_assoc _ _ _))⟩)) | (go_at_call 24; (with_reducible refine (spec_place.calls kj1 (a0.extract 0 ((ji10) : Int).toNat) 92 t156 _ A13.out).mono ?_); rintro e w' ⟨rfl, ⟨nd, rfl⟩⟩; (try first | exact ⟨rfl, _, World.drewN_drewN _ _ _⟩ | exact ⟨rfl, _, Eq.trans (World.drewN_drewN _ _ _) (congrArg (World.drewN _) (Nat.add_assoc _ _ _))⟩))))
            go_ret3
            exact ⟨by first | rfl | (simp [errW_none, errW_some] <;> rfl) | (simp only [← hji10, ← hji17]; first | rfl | (simp [errW_none, errW_some] <;> rfl)) | (simp [*, errW_none, errW_some] <;> rfl), by repeat (first | (with_reducible first | exact HB.out | apply below_alloc | apply pw_below_drewN | apply below_drew1) | exact HB.out)⟩
           ·rw [if_neg c19] at H
            exact absurd H (by simp)
          ·rw [if_neg c18] at H
           exact absurd H (by simp)
         ·rw [if_neg c15] at H
          exact absurd H (by simp)
       ·rw [if_neg c12] at H
        exact absurd H (by simp)
      ·rw [if_neg c11] at H
       exact absurd H (by simp)
    ·rw [if_neg c7] at H
     exact absurd H (by simp)
   ·replace c6 := Bool.eq_false_iff.mpr c6
    subst c6
    have H1 : (spec_value.l0 kj1 a0 0) = some (r1, r2, r3) := by rw [if_neg (show ¬ (false = true) by decide)] at H; exact H
    clear H
    have H := H1
    clear H1
    have H' := Aside0.mk H
    clear H
    go_wp2
    repeat (go_quiet (fail); try go_wp2)
    go_loopg [6] kj1 (fun kq v6 w' => ∃ (x6_2 : Int), v6 = .int .i64 x6_2 ∧ Aside0 (spec_value.l0 kq a0 x6_2 = some (r1, r2, r3)) ∧ Aside0 (kq ≤ kj1) ∧ Aside0 (Below w.heap.size w w'))
    case atStart => exact ⟨(0), (by first | rfl | (simp; done) | (rw [prx_ne]; first | done | rfl) | (simp [*]; done)), H', ⟨Nat.le_refl _⟩, ⟨by repeat (first | (with_reducible first | exact HB.out | apply below_alloc | apply pw_below_drewN | apply below_drew1) | exact HB.out)⟩⟩
    case round =>
     clear H'
     try clear c1
     try clear c2
     try clear p2
     try clear c3
     try clear c3b0
     try clear c3b1
     try clear c4
     try clear c4b0
     try clear c4b1
     try clear p5
     try clear q5
     try clear hx5
     try clear qi5
     try clear c6
     try clear p6
     try clear c7
     try clear c7b0
     try clear c7b1
     try clear c9
     try clear c9b0
     try clear c11
     try clear c11b0
     try clear c11b1
     try clear c12
     try clear c12b0
     try clear c12b1
     try clear c14
     try clear c14b0
     try clear c15
     try clear c15b0
     try clear c15b1
     try clear c16
     try clear c16b0
     try clear c18
     try clear c18b0
     try clear c18b1
     try clear c19
     try clear c19b0
     try clear c19b1
     try clear p2
     try clear p5
     try clear q5
     obtain ⟨x6_2, rfl, HA, HK2, HB⟩ := hrel
     cases gk with
     | zero => exact absurd HA.out (by simp [spec_value.l0])
     | succ k2 =>
      have H := HA.out
      clear HA
      simp only [spec_value.l0] at H
      by_cases c20 : x6_2 < (a0.size : Int)
      ·rw [if_pos c20] at H
       have c20b0 : decide (x6_2 < (a0.size : Int)) = true := decide_eq_true c20
       clear c20
       by_cases c21 : 0 ≤ x6_2
       ·rw [if_pos c21] at H
        have c21b0 : decide (0 ≤ x6_2) = true := decide_eq_true c21
        clear c21
        replace H := Option.bind_eq_some_iff.mp H
        obtain ⟨t157, A230, H⟩ := H
        replace H : (if t157 = true then (spec_value.l0 k2 a0 (wrap64 (x6_2 + 1))) else (if x6_2 = 0 then (some ((⟨#[]⟩ : ByteArray), (⟨#[]⟩ : ByteArray), 0)) else (if x6_2 ≤ (a0.size : Int) then (some (a0.extract 0 (x6_2 : Int).toNat, a0.extract (x6_2 : Int).toNat a0.size, 1)) else (none)))) = some (r1, r2, r3) := H
        have A23 := Aside0.mk A230
        clear A230
        by_cases c24 : t157 = true
        ·subst c24
         have H1 : (spec_value.l0 k2 a0 (wrap64 (x6_2 + 1))) = some (r1, r2, r3) := by rw [if_pos rfl] at H; exact H
         clear H
         have H := H1
         clear H1
         have H' := Aside0.mk H
         clear H
         have p22 : 0 ≤ (x6_2 : Int) := of_decide_eq_true (by first | (with_reducible assumption) | assumption)
         have q22 : x6_2 < (a0.size : Int) := of_decide_eq_true (by first | (with_reducible assumption) | assumption)
         have hx22 := bt_at a0 x6_2
         replace p22 := eq_true p22
         replace q22 := eq_true q22
         go_wp2_with (first | (go_at_call 27; (with_reducible refine (spec_FieldByte.calls k2 (bt a0 x6_2) true _ A23.out).mono ?_); rintro e w25 ⟨rfl, hb⟩; have n0_ := Aside0.mk (below_step (by repeat (first | (with_reducible first | exact HB.out | apply below_alloc | apply pw_below_drewN | apply below_drew1) | exact HB.out)) hb); clear HB; have HB := n0_; clear n0_; (try clear hb); (try clear hb2); (try clear hk); (try clear hi)))
         repeat (go_quiet (first | (go_at_call 27; (with_reducible refine (spec_FieldByte.calls k2 (bt a0 x6_2) true _ A23.out).mono ?_); rintro e w25 ⟨rfl, hb⟩; have n0_ := Aside0.mk (below_step (by repeat (first | (with_reducible first | exact HB.out | apply below_alloc | apply pw_below_drewN | apply below_drew1) | exact HB.out)) hb); clear HB; have HB := n0_; clear n0_; (try clear hb); (try clear hb2); (try clear hk); (try clear hi))); try go_wp2_with (first | (go_at_call 27; (with_reducible refine (spec_FieldByte.calls k2 (bt a0 x6_2) true _ A23.out).mono ?_); rintro e w25 ⟨rfl, hb⟩; have n0_ := Aside0.mk (below_step (by repeat (first | (with_reducible first | exact HB.out | apply below_alloc | apply pw_below_drewN | apply below_drew1) | exact HB.out)) hb); clear HB; have HB := n0_; clear n0_; (try clear hb); (try clear hb2); (try clear hk); (try clear hi))))
         go_roundg k2
         case measure => have := HJ1.out; have := HK2.out; omega
         case rel => exact ⟨(wrap64 (x6_2 + 1)), (by first | rfl | (simp; done) | (rw [prx_ne]; first | done | rfl) | (simp [*]; done)), H', ⟨by have := HJ1.out; have := HK2.out; omega⟩, ⟨by repeat (first | (with_reducible first | exact HB.out | apply below_alloc | apply pw_below_drewN | apply below_drew1) | exact HB.out)⟩⟩
        ·replace c24 := Bool.eq_false_iff.mpr c24
         subst c24
         have H1 : (if x6_2 = 0 then (some ((⟨#[]⟩ : ByteArray), (⟨#[]⟩ : ByteArray), 0)) else (if x6_2 ≤ (a0.size : Int) then (some (a0.extract 0 (x6_2 : Int).toNat, a0.extract (x6_2 : Int).toNat a0.size, 1)) else (none))) = some (r1, r2, r3) := by rw [if_neg (show ¬ (false = true) by decide)] at H; exact H
         clear H
         have H := H1
         clear H1
         by_cases c26 : x6_2 = 0
         ·rw [if_pos c26] at H
          have c26b0 : (x6_2 == 0) = true := beq_iff_eq.mpr c26
          have c26b1 : (x6_2 != 0) = false := bne_eq_false_iff_eq.mpr c26
          clear c26
          simp only [Option.some.injEq, Prod.mk.injEq] at H
          obtain ⟨rfl, rfl, rfl⟩ := H
          have p22 : 0 ≤ (x6_2 : Int) := of_decide_eq_true (by first | (with_reducible assumption) | assumption)
          have q22 : x6_2 < (a0.size : Int) := of_decide_eq_true (by first | (with_reducible assumption) | assumption)
          have hx22 := bt_at a0 x6_2
          replace p22 := eq_true p22
          replace q22 := eq_true q22
          go_wp2_with (first | (go_at_call 27; (with_reducible refine (spec_FieldByte.calls k2 (bt a0 x6_2) false _ A23.out).mono ?_); rintro e w27 ⟨rfl, hb⟩; have n0_ := Aside0.mk (below_step (by repeat (first | (with_reducible first | exact HB.out | apply below_alloc | apply pw_below_drewN | apply below_drew1) | exact HB.out)) hb); clear HB; have HB := n0_; clear n0_; (try clear hb); (try clear hb2); (try clear hk); (try clear hi)))
          repeat (go_quiet (first | (go_at_call 27; (with_reducible refine (spec_FieldByte.calls k2 (bt a0 x6_2) false _ A23.out).mono ?_); rintro e w27 ⟨rfl, hb⟩; have n0_ := Aside0.mk (below_step (by repeat (first | (with_reducible first | exact HB.out | apply below_alloc | apply pw_below_drewN | apply below_drew1) | exact HB.out)) hb); clear HB; have HB := n0_; clear n0_; (try clear hb); (try clear hb2); (try clear hk); (try clear hi))); try go_wp2_with (first | (go_at_call 27; (with_reducible refine (spec_FieldByte.calls k2 (bt a0 x6_2) false _ A23.out).mono ?_); rintro e w27 ⟨rfl, hb⟩; have n0_ := Aside0.mk (below_step (by repeat (first | (with_reducible first | exact HB.out | apply below_alloc | apply pw_below_drewN | apply below_drew1) | exact HB.out)) hb); clear HB; have HB := n0_; clear n0_; (try clear hb); (try clear hb2); (try clear hk); (try clear hi))))
          go_ret3
          exact ⟨by first | rfl | (simp [errW_none, errW_some] <;> rfl) | (simp [*, errW_none, errW_some] <;> rfl), by repeat (first | (with_reducible first | exact HB.out | apply below_alloc | apply pw_below_drewN | apply below_drew1) | exact HB.out)⟩
         ·rw [if_neg c26] at H
          have c26b0 : (x6_2 == 0) = false := beq_eq_false_iff_ne.mpr c26
          have c26b1 : (x6_2 != 0) = true := bne_iff_ne.mpr c26
          have c28b0 := eq_true (of_decide_eq_true (by first | (with_reducible assumption) | assumption) : 0 ≤ x6_2)
          by_cases c29 : x6_2 ≤ (a0.size : Int)
          ·rw [if_pos c29] at H
           have c29b0 := eq_true c29
           have c29b1 : decide (x6_2 ≤ (a0.size : Int)) = true := decide_eq_true c29
           clear c29
           have c30b0 := eq_true (of_decide_eq_true (by first | (with_reducible assumption) | assumption) : 0 ≤ x6_2)
           have c31b0 := eq_true (of_decide_eq_true (by first | (with_reducible assumption) | assumption) : x6_2 ≤ (a0.size : Int))
           simp only [Option.some.injEq, Prod.mk.injEq] at H
           obtain ⟨rfl, rfl, rfl⟩ := H
           have p22 : 0 ≤ (x6_2 : Int) := of_decide_eq_true (by first | (with_reducible assumption) | assumption)
           have q22 : x6_2 < (a0.size : Int) := of_decide_eq_true (by first | (with_reducible assumption) | assumption)
           have hx22 := bt_at a0 x6_2
           replace p22 := eq_true p22
           replace q22 := eq_true q22
           go_wp2_with (first | (go_at_call 27; (with_reducible refine (spec_FieldByte.calls k2 (bt a0 x6_2) false _ A23.out).mono ?_); rintro e w32 ⟨rfl, hb⟩; have n0_ := Aside0.mk (below_step (by repeat (first | (with_reducible first | exact HB.out | apply below_alloc | apply pw_below_drewN | apply below_drew1) | exact HB.out)) hb); clear HB; have HB := n0_; clear n0_; (try clear hb); (try clear hb2); (try clear hk); (try clear hi)))
           repeat (go_quiet (first | (go_at_call 27; (with_reducible refine (spec_FieldByte.calls k2 (bt a0 x6_2) false _ A23.out).mono ?_); rintro e w32 ⟨rfl, hb⟩; have n0_ := Aside0.mk (below_step (by repeat (first | (with_reducible first | exact HB.out | apply below_alloc | apply pw_below_drewN | apply below_drew1) | exact HB.out)) hb); clear HB; have HB := n0_; clear n0_; (try clear hb); (try clear hb2); (try clear hk); (try clear hi))); try go_wp2_with (first | (go_at_call 27; (with_reducible refine (spec_FieldByte.calls k2 (bt a0 x6_2) false _ A23.out).mono ?_); rintro e w32 ⟨rfl, hb⟩; have n0_ := Aside0.mk (below_step (by repeat (first | (with_reducible first | exact HB.out | apply below_alloc | apply pw_below_drewN | apply below_drew1) | exact HB.out)) hb); clear HB; have HB := n0_; clear n0_; (try clear hb); (try clear hb2); (try clear hk); (try clear hi))))
           go_ret3
           exact ⟨by first | rfl | (simp [errW_none, errW_some] <;> rfl) | (simp [*, errW_none, errW_some] <;> rfl), by repeat (first | (with_reducible first | exact HB.out | apply below_alloc | apply pw_below_drewN | apply below_drew1) | exact HB.out)⟩
          ·rw [if_neg c29] at H
           exact absurd H (by simp)
       ·rw [if_neg c21] at H
        exact absurd H (by simp)
      ·rw [if_neg c20] at H
       have c20b0 : decide (x6_2 < (a0.size : Int)) = false := decide_eq_false c20
       clear c20
       by_cases c33 : x6_2 = 0
       ·rw [if_pos c33] at H
        have c33b0 : (x6_2 == 0) = true := beq_iff_eq.mpr c33
        have c33b1 : (x6_2 != 0) = false := bne_eq_false_iff_eq.mpr c33
        clear c33
        simp only [Option.some.injEq, Prod.mk.injEq] at H
        obtain ⟨rfl, rfl, rfl⟩ := H
        go_wp2
        repeat (go_quiet (fail); try go_wp2)
        go_ret3
        exact ⟨by first | rfl | (simp [errW_none, errW_some] <;> rfl) | (simp [*, errW_none, errW_some] <;> rfl), by repeat (first | (with_reducible first | exact HB.out | apply below_alloc | apply pw_below_drewN | apply below_drew1) | exact HB.out)⟩
       ·rw [if_neg c33] at H
        have c33b0 : (x6_2 == 0) = false := beq_eq_false_iff_ne.mpr c33
        have c33b1 : (x6_2 != 0) = true := bne_iff_ne.mpr c33
        by_cases c34 : 0 ≤ x6_2
        ·rw [if_pos c34] at H
         have c34b0 := eq_true c34
         have c34b1 : decide (0 ≤ x6_2) = true := decide_eq_true c34
         clear c34
         by_cases c35 : x6_2 ≤ (a0.size : Int)
         ·rw [if_pos c35] at H
          have c35b0 := eq_true c35
          have c35b1 : decide (x6_2 ≤ (a0.size : Int)) = true := decide_eq_true c35
          clear c35
          have c36b0 := eq_true (of_decide_eq_true (by first | (with_reducible assumption) | assumption) : 0 ≤ x6_2)
          have c37b0 := eq_true (of_decide_eq_true (by first | (with_reducible assumption) | assumption) : x6_2 ≤ (a0.size : Int))
          simp only [Option.some.injEq, Prod.mk.injEq] at H
          obtain ⟨rfl, rfl, rfl⟩ := H
          go_wp2
          repeat (go_quiet (fail); try go_wp2)
          go_ret3
          exact ⟨by first | rfl | (simp [errW_none, errW_some] <;> rfl) | (simp [*, errW_none, errW_some] <;> rfl), by repeat (first | (with_reducible first | exact HB.out | apply below_alloc | apply pw_below_drewN | apply below_drew1) | exact HB.out)⟩
         ·rw [if_neg c35] at H
          exact absurd H (by simp)
        ·rw [if_neg c34] at H
         exact absurd H (by simp)
end Go.Proofs.Ytgmjaggkiifdjaa.QA
namespace Go.Proofs.Ytgmjaggkiifdjaa.QA
open Go.Proofs.Ytgmjaggkiifdjaa.Given
open Go.Proofs.Ytgmjaggkiifdjaa.PrX
open Go.RowKit Go.Proofs.YtgmjaggkiifdjaaW.PrintWords Go.Proofs.YtgmjaggkiifdjaaW.PrintLast Go.Proofs.YtgmjaggkiifdjaaW.PrintMore
mutual
def spec_Params.l0 : Nat → ByteArray → Int → List (S38) → Option ((List (S38)) × Int)
  | 0, _, _, _ => none
  | k + 1, x0, x1, x6 => if x1 < 0 then (spec_Params.j1 k x0 x1 x6 true) else (spec_Params.j1 k x0 x1 x6 (decide ((x6.length : Int) < x1)))
def spec_Params.j1 : Nat → ByteArray → Int → List (S38) → Bool → Option ((List (S38)) × Int)
  | 0, _, _, _, _ => none
  | k + 1, x0, x1, x6, x22 => if x22 = true then ((spec_gap.f k x0).bind fun t159 => (if t159.toList = ([] : List UInt8) then (spec_Params.j2 k x1 x6 t159 true) else (if 0 < (t159.size : Int) then (spec_Params.j2 k x1 x6 t159 ((bt t159 0) != 59)) else (none)))) else (some (x6, 1))
def spec_Params.j2 : Nat → Int → List (S38) → ByteArray → Bool → Option ((List (S38)) × Int)
  | 0, _, _, _, _ => none
  | k + 1, x1, x6, x7, x31 => if x31 = true then (some (x6, 1)) else (if 1 ≤ (x7.size : Int) then ((spec_gap.f k (x7.extract 1 x7.size)).bind fun t160 => (spec_Params.l1 k x1 x6 t160 0)) else (none))
def spec_Params.j4 : Nat → Int → List (S38) → ByteArray → Int → Option ((List (S38)) × Int)
  | 0, _, _, _, _ => none
  | k + 1, x1, x6, x7, x8 => if x8 = 0 then (spec_Params.j5 k x1 x6 x7 x8 true) else (if x8 = (x7.size : Int) then (spec_Params.j5 k x1 x6 x7 x8 true) else (if 0 ≤ x8 then (if x8 < (x7.size : Int) then (spec_Params.j5 k x1 x6 x7 x8 ((bt x7 x8) != 61)) else (none)) else (none)))
def spec_Params.j5 : Nat → Int → List (S38) → ByteArray → Int → Bool → Option ((List (S38)) × Int)
  | 0, _, _, _, _, _ => none
  | k + 1, x1, x6, x7, x8, x61 => if x61 = true then (some (x6, 1)) else (if 0 ≤ (wrap64 (x8 + 1)) then (if (wrap64 (x8 + 1)) ≤ (x7.size : Int) then ((spec_value.f k (x7.extract ((wrap64 (x8 + 1)) : Int).toNat x7.size)).bind fun bt162 => (if bt162.2.2 = 2 then (some (([] : List (S38)), 2)) else (if bt162.2.2 = 0 then (some (x6, 1)) else (if 0 ≤ x8 then (if x8 ≤ (x7.size : Int) then (if x6.length < 4398046511104 then (spec_Params.l0 k bt162.2.1 x1 (x6 ++ [(⟨x7.extract 0 (x8 : Int).toNat, bt162.1⟩ : S38)])) else (none)) else (none)) else (none))))) else (none)) else (none))
def spec_Params.l1 : Nat → Int → List (S38) → ByteArray → Int → Option ((List (S38)) × Int)
  | 0, _, _, _, _ => none
  | k + 1, x1, x6, x7, x8 => if x8 < (x7.size : Int) then (if 0 ≤ x8 then ((spec_FieldByte.f k (bt x7 x8)).bind fun t161 => (if t161 = true then (spec_Params.l1 k x1 x6 x7 (wrap64 (x8 + 1))) else (spec_Params.j4 k x1 x6 x7 x8))) else (none)) else (spec_Params.j4 k x1 x6 x7 x8)
end
def spec_Params.f (k : Nat) (a0 : ByteArray) (a1 : Int) : Option ((List (S38)) × Int) := (spec_place.f k a0 9).bind fun t158 => (if t158 ≥ 0 then (some (([] : List (S38)), 2)) else (spec_Params.l0 k a0 a1 ([] : List (S38))))
theorem spec_Params.mono_l : ∀ k, (∀ y0 y1 y2, LeO (spec_Params.l0 k y0 y1 y2) (spec_Params.l0 (k + 1) y0 y1 y2)) ∧ (∀ y0 y1 y2 y3, LeO (spec_Params.j1 k y0 y1 y2 y3) (spec_Params.j1 (k + 1) y0 y1 y2 y3)) ∧ (∀ y0 y1 y2 y3, LeO (spec_Params.j2 k y0 y1 y2 y3) (spec_Params.j2 (k + 1) y0 y1 y2 y3)) ∧ (∀ y0 y1 y2 y3, LeO (spec_Params.j4 k y0 y1 y2 y3) (spec_Params.j4 (k + 1) y0 y1 y2 y3)) ∧ (∀ y0 y1 y2 y3 y4, LeO (spec_Params.j5 k y0 y1 y2 y3 y4) (spec_Params.j5 (k + 1) y0 y1 y2 y3 y4)) ∧ (∀ y0 y1 y2 y3, LeO (spec_Params.l1 k y0 y1 y2 y3) (spec_Params.l1 (k + 1) y0 y1 y2 y3))
  | 0 => ⟨fun _ _ _ r h => by simp [spec_Params.l0] at h, fun _ _ _ _ r h => by simp [spec_Params.j1] at h, fun _ _ _ _ r h => by simp [spec_Params.j2] at h, fun _ _ _ _ r h => by simp [spec_Params.j4] at h, fun _ _ _ _ _ r h => by simp [spec_Params.j5] at h, fun _ _ _ _ r h => by simp [spec_Params.l1] at h⟩
  | k + 1 => by
    obtain ⟨ih0, ih1, ih2, ih3, ih4, ih5⟩ := spec_Params.mono_l k
    refine ⟨?_, ?_, ?_, ?_, ?_, ?_⟩
    · intro y0 y1 y2
      unfold spec_Params.l0
      repeat' first
      | (with_reducible exact ih0 _ _ _)
      | (with_reducible exact ih1 _ _ _ _)
      | (with_reducible exact ih2 _ _ _ _)
      | (with_reducible exact ih3 _ _ _ _)
      | (with_reducible exact ih4 _ _ _ _ _)
      | (with_reducible exact ih5 _ _ _ _)
      | (with_reducible exact spec_FieldByte.mono _ _)
      | (with_reducible exact spec_gap.mono _ _)
      | (with_reducible exact spec_place.mono _ _ _)
      | (with_reducible exact spec_value.mono _ _)
      | (with_reducible exact LeO.refl _)
      | (with_reducible exact LeO.none _)
      | (with_reducible refine LeO.ite ?_ ?_)
      | (with_reducible refine LeO.bind ?_ (fun _ => ?_))
      | exact ih0 _ _ _
      | exact ih1 _ _ _ _
      | exact ih2 _ _ _ _
      | exact ih3 _ _ _ _
      | exact ih4 _ _ _ _ _
      | exact ih5 _ _ _ _
      | exact spec_FieldByte.mono _ _
      | exact spec_gap.mono _ _
      | exact spec_place.mono _ _ _
      | exact spec_value.mono _ _
      | exact LeO.none _
      | refine LeO.ite ?_ ?_
      | refine LeO.bind ?_ (fun _ => ?_)
    · intro y0 y1 y2 y3
      unfold spec_Params.j1
      repeat' first
      | (with_reducible exact ih0 _ _ _)
      | (with_reducible exact ih1 _ _ _ _)
      | (with_reducible exact ih2 _ _ _ _)
      | (with_reducible exact ih3 _ _ _ _)
      | (with_reducible exact ih4 _ _ _ _ _)
      | (with_reducible exact ih5 _ _ _ _)
      | (with_reducible exact spec_FieldByte.mono _ _)
      | (with_reducible exact spec_gap.mono _ _)
      | (with_reducible exact spec_place.mono _ _ _)
      | (with_reducible exact spec_value.mono _ _)
      | (with_reducible exact LeO.refl _)
      | (with_reducible exact LeO.none _)
      | (with_reducible refine LeO.ite ?_ ?_)
      | (with_reducible refine LeO.bind ?_ (fun _ => ?_))
      | exact ih0 _ _ _
      | exact ih1 _ _ _ _
      | exact ih2 _ _ _ _
      | exact ih3 _ _ _ _
      | exact ih4 _ _ _ _ _
      | exact ih5 _ _ _ _
      | exact spec_FieldByte.mono _ _
      | exact spec_gap.mono _ _
      | exact spec_place.mono _ _ _
      | exact spec_value.mono _ _
      | exact LeO.none _
      | refine LeO.ite ?_ ?_
      | refine LeO.bind ?_ (fun _ => ?_)
    · intro y0 y1 y2 y3
      unfold spec_Params.j2
      repeat' first
      | (with_reducible exact ih0 _ _ _)
      | (with_reducible exact ih1 _ _ _ _)
      | (with_reducible exact ih2 _ _ _ _)
      | (with_reducible exact ih3 _ _ _ _)
      | (with_reducible exact ih4 _ _ _ _ _)
      | (with_reducible exact ih5 _ _ _ _)
      | (with_reducible exact spec_FieldByte.mono _ _)
      | (with_reducible exact spec_gap.mono _ _)
      | (with_reducible exact spec_place.mono _ _ _)
      | (with_reducible exact spec_value.mono _ _)
      | (with_reducible exact LeO.refl _)
      | (with_reducible exact LeO.none _)
      | (with_reducible refine LeO.ite ?_ ?_)
      | (with_reducible refine LeO.bind ?_ (fun _ => ?_))
      | exact ih0 _ _ _
      | exact ih1 _ _ _ _
      | exact ih2 _ _ _ _
      | exact ih3 _ _ _ _
      | exact ih4 _ _ _ _ _
      | exact ih5 _ _ _ _
      | exact spec_FieldByte.mono _ _
      | exact spec_gap.mono _ _
      | exact spec_place.mono _ _ _
      | exact spec_value.mono _ _
      | exact LeO.none _
      | refine LeO.ite ?_ ?_
      | refine LeO.bind ?_ (fun _ => ?_)
    · intro y0 y1 y2 y3
      unfold spec_Params.j4
      repeat' first
      | (with_reducible exact ih0 _ _ _)
      | (with_reducible exact ih1 _ _ _ _)
      | (with_reducible exact ih2 _ _ _ _)
      | (with_reducible exact ih3 _ _ _ _)
      | (with_reducible exact ih4 _ _ _ _ _)
      | (with_reducible exact ih5 _ _ _ _)
      | (with_reducible exact spec_FieldByte.mono _ _)
      | (with_reducible exact spec_gap.mono _ _)
      | (with_reducible exact spec_place.mono _ _ _)
      | (with_reducible exact spec_value.mono _ _)
      | (with_reducible exact LeO.refl _)
      | (with_reducible exact LeO.none _)
      | (with_reducible refine LeO.ite ?_ ?_)
      | (with_reducible refine LeO.bind ?_ (fun _ => ?_))
      | exact ih0 _ _ _
      | exact ih1 _ _ _ _
      | exact ih2 _ _ _ _
      | exact ih3 _ _ _ _
      | exact ih4 _ _ _ _ _
      | exact ih5 _ _ _ _
      | exact spec_FieldByte.mono _ _
      | exact spec_gap.mono _ _
      | exact spec_place.mono _ _ _
      | exact spec_value.mono _ _
      | exact LeO.none _
      | refine LeO.ite ?_ ?_
      | refine LeO.bind ?_ (fun _ => ?_)
    · intro y0 y1 y2 y3 y4
      unfold spec_Params.j5
      repeat' first
      | (with_reducible exact ih0 _ _ _)
      | (with_reducible exact ih1 _ _ _ _)
      | (with_reducible exact ih2 _ _ _ _)
      | (with_reducible exact ih3 _ _ _ _)
      | (with_reducible exact ih4 _ _ _ _ _)
      | (with_reducible exact ih5 _ _ _ _)
      | (with_reducible exact spec_FieldByte.mono _ _)
      | (with_reducible exact spec_gap.mono _ _)
      | (with_reducible exact spec_place.mono _ _ _)
      | (with_reducible exact spec_value.mono _ _)
      | (with_reducible exact LeO.refl _)
      | (with_reducible exact LeO.none _)
      | (with_reducible refine LeO.ite ?_ ?_)
      | (with_reducible refine LeO.bind ?_ (fun _ => ?_))
      | exact ih0 _ _ _
      | exact ih1 _ _ _ _
      | exact ih2 _ _ _ _
      | exact ih3 _ _ _ _
      | exact ih4 _ _ _ _ _
      | exact ih5 _ _ _ _
      | exact spec_FieldByte.mono _ _
      | exact spec_gap.mono _ _
      | exact spec_place.mono _ _ _
      | exact spec_value.mono _ _
      | exact LeO.none _
      | refine LeO.ite ?_ ?_
      | refine LeO.bind ?_ (fun _ => ?_)
    · intro y0 y1 y2 y3
      unfold spec_Params.l1
      repeat' first
      | (with_reducible exact ih0 _ _ _)
      | (with_reducible exact ih1 _ _ _ _)
      | (with_reducible exact ih2 _ _ _ _)
      | (with_reducible exact ih3 _ _ _ _)
      | (with_reducible exact ih4 _ _ _ _ _)
      | (with_reducible exact ih5 _ _ _ _)
      | (with_reducible exact spec_FieldByte.mono _ _)
      | (with_reducible exact spec_gap.mono _ _)
      | (with_reducible exact spec_place.mono _ _ _)
      | (with_reducible exact spec_value.mono _ _)
      | (with_reducible exact LeO.refl _)
      | (with_reducible exact LeO.none _)
      | (with_reducible refine LeO.ite ?_ ?_)
      | (with_reducible refine LeO.bind ?_ (fun _ => ?_))
      | exact ih0 _ _ _
      | exact ih1 _ _ _ _
      | exact ih2 _ _ _ _
      | exact ih3 _ _ _ _
      | exact ih4 _ _ _ _ _
      | exact ih5 _ _ _ _
      | exact spec_FieldByte.mono _ _
      | exact spec_gap.mono _ _
      | exact spec_place.mono _ _ _
      | exact spec_value.mono _ _
      | exact LeO.none _
      | refine LeO.ite ?_ ?_
      | refine LeO.bind ?_ (fun _ => ?_)
theorem spec_Params.mono : ∀ a0 a1 k, LeO (spec_Params.f k a0 a1) (spec_Params.f (k + 1) a0 a1) := by
  intro a0 a1 k
  obtain ⟨ih0, ih1, ih2, ih3, ih4, ih5⟩ := spec_Params.mono_l k
  unfold spec_Params.f
  repeat' first
      | (with_reducible exact ih0 _ _ _)
      | (with_reducible exact ih1 _ _ _ _)
      | (with_reducible exact ih2 _ _ _ _)
      | (with_reducible exact ih3 _ _ _ _)
      | (with_reducible exact ih4 _ _ _ _ _)
      | (with_reducible exact ih5 _ _ _ _)
      | (with_reducible exact spec_FieldByte.mono _ _)
      | (with_reducible exact spec_gap.mono _ _)
      | (with_reducible exact spec_place.mono _ _ _)
      | (with_reducible exact spec_value.mono _ _)
      | (with_reducible exact LeO.refl _)
      | (with_reducible exact LeO.none _)
      | (with_reducible refine LeO.ite ?_ ?_)
      | (with_reducible refine LeO.bind ?_ (fun _ => ?_))
      | exact ih0 _ _ _
      | exact ih1 _ _ _ _
      | exact ih2 _ _ _ _
      | exact ih3 _ _ _ _
      | exact ih4 _ _ _ _ _
      | exact ih5 _ _ _ _
      | exact spec_FieldByte.mono _ _
      | exact spec_gap.mono _ _
      | exact spec_place.mono _ _ _
      | exact spec_value.mono _ _
      | exact LeO.none _
      | refine LeO.ite ?_ ?_
      | refine LeO.bind ?_ (fun _ => ?_)
set_option maxHeartbeats 8000000 in
set_option maxRecDepth 100000 in
theorem spec_Params.calls (k : Nat) (a0 : ByteArray) (a1 : Int) (r1 : List (S38)) (r2 : Int) (w : World) (h : spec_Params.f k a0 a1 = some (r1, r2)) :
  Calls Try.prog 11 #[.string a0, .int .i64 a1] w fun e w' => ∃ v0_ : Value, e = .returned (.tuple #[v0_, .int .i64 r2]) ∧ Kd.R k38 38 w' w.heap.size (fun _ => True) v0_ r1 ∧ Below w.heap.size w w' := by
 have hu38 := Try.underlying38
 have HB := Aside0.mk (Below.refl w.heap.size w)
 have H : ((spec_place.f k a0 9).bind fun t158 => (if t158 ≥ 0 then (some (([] : List (S38)), 2)) else (spec_Params.l0 k a0 a1 ([] : List (S38))))) = some (r1, r2) := h
 clear h
 replace H := Option.bind_eq_some_iff.mp H
 obtain ⟨t158, A30, H⟩ := H
 replace H : (if t158 ≥ 0 then (some (([] : List (S38)), 2)) else (spec_Params.l0 k a0 a1 ([] : List (S38)))) = some (r1, r2) := H
 have A3 := Aside0.mk A30
 clear A30
 by_cases c4 : t158 ≥ 0
 ·rw [if_pos c4] at H
  have c4b0 : decide (0 ≤ t158) = true := decide_eq_true c4
  clear c4
  simp only [Option.some.injEq, Prod.mk.injEq] at H
  obtain ⟨rfl, rfl⟩ := H
  go_enter Try.func11, Try.ntmps11
  go_wp2_with (first | ((with_reducible refine gate_callee (f := 24) rfl ?_); refine goesL_ (some 13) rfl rfl Try.func24 (by kernel_rfl) rfl #[.string a0, .int .u8 9] rfl (by (try simp only [List.map_toArray, List.map_cons, List.map_nil]); first | done | rfl | (simp only [List.length_drop, List.length_take]; rfl)) ?_; (with_reducible refine (spec_place.calls k a0 9 t158 _ A3.out).mono ?_); rintro e w' ⟨rfl, ⟨nd, rfl⟩⟩; refine ⟨_, rfl, ?_⟩))
  go_ret2
  exact ⟨_, by first | rfl | (simp [errW_none, errW_some] <;> rfl) | (simp [*, errW_none, errW_some] <;> rfl), by first | exact Kd.R_nil _ _ _ _ _ | exact Kd.N_nil _ _ _ _ _ | exact Kd.V_nil _ _ _ _ _ | exact Kd.Q_nil _ _ _ _ _ | exact Kd.S_nil _ _ _ _ _, by repeat (first | (with_reducible first | exact HB.out | apply below_alloc | apply pw_below_drewN | apply below_drew1) | exact HB.out)⟩
 ·rw [if_neg c4] at H
  have c4b0 : decide (0 ≤ t158) = false := decide_eq_false c4
  clear c4
  have H' := Aside0.mk H
  clear H
  go_enter Try.func11, Try.ntmps11
  go_wp2_with (first | ((with_reducible refine gate_callee (f := 24) rfl ?_); refine goesL_ (some 13) rfl rfl Try.func24 (by kernel_rfl) rfl #[.string a0, .int .u8 9] rfl (by (try simp only [List.map_toArray, List.map_cons, List.map_nil]); first | done | rfl | (simp only [List.length_drop, List.length_take]; rfl)) ?_; (with_reducible refine (spec_place.calls k a0 9 t158 _ A3.out).mono ?_); rintro e w' ⟨rfl, ⟨nd, rfl⟩⟩; refine ⟨_, rfl, ?_⟩))
  go_loopg [0, 6] k (fun kq v0 v6 w' => ∃ (x0_1 : ByteArray) (x6_1 : List (S38)), v0 = .string x0_1 ∧ Aside0 (spec_Params.l0 kq x0_1 a1 x6_1 = some (r1, r2)) ∧ Aside0 (kq ≤ k) ∧ Aside0 (Kd.R k38 38 w' w.heap.size (fun _ => True) v6 x6_1) ∧ Aside0 (Below w.heap.size w w'))
  case atStart => exact ⟨(a0), (([] : List (S38))), (by first | rfl | (simp; done) | (rw [prx_ne]; first | done | rfl) | (simp [*]; done)), H', ⟨Nat.le_refl _⟩, ⟨by first | exact Kd.R_nil _ _ _ _ _ | exact Kd.N_nil _ _ _ _ _ | exact Kd.V_nil _ _ _ _ _ | exact Kd.Q_nil _ _ _ _ _ | exact Kd.S_nil _ _ _ _ _⟩, ⟨by repeat (first | (with_reducible first | exact HB.out | apply below_alloc | apply pw_below_drewN | apply below_drew1) | exact HB.out)⟩⟩
  case round =>
   clear H'
   try clear c1
   try clear c2
   try clear p2
   try clear c4
   try clear c4b0
   obtain ⟨x0_1, x6_1, rfl, HA, HK1, HO_6, HB⟩ := hrel
   cases gk with
   | zero => exact absurd HA.out (by simp [spec_Params.l0])
   | succ k1 =>
    have H := HA.out
    clear HA
    simp only [spec_Params.l0] at H
    have HC5 := Aside0.mk H
    clear H
    go_upto_region 4 with (fail)
    go_cut [22] (fun v22 wc => ∃ (kq : Nat) (x22_4 : Bool), v22 = .bool x22_4 ∧ Aside0 (spec_Params.j1 kq x0_1 a1 x6_1 x22_4 = some (r1, r2)) ∧ Aside0 (kq ≤ k1) ∧ Aside0 (Kd.R k38 38 wc w.heap.size (fun _ => True) u6 x6_1) ∧ Aside0 (Below w.heap.size w wc))
    case first =>
     have H := HC5.out
     clear HC5
     by_cases c6 : a1 < 0
     ·rw [if_pos c6] at H
      have c6b0 : decide (a1 < 0) = true := decide_eq_true c6
      clear c6
      (first | rw [c6b0] | (simp only [i64_w, i32_w]; rw [c6b0]) | skip)
      have H' := Aside0.mk H
      clear H
      go_wp2
      go_meet
      case rel => exact ⟨_, (true), (by first | rfl | (simp; done) | (rw [prx_ne]; first | done | rfl) | (simp [*]; done)), H', ⟨by have := HK1.out; first | omega | exact Nat.le_refl _⟩, ⟨by (with_reducible repeat (first | apply Kd.R_alloc | apply Kd.R_drewN | apply Kd.R_drew)); exact HO_6.out⟩, ⟨by repeat (first | (with_reducible first | exact HB.out | apply below_alloc | apply pw_below_drewN | apply below_drew1) | exact HB.out)⟩⟩
     ·rw [if_neg c6] at H
      have c6b0 : decide (a1 < 0) = false := decide_eq_false c6
      clear c6
      (first | rw [c6b0] | (simp only [i64_w, i32_w]; rw [c6b0]) | skip)
      have H' := Aside0.mk H
      clear H
      obtain ⟨Ao7, co7, eo7⟩ := Kd.R_slice HO_6.out
      subst eo7
      go_wp2
      go_meet
      case rel => exact ⟨_, (decide ((x6_1.length : Int) < a1)), (by first | rfl | (simp; done) | (rw [prx_ne]; first | done | rfl) | (simp [*]; done)), H', ⟨by have := HK1.out; first | omega | exact Nat.le_refl _⟩, ⟨by (with_reducible repeat (first | apply Kd.R_alloc | apply Kd.R_drewN | apply Kd.R_drew)); exact HO_6.out⟩, ⟨by repeat (first | (with_reducible first | exact HB.out | apply below_alloc | apply pw_below_drewN | apply below_drew1) | exact HB.out)⟩⟩
    case rest =>
     clear HC5
     try clear c1
     try clear c2
     try clear p2
     try clear c4
     try clear c4b0
     try clear c6
     try clear c6b0
     try clear p2
     obtain ⟨kq, x22_4, rfl, HA, HJ4, HO_6, HB⟩ := hcut
     cases kq with
     | zero => exact absurd HA.out (by simp [spec_Params.j1])
     | succ kj4 =>
      have H := HA.out
      clear HA
      simp only [spec_Params.j1] at H
      by_cases c8 : x22_4 = true
      ·subst c8
       have H1 : ((spec_gap.f kj4 x0_1).bind fun t159 => (if t159.toList = ([] : List UInt8) then (spec_Params.j2 kj4 a1 x6_1 t159 true) else (if 0 < (t159.size : Int) then (spec_Params.j2 kj4 a1 x6_1 t159 ((bt t159 0) != 59)) else (none)))) = some (r1, r2) := by rw [if_pos rfl] at H; exact H
       clear H
       have H := H1
       clear H1
       replace H := Option.bind_eq_some_iff.mp H
       obtain ⟨t159, A90, H⟩ := H
       replace H : (if t159.toList = ([] : List UInt8) then (spec_Params.j2 kj4 a1 x6_1 t159 true) else (if 0 < (t159.size : Int) then (spec_Params.j2 kj4 a1 x6_1 t159 ((bt t159 0) != 59)) else (none))) = some (r1, r2) := H
       have A9 := Aside0.mk A90
       clear A90
       have HC10 := Aside0.mk H
       clear H
       go_upto_region 6 with (first | ((with_reducible refine gate_callee (f := 26) rfl ?_); refine goesL_ (some 24) rfl rfl Try.func26 (by kernel_rfl) rfl #[.string x0_1] rfl (by (try simp only [List.map_toArray, List.map_cons, List.map_nil]); first | done | rfl | (simp only [List.length_drop, List.length_take]; rfl)) ?_; (with_reducible refine (spec_gap.calls kj4 x0_1 t159 _ A9.out).mono ?_); rintro e w' ⟨rfl, ⟨nd, rfl⟩⟩; refine ⟨_, rfl, ?_⟩))
       (try simp only [Act.put, List.setIfInBounds_toArray, List.set_cons_zero, List.set_cons_succ])
       go_cut [31] (fun v31 wc => ∃ (kq : Nat) (x31_9 : Bool), v31 = .bool x31_9 ∧ Aside0 (spec_Params.j2 kq a1 x6_1 t159 x31_9 = some (r1, r2)) ∧ Aside0 (kq ≤ kj4) ∧ Aside0 (Kd.R k38 38 wc w.heap.size (fun _ => True) u6 x6_1) ∧ Aside0 (Below w.heap.size w wc))
       case first =>
        have H := HC10.out
        clear HC10
        by_cases c11 : t159.toList = ([] : List UInt8)
        ·rw [if_pos c11] at H
         have c11b0 : (t159.toList == ([] : List UInt8)) = true := beq_iff_eq.mpr c11
         have c11b1 : (t159.toList != ([] : List UInt8)) = false := bne_eq_false_iff_eq.mpr c11
         clear c11
         (first | rw [c11b0] | (simp only [i64_w, i32_w]; rw [c11b0]) | skip)
         have H' := Aside0.mk H
         clear H
         go_wp2
         go_meet
         case rel => exact ⟨_, (true), (by first | rfl | (simp; done) | (rw [prx_ne]; first | done | rfl) | (simp [*]; done)), H', ⟨by have := HK1.out; have := HJ4.out; first | omega | exact Nat.le_refl _⟩, ⟨by (with_reducible repeat (first | apply Kd.R_alloc | apply Kd.R_drewN | apply Kd.R_drew)); exact HO_6.out⟩, ⟨by repeat (first | (with_reducible first | exact HB.out | apply below_alloc | apply pw_below_drewN | apply below_drew1) | exact HB.out)⟩⟩
        ·rw [if_neg c11] at H
         have c11b0 : (t159.toList == ([] : List UInt8)) = false := beq_eq_false_iff_ne.mpr c11
         have c11b1 : (t159.toList != ([] : List UInt8)) = true := bne_iff_ne.mpr c11
         (first | rw [c11b0] | (simp only [i64_w, i32_w]; rw [c11b0]) | skip)
         by_cases c12 : 0 < (t159.size : Int)
         ·rw [if_pos c12] at H
          have c12b0 : decide (0 < (t159.size : Int)) = true := decide_eq_true c12
          have c12b1 : decide (0 < t159.size) = true := decide_eq_true (by omega)
          clear c12
          have H' := Aside0.mk H
          clear H
          have p13 : 0 ≤ (0 : Int) := (by omega)
          have q13 : 0 < t159.size := (by have : (0 : Int) < (t159.size : Int) := of_decide_eq_true (by first | (with_reducible assumption) | assumption); omega)
          have hx13 : ∀ h : 0 < t159.size, ((t159[0]'h).toNat : Int) = bt t159 0 := bt_at t159 0
          clear p13
          have qi13 : (0 < (t159.size : Int)) = True := eq_true (of_decide_eq_true (by first | (with_reducible assumption) | assumption))
          replace q13 := eq_true q13
          go_wp2
          go_meet
          case rel => exact ⟨_, (((bt t159 0) != 59)), (by first | rfl | (simp; done) | (rw [prx_ne]; first | done | rfl) | (simp [*]; done)), H', ⟨by have := HK1.out; have := HJ4.out; first | omega | exact Nat.le_refl _⟩, ⟨by (with_reducible repeat (first | apply Kd.R_alloc | apply Kd.R_drewN | apply Kd.R_drew)); exact HO_6.out⟩, ⟨by repeat (first | (with_reducible first | exact HB.out | apply below_alloc | apply pw_below_drewN | apply below_drew1) | exact HB.out)⟩⟩
         ·rw [if_neg c12] at H
          exact absurd H (by simp)
       case rest =>
        clear HC10
        try clear c1
        try clear p1
        try clear q1
        try clear hx1
        try clear qi1
        try clear c2
        try clear p2
        try clear c4
        try clear c4b0
        try clear c6
        try clear c6b0
        try clear c8
        try clear c11
        try clear c11b0
        try clear c11b1
        try clear c12
        try clear c12b0
        try clear c12b1
        try clear p13
        try clear q13
        try clear hx13
        try clear qi13
        try clear p13
        try clear p2
        try clear q13
        obtain ⟨kq, x31_9, rfl, HA, HJ9, HO_6, HB⟩ := hcut
        cases kq with
        | zero => exact absurd HA.out (by simp [spec_Params.j2])
        | succ kj9 =>
         have H := HA.out
         clear HA
         simp only [spec_Params.j2] at H
         by_cases c14 : x31_9 = true
         ·subst c14
          have H1 : (some (x6_1, 1)) = some (r1, r2) := by rw [if_pos rfl] at H; exact H
          clear H
          have H := H1
          clear H1
          simp only [Option.some.injEq, Prod.mk.injEq] at H
          obtain ⟨rfl, rfl⟩ := H
          go_wp2
          go_ret2
          exact ⟨_, by first | rfl | (simp [errW_none, errW_some] <;> rfl) | (simp [*, errW_none, errW_some] <;> rfl), by (with_reducible repeat (first | apply Kd.R_alloc | apply Kd.R_drewN | apply Kd.R_drew)); exact HO_6.out, by repeat (first | (with_reducible first | exact HB.out | apply below_alloc | apply pw_below_drewN | apply below_drew1) | exact HB.out)⟩
         ·replace c14 := Bool.eq_false_iff.mpr c14
          subst c14
          have H1 : (if 1 ≤ (t159.size : Int) then ((spec_gap.f kj9 (t159.extract 1 t159.size)).bind fun t160 => (spec_Params.l1 kj9 a1 x6_1 t160 0)) else (none)) = some (r1, r2) := by rw [if_neg (show ¬ (false = true) by decide)] at H; exact H
          clear H
          have H := H1
          clear H1
          by_cases c15 : 1 ≤ (t159.size : Int)
          ·rw [if_pos c15] at H
           have c15b0 := eq_true c15
           have c15b1 : decide (1 ≤ (t159.size : Int)) = true := decide_eq_true c15
           clear c15
           replace H := Option.bind_eq_some_iff.mp H
           obtain ⟨t160, A160, H⟩ := H
           replace H : (spec_Params.l1 kj9 a1 x6_1 t160 0) = some (r1, r2) := H
           have A16 := Aside0.mk A160
           clear A160
           have HC17 := Aside0.mk H
           clear H
           go_upto_block 2 with (first | ((with_reducible refine gate_callee (f := 26) rfl ?_); refine goesL_ (some 35) rfl rfl Try.func26 (by kernel_rfl) rfl #[.string (t159.extract 1 t159.size)] rfl (by (try simp only [List.map_toArray, List.map_cons, List.map_nil]); first | done | rfl | (simp only [List.length_drop, List.length_take]; rfl)) ?_; (with_reducible refine (spec_gap.calls kj9 (t159.extract 1 t159.size) t160 _ A16.out).mono ?_); rintro e w' ⟨rfl, ⟨nd, rfl⟩⟩; refine ⟨_, rfl, ?_⟩))
           (try simp only [Act.put, List.setIfInBounds_toArray, List.set_cons_zero, List.set_cons_succ])
           go_cut [8] (fun v8 wc => ∃ (kq : Nat) (x8_16 : Int), v8 = .int .i64 x8_16 ∧ Aside0 (spec_Params.j4 kq a1 x6_1 t160 x8_16 = some (r1, r2)) ∧ Aside0 (kq ≤ kj9) ∧ Aside0 (Kd.R k38 38 wc w.heap.size (fun _ => True) u6 x6_1) ∧ Aside0 (Below w.heap.size w wc))
           case first =>
            have H := HC17.out
            clear HC17
            have H' := Aside0.mk H
            clear H
            go_wp2
            go_loopg [8] kj9 (fun kq v8 w' => ∃ (x8_4 : Int), v8 = .int .i64 x8_4 ∧ Aside0 (spec_Params.l1 kq a1 x6_1 t160 x8_4 = some (r1, r2)) ∧ Aside0 (kq ≤ kj9) ∧ Aside0 (Kd.R k38 38 w' w.heap.size (fun _ => True) u6 x6_1) ∧ Aside0 (Below w.heap.size w w'))
            case atStart => exact ⟨(0), (by first | rfl | (simp; done) | (rw [prx_ne]; first | done | rfl) | (simp [*]; done)), H', ⟨Nat.le_refl _⟩, ⟨by (with_reducible repeat (first | apply Kd.R_alloc | apply Kd.R_drewN | apply Kd.R_drew)); exact HO_6.out⟩, ⟨by repeat (first | (with_reducible first | exact HB.out | apply below_alloc | apply pw_below_drewN | apply below_drew1) | exact HB.out)⟩⟩
            case round =>
             clear H'
             try clear c1
             try clear p1
             try clear q1
             try clear hx1
             try clear qi1
             try clear c2
             try clear p2
             try clear c4
             try clear c4b0
             try clear c6
             try clear c6b0
             try clear c8
             try clear c11
             try clear c11b0
             try clear c11b1
             try clear c12
             try clear c12b0
             try clear c12b1
             try clear p13
             try clear q13
             try clear hx13
             try clear qi13
             try clear c14
             try clear c15
             try clear c15b0
             try clear c15b1
             try clear p1
             try clear p13
             try clear p2
             try clear q1
             try clear q13
             obtain ⟨x8_4, rfl, HA, HK4, HO_6, HB⟩ := hrel
             cases gk with
             | zero => exact absurd HA.out (by simp [spec_Params.l1])
             | succ k4 =>
              have H := HA.out
              clear HA
              simp only [spec_Params.l1] at H
              by_cases c18 : x8_4 < (t160.size : Int)
              ·rw [if_pos c18] at H
               have c18b0 : decide (x8_4 < (t160.size : Int)) = true := decide_eq_true c18
               clear c18
               (first | rw [c18b0] | (simp only [i64_w, i32_w]; rw [c18b0]) | skip)
               by_cases c19 : 0 ≤ x8_4
               ·rw [if_pos c19] at H
                have c19b0 : decide (0 ≤ x8_4) = true := decide_eq_true c19
                clear c19
                replace H := Option.bind_eq_some_iff.mp H
                obtain ⟨t161, A210, H⟩ := H
                replace H : (if t161 = true then (spec_Params.l1 k4 a1 x6_1 t160 (wrap64 (x8_4 + 1))) else (spec_Params.j4 k4 a1 x6_1 t160 x8_4)) = some (r1, r2) := H
                have A21 := Aside0.mk A210
                clear A210
                by_cases c22 : t161 = true
                ·subst c22
                 have H1 : (spec_Params.l1 k4 a1 x6_1 t160 (wrap64 (x8_4 + 1))) = some (r1, r2) := by rw [if_pos rfl] at H; exact H
                 clear H
                 have H := H1
                 clear H1
                 have H' := Aside0.mk H
                 clear H
                 have p20 : 0 ≤ (x8_4 : Int) := of_decide_eq_true (by first | (with_reducible assumption) | assumption)
                 have q20 : x8_4 < (t160.size : Int) := of_decide_eq_true (by first | (with_reducible assumption) | assumption)
                 have hx20 := bt_at t160 x8_4
                 replace p20 := eq_true p20
                 replace q20 := eq_true q20
                 go_wp2_with (first | (go_at_call 27; (with_reducible refine (spec_FieldByte.calls k4 (bt t160 x8_4) true _ A21.out).mono ?_); rintro e w23 ⟨rfl, hb⟩; have n0_ := Aside0.mk (Kd.R_below (by (with_reducible repeat (first | apply Kd.R_alloc | apply Kd.R_drewN | apply Kd.R_drew)); exact HO_6.out) hb); have n1_ := Aside0.mk (below_step (by repeat (first | (with_reducible first | exact HB.out | apply below_alloc | apply pw_below_drewN | apply below_drew1) | exact HB.out)) hb); clear HO_6; clear HB; have HO_6 := n0_; have HB := n1_; clear n0_ n1_; (try clear hb); (try clear hb2); (try clear hk); (try clear hi)))
                 go_roundg k4
                 case measure => have := HK1.out; have := HJ4.out; have := HJ9.out; have := HK4.out; omega
                 case rel => exact ⟨(wrap64 (x8_4 + 1)), (by first | rfl | (simp; done) | (rw [prx_ne]; first | done | rfl) | (simp [*]; done)), H', ⟨by have := HK1.out; have := HJ4.out; have := HJ9.out; have := HK4.out; omega⟩, ⟨by (with_reducible repeat (first | apply Kd.R_alloc | apply Kd.R_drewN | apply Kd.R_drew)); exact HO_6.out⟩, ⟨by repeat (first | (with_reducible first | exact HB.out | apply below_alloc | apply pw_below_drewN | apply below_drew1) | exact HB.out)⟩⟩
                ·replace c22 := Bool.eq_false_iff.mpr c22
                 subst c22
                 have H1 : (spec_Params.j4 k4 a1 x6_1 t160 x8_4) = some (r1, r2) := by rw [if_neg (show ¬ (false = true) by decide)] at H; exact H
                 clear H
                 have H := H1
                 clear H1
                 have H' := Aside0.mk H
                 clear H
                 have p20 : 0 ≤ (x8_4 : Int) := of_decide_eq_true (by first | (with_reducible assumption) | assumption)
                 have q20 : x8_4 < (t160.size : Int) := of_decide_eq_true (by first | (with_reducible assumption) | assumption)
                 have hx20 := bt_at t160 x8_4
                 replace p20 := eq_true p20
                 replace q20 := eq_true q20
                 go_wp2_with (first | (go_at_call 27; (with_reducible refine (spec_FieldByte.calls k4 (bt t160 x8_4) false _ A21.out).mono ?_); rintro e w24 ⟨rfl, hb⟩; have n0_ := Aside0.mk (Kd.R_below (by (with_reducible repeat (first | apply Kd.R_alloc | apply Kd.R_drewN | apply Kd.R_drew)); exact HO_6.out) hb); have n1_ := Aside0.mk (below_step (by repeat (first | (with_reducible first | exact HB.out | apply below_alloc | apply pw_below_drewN | apply below_drew1) | exact HB.out)) hb); clear HO_6; clear HB; have HO_6 := n0_; have HB := n1_; clear n0_ n1_; (try clear hb); (try clear hb2); (try clear hk); (try clear hi)))
                 go_meet
                 case rel => exact ⟨_, (x8_4), (by first | rfl | (simp; done) | (rw [prx_ne]; first | done | rfl) | (simp [*]; done)), H', ⟨by have := HK1.out; have := HJ4.out; have := HJ9.out; have := HK4.out; first | omega | exact Nat.le_refl _⟩, ⟨by (with_reducible repeat (first | apply Kd.R_alloc | apply Kd.R_drewN | apply Kd.R_drew)); exact HO_6.out⟩, ⟨by repeat (first | (with_reducible first | exact HB.out | apply below_alloc | apply pw_below_drewN | apply below_drew1) | exact HB.out)⟩⟩
               ·rw [if_neg c19] at H
                exact absurd H (by simp)
              ·rw [if_neg c18] at H
               have c18b0 : decide (x8_4 < (t160.size : Int)) = false := decide_eq_false c18
               clear c18
               (first | rw [c18b0] | (simp only [i64_w, i32_w]; rw [c18b0]) | skip)
               have H' := Aside0.mk H
               clear H
               go_wp2
               go_meet
               case rel => exact ⟨_, (x8_4), (by first | rfl | (simp; done) | (rw [prx_ne]; first | done | rfl) | (simp [*]; done)), H', ⟨by have := HK1.out; have := HJ4.out; have := HJ9.out; have := HK4.out; first | omega | exact Nat.le_refl _⟩, ⟨by (with_reducible repeat (first | apply Kd.R_alloc | apply Kd.R_drewN | apply Kd.R_drew)); exact HO_6.out⟩, ⟨by repeat (first | (with_reducible first | exact HB.out | apply below_alloc | apply pw_below_drewN | apply below_drew1) | exact HB.out)⟩⟩
           case rest =>
            clear HC17
            try clear c1
            try clear p1
            try clear q1
            try clear hx1
            try clear qi1
            try clear c2
            try clear p2
            try clear q2
            try clear hx2
            try clear c4
            try clear c4b0
            try clear c6
            try clear c6b0
            try clear p6
            try clear c8
            try clear c11
            try clear c11b0
            try clear c11b1
            try clear c12
            try clear c12b0
            try clear c12b1
            try clear p13
            try clear q13
            try clear hx13
            try clear qi13
            try clear c14
            try clear c15
            try clear c15b0
            try clear c15b1
            try clear c18
            try clear c18b0
            try clear c19
            try clear c19b0
            try clear p20
            try clear q20
            try clear hx20
            try clear c22
            try clear c24
            try clear p1
            try clear p13
            try clear p2
            try clear p20
            try clear q1
            try clear q13
            try clear q20
            obtain ⟨kq, x8_16, rfl, HA, HJ16, HO_6, HB⟩ := hcut
            cases kq with
            | zero => exact absurd HA.out (by simp [spec_Params.j4])
            | succ kj16 =>
             have H := HA.out
             clear HA
             simp only [spec_Params.j4] at H
             have HC25 := Aside0.mk H
             clear H
             go_upto_region 12 with (fail)
             go_cut [61] (fun v61 wc => ∃ (kq : Nat) (x61_24 : Bool), v61 = .bool x61_24 ∧ Aside0 (spec_Params.j5 kq a1 x6_1 t160 x8_16 x61_24 = some (r1, r2)) ∧ Aside0 (kq ≤ kj16) ∧ Aside0 (Kd.R k38 38 wc w.heap.size (fun _ => True) u6 x6_1) ∧ Aside0 (Below w.heap.size w wc))
             case first =>
              have H := HC25.out
              clear HC25
              by_cases c26 : x8_16 = 0
              ·rw [if_pos c26] at H
               have c26b0 : (x8_16 == 0) = true := beq_iff_eq.mpr c26
               have c26b1 : (x8_16 != 0) = false := bne_eq_false_iff_eq.mpr c26
               clear c26
               (first | rw [c26b0] | (simp only [i64_w, i32_w]; rw [c26b0]) | skip)
               have H' := Aside0.mk H
               clear H
               go_wp2
               go_meet
               case rel => exact ⟨_, (true), (by first | rfl | (simp; done) | (rw [prx_ne]; first | done | rfl) | (simp [*]; done)), H', ⟨by have := HK1.out; have := HJ4.out; have := HJ9.out; have := HJ16.out; first | omega | exact Nat.le_refl _⟩, ⟨by (with_reducible repeat (first | apply Kd.R_alloc | apply Kd.R_drewN | apply Kd.R_drew)); exact HO_6.out⟩, ⟨by repeat (first | (with_reducible first | exact HB.out | apply below_alloc | apply pw_below_drewN | apply below_drew1) | exact HB.out)⟩⟩
              ·rw [if_neg c26] at H
               have c26b0 : (x8_16 == 0) = false := beq_eq_false_iff_ne.mpr c26
               have c26b1 : (x8_16 != 0) = true := bne_iff_ne.mpr c26
               (first | rw [c26b0] | (simp only [i64_w, i32_w]; rw [c26b0]) | skip)
               by_cases c27 : x8_16 = (t160.size : Int)
               ·rw [if_pos c27] at H
                have c27b0 : (x8_16 == (t160.size : Int)) = true := beq_iff_eq.mpr c27
                have c27b1 : (x8_16 != (t160.size : Int)) = false := bne_eq_false_iff_eq.mpr c27
                clear c27
                have H' := Aside0.mk H
                clear H
                go_wp2
                go_meet
                case rel => exact ⟨_, (true), (by first | rfl | (simp; done) | (rw [prx_ne]; first | done | rfl) | (simp [*]; done)), H', ⟨by have := HK1.out; have := HJ4.out; have := HJ9.out; have := HJ16.out; first | omega | exact Nat.le_refl _⟩, ⟨by (with_reducible repeat (first | apply Kd.R_alloc | apply Kd.R_drewN | apply Kd.R_drew)); exact HO_6.out⟩, ⟨by repeat (first | (with_reducible first | exact HB.out | apply below_alloc | apply pw_below_drewN | apply below_drew1) | exact HB.out)⟩⟩
               ·rw [if_neg c27] at H
                have c27b0 : (x8_16 == (t160.size : Int)) = false := beq_eq_false_iff_ne.mpr c27
                have c27b1 : (x8_16 != (t160.size : Int)) = true := bne_iff_ne.mpr c27
                by_cases c28 : 0 ≤ x8_16
                ·rw [if_pos c28] at H
                 have c28b0 : decide (0 ≤ x8_16) = true := decide_eq_true c28
                 clear c28
                 by_cases c29 : x8_16 < (t160.size : Int)
                 ·rw [if_pos c29] at H
                  have c29b0 : decide (x8_16 < (t160.size : Int)) = true := decide_eq_true c29
                  clear c29
                  have H' := Aside0.mk H
                  clear H
                  have p30 : 0 ≤ (x8_16 : Int) := of_decide_eq_true (by first | (with_reducible assumption) | assumption)
                  have q30 : x8_16 < (t160.size : Int) := of_decide_eq_true (by first | (with_reducible assumption) | assumption)
                  have hx30 := bt_at t160 x8_16
                  replace p30 := eq_true p30
                  replace q30 := eq_true q30
                  go_wp2
                  go_meet
                  case rel => exact ⟨_, (((bt t160 x8_16) != 61)), (by first | rfl | (simp; done) | (rw [prx_ne]; first | done | rfl) | (simp [*]; done)), H', ⟨by have := HK1.out; have := HJ4.out; have := HJ9.out; have := HJ16.out; first | omega | exact Nat.le_refl _⟩, ⟨by (with_reducible repeat (first | apply Kd.R_alloc | apply Kd.R_drewN | apply Kd.R_drew)); exact HO_6.out⟩, ⟨by repeat (first | (with_reducible first | exact HB.out | apply below_alloc | apply pw_below_drewN | apply below_drew1) | exact HB.out)⟩⟩
                 ·rw [if_neg c29] at H
                  exact absurd H (by simp)
                ·rw [if_neg c28] at H
                 exact absurd H (by simp)
             case rest =>
              clear HC25
              try clear c1
              try clear p1
              try clear q1
              try clear hx1
              try clear qi1
              try clear c2
              try clear p2
              try clear q2
              try clear hx2
              try clear p3
              try clear q3
              try clear hx3
              try clear c4
              try clear c4b0
              try clear c6
              try clear c6b0
              try clear p6
              try clear c8
              try clear c11
              try clear c11b0
              try clear c11b1
              try clear c12
              try clear c12b0
              try clear c12b1
              try clear p13
              try clear q13
              try clear hx13
              try clear qi13
              try clear c14
              try clear c15
              try clear c15b0
              try clear c15b1
              try clear c18
              try clear c18b0
              try clear c19
              try clear c19b0
              try clear p20
              try clear q20
              try clear hx20
              try clear c22
              try clear c24
              try clear c26
              try clear c26b0
              try clear c26b1
              try clear c27
              try clear c27b0
              try clear c27b1
              try clear c28
              try clear c28b0
              try clear c29
              try clear c29b0
              try clear p30
              try clear q30
              try clear hx30
              try clear p1
              try clear p13
              try clear p2
              try clear p20
              try clear p30
              try clear p6
              try clear q1
              try clear q13
              try clear q2
              try clear q20
              try clear q30
              obtain ⟨kq, x61_24, rfl, HA, HJ24, HO_6, HB⟩ := hcut
              cases kq with
              | zero => exact absurd HA.out (by simp [spec_Params.j5])
              | succ kj24 =>
               have H := HA.out
               clear HA
               simp only [spec_Params.j5] at H
               by_cases c31 : x61_24 = true
               ·subst c31
                have H1 : (some (x6_1, 1)) = some (r1, r2) := by rw [if_pos rfl] at H; exact H
                clear H
                have H := H1
                clear H1
                simp only [Option.some.injEq, Prod.mk.injEq] at H
                obtain ⟨rfl, rfl⟩ := H
                go_wp2
                go_ret2
                exact ⟨_, by first | rfl | (simp [errW_none, errW_some] <;> rfl) | (simp [*, errW_none, errW_some] <;> rfl), by (with_reducible repeat (first | apply Kd.R_alloc | apply Kd.R_drewN | apply Kd.R_drew)); exact HO_6.out, by repeat (first | (with_reducible first | exact HB.out | apply below_alloc | apply pw_below_drewN | apply below_drew1) | exact HB.out)⟩
               ·replace c31 := Bool.eq_false_iff.mpr c31
                subst c31
                have H1 : (if 0 ≤ (wrap64 (x8_16 + 1)) then (if (wrap64 (x8_16 + 1)) ≤ (t160.size : Int) then ((spec_value.f kj24 (t160.extract ((wrap64 (x8_16 + 1)) : Int).toNat t160.size)).bind fun bt162 => (if bt162.2.2 = 2 then (some (([] : List (S38)), 2)) else (if bt162.2.2 = 0 then (some (x6_1, 1)) else (if 0 ≤ x8_16 then (if x8_16 ≤ (t160.size : Int) then (if x6_1.length < 4398046511104 then (spec_Params.l0 kj24 bt162.2.1 a1 (x6_1 ++ [(⟨t160.extract 0 (x8_16 : Int).toNat, bt162.1⟩ : S38)])) else (none)) else (none)) else (none))))) else (none)) else (none)) = some (r1, r2) := by rw [if_neg (show ¬ (false = true) by decide)] at H; exact H
                clear H
                have H := H1
                clear H1
                obtain ⟨ji32, hji32⟩ : ∃ j_ : Int, (wrap64 (x8_16 + 1)) = j_ := ⟨_, rfl⟩
                replace H : (if 0 ≤ (ji32) then (if (ji32) ≤ (t160.size : Int) then ((spec_value.f kj24 (t160.extract ((ji32) : Int).toNat t160.size)).bind fun bt162 => (if bt162.2.2 = 2 then (some (([] : List (S38)), 2)) else (if bt162.2.2 = 0 then (some (x6_1, 1)) else (if 0 ≤ x8_16 then (if x8_16 ≤ (t160.size : Int) then (if x6_1.length < 4398046511104 then (spec_Params.l0 kj24 bt162.2.1 a1 (x6_1 ++ [(⟨t160.extract 0 (x8_16 : Int).toNat, bt162.1⟩ : S38)])) else (none)) else (none)) else (none))))) else (none)) else (none)) = some (r1, r2) := by first | (rw [hji32] at H; exact H) | (simp only [hji32] at H ⊢; exact H)
                have hji32w : (IntKind.i64.wrap (x8_16 + 1)) = ji32 := (i64_w _).trans hji32
                by_cases c33 : 0 ≤ (ji32)
                ·rw [if_pos c33] at H
                 have c33b0 := eq_true c33
                 have c33b1 : decide (0 ≤ (ji32)) = true := decide_eq_true c33
                 clear c33
                 by_cases c34 : (ji32) ≤ (t160.size : Int)
                 ·rw [if_pos c34] at H
                  have c34b0 := eq_true c34
                  have c34b1 : decide ((ji32) ≤ (t160.size : Int)) = true := decide_eq_true c34
                  clear c34
                  replace H := Option.bind_eq_some_iff.mp H
                  obtain ⟨⟨t162, t163, t164⟩, A350, H⟩ := H
                  replace H : (if t164 = 2 then (some (([] : List (S38)), 2)) else (if t164 = 0 then (some (x6_1, 1)) else (if 0 ≤ x8_16 then (if x8_16 ≤ (t160.size : Int) then (if x6_1.length < 4398046511104 then (spec_Params.l0 kj24 t163 a1 (x6_1 ++ [(⟨t160.extract 0 (x8_16 : Int).toNat, t162⟩ : S38)])) else (none)) else (none)) else (none)))) = some (r1, r2) := H
                  have A35 := Aside0.mk A350
                  clear A350
                  by_cases c36 : t164 = 2
                  ·rw [if_pos c36] at H
                   have c36b0 : (t164 == 2) = true := beq_iff_eq.mpr c36
                   have c36b1 : (t164 != 2) = false := bne_eq_false_iff_eq.mpr c36
                   clear c36
                   simp only [Option.some.injEq, Prod.mk.injEq] at H
                   obtain ⟨rfl, rfl⟩ := H
                   go_wp2_with (first | ((with_reducible refine gate_callee (f := 28) rfl ?_); refine goesL_ (some 68) rfl rfl Try.func28 (by kernel_rfl) rfl #[.string (t160.extract ((ji32) : Int).toNat t160.size)] rfl (by (try simp only [List.map_toArray, List.map_cons, List.map_nil]); first | done | (simp only [hji32]; rfl) | rfl | (simp only [List.length_drop, List.length_take]; rfl)) ?_; (with_reducible refine (spec_value.calls kj24 (t160.extract ((ji32) : Int).toNat t160.size) t162 t163 t164 _ A35.out).mono ?_); rintro e w37 ⟨rfl, hb⟩; refine ⟨_, rfl, ?_⟩; have n0_ := Aside0.mk (Kd.R_below (by (with_reducible repeat (first | apply Kd.R_alloc | apply Kd.R_drewN | apply Kd.R_drew)); exact HO_6.out) hb); have n1_ := Aside0.mk (below_step (by repeat (first | (with_reducible first | exact HB.out | apply below_alloc | apply pw_below_drewN | apply below_drew1) | exact HB.out)) hb); clear HO_6; clear HB; have HO_6 := n0_; have HB := n1_; clear n0_ n1_; (try clear hb); (try clear hb2); (try clear hk); (try clear hi)))
                   go_ret2
                   exact ⟨_, by first | rfl | (simp [errW_none, errW_some] <;> rfl) | (simp only [← hji32]; first | rfl | (simp [errW_none, errW_some] <;> rfl)) | (simp [*, errW_none, errW_some] <;> rfl), by first | exact Kd.R_nil _ _ _ _ _ | exact Kd.N_nil _ _ _ _ _ | exact Kd.V_nil _ _ _ _ _ | exact Kd.Q_nil _ _ _ _ _ | exact Kd.S_nil _ _ _ _ _, by repeat (first | (with_reducible first | exact HB.out | apply below_alloc | apply pw_below_drewN | apply below_drew1) | exact HB.out)⟩
                  ·rw [if_neg c36] at H
                   have c36b0 : (t164 == 2) = false := beq_eq_false_iff_ne.mpr c36
                   have c36b1 : (t164 != 2) = true := bne_iff_ne.mpr c36
                   by_cases c38 : t164 = 0
                   ·rw [if_pos c38] at H
                    have c38b0 : (t164 == 0) = true := beq_iff_eq.mpr c38
                    have c38b1 : (t164 != 0) = false := bne_eq_false_iff_eq.mpr c38
                    clear c38
                    simp only [Option.some.injEq, Prod.mk.injEq] at H
                    obtain ⟨rfl, rfl⟩ := H
                    go_wp2_with (first | ((with_reducible refine gate_callee (f := 28) rfl ?_); refine goesL_ (some 68) rfl rfl Try.func28 (by kernel_rfl) rfl #[.string (t160.extract ((ji32) : Int).toNat t160.size)] rfl (by (try simp only [List.map_toArray, List.map_cons, List.map_nil]); first | done | (simp only [hji32]; rfl) | rfl | (simp only [List.length_drop, List.length_take]; rfl)) ?_; (with_reducible refine (spec_value.calls kj24 (t160.extract ((ji32) : Int).toNat t160.size) t162 t163 t164 _ A35.out).mono ?_); rintro e w39 ⟨rfl, hb⟩; refine ⟨_, rfl, ?_⟩; have n0_ := Aside0.mk (Kd.R_below (by (with_reducible repeat (first | apply Kd.R_alloc | apply Kd.R_drewN | apply Kd.R_drew)); exact HO_6.out) hb); have n1_ := Aside0.mk (below_step (by repeat (first | (with_reducible first | exact HB.out | apply below_alloc | apply pw_below_drewN | apply below_drew1) | exact HB.out)) hb); clear HO_6; clear HB; have HO_6 := n0_; have HB := n1_; clear n0_ n1_; (try clear hb); (try clear hb2); (try clear hk); (try clear hi)))
                    go_ret2
                    exact ⟨_, by first | rfl | (simp [errW_none, errW_some] <;> rfl) | (simp only [← hji32]; first | rfl | (simp [errW_none, errW_some] <;> rfl)) | (simp [*, errW_none, errW_some] <;> rfl), by (with_reducible repeat (first | apply Kd.R_alloc | apply Kd.R_drewN | apply Kd.R_drew)); exact HO_6.out, by repeat (first | (with_reducible first | exact HB.out | apply below_alloc | apply pw_below_drewN | apply below_drew1) | exact HB.out)⟩
                   ·rw [if_neg c38] at H
                    have c38b0 : (t164 == 0) = false := beq_eq_false_iff_ne.mpr c38
                    have c38b1 : (t164 != 0) = true := bne_iff_ne.mpr c38
                    by_cases c40 : 0 ≤ x8_16
                    ·rw [if_pos c40] at H
                     have c40b0 := eq_true c40
                     have c40b1 : decide (0 ≤ x8_16) = true := decide_eq_true c40
                     clear c40
                     by_cases c41 : x8_16 ≤ (t160.size : Int)
                     ·rw [if_pos c41] at H
                      have c41b0 := eq_true c41
                      have c41b1 : decide (x8_16 ≤ (t160.size : Int)) = true := decide_eq_true c41
                      clear c41
                      by_cases c42 : x6_1.length < 4398046511104
                      ·rw [if_pos c42] at H
                       have LMc42 := Aside0.mk c42
                       clear c42
                       obtain ⟨y165, hy165⟩ : ∃ y_ : List (S38), y_ = (x6_1 ++ [(⟨t160.extract 0 (x8_16 : Int).toNat, t162⟩ : S38)]) := ⟨_, rfl⟩
                       replace H : (spec_Params.l0 kj24 t163 a1 y165) = some (r1, r2) := by first | (rw [hy165]; with_reducible exact H) | (have H2_ := (Option.bind_some _ _).symm.trans H; rw [hy165]; with_reducible exact H2_) | (have H2_ := (Option.bind_some _ _).symm.trans H; with_reducible exact H2_) | with_reducible exact H | (rw [hy165]; exact H) | exact H
                       have Ny165 := Aside0.mk hy165
                       clear hy165
                       have H' := Aside0.mk H
                       clear H
                       go_wp2_with (first | ((with_reducible refine gate_callee (f := 28) rfl ?_); refine goesL_ (some 68) rfl rfl Try.func28 (by kernel_rfl) rfl #[.string (t160.extract ((ji32) : Int).toNat t160.size)] rfl (by (try simp only [List.map_toArray, List.map_cons, List.map_nil]); first | done | (simp only [hji32]; rfl) | rfl | (simp only [List.length_drop, List.length_take]; rfl)) ?_; (with_reducible refine (spec_value.calls kj24 (t160.extract ((ji32) : Int).toNat t160.size) t162 t163 t164 _ A35.out).mono ?_); rintro e w43 ⟨rfl, hb⟩; refine ⟨_, rfl, ?_⟩; have n0_ := Aside0.mk (Kd.R_below (by (with_reducible repeat (first | apply Kd.R_alloc | apply Kd.R_drewN | apply Kd.R_drew)); exact HO_6.out) hb); have n1_ := Aside0.mk (below_step (by repeat (first | (with_reducible first | exact HB.out | apply below_alloc | apply pw_below_drewN | apply below_drew1) | exact HB.out)) hb); clear HO_6; clear HB; have HO_6 := n0_; have HB := n1_; clear n0_ n1_; (try clear hb); (try clear hb2); (try clear hk); (try clear hi)) | ((with_reducible refine gate_builtin (b := .append) (xs := #[.tmp 77, .tmp 83]) rfl ?_); (try (refine gate_guard (by rfl) ?_; dsimp only)); at_builtin; refine Kd.R_append k38 (w0 := w) w.heap.size rfl (.tmp 77) (.tmp 83) 30 38 (.agg #[(.string ⟨#[]⟩), (.string ⟨#[]⟩)]) 32 rfl Try.underlying30 info38 rfl (by decide) (by omega) u6 x6_1 (⟨t160.extract 0 (x8_16 : Int).toNat, t162⟩ : S38) [.string (t160.extract 0 (x8_16 : Int).toNat), .string t162] (fun _ => True) (fun _ => False) rfl rfl ?aP (fun _ hk => hk.elim) ?aF ?aO ?aB ?aS ?aL ?_; (case aP => exact k38_mkM _ _ _ (⟨t160.extract 0 (x8_16 : Int).toNat, t162⟩ : S38)); (case aB => exact (by repeat (first | (with_reducible first | exact HB.out | apply below_alloc | apply pw_below_drewN | apply below_drew1) | exact HB.out))); (case aF => exact (fun _ _ => trivial)); (case aO => exact (by (with_reducible repeat (first | apply Kd.R_alloc | apply Kd.R_drewN | apply Kd.R_drew)); exact HO_6.out)); (case aS => exact (below_size (by repeat (first | (with_reducible first | exact HB.out | apply below_alloc | apply pw_below_drewN | apply below_drew1) | exact HB.out)))); (case aL => have := LMc42.out; omega); intro v166 w44 ho hb hg hat; rw [← Ny165.out] at ho; have n0_ := Aside0.mk (hb); have n1_ := Aside0.mk (ho); clear HB; clear HO_6; have HB := n0_; have HO167 := n1_; clear n0_ n1_; clear ho hb hg hat))
                       go_roundg kj24
                       case measure => have := HK1.out; have := HJ4.out; have := HJ9.out; have := HJ16.out; have := HJ24.out; omega
                       case rel => exact ⟨(t163), (y165), (by first | rfl | (simp; done) | (rw [prx_ne]; first | done | rfl) | (simp [*]; done)), H', ⟨by have := HK1.out; have := HJ4.out; have := HJ9.out; have := HJ16.out; have := HJ24.out; omega⟩, ⟨by (with_reducible repeat (first | apply Kd.R_alloc | apply Kd.R_drewN | apply Kd.R_drew)); exact HO167.out⟩, ⟨by repeat (first | (with_reducible first | exact HB.out | apply below_alloc | apply pw_below_drewN | apply below_drew1) | exact HB.out)⟩⟩
                      ·rw [if_neg c42] at H
                       exact absurd H (by simp)
                     ·rw [if_neg c41] at H
                      exact absurd H (by simp)
                    ·rw [if_neg c40] at H
                     exact absurd H (by simp)
                 ·rw [if_neg c34] at H
                  exact absurd H (by simp)
                ·rw [if_neg c33] at H
                 exact absurd H (by simp)
          ·rw [if_neg c15] at H
           exact absurd H (by simp)
      ·replace c8 := Bool.eq_false_iff.mpr c8
       subst c8
       have H1 : (some (x6_1, 1)) = some (r1, r2) := by rw [if_neg (show ¬ (false = true) by decide)] at H; exact H
       clear H
       have H := H1
       clear H1
       simp only [Option.some.injEq, Prod.mk.injEq] at H
       obtain ⟨rfl, rfl⟩ := H
       go_wp2
       go_ret2
       exact ⟨_, by first | rfl | (simp [errW_none, errW_some] <;> rfl) | (simp [*, errW_none, errW_some] <;> rfl), by (with_reducible repeat (first | apply Kd.R_alloc | apply Kd.R_drewN | apply Kd.R_drew)); exact HO_6.out, by repeat (first | (with_reducible first | exact HB.out | apply below_alloc | apply pw_below_drewN | apply below_drew1) | exact HB.out)⟩
end Go.Proofs.Ytgmjaggkiifdjaa.QA
namespace Go.Proofs.Ytgmjaggkiifdjaa.QA
open Go.Proofs.Ytgmjaggkiifdjaa.Given
open Go.Proofs.Ytgmjaggkiifdjaa.PrX
open Go.RowKit Go.Proofs.YtgmjaggkiifdjaaW.PrintWords Go.Proofs.YtgmjaggkiifdjaaW.PrintLast Go.Proofs.YtgmjaggkiifdjaaW.PrintMore
def spec_sooner.f (a0_0 : ByteArray) (a0_1 : Int) (a0_2 : Int) (a0_3 : Int) (a0_4 : ByteArray) (a1_0 : ByteArray) (a1_1 : Int) (a1_2 : Int) (a1_3 : Int) (a1_4 : ByteArray) : Option (Bool) := if a0_1 = a1_1 then (if a0_2 = a1_2 then (some (decide (a0_3 < a1_3))) else (some (decide (a0_2 > a1_2)))) else (some (decide (a0_1 > a1_1)))
set_option maxHeartbeats 8000000 in
set_option maxRecDepth 100000 in
theorem spec_sooner.calls (a0_0 : ByteArray) (a0_1 : Int) (a0_2 : Int) (a0_3 : Int) (a0_4 : ByteArray) (a1_0 : ByteArray) (a1_1 : Int) (a1_2 : Int) (a1_3 : Int) (a1_4 : ByteArray) (r : Bool) (w : World) (h : spec_sooner.f a0_0 a0_1 a0_2 a0_3 a0_4 a1_0 a1_1 a1_2 a1_3 a1_4 = some r) :
    Calls Try.prog 37 #[.agg #[.string a0_0, .int .i64 a0_1, .int .i64 a0_2, .int .i64 a0_3, .string a0_4], .agg #[.string a1_0, .int .i64 a1_1, .int .i64 a1_2, .int .i64 a1_3, .string a1_4]] w fun e w' => e = .returned (.bool r) ∧ Below w.heap.size w w' := by
  have hu50 := Try.underlying50
  have HB := Aside0.mk (Below.refl w.heap.size w)
  have H : (if a0_1 = a1_1 then (if a0_2 = a1_2 then (some (decide (a0_3 < a1_3))) else (some (decide (a0_2 > a1_2)))) else (some (decide (a0_1 > a1_1)))) = some r := h
  clear h
  by_cases c3 : a0_1 = a1_1
  · rw [if_pos c3] at H
    have c3b0 : (a0_1 == a1_1) = true := beq_iff_eq.mpr c3
    have c3b1 : (a0_1 != a1_1) = false := bne_eq_false_iff_eq.mpr c3
    clear c3
    by_cases c4 : a0_2 = a1_2
    · rw [if_pos c4] at H
      have c4b0 : (a0_2 == a1_2) = true := beq_iff_eq.mpr c4
      have c4b1 : (a0_2 != a1_2) = false := bne_eq_false_iff_eq.mpr c4
      clear c4
      obtain rfl := Option.some.inj H
      go_enter Try.func37, Try.ntmps37
      go_wp2_with (first | ((with_reducible refine gate_dst (N := 2) rfl ?_); refine box_event ?hg (N := 2) ?hd (cs := #[.string a0_0, .int .i64 a0_1, .int .i64 a0_2, .int .i64 a0_3, .string a0_4]) (t := 50) ?hr ?_; (case hd => rfl); (case hg => rfl); (case hr => first | (go_simp; done) | (go_simp; rfl)); intro gb230 hg w5 hbox hb; have n0_ := Aside0.mk (below_step (by repeat (first | (with_reducible first | exact HB.out | apply below_alloc | apply pw_below_drewN | apply below_drew1) | exact HB.out)) hb); have n1_ := Aside0.mk (hbox); have n2_ := Aside0.mk ((by rw [hg]; exact (below_size (by repeat (first | (with_reducible first | exact HB.out | apply below_alloc | apply pw_below_drewN | apply below_drew1) | exact HB.out))) : w.heap.size ≤ gb230)); have n3_ := Aside0.mk ((by rw [hg]; exact (below_size (by repeat (first | (with_reducible first | exact HB.out | apply below_alloc | apply pw_below_drewN | apply below_drew1) | exact HB.out))) : w.heap.size ≤ gb230)); clear HB; have HB := n0_; have BK230 := n1_; have GW230 := n2_; have GE230 := n3_; clear n0_ n1_ n2_ n3_; clear hb hbox hg) | ((with_reducible refine gate_dst (N := 3) rfl ?_); refine box_event ?hg (N := 3) ?hd (cs := #[.string a1_0, .int .i64 a1_1, .int .i64 a1_2, .int .i64 a1_3, .string a1_4]) (t := 50) ?hr ?_; (case hd => rfl); (case hg => rfl); (case hr => first | (go_simp; done) | (go_simp; rfl)); intro gb231 hg w6 hbox hb; have n0_ := Aside0.mk (blk_below (g := gb230) (o := .cells #[.string a0_0, .int .i64 a0_1, .int .i64 a0_2, .int .i64 a0_3, .string a0_4] 50 (0, 0)) (by (with_reducible repeat (first | refine blk_drewN ?_ _ | refine blk_drew ?_ | refine blk_alloc ?_ _)); exact BK230.out) hb); have n1_ := Aside0.mk (below_step (by repeat (first | (with_reducible first | exact HB.out | apply below_alloc | apply pw_below_drewN | apply below_drew1 | refine below_set ?_ GE230.out) | exact HB.out)) hb); have n2_ := Aside0.mk (hbox); have n3_ := Aside0.mk ((by rw [hg]; exact (below_size (by repeat (first | (with_reducible first | exact HB.out | apply below_alloc | apply pw_below_drewN | apply below_drew1 | refine below_set ?_ GE230.out) | exact HB.out))) : w.heap.size ≤ gb231)); have n4_ := Aside0.mk ((by rw [hg]; exact (below_size (by repeat (first | (with_reducible first | exact HB.out | apply below_alloc | apply pw_below_drewN | apply below_drew1 | refine below_set ?_ GE230.out) | exact HB.out))) : w.heap.size ≤ gb231)); have n5_ := Aside0.mk ((by rw [hg]; exact Nat.ne_of_lt (blk_lt (g := gb230) (o := .cells #[.string a0_0, .int .i64 a0_1, .int .i64 a0_2, .int .i64 a0_3, .string a0_4] 50 (0, 0)) (by (with_reducible repeat (first | refine blk_drewN ?_ _ | refine blk_drew ?_ | refine blk_alloc ?_ _)); exact BK230.out)) : gb230 ≠ gb231)); have n6_ := Aside0.mk ((by rw [hg]; exact Nat.ne_of_gt (blk_lt (g := gb230) (o := .cells #[.string a0_0, .int .i64 a0_1, .int .i64 a0_2, .int .i64 a0_3, .string a0_4] 50 (0, 0)) (by (with_reducible repeat (first | refine blk_drewN ?_ _ | refine blk_drew ?_ | refine blk_alloc ?_ _)); exact BK230.out)) : gb231 ≠ gb230)); clear BK230; clear HB; have BK230 := n0_; have HB := n1_; have BK231 := n2_; have GW231 := n3_; have GE231 := n4_; have NB230_231 := n5_; have NB231_230 := n6_; clear n0_ n1_ n2_ n3_ n4_ n5_ n6_; clear hb hbox hg; have hnb7 := NB230_231.out; have hnc7 := NB231_230.out; have hcz8_0 : w6.cell? ⟨gb230, 0, none⟩ = some (.string a0_0) := (blk_cell BK230.out 0).trans rfl; have hcz8_1 : w6.cell? ⟨gb230, 1, none⟩ = some (.int .i64 a0_1) := (blk_cell BK230.out 1).trans rfl; have hcz8_2 : w6.cell? ⟨gb230, 2, none⟩ = some (.int .i64 a0_2) := (blk_cell BK230.out 2).trans rfl; have hcz8_3 : w6.cell? ⟨gb230, 3, none⟩ = some (.int .i64 a0_3) := (blk_cell BK230.out 3).trans rfl; have hcz8_4 : w6.cell? ⟨gb230, 4, none⟩ = some (.string a0_4) := (blk_cell BK230.out 4).trans rfl; have hfz8_0 := blk_frozen BK230.out 0; have hfz8_1 := blk_frozen BK230.out 1; have hfz8_2 := blk_frozen BK230.out 2; have hfz8_3 := blk_frozen BK230.out 3; have hfz8_4 := blk_frozen BK230.out 4; have hcz9_0 : w6.cell? ⟨gb231, 0, none⟩ = some (.string a1_0) := (blk_cell BK231.out 0).trans rfl; have hcz9_1 : w6.cell? ⟨gb231, 1, none⟩ = some (.int .i64 a1_1) := (blk_cell BK231.out 1).trans rfl; have hcz9_2 : w6.cell? ⟨gb231, 2, none⟩ = some (.int .i64 a1_2) := (blk_cell BK231.out 2).trans rfl; have hcz9_3 : w6.cell? ⟨gb231, 3, none⟩ = some (.int .i64 a1_3) := (blk_cell BK231.out 3).trans rfl; have hcz9_4 : w6.cell? ⟨gb231, 4, none⟩ = some (.string a1_4) := (blk_cell BK231.out 4).trans rfl; have hfz9_0 := blk_frozen BK231.out 0; have hfz9_1 := blk_frozen BK231.out 1; have hfz9_2 := blk_frozen BK231.out 2; have hfz9_3 := blk_frozen BK231.out 3; have hfz9_4 := blk_frozen BK231.out 4))
      go_ret
      exact ⟨by first | rfl | (simp [errW_none, errW_some] <;> rfl) | (simp [*, errW_none, errW_some] <;> rfl), by repeat (first | (with_reducible first | exact HB.out | apply below_alloc | apply pw_below_drewN | apply below_drew1 | refine below_set ?_ GE230.out | refine below_set ?_ GE231.out) | exact HB.out)⟩
    · rw [if_neg c4] at H
      have c4b0 : (a0_2 == a1_2) = false := beq_eq_false_iff_ne.mpr c4
      have c4b1 : (a0_2 != a1_2) = true := bne_iff_ne.mpr c4
      obtain rfl := Option.some.inj H
      go_enter Try.func37, Try.ntmps37
      go_wp2_with (first | ((with_reducible refine gate_dst (N := 2) rfl ?_); refine box_event ?hg (N := 2) ?hd (cs := #[.string a0_0, .int .i64 a0_1, .int .i64 a0_2, .int .i64 a0_3, .string a0_4]) (t := 50) ?hr ?_; (case hd => rfl); (case hg => rfl); (case hr => first | (go_simp; done) | (go_simp; rfl)); intro gb230 hg w10 hbox hb; have n0_ := Aside0.mk (below_step (by repeat (first | (with_reducible first | exact HB.out | apply below_alloc | apply pw_below_drewN | apply below_drew1) | exact HB.out)) hb); have n1_ := Aside0.mk (hbox); have n2_ := Aside0.mk ((by rw [hg]; exact (below_size (by repeat (first | (with_reducible first | exact HB.out | apply below_alloc | apply pw_below_drewN | apply below_drew1) | exact HB.out))) : w.heap.size ≤ gb230)); have n3_ := Aside0.mk ((by rw [hg]; exact (below_size (by repeat (first | (with_reducible first | exact HB.out | apply below_alloc | apply pw_below_drewN | apply below_drew1) | exact HB.out))) : w.heap.size ≤ gb230)); clear HB; have HB := n0_; have BK230 := n1_; have GW230 := n2_; have GE230 := n3_; clear n0_ n1_ n2_ n3_; clear hb hbox hg) | ((with_reducible refine gate_dst (N := 3) rfl ?_); refine box_event ?hg (N := 3) ?hd (cs := #[.string a1_0, .int .i64 a1_1, .int .i64 a1_2, .int .i64 a1_3, .string a1_4]) (t := 50) ?hr ?_; (case hd => rfl); (case hg => rfl); (case hr => first | (go_simp; done) | (go_simp; rfl)); intro gb231 hg w11 hbox hb; have n0_ := Aside0.mk (blk_below (g := gb230) (o := .cells #[.string a0_0, .int .i64 a0_1, .int .i64 a0_2, .int .i64 a0_3, .string a0_4] 50 (0, 0)) (by (with_reducible repeat (first | refine blk_drewN ?_ _ | refine blk_drew ?_ | refine blk_alloc ?_ _)); exact BK230.out) hb); have n1_ := Aside0.mk (below_step (by repeat (first | (with_reducible first | exact HB.out | apply below_alloc | apply pw_below_drewN | apply below_drew1 | refine below_set ?_ GE230.out) | exact HB.out)) hb); have n2_ := Aside0.mk (hbox); have n3_ := Aside0.mk ((by rw [hg]; exact (below_size (by repeat (first | (with_reducible first | exact HB.out | apply below_alloc | apply pw_below_drewN | apply below_drew1 | refine below_set ?_ GE230.out) | exact HB.out))) : w.heap.size ≤ gb231)); have n4_ := Aside0.mk ((by rw [hg]; exact (below_size (by repeat (first | (with_reducible first | exact HB.out | apply below_alloc | apply pw_below_drewN | apply below_drew1 | refine below_set ?_ GE230.out) | exact HB.out))) : w.heap.size ≤ gb231)); have n5_ := Aside0.mk ((by rw [hg]; exact Nat.ne_of_lt (blk_lt (g := gb230) (o := .cells #[.string a0_0, .int .i64 a0_1, .int .i64 a0_2, .int .i64 a0_3, .string a0_4] 50 (0, 0)) (by (with_reducible repeat (first | refine blk_drewN ?_ _ | refine blk_drew ?_ | refine blk_alloc ?_ _)); exact BK230.out)) : gb230 ≠ gb231)); have n6_ := Aside0.mk ((by rw [hg]; exact Nat.ne_of_gt (blk_lt (g := gb230) (o := .cells #[.string a0_0, .int .i64 a0_1, .int .i64 a0_2, .int .i64 a0_3, .string a0_4] 50 (0, 0)) (by (with_reducible repeat (first | refine blk_drewN ?_ _ | refine blk_drew ?_ | refine blk_alloc ?_ _)); exact BK230.out)) : gb231 ≠ gb230)); clear BK230; clear HB; have BK230 := n0_; have HB := n1_; have BK231 := n2_; have GW231 := n3_; have GE231 := n4_; have NB230_231 := n5_; have NB231_230 := n6_; clear n0_ n1_ n2_ n3_ n4_ n5_ n6_; clear hb hbox hg; have hnb12 := NB230_231.out; have hnc12 := NB231_230.out; have hcz13_0 : w11.cell? ⟨gb230, 0, none⟩ = some (.string a0_0) := (blk_cell BK230.out 0).trans rfl; have hcz13_1 : w11.cell? ⟨gb230, 1, none⟩ = some (.int .i64 a0_1) := (blk_cell BK230.out 1).trans rfl; have hcz13_2 : w11.cell? ⟨gb230, 2, none⟩ = some (.int .i64 a0_2) := (blk_cell BK230.out 2).trans rfl; have hcz13_3 : w11.cell? ⟨gb230, 3, none⟩ = some (.int .i64 a0_3) := (blk_cell BK230.out 3).trans rfl; have hcz13_4 : w11.cell? ⟨gb230, 4, none⟩ = some (.string a0_4) := (blk_cell BK230.out 4).trans rfl; have hfz13_0 := blk_frozen BK230.out 0; have hfz13_1 := blk_frozen BK230.out 1; have hfz13_2 := blk_frozen BK230.out 2; have hfz13_3 := blk_frozen BK230.out 3; have hfz13_4 := blk_frozen BK230.out 4; have hcz14_0 : w11.cell? ⟨gb231, 0, none⟩ = some (.string a1_0) := (blk_cell BK231.out 0).trans rfl; have hcz14_1 : w11.cell? ⟨gb231, 1, none⟩ = some (.int .i64 a1_1) := (blk_cell BK231.out 1).trans rfl; have hcz14_2 : w11.cell? ⟨gb231, 2, none⟩ = some (.int .i64 a1_2) := (blk_cell BK231.out 2).trans rfl; have hcz14_3 : w11.cell? ⟨gb231, 3, none⟩ = some (.int .i64 a1_3) := (blk_cell BK231.out 3).trans rfl; have hcz14_4 : w11.cell? ⟨gb231, 4, none⟩ = some (.string a1_4) := (blk_cell BK231.out 4).trans rfl; have hfz14_0 := blk_frozen BK231.out 0; have hfz14_1 := blk_frozen BK231.out 1; have hfz14_2 := blk_frozen BK231.out 2; have hfz14_3 := blk_frozen BK231.out 3; have hfz14_4 := blk_frozen BK231.out 4))
      go_ret
      exact ⟨by first | rfl | (simp [errW_none, errW_some] <;> rfl) | (simp [*, errW_none, errW_some] <;> rfl), by repeat (first | (with_reducible first | exact HB.out | apply below_alloc | apply pw_below_drewN | apply below_drew1 | refine below_set ?_ GE230.out | refine below_set ?_ GE231.out) | exact HB.out)⟩
  · rw [if_neg c3] at H
    have c3b0 : (a0_1 == a1_1) = false := beq_eq_false_iff_ne.mpr c3
    have c3b1 : (a0_1 != a1_1) = true := bne_iff_ne.mpr c3
    obtain rfl := Option.some.inj H
    go_enter Try.func37, Try.ntmps37
    go_wp2_with (first | ((with_reducible refine gate_dst (N := 2) rfl ?_); refine box_event ?hg (N := 2) ?hd (cs := #[.string a0_0, .int .i64 a0_1, .int .i64 a0_2, .int .i64 a0_3, .string a0_4]) (t := 50) ?hr ?_; (case hd => rfl); (case hg => rfl); (case hr => first | (go_simp; done) | (go_simp; rfl)); intro gb230 hg w15 hbox hb; have n0_ := Aside0.mk (below_step (by repeat (first | (with_reducible first | exact HB.out | apply below_alloc | apply pw_below_drewN | apply below_drew1) | exact HB.out)) hb); have n1_ := Aside0.mk (hbox); have n2_ := Aside0.mk ((by rw [hg]; exact (below_size (by repeat (first | (with_reducible first | exact HB.out | apply below_alloc | apply pw_below_drewN | apply below_drew1) | exact HB.out))) : w.heap.size ≤ gb230)); have n3_ := Aside0.mk ((by rw [hg]; exact (below_size (by repeat (first | (with_reducible first | exact HB.out | apply below_alloc | apply pw_below_drewN | apply below_drew1) | exact HB.out))) : w.heap.size ≤ gb230)); clear HB; have HB := n0_; have BK230 := n1_; have GW230 := n2_; have GE230 := n3_; clear n0_ n1_ n2_ n3_; clear hb hbox hg) | ((with_reducible refine gate_dst (N := 3) rfl ?_); refine box_event ?hg (N := 3) ?hd (cs := #[.string a1_0, .int .i64 a1_1, .int .i64 a1_2, .int .i64 a1_3, .string a1_4]) (t := 50) ?hr ?_; (case hd => rfl); (case hg => rfl); (case hr => first | (go_simp; done) | (go_simp; rfl)); intro gb231 hg w16 hbox hb; have n0_ := Aside0.mk (blk_below (g := gb230) (o := .cells #[.string a0_0, .int .i64 a0_1, .int .i64 a0_2, .int .i64 a0_3, .string a0_4] 50 (0, 0)) (by (with_reducible repeat (first | refine blk_drewN ?_ _ | refine blk_drew ?_ | refine blk_alloc ?_ _)); exact BK230.out) hb); have n1_ := Aside0.mk (below_step (by repeat (first | (with_reducible first | exact HB.out | apply below_alloc | apply pw_below_drewN | apply below_drew1 | refine below_set ?_ GE230.out) | exact HB.out)) hb); have n2_ := Aside0.mk (hbox); have n3_ := Aside0.mk ((by rw [hg]; exact (below_size (by repeat (first | (with_reducible first | exact HB.out | apply below_alloc | apply pw_below_drewN | apply below_drew1 | refine below_set ?_ GE230.out) | exact HB.out))) : w.heap.size ≤ gb231)); have n4_ := Aside0.mk ((by rw [hg]; exact (below_size (by repeat (first | (with_reducible first | exact HB.out | apply below_alloc | apply pw_below_drewN | apply below_drew1 | refine below_set ?_ GE230.out) | exact HB.out))) : w.heap.size ≤ gb231)); have n5_ := Aside0.mk ((by rw [hg]; exact Nat.ne_of_lt (blk_lt (g := gb230) (o := .cells #[.string a0_0, .int .i64 a0_1, .int .i64 a0_2, .int .i64 a0_3, .string a0_4] 50 (0, 0)) (by (with_reducible repeat (first | refine blk_drewN ?_ _ | refine blk_drew ?_ | refine blk_alloc ?_ _)); exact BK230.out)) : gb230 ≠ gb231)); have n6_ := Aside0.mk ((by rw [hg]; exact Nat.ne_of_gt (blk_lt (g := gb230) (o := .cells #[.string a0_0, .int .i64 a0_1, .int .i64 a0_2, .int .i64 a0_3, .string a0_4] 50 (0, 0)) (by (with_reducible repeat (first | refine blk_drewN ?_ _ | refine blk_drew ?_ | refine blk_alloc ?_ _)); exact BK230.out)) : gb231 ≠ gb230)); clear BK230; clear HB; have BK230 := n0_; have HB := n1_; have BK231 := n2_; have GW231 := n3_; have GE231 := n4_; have NB230_231 := n5_; have NB231_230 := n6_; clear n0_ n1_ n2_ n3_ n4_ n5_ n6_; clear hb hbox hg; have hnb17 := NB230_231.out; have hnc17 := NB231_230.out; have hcz18_0 : w16.cell? ⟨gb230, 0, none⟩ = some (.string a0_0) := (blk_cell BK230.out 0).trans rfl; have hcz18_1 : w16.cell? ⟨gb230, 1, none⟩ = some (.int .i64 a0_1) := (blk_cell BK230.out 1).trans rfl; have hcz18_2 : w16.cell? ⟨gb230, 2, none⟩ = some (.int .i64 a0_2) := (blk_cell BK230.out 2).trans rfl; have hcz18_3 : w16.cell? ⟨gb230, 3, none⟩ = some (.int .i64 a0_3) := (blk_cell BK230.out 3).trans rfl; have hcz18_4 : w16.cell? ⟨gb230, 4, none⟩ = some (.string a0_4) := (blk_cell BK230.out 4).trans rfl; have hfz18_0 := blk_frozen BK230.out 0; have hfz18_1 := blk_frozen BK230.out 1; have hfz18_2 := blk_frozen BK230.out 2; have hfz18_3 := blk_frozen BK230.out 3; have hfz18_4 := blk_frozen BK230.out 4; have hcz19_0 : w16.cell? ⟨gb231, 0, none⟩ = some (.string a1_0) := (blk_cell BK231.out 0).trans rfl; have hcz19_1 : w16.cell? ⟨gb231, 1, none⟩ = some (.int .i64 a1_1) := (blk_cell BK231.out 1).trans rfl; have hcz19_2 : w16.cell? ⟨gb231, 2, none⟩ = some (.int .i64 a1_2) := (blk_cell BK231.out 2).trans rfl; have hcz19_3 : w16.cell? ⟨gb231, 3, none⟩ = some (.int .i64 a1_3) := (blk_cell BK231.out 3).trans rfl; have hcz19_4 : w16.cell? ⟨gb231, 4, none⟩ = some (.string a1_4) := (blk_cell BK231.out 4).trans rfl; have hfz19_0 := blk_frozen BK231.out 0; have hfz19_1 := blk_frozen BK231.out 1; have hfz19_2 := blk_frozen BK231.out 2; have hfz19_3 := blk_frozen BK231.out 3; have hfz19_4 := blk_frozen BK231.out 4))
    go_ret
    exact ⟨by first | rfl | (simp [errW_none, errW_some] <;> rfl) | (simp [*, errW_none, errW_some] <;> rfl), by repeat (first | (with_reducible first | exact HB.out | apply below_alloc | apply pw_below_drewN | apply below_drew1 | refine below_set ?_ GE230.out | refine below_set ?_ GE231.out) | exact HB.out)⟩
end Go.Proofs.Ytgmjaggkiifdjaa.QA
