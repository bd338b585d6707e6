/- Texts of this claim, one behind the other (merged by wip/prune.py of this repo, without what the proof does not use): QA24, PureFnNegotiationSays. -/
import Derived.Test.YtgmjaggkiifdjaaZN4
import Derived.Test.YtgmjaggkiifdjaaZN5
import Derived.Test.YtgmjaggkiifdjaaZN6
import Derived.Test.YtgmjaggkiifdjaaZN7
import Derived.Test.YtgmjaggkiifdjaaZN8
import Derived.Test.YtgmjaggkiifdjaaZN9
set_option linter.unusedVariables false
set_option linter.unusedSimpArgs false
namespace Go.Proofs.Ytgmjaggkiifdjaa.QA
open Go.Proofs.Ytgmjaggkiifdjaa.Given
open Go.Proofs.Ytgmjaggkiifdjaa.PrX
open Go.RowKit Go.Proofs.YtgmjaggkiifdjaaW.PrintWords Go.Proofs.YtgmjaggkiifdjaaW.PrintLast Go.Proofs.YtgmjaggkiifdjaaW.PrintMore
mutual
def laws_FnNegotiationSays.j0 : Nat → ByteArray → ByteArray → ByteArray → Int → Bool → Option (Bool)
  | 0, _, _, _, _, _ => none
  | k + 1, x0, x1, x2, x3, x28 => if x28 = true then (some true) else ((impl_MediaRanges.f (⟨#[97, 47, 98, 44, 32, 99, 47, 100]⟩ : ByteArray)).bind fun t185 => (if (t185.length : Int) = 2 then ((impl_AcceptsOffer.f k (⟨#[97]⟩ : ByteArray) (⟨#[97]⟩ : ByteArray)).bind fun t188 => (laws_FnNegotiationSays.j1 k x0 x1 x2 x3 (!t188))) else (laws_FnNegotiationSays.j1 k x0 x1 x2 x3 true)))
def laws_FnNegotiationSays.j1 : Nat → ByteArray → ByteArray → ByteArray → Int → Bool → Option (Bool)
  | 0, _, _, _, _, _ => none
  | k + 1, x0, x1, x2, x3, x36 => if x36 = true then (some false) else ((laws_short.f k (([x0, x1, x2] : List ByteArray))).bind fun t192 => (if t192 = true then (if x3 > 50 then (laws_FnNegotiationSays.j2 k x0 x1 x2 x3 true) else ((laws_holds.f k x1 9).bind fun t193 => (if t193 = true then (laws_FnNegotiationSays.j2 k x0 x1 x2 x3 true) else ((laws_holds.f k x2 9).bind fun t194 => (laws_FnNegotiationSays.j2 k x0 x1 x2 x3 t194))))) else (laws_FnNegotiationSays.j2 k x0 x1 x2 x3 true)))
def laws_FnNegotiationSays.j2 : Nat → ByteArray → ByteArray → ByteArray → Int → Bool → Option (Bool)
  | 0, _, _, _, _, _ => none
  | k + 1, x0, x1, x2, x3, x54 => if x54 = true then (some true) else ((spec_MediaRanges.f k x0).bind fun bt195 => (if bt195.2 = 1 then ((impl_MediaRanges.f x0).bind fun t199 => ((laws_sameTexts.f k t199 bt195.1).bind fun t202 => (laws_FnNegotiationSays.j3 k x1 x2 x3 (!t202)))) else (laws_FnNegotiationSays.j3 k x1 x2 x3 false)))
def laws_FnNegotiationSays.j3 : Nat → ByteArray → ByteArray → Int → Bool → Option (Bool)
  | 0, _, _, _, _ => none
  | k + 1, x1, x2, x3, x68 => if x68 = true then (some false) else ((spec_Params.f k x1 x3).bind fun bt203 => (if bt203.2 = 1 then ((impl_Params.f k x1 x3).bind fun t207 => (if (t207.length : Int) = (bt203.1.length : Int) then (laws_FnNegotiationSays.l0 k x1 x2 bt203.1 t207 (t207.length : Int) 0) else (some false))) else (laws_FnNegotiationSays.j5 k x1 x2)))
def laws_FnNegotiationSays.j5 : Nat → ByteArray → ByteArray → Option (Bool)
  | 0, _, _ => none
  | k + 1, x1, x2 => (impl_ParamsMatch.f x1 x2).bind fun t214 => ((spec_ParamsMatch.f k x1 x2).bind fun t215 => ((laws_told.f t214 t215).bind fun t216 => (if t216 = true then ((impl_AcceptsOffer.f k x1 x2).bind fun t217 => ((spec_AcceptsOffer.f x1 x2).bind fun t218 => (some (t217 == t218)))) else (some false))))
def laws_FnNegotiationSays.l0 : Nat → ByteArray → ByteArray → List (S38) → List (S36) → Int → Int → Option (Bool)
  | 0, _, _, _, _, _, _ => none
  | k + 1, x1, x2, x12, x14, x86, x87 => if x87 < x86 then (if 0 ≤ x87 then (if x87 < (x14.length : Int) then (if x87 < (x12.length : Int) then (if ((rd_T36 x14 x87).f0).toList = ((rd_T38 x12 x87).f0).toList then (if ((rd_T36 x14 x87).f1).toList = ((rd_T38 x12 x87).f1).toList then (laws_FnNegotiationSays.l0 k x1 x2 x12 x14 x86 (wrap64 (x87 + 1))) else (some false)) else (some false)) else (none)) else (none)) else (none)) else (laws_FnNegotiationSays.j5 k x1 x2)
end
def laws_FnNegotiationSays.f (k : Nat) (a0 : ByteArray) (a1 : ByteArray) (a2 : ByteArray) (a3 : Int) : Option (Bool) := if (a0.size : Int) > 2147483647 then (laws_FnNegotiationSays.j0 k a0 a1 a2 a3 true) else (if (a1.size : Int) > 2147483647 then (laws_FnNegotiationSays.j0 k a0 a1 a2 a3 true) else (laws_FnNegotiationSays.j0 k a0 a1 a2 a3 (decide ((a2.size : Int) > 2147483647))))
set_option maxHeartbeats 8000000 in
set_option maxRecDepth 100000 in
theorem laws_FnNegotiationSays.calls (k : Nat) (a0 : ByteArray) (a1 : ByteArray) (a2 : ByteArray) (a3 : Int) (r : Bool) (w : World) (h : laws_FnNegotiationSays.f k a0 a1 a2 a3 = some r) :
  Calls Try.prog 3 #[.string a0, .string a1, .string a2, .int .i64 a3] w fun e w' => e = .returned (.bool r) ∧ Below w.heap.size w w' := by
 have HB := Aside0.mk (Below.refl w.heap.size w)
 have H : (if (a0.size : Int) > 2147483647 then (laws_FnNegotiationSays.j0 k a0 a1 a2 a3 true) else (if (a1.size : Int) > 2147483647 then (laws_FnNegotiationSays.j0 k a0 a1 a2 a3 true) else (laws_FnNegotiationSays.j0 k a0 a1 a2 a3 (decide ((a2.size : Int) > 2147483647))))) = some r := h
 clear h
 have HC5 := Aside0.mk H
 clear H
 go_enter Try.func3, Try.ntmps3
 go_upto_region 1 with (fail)
 repeat (go_quiet (fail); go_upto_region 1 with (fail))
 go_cut [28] (fun v28 wc => ∃ (kq : Nat) (x28_4 : Bool), v28 = .bool x28_4 ∧ Aside0 (laws_FnNegotiationSays.j0 kq a0 a1 a2 a3 x28_4 = some r) ∧ Aside0 (kq ≤ k) ∧ Aside0 (Below w.heap.size w wc))
 case first =>
  have H := HC5.out
  clear HC5
  by_cases c6 : (a0.size : Int) > 2147483647
  ·rw [if_pos c6] at H
   have c6b0 : decide (2147483647 < (a0.size : Int)) = true := decide_eq_true c6
   have c6b1 : decide (2147483647 < a0.size) = true := decide_eq_true (by omega)
   clear c6
   (first | rw [c6b0] | (simp only [i64_w, i32_w]; rw [c6b0]) | skip)
   have H' := Aside0.mk H
   clear H
   go_wp2
   repeat (go_quiet (fail); try go_wp2)
   go_meet
   case rel => exact ⟨_, (true), (by first | rfl | (simp; done) | (rw [prx_ne]; first | done | rfl) | (simp [*]; done)), H', ⟨by first | omega | exact Nat.le_refl _⟩, ⟨by repeat (first | (with_reducible first | exact HB.out | apply below_alloc | apply pw_below_drewN | apply below_drew1) | exact HB.out)⟩⟩
  ·rw [if_neg c6] at H
   have c6b0 : decide (2147483647 < (a0.size : Int)) = false := decide_eq_false c6
   have c6b1 : decide (2147483647 < a0.size) = false := decide_eq_false (by omega)
   clear c6
   (first | rw [c6b0] | (simp only [i64_w, i32_w]; rw [c6b0]) | skip)
   by_cases c7 : (a1.size : Int) > 2147483647
   ·rw [if_pos c7] at H
    have c7b0 : decide (2147483647 < (a1.size : Int)) = true := decide_eq_true c7
    have c7b1 : decide (2147483647 < a1.size) = true := decide_eq_true (by omega)
    clear c7
    have H' := Aside0.mk H
    clear H
    go_wp2
    repeat (go_quiet (fail); try go_wp2)
    go_meet
    case rel => exact ⟨_, (true), (by first | rfl | (simp; done) | (rw [prx_ne]; first | done | rfl) | (simp [*]; done)), H', ⟨by first | omega | exact Nat.le_refl _⟩, ⟨by repeat (first | (with_reducible first | exact HB.out | apply below_alloc | apply pw_below_drewN | apply below_drew1) | exact HB.out)⟩⟩
   ·rw [if_neg c7] at H
    have c7b0 : decide (2147483647 < (a1.size : Int)) = false := decide_eq_false c7
    have c7b1 : decide (2147483647 < a1.size) = false := decide_eq_false (by omega)
    clear c7
    have H' := Aside0.mk H
    clear H
    go_wp2
    repeat (go_quiet (fail); try go_wp2)
    go_meet
    case rel => exact ⟨_, (decide ((a2.size : Int) > 2147483647)), (by first | rfl | (simp; done) | (rw [prx_ne]; first | done | rfl) | (simp [*]; done)), H', ⟨by first | omega | exact Nat.le_refl _⟩, ⟨by repeat (first | (with_reducible first | exact HB.out | apply below_alloc | apply pw_below_drewN | apply below_drew1) | exact HB.out)⟩⟩
 case rest =>
  clear HC5
  try clear p2
  try clear c3
  try clear c6
  try clear c6b0
  try clear c6b1
  try clear c7
  try clear c7b0
  try clear c7b1
  obtain ⟨kq, x28_4, rfl, HA, HJ4, HB⟩ := hcut
  cases kq with
  | zero => exact absurd HA.out (by simp [laws_FnNegotiationSays.j0])
  | succ kj4 =>
   have H := HA.out
   clear HA
   simp only [laws_FnNegotiationSays.j0] at H
   by_cases c8 : x28_4 = true
   ·subst c8
    have H1 : (some true) = some r := by rw [if_pos rfl] at H; exact H
    clear H
    have H := H1
    clear H1
    obtain rfl := Option.some.inj H
    go_wp2
    repeat (go_quiet (fail); try go_wp2)
    go_ret
    exact ⟨by first | rfl | (simp [errW_none, errW_some] <;> rfl) | (simp [*, errW_none, errW_some] <;> rfl), by repeat (first | (with_reducible first | exact HB.out | apply below_alloc | apply pw_below_drewN | apply below_drew1) | exact HB.out)⟩
   ·replace c8 := Bool.eq_false_iff.mpr c8
    subst c8
    have H1 : ((impl_MediaRanges.f (⟨#[97, 47, 98, 44, 32, 99, 47, 100]⟩ : ByteArray)).bind fun t185 => (if (t185.length : Int) = 2 then ((impl_AcceptsOffer.f kj4 (⟨#[97]⟩ : ByteArray) (⟨#[97]⟩ : ByteArray)).bind fun t188 => (laws_FnNegotiationSays.j1 kj4 a0 a1 a2 a3 (!t188))) else (laws_FnNegotiationSays.j1 kj4 a0 a1 a2 a3 true))) = some r := by rw [if_neg (show ¬ (false = true) by decide)] at H; exact H
    clear H
    have H := H1
    clear H1
    replace H := Option.bind_eq_some_iff.mp H
    obtain ⟨t185, A90, H⟩ := H
    replace H : (if (t185.length : Int) = 2 then ((impl_AcceptsOffer.f kj4 (⟨#[97]⟩ : ByteArray) (⟨#[97]⟩ : ByteArray)).bind fun t188 => (laws_FnNegotiationSays.j1 kj4 a0 a1 a2 a3 (!t188))) else (laws_FnNegotiationSays.j1 kj4 a0 a1 a2 a3 true)) = some r := H
    have A9 := Aside0.mk A90
    clear A90
    have HC10 := Aside0.mk H
    clear H
    go_upto_region 4 with (first | (go_at_call 5; (with_reducible refine (impl_MediaRanges.calls (⟨#[97, 47, 98, 44, 32, 99, 47, 100]⟩ : ByteArray) t185 _ A9.out).mono ?_); rintro e w11 ⟨v186, rfl, ho0, hb⟩; have n0_ := Aside0.mk (Kd.R_lower ho0 (below_size (by repeat (first | (with_reducible first | exact HB.out | apply below_alloc | apply pw_below_drewN | apply below_drew1) | exact HB.out)))); have n1_ := Aside0.mk (below_step (by repeat (first | (with_reducible first | exact HB.out | apply below_alloc | apply pw_below_drewN | apply below_drew1) | exact HB.out)) hb); clear HB; have HO187 := n0_; have HB := n1_; clear n0_ n1_; (try clear hb); (try clear hb2); (try clear hk); (try clear hi); (try clear ho0)))
    repeat (go_quiet (first | (go_at_call 5; (with_reducible refine (impl_MediaRanges.calls (⟨#[97, 47, 98, 44, 32, 99, 47, 100]⟩ : ByteArray) t185 _ A9.out).mono ?_); rintro e w11 ⟨v186, rfl, ho0, hb⟩; have n0_ := Aside0.mk (Kd.R_lower ho0 (below_size (by repeat (first | (with_reducible first | exact HB.out | apply below_alloc | apply pw_below_drewN | apply below_drew1) | exact HB.out)))); have n1_ := Aside0.mk (below_step (by repeat (first | (with_reducible first | exact HB.out | apply below_alloc | apply pw_below_drewN | apply below_drew1) | exact HB.out)) hb); clear HB; have HO187 := n0_; have HB := n1_; clear n0_ n1_; (try clear hb); (try clear hb2); (try clear hk); (try clear hi); (try clear ho0))); go_upto_region 4 with (first | (go_at_call 5; (with_reducible refine (impl_MediaRanges.calls (⟨#[97, 47, 98, 44, 32, 99, 47, 100]⟩ : ByteArray) t185 _ A9.out).mono ?_); rintro e w11 ⟨v186, rfl, ho0, hb⟩; have n0_ := Aside0.mk (Kd.R_lower ho0 (below_size (by repeat (first | (with_reducible first | exact HB.out | apply below_alloc | apply pw_below_drewN | apply below_drew1) | exact HB.out)))); have n1_ := Aside0.mk (below_step (by repeat (first | (with_reducible first | exact HB.out | apply below_alloc | apply pw_below_drewN | apply below_drew1) | exact HB.out)) hb); clear HB; have HO187 := n0_; have HB := n1_; clear n0_ n1_; (try clear hb); (try clear hb2); (try clear hk); (try clear hi); (try clear ho0))))
    (try simp only [Act.put, List.setIfInBounds_toArray, List.set_cons_zero, List.set_cons_succ])
    go_cut [36] (fun v36 wc => ∃ (kq : Nat) (x36_9 : Bool), v36 = .bool x36_9 ∧ Aside0 (laws_FnNegotiationSays.j1 kq a0 a1 a2 a3 x36_9 = some r) ∧ Aside0 (kq ≤ kj4) ∧ Aside0 (Below w.heap.size w wc))
    case first =>
     have H := HC10.out
     clear HC10
     by_cases c12 : (t185.length : Int) = 2
     ·rw [if_pos c12] at H
      have c12b0 : ((t185.length : Int) == 2) = true := beq_iff_eq.mpr c12
      have c12b1 : ((t185.length : Int) != 2) = false := bne_eq_false_iff_eq.mpr c12
      clear c12
      (first | rw [c12b0] | (simp only [i64_w, i32_w]; rw [c12b0]) | skip)
      replace H := Option.bind_eq_some_iff.mp H
      obtain ⟨t188, A130, H⟩ := H
      replace H : (laws_FnNegotiationSays.j1 kj4 a0 a1 a2 a3 (!t188)) = some r := H
      have A13 := Aside0.mk A130
      clear A130
      have H' := Aside0.mk H
      clear H
      obtain ⟨Ao14, co14, eo14⟩ := Kd.R_slice HO187.out
      subst eo14
      go_wp2_with (first | (go_at_call 6; (with_reducible refine (impl_AcceptsOffer.calls kj4 (⟨#[97]⟩ : ByteArray) (⟨#[97]⟩ : ByteArray) t188 _ A13.out).mono ?_); rintro e w' ⟨rfl, ⟨nd, rfl⟩⟩; (try first | exact ⟨rfl, _, World.drewN_drewN _ _ _⟩ | exact ⟨rfl, _, Eq.trans (World.drewN_drewN _ _ _) (congrArg (World.drewN _) (Nat.add_assoc _ _ _))⟩)))
      repeat (go_quiet (first | (go_at_call 6; (with_reducible refine (impl_AcceptsOffer.calls kj4 (⟨#[97]⟩ : ByteArray) (⟨#[97]⟩ : ByteArray) t188 _ A13.out).mono ?_); rintro e w' ⟨rfl, ⟨nd, rfl⟩⟩; (try first | exact ⟨rfl, _, World.drewN_drewN _ _ _⟩ | exact ⟨rfl, _, Eq.trans (World.drewN_drewN _ _ _) (congrArg (World.drewN _) (Nat.add_assoc _ _ _))⟩))); try go_wp2_with (first | (go_at_call 6; (with_reducible refine (impl_AcceptsOffer.calls kj4 (⟨#[97]⟩ : ByteArray) (⟨#[97]⟩ : ByteArray) t188 _ A13.out).mono ?_); rintro e w' ⟨rfl, ⟨nd, rfl⟩⟩; (try first | exact ⟨rfl, _, World.drewN_drewN _ _ _⟩ | exact ⟨rfl, _, Eq.trans (World.drewN_drewN _ _ _) (congrArg (World.drewN _) (Nat.add_assoc _ _ _))⟩))))
      go_meet
      case rel => exact ⟨_, (!t188), (by first | rfl | (simp; done) | (rw [prx_ne]; first | done | rfl) | (simp [*]; done)), H', ⟨by have := HJ4.out; first | omega | exact Nat.le_refl _⟩, ⟨by repeat (first | (with_reducible first | exact HB.out | apply below_alloc | apply pw_below_drewN | apply below_drew1) | exact HB.out)⟩⟩
     ·rw [if_neg c12] at H
      have c12b0 : ((t185.length : Int) == 2) = false := beq_eq_false_iff_ne.mpr c12
      have c12b1 : ((t185.length : Int) != 2) = true := bne_iff_ne.mpr c12
      (first | rw [c12b0] | (simp only [i64_w, i32_w]; rw [c12b0]) | skip)
      have H' := Aside0.mk H
      clear H
      obtain ⟨Ao15, co15, eo15⟩ := Kd.R_slice HO187.out
      subst eo15
      go_wp2
      repeat (go_quiet (fail); try go_wp2)
      go_meet
      case rel => exact ⟨_, (true), (by first | rfl | (simp; done) | (rw [prx_ne]; first | done | rfl) | (simp [*]; done)), H', ⟨by have := HJ4.out; first | omega | exact Nat.le_refl _⟩, ⟨by repeat (first | (with_reducible first | exact HB.out | apply below_alloc | apply pw_below_drewN | apply below_drew1) | exact HB.out)⟩⟩
    case rest =>
     clear HC10
     try clear c1
     try clear p2
     try clear c3
     try clear c6
     try clear c6b0
     try clear c6b1
     try clear c7
     try clear c7b0
     try clear c7b1
     try clear c8
     try clear c12
     try clear c12b0
     try clear c12b1
     try clear p2
     obtain ⟨kq, x36_9, rfl, HA, HJ9, HB⟩ := hcut
     cases kq with
     | zero => exact absurd HA.out (by simp [laws_FnNegotiationSays.j1])
     | succ kj9 =>
      have H := HA.out
      clear HA
      simp only [laws_FnNegotiationSays.j1] at H
      by_cases c16 : x36_9 = true
      ·subst c16
       have H1 : (some false) = some r := by rw [if_pos rfl] at H; exact H
       clear H
       have H := H1
       clear H1
       obtain rfl := Option.some.inj H
       go_wp2
       repeat (go_quiet (fail); try go_wp2)
       go_ret
       exact ⟨by first | rfl | (simp [errW_none, errW_some] <;> rfl) | (simp [*, errW_none, errW_some] <;> rfl), by repeat (first | (with_reducible first | exact HB.out | apply below_alloc | apply pw_below_drewN | apply below_drew1) | exact HB.out)⟩
      ·replace c16 := Bool.eq_false_iff.mpr c16
       subst c16
       have H1 : ((laws_short.f kj9 (([a0, a1, a2] : List ByteArray))).bind fun t192 => (if t192 = true then (if a3 > 50 then (laws_FnNegotiationSays.j2 kj9 a0 a1 a2 a3 true) else ((laws_holds.f kj9 a1 9).bind fun t193 => (if t193 = true then (laws_FnNegotiationSays.j2 kj9 a0 a1 a2 a3 true) else ((laws_holds.f kj9 a2 9).bind fun t194 => (laws_FnNegotiationSays.j2 kj9 a0 a1 a2 a3 t194))))) else (laws_FnNegotiationSays.j2 kj9 a0 a1 a2 a3 true))) = some r := by rw [if_neg (show ¬ (false = true) by decide)] at H; exact H
       clear H
       have H := H1
       clear H1
       have HC17 := Aside0.mk H
       clear H
       go_upto_region 6 with (fail)
       repeat (go_quiet (fail); go_upto_region 6 with (fail))
       go_cut [54] (fun v54 wc => ∃ (kq : Nat) (x54_16 : Bool), v54 = .bool x54_16 ∧ Aside0 (laws_FnNegotiationSays.j2 kq a0 a1 a2 a3 x54_16 = some r) ∧ Aside0 (kq ≤ kj9) ∧ Aside0 (Below w.heap.size w wc))
       case first =>
        have H := HC17.out
        clear HC17
        obtain ⟨y189, hy189⟩ : ∃ y_ : List ByteArray, y_ = (([a0, a1, a2] : List ByteArray)) := ⟨_, rfl⟩
        replace H : ((laws_short.f kj9 y189).bind fun t192 => (if t192 = true then (if a3 > 50 then (laws_FnNegotiationSays.j2 kj9 a0 a1 a2 a3 true) else ((laws_holds.f kj9 a1 9).bind fun t193 => (if t193 = true then (laws_FnNegotiationSays.j2 kj9 a0 a1 a2 a3 true) else ((laws_holds.f kj9 a2 9).bind fun t194 => (laws_FnNegotiationSays.j2 kj9 a0 a1 a2 a3 t194))))) else (laws_FnNegotiationSays.j2 kj9 a0 a1 a2 a3 true))) = some r := by first | (rw [hy189]; with_reducible exact H) | (have H2_ := (Option.bind_some _ _).symm.trans H; rw [hy189]; with_reducible exact H2_) | (have H2_ := (Option.bind_some _ _).symm.trans H; with_reducible exact H2_) | with_reducible exact H | (rw [hy189]; exact H) | exact H
        have Ny189 := Aside0.mk hy189
        clear hy189
        replace H := Option.bind_eq_some_iff.mp H
        obtain ⟨t192, A180, H⟩ := H
        replace H : (if t192 = true then (if a3 > 50 then (laws_FnNegotiationSays.j2 kj9 a0 a1 a2 a3 true) else ((laws_holds.f kj9 a1 9).bind fun t193 => (if t193 = true then (laws_FnNegotiationSays.j2 kj9 a0 a1 a2 a3 true) else ((laws_holds.f kj9 a2 9).bind fun t194 => (laws_FnNegotiationSays.j2 kj9 a0 a1 a2 a3 t194))))) else (laws_FnNegotiationSays.j2 kj9 a0 a1 a2 a3 true)) = some r := H
        have A18 := Aside0.mk A180
        clear A180
        by_cases c19 : t192 = true
        ·subst c19
         have H1 : (if a3 > 50 then (laws_FnNegotiationSays.j2 kj9 a0 a1 a2 a3 true) else ((laws_holds.f kj9 a1 9).bind fun t193 => (if t193 = true then (laws_FnNegotiationSays.j2 kj9 a0 a1 a2 a3 true) else ((laws_holds.f kj9 a2 9).bind fun t194 => (laws_FnNegotiationSays.j2 kj9 a0 a1 a2 a3 t194))))) = some r := by rw [if_pos rfl] at H; exact H
         clear H
         have H := H1
         clear H1
         by_cases c20 : a3 > 50
         ·rw [if_pos c20] at H
          have c20b0 : decide (50 < a3) = true := decide_eq_true c20
          clear c20
          (first | rw [c20b0] | (simp only [i64_w, i32_w]; rw [c20b0]) | skip)
          have H' := Aside0.mk H
          clear H
          go_wp2_with (first | ((with_reducible refine gate_dst (N := 40) rfl ?_); (try (refine gate_guard (by rfl) ?_; dsimp only)); refine Kd.R_lit Kd.string _ 9 ?hg (N := 40) ?hd (xs := ([a0, a1, a2] : List ByteArray)) (inner := [.string a0, .string a1, .string a2]) (ok := fun _ => True) (okp := fun _ => True) ?hr ?hp (fun _ hk => hk) trivial (Below.refl _ _) (Nat.le_refl _) (by simp) ?_; (case hd => rfl); (case hg => rfl); (case hr => first | (go_simp; done) | (go_simp; rfl)); (case hp => exact (Reps.one (show Kd.M Kd.string _ _ _ a0 [.string a0] from rfl) (Reps.one (show Kd.M Kd.string _ _ _ a1 [.string a1] from rfl) (Reps.one (show Kd.M Kd.string _ _ _ a2 [.string a2] from rfl) (Reps.none _ _))))); intro v190 w21 ho22 hb hg_ hnew_; clear hg_ hnew_; (first | rw [← Ny189.out] at ho22 | (simp only [Int.reduceToNat] at ho22; rw [← Ny189.out] at ho22)); have n0_ := Aside0.mk (Kd.R_lower ho22 (below_size (by repeat (first | (with_reducible first | exact HB.out | apply below_alloc | apply pw_below_drewN | apply below_drew1) | exact HB.out)))); have n1_ := Aside0.mk (below_step (by repeat (first | (with_reducible first | exact HB.out | apply below_alloc | apply pw_below_drewN | apply below_drew1) | exact HB.out)) hb); clear HB; have HO191 := n0_; have HB := n1_; clear n0_ n1_; clear hb ho22; obtain ⟨Ao23, co23, eo23⟩ := Kd.R_slice HO191.out; subst eo23) | (go_at_call 7; (with_reducible refine (laws_short.calls kj9 _ _ y189 true _ ?side1 ?side2 A18.out).mono ?_); (case side1 => repeat (first | exact (Kd.R_reads' HO191.out).2.2 | (with_reducible refine Kd.C_alloc ?_ _) | (with_reducible refine Kd.C_drewN ?_ _) | (with_reducible refine Kd.C_drew ?_))); (case side2 => exact (Kd.R_reads' HO191.out).2.1); rintro e w' ⟨rfl, ⟨nd, rfl⟩⟩; (try first | exact ⟨rfl, _, World.drewN_drewN _ _ _⟩ | exact ⟨rfl, _, Eq.trans (World.drewN_drewN _ _ _) (congrArg (World.drewN _) (Nat.add_assoc _ _ _))⟩)))
          repeat (go_quiet (first | ((with_reducible refine gate_dst (N := 40) rfl ?_); (try (refine gate_guard (by rfl) ?_; dsimp only)); refine Kd.R_lit Kd.string _ 9 ?hg (N := 40) ?hd (xs := ([a0, a1, a2] : List ByteArray)) (inner := [.string a0, .string a1, .string a2]) (ok := fun _ => True) (okp := fun _ => True) ?hr ?hp (fun _ hk => hk) trivial (Below.refl _ _) (Nat.le_refl _) (by simp) ?_; (case hd => rfl); (case hg => rfl); (case hr => first | (go_simp; done) | (go_simp; rfl)); (case hp => exact (Reps.one (show Kd.M Kd.string _ _ _ a0 [.string a0] from rfl) (Reps.one (show Kd.M Kd.string _ _ _ a1 [.string a1] from rfl) (Reps.one (show Kd.M Kd.string _ _ _ a2 [.string a2] from rfl) (Reps.none _ _))))); intro v190 w21 ho22 hb hg_ hnew_; clear hg_ hnew_; (first | rw [← Ny189.out] at ho22 | (simp only [Int.reduceToNat] at ho22; rw [← Ny189.out] at ho22)); have n0_ := Aside0.mk (Kd.R_lower ho22 (below_size (by repeat (first | (with_reducible first | exact HB.out | apply below_alloc | apply pw_below_drewN | apply below_drew1) | exact HB.out)))); have n1_ := Aside0.mk (below_step (by repeat (first | (with_reducible first | exact HB.out | apply below_alloc | apply pw_below_drewN | apply below_drew1) | exact HB.out)) hb); clear HB; have HO191 := n0_; have HB := n1_; clear n0_ n1_; clear hb ho22; obtain ⟨Ao23, co23, eo23⟩ := Kd.R_slice HO191.out; subst eo23) | (go_at_call 7; (with_reducible refine (laws_short.calls kj9 _ _ y189 true _ ?side1 ?side2 A18.out).mono ?_); (case side1 => repeat (first | exact (Kd.R_reads' HO191.out).2.2 | (with_reducible refine Kd.C_alloc ?_ _) | (with_reducible refine Kd.C_drewN ?_ _) | (with_reducible refine Kd.C_drew ?_))); (case side2 => exact (Kd.R_reads' HO191.out).2.1); rintro e w' ⟨rfl, ⟨nd, rfl⟩⟩; (try first | exact ⟨rfl, _, World.drewN_drewN _ _ _⟩ | exact ⟨rfl, _, Eq.trans (World.drewN_drewN _ _ _) (congrArg (World.drewN _) (Nat.add_assoc _ _ _))⟩))); try go_wp2_with (first | ((with_reducible refine gate_dst (N := 40) rfl ?_); (try (refine gate_guard (by rfl) ?_; dsimp only)); refine Kd.R_lit Kd.string _ 9 ?hg (N := 40) ?hd (xs := ([a0, a1, a2] : List ByteArray)) (inner := [.string a0, .string a1, .string a2]) (ok := fun _ => True) (okp := fun _ => True) ?hr ?hp (fun _ hk => hk) trivial (Below.refl _ _) (Nat.le_refl _) (by simp) ?_; (case hd => rfl); (case hg => rfl); (case hr => first | (go_simp; done) | (go_simp; rfl)); (case hp => exact (Reps.one (show Kd.M Kd.string _ _ _ a0 [.string a0] from rfl) (Reps.one (show Kd.M Kd.string _ _ _ a1 [.string a1] from rfl) (Reps.one (show Kd.M Kd.string _ _ _ a2 [.string a2] from rfl) (Reps.none _ _))))); intro v190 w21 ho22 hb hg_ hnew_; clear hg_ hnew_; (first | rw [← Ny189.out] at ho22 | (simp only [Int.reduceToNat] at ho22; rw [← Ny189.out] at ho22)); have n0_ := Aside0.mk (Kd.R_lower ho22 (below_size (by repeat (first | (with_reducible first | exact HB.out | apply below_alloc | apply pw_below_drewN | apply below_drew1) | exact HB.out)))); have n1_ := Aside0.mk (below_step (by repeat (first | (with_reducible first | exact HB.out | apply below_alloc | apply pw_below_drewN | apply below_drew1) | exact HB.out)) hb); clear HB; have HO191 := n0_; have HB := n1_; clear n0_ n1_; clear hb ho22; obtain ⟨Ao23, co23, eo23⟩ := Kd.R_slice HO191.out; subst eo23) | (go_at_call 7; (with_reducible refine (laws_short.calls kj9 _ _ y189 true _ ?side1 ?side2 A18.out).mono ?_); (case side1 => repeat (first | exact (Kd.R_reads' HO191.out).2.2 | (with_reducible refine Kd.C_alloc ?_ _) | (with_reducible refine Kd.C_drewN ?_ _) | (with_reducible refine Kd.C_drew ?_))); (case side2 => exact (Kd.R_reads' HO191.out).2.1); rintro e w' ⟨rfl, ⟨nd, rfl⟩⟩; (try first | exact ⟨rfl, _, World.drewN_drewN _ _ _⟩ | exact ⟨rfl, _, Eq.trans (World.drewN_drewN _ _ _) (congrArg (World.drewN _) (Nat.add_assoc _ _ _))⟩))))
          go_meet
          case rel => exact ⟨_, (true), (by first | rfl | (simp; done) | (rw [prx_ne]; first | done | rfl) | (simp [*]; done)), H', ⟨by have := HJ4.out; have := HJ9.out; first | omega | exact Nat.le_refl _⟩, ⟨by repeat (first | (with_reducible first | exact HB.out | apply below_alloc | apply pw_below_drewN | apply below_drew1) | exact HB.out)⟩⟩
         ·rw [if_neg c20] at H
          have c20b0 : decide (50 < a3) = false := decide_eq_false c20
          clear c20
          (first | rw [c20b0] | (simp only [i64_w, i32_w]; rw [c20b0]) | skip)
          replace H := Option.bind_eq_some_iff.mp H
          obtain ⟨t193, A240, H⟩ := H
          replace H : (if t193 = true then (laws_FnNegotiationSays.j2 kj9 a0 a1 a2 a3 true) else ((laws_holds.f kj9 a2 9).bind fun t194 => (laws_FnNegotiationSays.j2 kj9 a0 a1 a2 a3 t194))) = some r := H
          have A24 := Aside0.mk A240
          clear A240
          by_cases c25 : t193 = true
          ·subst c25
           have H1 : (laws_FnNegotiationSays.j2 kj9 a0 a1 a2 a3 true) = some r := by rw [if_pos rfl] at H; exact H
           clear H
           have H := H1
           clear H1
           have H' := Aside0.mk H
           clear H
           go_wp2_with (first | ((with_reducible refine gate_dst (N := 40) rfl ?_); (try (refine gate_guard (by rfl) ?_; dsimp only)); refine Kd.R_lit Kd.string _ 9 ?hg (N := 40) ?hd (xs := ([a0, a1, a2] : List ByteArray)) (inner := [.string a0, .string a1, .string a2]) (ok := fun _ => True) (okp := fun _ => True) ?hr ?hp (fun _ hk => hk) trivial (Below.refl _ _) (Nat.le_refl _) (by simp) ?_; (case hd => rfl); (case hg => rfl); (case hr => first | (go_simp; done) | (go_simp; rfl)); (case hp => exact (Reps.one (show Kd.M Kd.string _ _ _ a0 [.string a0] from rfl) (Reps.one (show Kd.M Kd.string _ _ _ a1 [.string a1] from rfl) (Reps.one (show Kd.M Kd.string _ _ _ a2 [.string a2] from rfl) (Reps.none _ _))))); intro v190 w26 ho27 hb hg_ hnew_; clear hg_ hnew_; (first | rw [← Ny189.out] at ho27 | (simp only [Int.reduceToNat] at ho27; rw [← Ny189.out] at ho27)); have n0_ := Aside0.mk (Kd.R_lower ho27 (below_size (by repeat (first | (with_reducible first | exact HB.out | apply below_alloc | apply pw_below_drewN | apply below_drew1) | exact HB.out)))); have n1_ := Aside0.mk (below_step (by repeat (first | (with_reducible first | exact HB.out | apply below_alloc | apply pw_below_drewN | apply below_drew1) | exact HB.out)) hb); clear HB; have HO191 := n0_; have HB := n1_; clear n0_ n1_; clear hb ho27; obtain ⟨Ao28, co28, eo28⟩ := Kd.R_slice HO191.out; subst eo28) | (go_at_call 7; (with_reducible refine (laws_short.calls kj9 _ _ y189 true _ ?side1 ?side2 A18.out).mono ?_); (case side1 => repeat (first | exact (Kd.R_reads' HO191.out).2.2 | (with_reducible refine Kd.C_alloc ?_ _) | (with_reducible refine Kd.C_drewN ?_ _) | (with_reducible refine Kd.C_drew ?_))); (case side2 => exact (Kd.R_reads' HO191.out).2.1); rintro e w' ⟨rfl, ⟨nd, rfl⟩⟩; (try first | exact ⟨rfl, _, World.drewN_drewN _ _ _⟩ | exact ⟨rfl, _, Eq.trans (World.drewN_drewN _ _ _) (congrArg (World.drewN _) (Nat.add_assoc _ _ _))⟩)) | (go_at_call 8; (with_reducible refine (laws_holds.calls kj9 a1 9 true _ A24.out).mono ?_); rintro e w' ⟨rfl, ⟨nd, rfl⟩⟩; (try first | exact ⟨rfl, _, World.drewN_drewN _ _ _⟩ | exact ⟨rfl, _, Eq.trans (World.drewN_drewN _ _ _) (congrArg (World.drewN _) (Nat.add_assoc _ _ _))⟩)))
           repeat (go_quiet (first | ((with_reducible refine gate_dst (N := 40) rfl ?_); (try (refine gate_guard (by rfl) ?_; dsimp only)); refine Kd.R_lit Kd.string _ 9 ?hg (N := 40) ?hd (xs := ([a0, a1, a2] : List ByteArray)) (inner := [.string a0, .string a1, .string a2]) (ok := fun _ => True) (okp := fun _ => True) ?hr ?hp (fun _ hk => hk) trivial (Below.refl _ _) (Nat.le_refl _) (by simp) ?_; (case hd => rfl); (case hg => rfl); (case hr => first | (go_simp; done) | (go_simp; rfl)); (case hp => exact (Reps.one (show Kd.M Kd.string _ _ _ a0 [.string a0] from rfl) (Reps.one (show Kd.M Kd.string _ _ _ a1 [.string a1] from rfl) (Reps.one (show Kd.M Kd.string _ _ _ a2 [.string a2] from rfl) (Reps.none _ _))))); intro v190 w26 ho27 hb hg_ hnew_; clear hg_ hnew_; (first | rw [← Ny189.out] at ho27 | (simp only [Int.reduceToNat] at ho27; rw [← Ny189.out] at ho27)); have n0_ := Aside0.mk (Kd.R_lower ho27 (below_size (by repeat (first | (with_reducible first | exact HB.out | apply below_alloc | apply pw_below_drewN | apply below_drew1) | exact HB.out)))); have n1_ := Aside0.mk (below_step (by repeat (first | (with_reducible first | exact HB.out | apply below_alloc | apply pw_below_drewN | apply below_drew1) | exact HB.out)) hb); clear HB; have HO191 := n0_; have HB := n1_; clear n0_ n1_; clear hb ho27; obtain ⟨Ao28, co28, eo28⟩ := Kd.R_slice HO191.out; subst eo28) | (go_at_call 7; (with_reducible refine (laws_short.calls kj9 _ _ y189 true _ ?side1 ?side2 A18.out).mono ?_); (case side1 => repeat (first | exact (Kd.R_reads' HO191.out).2.2 | (with_reducible refine Kd.C_alloc ?_ _) | (with_reducible refine Kd.C_drewN ?_ _) | (with_reducible refine Kd.C_drew ?_))); (case side2 => exact (Kd.R_reads' HO191.out).2.1); rintro e w' ⟨rfl, ⟨nd, rfl⟩⟩; (try first | exact ⟨rfl, _, World.drewN_drewN _ _ _⟩ | exact ⟨rfl, _, Eq.trans (World.drewN_drewN _ _ _) (congrArg (World.drewN _) (Nat.add_assoc _ _ _))⟩)) | (go_at_call 8; (with_reducible refine (laws_holds.calls kj9 a1 9 true _ A24.out).mono ?_); rintro e w' ⟨rfl, ⟨nd, rfl⟩⟩; (try first | exact ⟨rfl, _, World.drewN_drewN _ _ _⟩ | exact ⟨rfl, _, Eq.trans (World.drewN_drewN _ _ _) (congrArg (World.drewN _) (Nat.add_assoc _ _ _))⟩))); try go_wp2_with (first | ((with_reducible refine gate_dst (N := 40) rfl ?_); (try (refine gate_guard (by rfl) ?_; dsimp only)); refine Kd.R_lit Kd.string _ 9 ?hg (N := 40) ?hd (xs := ([a0, a1, a2] : List ByteArray)) (inner := [.string a0, .string a1, .string a2]) (ok := fun _ => True) (okp := fun _ => True) ?hr ?hp (fun _ hk => hk) trivial (Below.refl _ _) (Nat.le_refl _) (by simp) ?_; (case hd => rfl); (case hg => rfl); (case hr => first | (go_simp; done) | (go_simp; rfl)); (case hp => exact (Reps.one (show Kd.M Kd.string _ _ _ a0 [.string a0] from rfl) (Reps.one (show Kd.M Kd.string _ _ _ a1 [.string a1] from rfl) (Reps.one (show Kd.M Kd.string _ _ _ a2 [.string a2] from rfl) (Reps.none _ _))))); intro v190 w26 ho27 hb hg_ hnew_; clear hg_ hnew_; (first | rw [← Ny189.out] at ho27 | (simp only [Int.reduceToNat] at ho27; rw [← Ny189.out] at ho27)); have n0_ := Aside0.mk (Kd.R_lower ho27 (below_size (by repeat (first | (with_reducible first | exact HB.out | apply below_alloc | apply pw_below_drewN | apply below_drew1) | exact HB.out)))); have n1_ := Aside0.mk (below_step (by repeat (first | (with_reducible first | exact HB.out | apply below_alloc | apply pw_below_drewN | apply below_drew1) | exact HB.out)) hb); clear HB; have HO191 := n0_; have HB := n1_; clear n0_ n1_; clear hb ho27; obtain ⟨Ao28, co28, eo28⟩ := Kd.R_slice HO191.out; subst eo28) | (go_at_call 7; (with_reducible refine (laws_short.calls kj9 _ _ y189 true _ ?side1 ?side2 A18.out).mono ?_); (case side1 => repeat (first | exact (Kd.R_reads' HO191.out).2.2 | (with_reducible refine Kd.C_alloc ?_ _) | (with_reducible refine Kd.C_drewN ?_ _) | (with_reducible refine Kd.C_drew ?_))); (case side2 => exact (Kd.R_reads' HO191.out).2.1); rintro e w' ⟨rfl, ⟨nd, rfl⟩⟩; (try first | exact ⟨rfl, _, World.drewN_drewN _ _ _⟩ | exact ⟨rfl, _, Eq.trans (World.drewN_drewN _ _ _) (congrArg (World.drewN _) (Nat.add_assoc _ _ _))⟩)) | (go_at_call 8; (with_reducible refine (laws_holds.calls kj9 a1 9 true _ A24.out).mono ?_); rintro e w' ⟨rfl, ⟨nd, rfl⟩⟩; (try first | exact ⟨rfl, _, World.drewN_drewN _ _ _⟩ | exact ⟨rfl, _, Eq.trans (World.drewN_drewN _ _ _) (congrArg (World.drewN _) (Nat.add_assoc _ _ _))⟩))))
           go_meet
           case rel => exact ⟨_, (true), (by first | rfl | (simp; done) | (rw [prx_ne]; first | done | rfl) | (simp [*]; done)), H', ⟨by have := HJ4.out; have := HJ9.out; first | omega | exact Nat.le_refl _⟩, ⟨by repeat (first | (with_reducible first | exact HB.out | apply below_alloc | apply pw_below_drewN | apply below_drew1) | exact HB.out)⟩⟩
          ·replace c25 := Bool.eq_false_iff.mpr c25
           subst c25
           have H1 : ((laws_holds.f kj9 a2 9).bind fun t194 => (laws_FnNegotiationSays.j2 kj9 a0 a1 a2 a3 t194)) = some r := by rw [if_neg (show ¬ (false = true) by decide)] at H; exact H
           clear H
           have H := H1
           clear H1
           replace H := Option.bind_eq_some_iff.mp H
           obtain ⟨t194, A290, H⟩ := H
           replace H : (laws_FnNegotiationSays.j2 kj9 a0 a1 a2 a3 t194) = some r := H
           have A29 := Aside0.mk A290
           clear A290
           have H' := Aside0.mk H
           clear H
           go_wp2_with (first | ((with_reducible refine gate_dst (N := 40) rfl ?_); (try (refine gate_guard (by rfl) ?_; dsimp only)); refine Kd.R_lit Kd.string _ 9 ?hg (N := 40) ?hd (xs := ([a0, a1, a2] : List ByteArray)) (inner := [.string a0, .string a1, .string a2]) (ok := fun _ => True) (okp := fun _ => True) ?hr ?hp (fun _ hk => hk) trivial (Below.refl _ _) (Nat.le_refl _) (by simp) ?_; (case hd => rfl); (case hg => rfl); (case hr => first | (go_simp; done) | (go_simp; rfl)); (case hp => exact (Reps.one (show Kd.M Kd.string _ _ _ a0 [.string a0] from rfl) (Reps.one (show Kd.M Kd.string _ _ _ a1 [.string a1] from rfl) (Reps.one (show Kd.M Kd.string _ _ _ a2 [.string a2] from rfl) (Reps.none _ _))))); intro v190 w30 ho31 hb hg_ hnew_; clear hg_ hnew_; (first | rw [← Ny189.out] at ho31 | (simp only [Int.reduceToNat] at ho31; rw [← Ny189.out] at ho31)); have n0_ := Aside0.mk (Kd.R_lower ho31 (below_size (by repeat (first | (with_reducible first | exact HB.out | apply below_alloc | apply pw_below_drewN | apply below_drew1) | exact HB.out)))); have n1_ := Aside0.mk (below_step (by repeat (first | (with_reducible first | exact HB.out | apply below_alloc | apply pw_below_drewN | apply below_drew1) | exact HB.out)) hb); clear HB; have HO191 := n0_; have HB := n1_; clear n0_ n1_; clear hb ho31; obtain ⟨Ao32, co32, eo32⟩ := Kd.R_slice HO191.out; subst eo32) | (go_at_call 7; (with_reducible refine (laws_short.calls kj9 _ _ y189 true _ ?side1 ?side2 A18.out).mono ?_); (case side1 => repeat (first | exact (Kd.R_reads' HO191.out).2.2 | (with_reducible refine Kd.C_alloc ?_ _) | (with_reducible refine Kd.C_drewN ?_ _) | (with_reducible refine Kd.C_drew ?_))); (case side2 => exact (Kd.R_reads' HO191.out).2.1); rintro e w' ⟨rfl, ⟨nd, rfl⟩⟩; (try first | exact ⟨rfl, _, World.drewN_drewN _ _ _⟩ | exact ⟨rfl, _, Eq.trans (World.drewN_drewN _ _ _) (congrArg (World.drewN _) (Nat.add_assoc _ _ _))⟩)) | (go_at_call 8; (with_reducible refine (laws_holds.calls kj9 a1 9 false _ A24.out).mono ?_); rintro e w' ⟨rfl, ⟨nd, rfl⟩⟩; (try first | exact ⟨rfl, _, World.drewN_drewN _ _ _⟩ | exact ⟨rfl, _, Eq.trans (World.drewN_drewN _ _ _) (congrArg (World.drewN _) (Nat.add_assoc _ _ _))⟩)) | (go_at_call 8; (with_reducible refine (laws_holds.calls kj9 a2 9 t194 _ A29.out).mono ?_); rintro e w' ⟨rfl, ⟨nd, rfl⟩⟩; (try first | exact ⟨rfl, _, World.drewN_drewN _ _ _⟩ | exact ⟨rfl, _, Eq.trans (World.drewN_drewN _ _ _) (congrArg (World.drewN _) (Nat.add_assoc _ _ _))⟩)))
           repeat (go_quiet (first | ((with_reducible refine gate_dst (N := 40) rfl ?_); (try (refine gate_guard (by rfl) ?_; dsimp only)); refine Kd.R_lit Kd.string _ 9 ?hg (N := 40) ?hd (xs := ([a0, a1, a2] : List ByteArray)) (inner := [.string a0, .string a1, .string a2]) (ok := fun _ => True) (okp := fun _ => True) ?hr ?hp (fun _ hk => hk) trivial (Below.refl _ _) (Nat.le_refl _) (by simp) ?_; (case hd => rfl); (case hg => rfl); (case hr => first | (go_simp; done) | (go_simp; rfl)); (case hp => exact (Reps.one (show Kd.M Kd.string _ _ _ a0 [.string a0] from rfl) (Reps.one (show Kd.M Kd.string _ _ _ a1 [.string a1] from rfl) (Reps.one (show Kd.M Kd.string _ _ _ a2 [.string a2] from rfl) (Reps.none _ _))))); intro v190 w30 ho31 hb hg_ hnew_; clear hg_ hnew_; (first | rw [← Ny189.out] at ho31 | (simp only [Int.reduceToNat] at ho31; rw [← Ny189.out] at ho31)); have n0_ := Aside0.mk (Kd.R_lower ho31 (below_size (by repeat (first | (with_reducible first | exact HB.out | apply below_alloc | apply pw_below_drewN | apply below_drew1) | exact HB.out)))); have n1_ := Aside0.mk (below_step (by repeat (first | (with_reducible first | exact HB.out | apply below_alloc | apply pw_below_drewN | apply below_drew1) | exact HB.out)) hb); clear HB; have HO191 := n0_; have HB := n1_; clear n0_ n1_; clear hb ho31; obtain ⟨Ao32, co32, eo32⟩ := Kd.R_slice HO191.out; subst eo32) | (go_at_call 7; (with_reducible refine (laws_short.calls kj9 _ _ y189 true _ ?side1 ?side2 A18.out).mono ?_); (case side1 => repeat (first | exact (Kd.R_reads' HO191.out).2.2 | (with_reducible refine Kd.C_alloc ?_ _) | (with_reducible refine Kd.C_drewN ?_ _) | (with_reducible refine Kd.C_drew ?_))); (case side2 => exact (Kd.R_reads' HO191.out).2.1); rintro e w' ⟨rfl, ⟨nd, rfl⟩⟩; (try first | exact ⟨rfl, _, World.drewN_drewN _ _ _⟩ | exact ⟨rfl, _, Eq.trans (World.drewN_drewN _ _ _) (congrArg (World.drewN _) (Nat.add_assoc _ _ _))⟩)) | (go_at_call 8; (with_reducible refine (laws_holds.calls kj9 a1 9 false _ A24.out).mono ?_); rintro e w' ⟨rfl, ⟨nd, rfl⟩⟩; (try first | exact ⟨rfl, _, World.drewN_drewN _ _ _⟩ | exact ⟨rfl, _, Eq.trans (World.drewN_drewN _ _ _) (congrArg (World.drewN _) (Nat.add_assoc _ _ _))⟩)) | (go_at_call 8; (with_reducible refine (laws_holds.calls kj9 a2 9 t194 _ A29.out).mono ?_); rintro e w' ⟨rfl, ⟨nd, rfl⟩⟩; (try first | exact ⟨rfl, _, World.drewN_drewN _ _ _⟩ | exact ⟨rfl, _, Eq.trans (World.drewN_drewN _ _ _) (congrArg (World.drewN _) (Nat.add_assoc _ _ _))⟩))); try go_wp2_with (first | ((with_reducible refine gate_dst (N := 40) rfl ?_); (try (refine gate_guard (by rfl) ?_; dsimp only)); refine Kd.R_lit Kd.string _ 9 ?hg (N := 40) ?hd (xs := ([a0, a1, a2] : List ByteArray)) (inner := [.string a0, .string a1, .string a2]) (ok := fun _ => True) (okp := fun _ => True) ?hr ?hp (fun _ hk => hk) trivial (Below.refl _ _) (Nat.le_refl _) (by simp) ?_; (case hd => rfl); (case hg => rfl); (case hr => first | (go_simp; done) | (go_simp; rfl)); (case hp => exact (Reps.one (show Kd.M Kd.string _ _ _ a0 [.string a0] from rfl) (Reps.one (show Kd.M Kd.string _ _ _ a1 [.string a1] from rfl) (Reps.one (show Kd.M Kd.string _ _ _ a2 [.string a2] from rfl) (Reps.none _ _))))); intro v190 w30 ho31 hb hg_ hnew_; clear hg_ hnew_; (first | rw [← Ny189.out] at ho31 | (simp only [Int.reduceToNat] at ho31; rw [← Ny189.out] at ho31)); have n0_ := Aside0.mk (Kd.R_lower ho31 (below_size (by repeat (first | (with_reducible first | exact HB.out | apply below_alloc | apply pw_below_drewN | apply below_drew1) | exact HB.out)))); have n1_ := Aside0.mk (below_step (by repeat (first | (with_reducible first | exact HB.out | apply below_alloc | apply pw_below_drewN | apply below_drew1) | exact HB.out)) hb); clear HB; have HO191 := n0_; have HB := n1_; clear n0_ n1_; clear hb ho31; obtain ⟨Ao32, co32, eo32⟩ := Kd.R_slice HO191.out; subst eo32) | (go_at_call 7; (with_reducible refine (laws_short.calls kj9 _ _ y189 true _ ?side1 ?side2 A18.out).mono ?_); (case side1 => repeat (first | exact (Kd.R_reads' HO191.out).2.2 | (with_reducible refine Kd.C_alloc ?_ _) | (with_reducible refine Kd.C_drewN ?_ _) | (with_reducible refine Kd.C_drew ?_))); (case side2 => exact (Kd.R_reads' HO191.out).2.1); rintro e w' ⟨rfl, ⟨nd, rfl⟩⟩; (try first | exact ⟨rfl, _, World.drewN_drewN _ _ _⟩ | exact ⟨rfl, _, Eq.trans (World.drewN_drewN _ _ _) (congrArg (World.drewN _) (Nat.add_assoc _ _ _))⟩)) | (go_at_call 8; (with_reducible refine (laws_holds.calls kj9 a1 9 false _ A24.out).mono ?_); rintro e w' ⟨rfl, ⟨nd, rfl⟩⟩; (try first | exact ⟨rfl, _, World.drewN_drewN _ _ _⟩ | exact ⟨rfl, _, Eq.trans (World.drewN_drewN _ _ _) (congrArg (World.drewN _) (Nat.add_assoc _ _ _))⟩)) | (go_at_call 8; (with_reducible refine (laws_holds.calls kj9 a2 9 t194 _ A29.out).mono ?_); rintro e w' ⟨rfl, ⟨nd, rfl⟩⟩; (try first | exact ⟨rfl, _, World.drewN_drewN _ _ _⟩ | exact ⟨rfl, _, Eq.trans (World.drewN_drewN _ _ _) (congrArg (World.drewN _) (Nat.add_assoc _ _ _))⟩))))
           go_meet
           case rel => exact ⟨_, (t194), (by first | rfl | (simp; done) | (rw [prx_ne]; first | done | rfl) | (simp [*]; done)), H', ⟨by have := HJ4.out; have := HJ9.out; first | omega | exact Nat.le_refl _⟩, ⟨by repeat (first | (with_reducible first | exact HB.out | apply below_alloc | apply pw_below_drewN | apply below_drew1) | exact HB.out)⟩⟩
        ·replace c19 := Bool.eq_false_iff.mpr c19
         subst c19
         have H1 : (laws_FnNegotiationSays.j2 kj9 a0 a1 a2 a3 true) = some r := by rw [if_neg (show ¬ (false = true) by decide)] at H; exact H
         clear H
         have H := H1
         clear H1
         have H' := Aside0.mk H
         clear H
         go_wp2_with (first | ((with_reducible refine gate_dst (N := 40) rfl ?_); (try (refine gate_guard (by rfl) ?_; dsimp only)); refine Kd.R_lit Kd.string _ 9 ?hg (N := 40) ?hd (xs := ([a0, a1, a2] : List ByteArray)) (inner := [.string a0, .string a1, .string a2]) (ok := fun _ => True) (okp := fun _ => True) ?hr ?hp (fun _ hk => hk) trivial (Below.refl _ _) (Nat.le_refl _) (by simp) ?_; (case hd => rfl); (case hg => rfl); (case hr => first | (go_simp; done) | (go_simp; rfl)); (case hp => exact (Reps.one (show Kd.M Kd.string _ _ _ a0 [.string a0] from rfl) (Reps.one (show Kd.M Kd.string _ _ _ a1 [.string a1] from rfl) (Reps.one (show Kd.M Kd.string _ _ _ a2 [.string a2] from rfl) (Reps.none _ _))))); intro v190 w33 ho34 hb hg_ hnew_; clear hg_ hnew_; (first | rw [← Ny189.out] at ho34 | (simp only [Int.reduceToNat] at ho34; rw [← Ny189.out] at ho34)); have n0_ := Aside0.mk (Kd.R_lower ho34 (below_size (by repeat (first | (with_reducible first | exact HB.out | apply below_alloc | apply pw_below_drewN | apply below_drew1) | exact HB.out)))); have n1_ := Aside0.mk (below_step (by repeat (first | (with_reducible first | exact HB.out | apply below_alloc | apply pw_below_drewN | apply below_drew1) | exact HB.out)) hb); clear HB; have HO191 := n0_; have HB := n1_; clear n0_ n1_; clear hb ho34; obtain ⟨Ao35, co35, eo35⟩ := Kd.R_slice HO191.out; subst eo35) | (go_at_call 7; (with_reducible refine (laws_short.calls kj9 _ _ y189 false _ ?side1 ?side2 A18.out).mono ?_); (case side1 => repeat (first | exact (Kd.R_reads' HO191.out).2.2 | (with_reducible refine Kd.C_alloc ?_ _) | (with_reducible refine Kd.C_drewN ?_ _) | (with_reducible refine Kd.C_drew ?_))); (case side2 => exact (Kd.R_reads' HO191.out).2.1); rintro e w' ⟨rfl, ⟨nd, rfl⟩⟩; (try first | exact ⟨rfl, _, World.drewN_drewN _ _ _⟩ | exact ⟨rfl, _, Eq.trans (World.drewN_drewN _ _ _) (congrArg (World.drewN _) (Nat.add_assoc _ _ _))⟩)))
         repeat (go_quiet (first | ((with_reducible refine gate_dst (N := 40) rfl ?_); (try (refine gate_guard (by rfl) ?_; dsimp only)); refine Kd.R_lit Kd.string _ 9 ?hg (N := 40) ?hd (xs := ([a0, a1, a2] : List ByteArray)) (inner := [.string a0, .string a1, .string a2]) (ok := fun _ => True) (okp := fun _ => True) ?hr ?hp (fun _ hk => hk) trivial (Below.refl _ _) (Nat.le_refl _) (by simp) ?_; (case hd => rfl); (case hg => rfl); (case hr => first | (go_simp; done) | (go_simp; rfl)); (case hp => exact (Reps.one (show Kd.M Kd.string _ _ _ a0 [.string a0] from rfl) (Reps.one (show Kd.M Kd.string _ _ _ a1 [.string a1] from rfl) (Reps.one (show Kd.M Kd.string _ _ _ a2 [.string a2] from rfl) (Reps.none _ _))))); intro v190 w33 ho34 hb hg_ hnew_; clear hg_ hnew_; (first | rw [← Ny189.out] at ho34 | (simp only [Int.reduceToNat] at ho34; rw [← Ny189.out] at ho34)); have n0_ := Aside0.mk (Kd.R_lower ho34 (below_size (by repeat (first | (with_reducible first | exact HB.out | apply below_alloc | apply pw_below_drewN | apply below_drew1) | exact HB.out)))); have n1_ := Aside0.mk (below_step (by repeat (first | (with_reducible first | exact HB.out | apply below_alloc | apply pw_below_drewN | apply below_drew1) | exact HB.out)) hb); clear HB; have HO191 := n0_; have HB := n1_; clear n0_ n1_; clear hb ho34; obtain ⟨Ao35, co35, eo35⟩ := Kd.R_slice HO191.out; subst eo35) | (go_at_call 7; (with_reducible refine (laws_short.calls kj9 _ _ y189 false _ ?side1 ?side2 A18.out).mono ?_); (case side1 => repeat (first | exact (Kd.R_reads' HO191.out).2.2 | (with_reducible refine Kd.C_alloc ?_ _) | (with_reducible refine Kd.C_drewN ?_ _) | (with_reducible refine Kd.C_drew ?_))); (case side2 => exact (Kd.R_reads' HO191.out).2.1); rintro e w' ⟨rfl, ⟨nd, rfl⟩⟩; (try first | exact ⟨rfl, _, World.drewN_drewN _ _ _⟩ | exact ⟨rfl, _, Eq.trans (World.drewN_drewN _ _ _) (congrArg (World.drewN _) (Nat.add_assoc _ _ _))⟩))); try go_wp2_with (first | ((with_reducible refine gate_dst (N := 40) rfl ?_); (try (refine gate_guard (by rfl) ?_; dsimp only)); refine Kd.R_lit Kd.string _ 9 ?hg (N := 40) ?hd (xs := ([a0, a1, a2] : List ByteArray)) (inner := [.string a0, .string a1, .string a2]) (ok := fun _ => True) (okp := fun _ => True) ?hr ?hp (fun _ hk => hk) trivial (Below.refl _ _) (Nat.le_refl _) (by simp) ?_; (case hd => rfl); (case hg => rfl); (case hr => first | (go_simp; done) | (go_simp; rfl)); (case hp => exact (Reps.one (show Kd.M Kd.string _ _ _ a0 [.string a0] from rfl) (Reps.one (show Kd.M Kd.string _ _ _ a1 [.string a1] from rfl) (Reps.one (show Kd.M Kd.string _ _ _ a2 [.string a2] from rfl) (Reps.none _ _))))); intro v190 w33 ho34 hb hg_ hnew_; clear hg_ hnew_; (first | rw [← Ny189.out] at ho34 | (simp only [Int.reduceToNat] at ho34; rw [← Ny189.out] at ho34)); have n0_ := Aside0.mk (Kd.R_lower ho34 (below_size (by repeat (first | (with_reducible first | exact HB.out | apply below_alloc | apply pw_below_drewN | apply below_drew1) | exact HB.out)))); have n1_ := Aside0.mk (below_step (by repeat (first | (with_reducible first | exact HB.out | apply below_alloc | apply pw_below_drewN | apply below_drew1) | exact HB.out)) hb); clear HB; have HO191 := n0_; have HB := n1_; clear n0_ n1_; clear hb ho34; obtain ⟨Ao35, co35, eo35⟩ := Kd.R_slice HO191.out; subst eo35) | (go_at_call 7; (with_reducible refine (laws_short.calls kj9 _ _ y189 false _ ?side1 ?side2 A18.out).mono ?_); (case side1 => repeat (first | exact (Kd.R_reads' HO191.out).2.2 | (with_reducible refine Kd.C_alloc ?_ _) | (with_reducible refine Kd.C_drewN ?_ _) | (with_reducible refine Kd.C_drew ?_))); (case side2 => exact (Kd.R_reads' HO191.out).2.1); rintro e w' ⟨rfl, ⟨nd, rfl⟩⟩; (try first | exact ⟨rfl, _, World.drewN_drewN _ _ _⟩ | exact ⟨rfl, _, Eq.trans (World.drewN_drewN _ _ _) (congrArg (World.drewN _) (Nat.add_assoc _ _ _))⟩))))
         go_meet
         case rel => exact ⟨_, (true), (by first | rfl | (simp; done) | (rw [prx_ne]; first | done | rfl) | (simp [*]; done)), H', ⟨by have := HJ4.out; have := HJ9.out; first | omega | exact Nat.le_refl _⟩, ⟨by repeat (first | (with_reducible first | exact HB.out | apply below_alloc | apply pw_below_drewN | apply below_drew1) | exact HB.out)⟩⟩
       case rest =>
        clear HC17
        try clear c1
        try clear c2
        try clear p2
        try clear c3
        try clear c6
        try clear c6b0
        try clear c6b1
        try clear c7
        try clear c7b0
        try clear c7b1
        try clear c8
        try clear c12
        try clear c12b0
        try clear c12b1
        try clear c16
        try clear c19
        try clear c20
        try clear c20b0
        try clear c25
        try clear p2
        obtain ⟨kq, x54_16, rfl, HA, HJ16, HB⟩ := hcut
        cases kq with
        | zero => exact absurd HA.out (by simp [laws_FnNegotiationSays.j2])
        | succ kj16 =>
         have H := HA.out
         clear HA
         simp only [laws_FnNegotiationSays.j2] at H
         by_cases c36 : x54_16 = true
         ·subst c36
          have H1 : (some true) = some r := by rw [if_pos rfl] at H; exact H
          clear H
          have H := H1
          clear H1
          obtain rfl := Option.some.inj H
          go_wp2
          repeat (go_quiet (fail); try go_wp2)
          go_ret
          exact ⟨by first | rfl | (simp [errW_none, errW_some] <;> rfl) | (simp [*, errW_none, errW_some] <;> rfl), by repeat (first | (with_reducible first | exact HB.out | apply below_alloc | apply pw_below_drewN | apply below_drew1) | exact HB.out)⟩
         ·replace c36 := Bool.eq_false_iff.mpr c36
          subst c36
          have H1 : ((spec_MediaRanges.f kj16 a0).bind fun bt195 => (if bt195.2 = 1 then ((impl_MediaRanges.f a0).bind fun t199 => ((laws_sameTexts.f kj16 t199 bt195.1).bind fun t202 => (laws_FnNegotiationSays.j3 kj16 a1 a2 a3 (!t202)))) else (laws_FnNegotiationSays.j3 kj16 a1 a2 a3 false))) = some r := by rw [if_neg (show ¬ (false = true) by decide)] at H; exact H
          clear H
          have H := H1
          clear H1
          replace H := Option.bind_eq_some_iff.mp H
          obtain ⟨⟨t195, t196⟩, A370, H⟩ := H
          replace H : (if t196 = 1 then ((impl_MediaRanges.f a0).bind fun t199 => ((laws_sameTexts.f kj16 t199 t195).bind fun t202 => (laws_FnNegotiationSays.j3 kj16 a1 a2 a3 (!t202)))) else (laws_FnNegotiationSays.j3 kj16 a1 a2 a3 false)) = some r := H
          have A37 := Aside0.mk A370
          clear A370
          have HC38 := Aside0.mk H
          clear H
          go_upto_region 9 with (first | (go_at_call 9; (with_reducible refine (spec_MediaRanges.calls kj16 a0 t195 t196 _ A37.out).mono ?_); rintro e w39 ⟨v197, rfl, ho0, hb⟩; have n0_ := Aside0.mk (Kd.R_lower ho0 (below_size (by repeat (first | (with_reducible first | exact HB.out | apply below_alloc | apply pw_below_drewN | apply below_drew1) | exact HB.out)))); have n1_ := Aside0.mk (below_step (by repeat (first | (with_reducible first | exact HB.out | apply below_alloc | apply pw_below_drewN | apply below_drew1) | exact HB.out)) hb); clear HB; have HO198 := n0_; have HB := n1_; clear n0_ n1_; (try clear hb); (try clear hb2); (try clear hk); (try clear hi); (try clear ho0)))
          repeat (go_quiet (first | (go_at_call 9; (with_reducible refine (spec_MediaRanges.calls kj16 a0 t195 t196 _ A37.out).mono ?_); rintro e w39 ⟨v197, rfl, ho0, hb⟩; have n0_ := Aside0.mk (Kd.R_lower ho0 (below_size (by repeat (first | (with_reducible first | exact HB.out | apply below_alloc | apply pw_below_drewN | apply below_drew1) | exact HB.out)))); have n1_ := Aside0.mk (below_step (by repeat (first | (with_reducible first | exact HB.out | apply below_alloc | apply pw_below_drewN | apply below_drew1) | exact HB.out)) hb); clear HB; have HO198 := n0_; have HB := n1_; clear n0_ n1_; (try clear hb); (try clear hb2); (try clear hk); (try clear hi); (try clear ho0))); go_upto_region 9 with (first | (go_at_call 9; (with_reducible refine (spec_MediaRanges.calls kj16 a0 t195 t196 _ A37.out).mono ?_); rintro e w39 ⟨v197, rfl, ho0, hb⟩; have n0_ := Aside0.mk (Kd.R_lower ho0 (below_size (by repeat (first | (with_reducible first | exact HB.out | apply below_alloc | apply pw_below_drewN | apply below_drew1) | exact HB.out)))); have n1_ := Aside0.mk (below_step (by repeat (first | (with_reducible first | exact HB.out | apply below_alloc | apply pw_below_drewN | apply below_drew1) | exact HB.out)) hb); clear HB; have HO198 := n0_; have HB := n1_; clear n0_ n1_; (try clear hb); (try clear hb2); (try clear hk); (try clear hi); (try clear ho0))))
          (try simp only [Act.put, List.setIfInBounds_toArray, List.set_cons_zero, List.set_cons_succ])
          go_cut [68] (fun v68 wc => ∃ (kq : Nat) (x68_37 : Bool), v68 = .bool x68_37 ∧ Aside0 (laws_FnNegotiationSays.j3 kq a1 a2 a3 x68_37 = some r) ∧ Aside0 (kq ≤ kj16) ∧ Aside0 (Below w.heap.size w wc))
          case first =>
           have H := HC38.out
           clear HC38
           by_cases c40 : t196 = 1
           ·rw [if_pos c40] at H
            have c40b0 : (t196 == 1) = true := beq_iff_eq.mpr c40
            have c40b1 : (t196 != 1) = false := bne_eq_false_iff_eq.mpr c40
            clear c40
            (first | rw [c40b0] | (simp only [i64_w, i32_w]; rw [c40b0]) | skip)
            replace H := Option.bind_eq_some_iff.mp H
            obtain ⟨t199, A410, H⟩ := H
            replace H : ((laws_sameTexts.f kj16 t199 t195).bind fun t202 => (laws_FnNegotiationSays.j3 kj16 a1 a2 a3 (!t202))) = some r := H
            have A41 := Aside0.mk A410
            clear A410
            replace H := Option.bind_eq_some_iff.mp H
            obtain ⟨t202, A420, H⟩ := H
            replace H : (laws_FnNegotiationSays.j3 kj16 a1 a2 a3 (!t202)) = some r := H
            have A42 := Aside0.mk A420
            clear A420
            have H' := Aside0.mk H
            clear H
            go_wp2_with (first | (go_at_call 5; (with_reducible refine (impl_MediaRanges.calls a0 t199 _ A41.out).mono ?_); rintro e w43 ⟨v200, rfl, ho0, hb⟩; have n0_ := Aside0.mk (Kd.R_elder' (by (with_reducible repeat (first | apply Kd.R_alloc | apply Kd.R_drewN | apply Kd.R_drew)); exact HO198.out) (Kd.R_base ho0) hb); have n1_ := Aside0.mk (Kd.R_lower (Kd.R_new' ho0 (Kd.R_lt (by (with_reducible repeat (first | apply Kd.R_alloc | apply Kd.R_drewN | apply Kd.R_drew)); exact HO198.out))) (below_size (by repeat (first | (with_reducible first | exact HB.out | apply below_alloc | apply pw_below_drewN | apply below_drew1) | exact HB.out)))); have n2_ := Aside0.mk (below_step (by repeat (first | (with_reducible first | exact HB.out | apply below_alloc | apply pw_below_drewN | apply below_drew1) | exact HB.out)) hb); clear HO198; clear HB; have HO198 := n0_; have HO201 := n1_; have HB := n2_; clear n0_ n1_ n2_; (try clear hb); (try clear hb2); (try clear hk); (try clear hi); (try clear ho0); obtain ⟨Ao44, co44, eo44⟩ := Kd.R_slice HO201.out; subst eo44; obtain ⟨Ao45, co45, eo45⟩ := Kd.R_slice HO198.out; subst eo45) | (go_at_call 10; (with_reducible refine (laws_sameTexts.calls kj16 _ _ t199 _ _ t195 t202 _ ?side1 ?side2 ?side3 ?side4 A42.out).mono ?_); (case side1 => repeat (first | exact (Kd.R_reads' HO201.out).2.2 | (with_reducible refine Kd.C_alloc ?_ _) | (with_reducible refine Kd.C_drewN ?_ _) | (with_reducible refine Kd.C_drew ?_))); (case side2 => exact (Kd.R_reads' HO201.out).2.1); (case side3 => repeat (first | exact (Kd.R_reads' HO198.out).2.2 | (with_reducible refine Kd.C_alloc ?_ _) | (with_reducible refine Kd.C_drewN ?_ _) | (with_reducible refine Kd.C_drew ?_))); (case side4 => exact (Kd.R_reads' HO198.out).2.1); rintro e w' ⟨rfl, ⟨nd, rfl⟩⟩; (try first | exact ⟨rfl, _, World.drewN_drewN _ _ _⟩ | exact ⟨rfl, _, Eq.trans (World.drewN_drewN _ _ _) (congrArg (World.drewN _) (Nat.add_assoc _ _ _))⟩)))
            repeat (go_quiet (first | (go_at_call 5; (with_reducible refine (impl_MediaRanges.calls a0 t199 _ A41.out).mono ?_); rintro e w43 ⟨v200, rfl, ho0, hb⟩; have n0_ := Aside0.mk (Kd.R_elder' (by (with_reducible repeat (first | apply Kd.R_alloc | apply Kd.R_drewN | apply Kd.R_drew)); exact HO198.out) (Kd.R_base ho0) hb); have n1_ := Aside0.mk (Kd.R_lower (Kd.R_new' ho0 (Kd.R_lt (by (with_reducible repeat (first | apply Kd.R_alloc | apply Kd.R_drewN | apply Kd.R_drew)); exact HO198.out))) (below_size (by repeat (first | (with_reducible first | exact HB.out | apply below_alloc | apply pw_below_drewN | apply below_drew1) | exact HB.out)))); have n2_ := Aside0.mk (below_step (by repeat (first | (with_reducible first | exact HB.out | apply below_alloc | apply pw_below_drewN | apply below_drew1) | exact HB.out)) hb); clear HO198; clear HB; have HO198 := n0_; have HO201 := n1_; have HB := n2_; clear n0_ n1_ n2_; (try clear hb); (try clear hb2); (try clear hk); (try clear hi); (try clear ho0); obtain ⟨Ao44, co44, eo44⟩ := Kd.R_slice HO201.out; subst eo44; obtain ⟨Ao45, co45, eo45⟩ := Kd.R_slice HO198.out; subst eo45) | (go_at_call 10; (with_reducible refine (laws_sameTexts.calls kj16 _ _ t199 _ _ t195 t202 _ ?side1 ?side2 ?side3 ?side4 A42.out).mono ?_); (case side1 => repeat (first | exact (Kd.R_reads' HO201.out).2.2 | (with_reducible refine Kd.C_alloc ?_ _) | (with_reducible refine Kd.C_drewN ?_ _) | (with_reducible refine Kd.C_drew ?_))); (case side2 => exact (Kd.R_reads' HO201.out).2.1); (case side3 => repeat (first | exact (Kd.R_reads' HO198.out).2.2 | (with_reducible refine Kd.C_alloc ?_ _) | (with_reducible refine Kd.C_drewN ?_ _) | (with_reducible refine Kd.C_drew ?_))); (case side4 => exact (Kd.R_reads' HO198.out).2.1); rintro e w' ⟨rfl, ⟨nd, rfl⟩⟩; (try first | exact ⟨rfl, _, World.drewN_drewN _ _ _⟩ | exact ⟨rfl, _, Eq.trans (World.drewN_drewN _ _ _) (congrArg (World.drewN _) (Nat.add_assoc _ _ _))⟩))); try go_wp2_with (first | (go_at_call 5; (with_reducible refine (impl_MediaRanges.calls a0 t199 _ A41.out).mono ?_); rintro e w43 ⟨v200, rfl, ho0, hb⟩; have n0_ := Aside0.mk (Kd.R_elder' (by (with_reducible repeat (first | apply Kd.R_alloc | apply Kd.R_drewN | apply Kd.R_drew)); exact HO198.out) (Kd.R_base ho0) hb); have n1_ := Aside0.mk (Kd.R_lower (Kd.R_new' ho0 (Kd.R_lt (by (with_reducible repeat (first | apply Kd.R_alloc | apply Kd.R_drewN | apply Kd.R_drew)); exact HO198.out))) (below_size (by repeat (first | (with_reducible first | exact HB.out | apply below_alloc | apply pw_below_drewN | apply below_drew1) | exact HB.out)))); have n2_ := Aside0.mk (below_step (by repeat (first | (with_reducible first | exact HB.out | apply below_alloc | apply pw_below_drewN | apply below_drew1) | exact HB.out)) hb); clear HO198; clear HB; have HO198 := n0_; have HO201 := n1_; have HB := n2_; clear n0_ n1_ n2_; (try clear hb); (try clear hb2); (try clear hk); (try clear hi); (try clear ho0); obtain ⟨Ao44, co44, eo44⟩ := Kd.R_slice HO201.out; subst eo44; obtain ⟨Ao45, co45, eo45⟩ := Kd.R_slice HO198.out; subst eo45) | (go_at_call 10; (with_reducible refine (laws_sameTexts.calls kj16 _ _ t199 _ _ t195 t202 _ ?side1 ?side2 ?side3 ?side4 A42.out).mono ?_); (case side1 => repeat (first | exact (Kd.R_reads' HO201.out).2.2 | (with_reducible refine Kd.C_alloc ?_ _) | (with_reducible refine Kd.C_drewN ?_ _) | (with_reducible refine Kd.C_drew ?_))); (case side2 => exact (Kd.R_reads' HO201.out).2.1); (case side3 => repeat (first | exact (Kd.R_reads' HO198.out).2.2 | (with_reducible refine Kd.C_alloc ?_ _) | (with_reducible refine Kd.C_drewN ?_ _) | (with_reducible refine Kd.C_drew ?_))); (case side4 => exact (Kd.R_reads' HO198.out).2.1); rintro e w' ⟨rfl, ⟨nd, rfl⟩⟩; (try first | exact ⟨rfl, _, World.drewN_drewN _ _ _⟩ | exact ⟨rfl, _, Eq.trans (World.drewN_drewN _ _ _) (congrArg (World.drewN _) (Nat.add_assoc _ _ _))⟩))))
            go_meet
            case rel => exact ⟨_, (!t202), (by first | rfl | (simp; done) | (rw [prx_ne]; first | done | rfl) | (simp [*]; done)), H', ⟨by have := HJ4.out; have := HJ9.out; have := HJ16.out; first | omega | exact Nat.le_refl _⟩, ⟨by repeat (first | (with_reducible first | exact HB.out | apply below_alloc | apply pw_below_drewN | apply below_drew1) | exact HB.out)⟩⟩
           ·rw [if_neg c40] at H
            have c40b0 : (t196 == 1) = false := beq_eq_false_iff_ne.mpr c40
            have c40b1 : (t196 != 1) = true := bne_iff_ne.mpr c40
            (first | rw [c40b0] | (simp only [i64_w, i32_w]; rw [c40b0]) | skip)
            have H' := Aside0.mk H
            clear H
            go_wp2
            repeat (go_quiet (fail); try go_wp2)
            go_meet
            case rel => exact ⟨_, (false), (by first | rfl | (simp; done) | (rw [prx_ne]; first | done | rfl) | (simp [*]; done)), H', ⟨by have := HJ4.out; have := HJ9.out; have := HJ16.out; first | omega | exact Nat.le_refl _⟩, ⟨by repeat (first | (with_reducible first | exact HB.out | apply below_alloc | apply pw_below_drewN | apply below_drew1) | exact HB.out)⟩⟩
          case rest =>
           clear HC38
           try clear c1
           try clear c2
           try clear p2
           try clear c3
           try clear c4
           try clear c6
           try clear c6b0
           try clear c6b1
           try clear c7
           try clear c7b0
           try clear c7b1
           try clear c8
           try clear c12
           try clear c12b0
           try clear c12b1
           try clear c16
           try clear c19
           try clear c20
           try clear c20b0
           try clear c25
           try clear c36
           try clear c40
           try clear c40b0
           try clear c40b1
           try clear p2
           obtain ⟨kq, x68_37, rfl, HA, HJ37, HB⟩ := hcut
           cases kq with
           | zero => exact absurd HA.out (by simp [laws_FnNegotiationSays.j3])
           | succ kj37 =>
            have H := HA.out
            clear HA
            simp only [laws_FnNegotiationSays.j3] at H
            by_cases c46 : x68_37 = true
            ·subst c46
             have H1 : (some false) = some r := by rw [if_pos rfl] at H; exact H
             clear H
             have H := H1
             clear H1
             obtain rfl := Option.some.inj H
             go_wp2
             repeat (go_quiet (fail); try go_wp2)
             go_ret
             exact ⟨by first | rfl | (simp [errW_none, errW_some] <;> rfl) | (simp [*, errW_none, errW_some] <;> rfl), by repeat (first | (with_reducible first | exact HB.out | apply below_alloc | apply pw_below_drewN | apply below_drew1) | exact HB.out)⟩
            ·replace c46 := Bool.eq_false_iff.mpr c46
             subst c46
             have H1 : ((spec_Params.f kj37 a1 a3).bind fun bt203 => (if bt203.2 = 1 then ((impl_Params.f kj37 a1 a3).bind fun t207 => (if (t207.length : Int) = (bt203.1.length : Int) then (laws_FnNegotiationSays.l0 kj37 a1 a2 bt203.1 t207 (t207.length : Int) 0) else (some false))) else (laws_FnNegotiationSays.j5 kj37 a1 a2))) = some r := by rw [if_neg (show ¬ (false = true) by decide)] at H; exact H
             clear H
             have H := H1
             clear H1
             replace H := Option.bind_eq_some_iff.mp H
             obtain ⟨⟨t203, t204⟩, A470, H⟩ := H
             replace H : (if t204 = 1 then ((impl_Params.f kj37 a1 a3).bind fun t207 => (if (t207.length : Int) = (t203.length : Int) then (laws_FnNegotiationSays.l0 kj37 a1 a2 t203 t207 (t207.length : Int) 0) else (some false))) else (laws_FnNegotiationSays.j5 kj37 a1 a2)) = some r := H
             have A47 := Aside0.mk A470
             clear A470
             have HC48 := Aside0.mk H
             clear H
             go_upto_if 76 with (first | (go_at_call 11; (with_reducible refine (spec_Params.calls kj37 a1 a3 t203 t204 _ A47.out).mono ?_); rintro e w49 ⟨v205, rfl, ho0, hb⟩; have n0_ := Aside0.mk (Kd.R_lower ho0 (below_size (by repeat (first | (with_reducible first | exact HB.out | apply below_alloc | apply pw_below_drewN | apply below_drew1) | exact HB.out)))); have n1_ := Aside0.mk (below_step (by repeat (first | (with_reducible first | exact HB.out | apply below_alloc | apply pw_below_drewN | apply below_drew1) | exact HB.out)) hb); clear HB; have HO206 := n0_; have HB := n1_; clear n0_ n1_; (try clear hb); (try clear hb2); (try clear hk); (try clear hi); (try clear ho0)))
             repeat (go_quiet (first | (go_at_call 11; (with_reducible refine (spec_Params.calls kj37 a1 a3 t203 t204 _ A47.out).mono ?_); rintro e w49 ⟨v205, rfl, ho0, hb⟩; have n0_ := Aside0.mk (Kd.R_lower ho0 (below_size (by repeat (first | (with_reducible first | exact HB.out | apply below_alloc | apply pw_below_drewN | apply below_drew1) | exact HB.out)))); have n1_ := Aside0.mk (below_step (by repeat (first | (with_reducible first | exact HB.out | apply below_alloc | apply pw_below_drewN | apply below_drew1) | exact HB.out)) hb); clear HB; have HO206 := n0_; have HB := n1_; clear n0_ n1_; (try clear hb); (try clear hb2); (try clear hk); (try clear hi); (try clear ho0))); go_upto_if 76 with (first | (go_at_call 11; (with_reducible refine (spec_Params.calls kj37 a1 a3 t203 t204 _ A47.out).mono ?_); rintro e w49 ⟨v205, rfl, ho0, hb⟩; have n0_ := Aside0.mk (Kd.R_lower ho0 (below_size (by repeat (first | (with_reducible first | exact HB.out | apply below_alloc | apply pw_below_drewN | apply below_drew1) | exact HB.out)))); have n1_ := Aside0.mk (below_step (by repeat (first | (with_reducible first | exact HB.out | apply below_alloc | apply pw_below_drewN | apply below_drew1) | exact HB.out)) hb); clear HB; have HO206 := n0_; have HB := n1_; clear n0_ n1_; (try clear hb); (try clear hb2); (try clear hk); (try clear hi); (try clear ho0))))
             (try simp only [Act.put, List.setIfInBounds_toArray, List.set_cons_zero, List.set_cons_succ])
             go_cut [] (fun wc => ∃ (kq : Nat), Aside0 (laws_FnNegotiationSays.j5 kq a1 a2 = some r) ∧ Aside0 (kq ≤ kj37) ∧ Aside0 (Below w.heap.size w wc))
             case first =>
              have H := HC48.out
              clear HC48
              by_cases c50 : t204 = 1
              ·rw [if_pos c50] at H
               have c50b0 : (t204 == 1) = true := beq_iff_eq.mpr c50
               have c50b1 : (t204 != 1) = false := bne_eq_false_iff_eq.mpr c50
               clear c50
               (first | rw [c50b0] | (simp only [i64_w, i32_w]; rw [c50b0]) | skip)
               replace H := Option.bind_eq_some_iff.mp H
               obtain ⟨t207, A510, H⟩ := H
               replace H : (if (t207.length : Int) = (t203.length : Int) then (laws_FnNegotiationSays.l0 kj37 a1 a2 t203 t207 (t207.length : Int) 0) else (some false)) = some r := H
               have A51 := Aside0.mk A510
               clear A510
               by_cases c52 : (t207.length : Int) = (t203.length : Int)
               ·rw [if_pos c52] at H
                have c52b0 : ((t207.length : Int) == (t203.length : Int)) = true := beq_iff_eq.mpr c52
                have c52b1 : ((t207.length : Int) != (t203.length : Int)) = false := bne_eq_false_iff_eq.mpr c52
                have c52b2 : (t207.length == t203.length) = true := by first | simpa using c52 | (simp at c52 ⊢; omega)
                clear c52
                have H' := Aside0.mk H
                clear H
                go_wp2_with (first | (go_at_call 12; (with_reducible refine (impl_Params.calls kj37 a1 a3 t207 _ A51.out).mono ?_); rintro e w53 ⟨v208, rfl, ho0, hb⟩; have n0_ := Aside0.mk (Kd.R_below (by (with_reducible repeat (first | apply Kd.R_alloc | apply Kd.R_drewN | apply Kd.R_drew)); exact HO206.out) hb); have n1_ := Aside0.mk (Kd.R_lower ho0 (below_size (by repeat (first | (with_reducible first | exact HB.out | apply below_alloc | apply pw_below_drewN | apply below_drew1) | exact HB.out)))); have n2_ := Aside0.mk (below_step (by repeat (first | (with_reducible first | exact HB.out | apply below_alloc | apply pw_below_drewN | apply below_drew1) | exact HB.out)) hb); clear HO206; clear HB; have HO206 := n0_; have HO209 := n1_; have HB := n2_; clear n0_ n1_ n2_; (try clear hb); (try clear hb2); (try clear hk); (try clear hi); (try clear ho0); obtain ⟨Ao54, co54, eo54⟩ := Kd.R_slice HO209.out; subst eo54; obtain ⟨Ao55, co55, eo55⟩ := Kd.R_slice HO206.out; subst eo55))
                repeat (go_quiet (first | (go_at_call 12; (with_reducible refine (impl_Params.calls kj37 a1 a3 t207 _ A51.out).mono ?_); rintro e w53 ⟨v208, rfl, ho0, hb⟩; have n0_ := Aside0.mk (Kd.R_below (by (with_reducible repeat (first | apply Kd.R_alloc | apply Kd.R_drewN | apply Kd.R_drew)); exact HO206.out) hb); have n1_ := Aside0.mk (Kd.R_lower ho0 (below_size (by repeat (first | (with_reducible first | exact HB.out | apply below_alloc | apply pw_below_drewN | apply below_drew1) | exact HB.out)))); have n2_ := Aside0.mk (below_step (by repeat (first | (with_reducible first | exact HB.out | apply below_alloc | apply pw_below_drewN | apply below_drew1) | exact HB.out)) hb); clear HO206; clear HB; have HO206 := n0_; have HO209 := n1_; have HB := n2_; clear n0_ n1_ n2_; (try clear hb); (try clear hb2); (try clear hk); (try clear hi); (try clear ho0); obtain ⟨Ao54, co54, eo54⟩ := Kd.R_slice HO209.out; subst eo54; obtain ⟨Ao55, co55, eo55⟩ := Kd.R_slice HO206.out; subst eo55)); try go_wp2_with (first | (go_at_call 12; (with_reducible refine (impl_Params.calls kj37 a1 a3 t207 _ A51.out).mono ?_); rintro e w53 ⟨v208, rfl, ho0, hb⟩; have n0_ := Aside0.mk (Kd.R_below (by (with_reducible repeat (first | apply Kd.R_alloc | apply Kd.R_drewN | apply Kd.R_drew)); exact HO206.out) hb); have n1_ := Aside0.mk (Kd.R_lower ho0 (below_size (by repeat (first | (with_reducible first | exact HB.out | apply below_alloc | apply pw_below_drewN | apply below_drew1) | exact HB.out)))); have n2_ := Aside0.mk (below_step (by repeat (first | (with_reducible first | exact HB.out | apply below_alloc | apply pw_below_drewN | apply below_drew1) | exact HB.out)) hb); clear HO206; clear HB; have HO206 := n0_; have HO209 := n1_; have HB := n2_; clear n0_ n1_ n2_; (try clear hb); (try clear hb2); (try clear hk); (try clear hi); (try clear ho0); obtain ⟨Ao54, co54, eo54⟩ := Kd.R_slice HO209.out; subst eo54; obtain ⟨Ao55, co55, eo55⟩ := Kd.R_slice HO206.out; subst eo55)))
                go_loopg [87] kj37 (fun kq v87 w' => ∃ (x87_5 : Int), v87 = .int .i64 x87_5 ∧ Aside0 (laws_FnNegotiationSays.l0 kq a1 a2 t203 t207 (t207.length : Int) x87_5 = some r) ∧ Aside0 (kq ≤ kj37) ∧ Aside0 (Kd.R k38 38 w' w.heap.size (fun _ => True) (.slice Ao55 t203.length co55) t203) ∧ Aside0 (Kd.R k36 36 w' w.heap.size (fun _ => True) (.slice Ao54 t207.length co54) t207) ∧ Aside0 (Below w.heap.size w w'))
                case atStart => exact ⟨(0), (by first | rfl | (simp; done) | (rw [prx_ne]; first | done | rfl) | (simp [*]; done)), H', ⟨Nat.le_refl _⟩, ⟨by (with_reducible repeat (first | apply Kd.R_alloc | apply Kd.R_drewN | apply Kd.R_drew)); exact HO206.out⟩, ⟨by (with_reducible repeat (first | apply Kd.R_alloc | apply Kd.R_drewN | apply Kd.R_drew)); exact HO209.out⟩, ⟨by repeat (first | (with_reducible first | exact HB.out | apply below_alloc | apply pw_below_drewN | apply below_drew1) | exact HB.out)⟩⟩
                case round =>
                 clear H'
                 try clear c1
                 try clear c2
                 try clear p2
                 try clear c3
                 try clear c4
                 try clear c5
                 try clear c6
                 try clear c6b0
                 try clear c6b1
                 try clear c7
                 try clear c7b0
                 try clear c7b1
                 try clear c8
                 try clear c12
                 try clear c12b0
                 try clear c12b1
                 try clear c16
                 try clear c19
                 try clear c20
                 try clear c20b0
                 try clear c25
                 try clear c36
                 try clear c40
                 try clear c40b0
                 try clear c40b1
                 try clear c46
                 try clear c50
                 try clear c50b0
                 try clear c50b1
                 try clear c52
                 try clear c52b0
                 try clear c52b1
                 try clear c52b2
                 try clear p2
                 obtain ⟨x87_5, rfl, HA, HK5, HO_12, HO_14, HB⟩ := hrel
                 cases gk with
                 | zero => exact absurd HA.out (by simp [laws_FnNegotiationSays.l0])
                 | succ k5 =>
                  have H := HA.out
                  clear HA
                  simp only [laws_FnNegotiationSays.l0] at H
                  by_cases c56 : x87_5 < (t207.length : Int)
                  ·rw [if_pos c56] at H
                   have c56b0 : decide (x87_5 < (t207.length : Int)) = true := decide_eq_true c56
                   clear c56
                   by_cases c57 : 0 ≤ x87_5
                   ·rw [if_pos c57] at H
                    have c57b0 : decide (0 ≤ x87_5) = true := decide_eq_true c57
                    clear c57
                    by_cases c58 : x87_5 < (t207.length : Int)
                    ·rw [if_pos c58] at H
                     have c58b0 : decide (x87_5 < (t207.length : Int)) = true := decide_eq_true c58
                     clear c58
                     by_cases c59 : x87_5 < (t203.length : Int)
                     ·rw [if_pos c59] at H
                      have c59b0 : decide (x87_5 < (t203.length : Int)) = true := decide_eq_true c59
                      clear c59
                      by_cases c60 : ((rd_T36 t207 x87_5).f0).toList = ((rd_T38 t203 x87_5).f0).toList
                      ·rw [if_pos c60] at H
                       have c60b0 : (((rd_T36 t207 x87_5).f0).toList == ((rd_T38 t203 x87_5).f0).toList) = true := beq_iff_eq.mpr c60
                       have c60b1 : (((rd_T36 t207 x87_5).f0).toList != ((rd_T38 t203 x87_5).f0).toList) = false := bne_eq_false_iff_eq.mpr c60
                       clear c60
                       by_cases c61 : ((rd_T36 t207 x87_5).f1).toList = ((rd_T38 t203 x87_5).f1).toList
                       ·rw [if_pos c61] at H
                        have c61b0 : (((rd_T36 t207 x87_5).f1).toList == ((rd_T38 t203 x87_5).f1).toList) = true := beq_iff_eq.mpr c61
                        have c61b1 : (((rd_T36 t207 x87_5).f1).toList != ((rd_T38 t203 x87_5).f1).toList) = false := bne_eq_false_iff_eq.mpr c61
                        clear c61
                        have H' := Aside0.mk H
                        clear H
                        have p210 : 0 ≤ (x87_5 : Int) := of_decide_eq_true (by first | (with_reducible assumption) | assumption)
                        have q210 : x87_5 < (t207.length : Int) := of_decide_eq_true (by first | (with_reducible assumption) | assumption)
                        obtain ⟨ad210, e210, hx210_0, hx210_1⟩ := at_T36 (Kd.R_reads' HO_14.out).2.2 x87_5 p210 q210
                        cases e210
                        replace p210 := eq_true p210
                        replace q210 := eq_true q210
                        have p211 : 0 ≤ (x87_5 : Int) := of_decide_eq_true (by first | (with_reducible assumption) | assumption)
                        have q211 : x87_5 < (t203.length : Int) := of_decide_eq_true (by first | (with_reducible assumption) | assumption)
                        obtain ⟨ad211, e211, hx211_0, hx211_1⟩ := at_T38 (Kd.R_reads' HO_12.out).2.2 x87_5 p211 q211
                        cases e211
                        replace p211 := eq_true p211
                        replace q211 := eq_true q211
                        have p212 : 0 ≤ (x87_5 : Int) := of_decide_eq_true (by first | (with_reducible assumption) | assumption)
                        have q212 : x87_5 < (t207.length : Int) := of_decide_eq_true (by first | (with_reducible assumption) | assumption)
                        obtain ⟨ad212, e212, hx212_0, hx212_1⟩ := at_T36 (Kd.R_reads' HO_14.out).2.2 x87_5 p212 q212
                        obtain rfl : ad210 = ad212 := (by injection e212)
                        replace p212 := eq_true p212
                        replace q212 := eq_true q212
                        have p213 : 0 ≤ (x87_5 : Int) := of_decide_eq_true (by first | (with_reducible assumption) | assumption)
                        have q213 : x87_5 < (t203.length : Int) := of_decide_eq_true (by first | (with_reducible assumption) | assumption)
                        obtain ⟨ad213, e213, hx213_0, hx213_1⟩ := at_T38 (Kd.R_reads' HO_12.out).2.2 x87_5 p213 q213
                        obtain rfl : ad211 = ad213 := (by injection e213)
                        replace p213 := eq_true p213
                        replace q213 := eq_true q213
                        go_wp2
                        repeat (go_quiet (fail); try go_wp2)
                        go_roundg k5
                        case measure => have := HJ4.out; have := HJ9.out; have := HJ16.out; have := HJ37.out; have := HK5.out; omega
                        case rel => exact ⟨(wrap64 (x87_5 + 1)), (by first | rfl | (simp; done) | (rw [prx_ne]; first | done | rfl) | (simp [*]; done)), H', ⟨by have := HJ4.out; have := HJ9.out; have := HJ16.out; have := HJ37.out; have := HK5.out; omega⟩, ⟨by (with_reducible repeat (first | apply Kd.R_alloc | apply Kd.R_drewN | apply Kd.R_drew)); exact HO_12.out⟩, ⟨by (with_reducible repeat (first | apply Kd.R_alloc | apply Kd.R_drewN | apply Kd.R_drew)); exact HO_14.out⟩, ⟨by repeat (first | (with_reducible first | exact HB.out | apply below_alloc | apply pw_below_drewN | apply below_drew1) | exact HB.out)⟩⟩
                       ·rw [if_neg c61] at H
                        have c61b0 : (((rd_T36 t207 x87_5).f1).toList == ((rd_T38 t203 x87_5).f1).toList) = false := beq_eq_false_iff_ne.mpr c61
                        have c61b1 : (((rd_T36 t207 x87_5).f1).toList != ((rd_T38 t203 x87_5).f1).toList) = true := bne_iff_ne.mpr c61
                        obtain rfl := Option.some.inj H
                        have p210 : 0 ≤ (x87_5 : Int) := of_decide_eq_true (by first | (with_reducible assumption) | assumption)
                        have q210 : x87_5 < (t207.length : Int) := of_decide_eq_true (by first | (with_reducible assumption) | assumption)
                        obtain ⟨ad210, e210, hx210_0, hx210_1⟩ := at_T36 (Kd.R_reads' HO_14.out).2.2 x87_5 p210 q210
                        cases e210
                        replace p210 := eq_true p210
                        replace q210 := eq_true q210
                        have p211 : 0 ≤ (x87_5 : Int) := of_decide_eq_true (by first | (with_reducible assumption) | assumption)
                        have q211 : x87_5 < (t203.length : Int) := of_decide_eq_true (by first | (with_reducible assumption) | assumption)
                        obtain ⟨ad211, e211, hx211_0, hx211_1⟩ := at_T38 (Kd.R_reads' HO_12.out).2.2 x87_5 p211 q211
                        cases e211
                        replace p211 := eq_true p211
                        replace q211 := eq_true q211
                        have p212 : 0 ≤ (x87_5 : Int) := of_decide_eq_true (by first | (with_reducible assumption) | assumption)
                        have q212 : x87_5 < (t207.length : Int) := of_decide_eq_true (by first | (with_reducible assumption) | assumption)
                        obtain ⟨ad212, e212, hx212_0, hx212_1⟩ := at_T36 (Kd.R_reads' HO_14.out).2.2 x87_5 p212 q212
                        obtain rfl : ad210 = ad212 := (by injection e212)
                        replace p212 := eq_true p212
                        replace q212 := eq_true q212
                        have p213 : 0 ≤ (x87_5 : Int) := of_decide_eq_true (by first | (with_reducible assumption) | assumption)
                        have q213 : x87_5 < (t203.length : Int) := of_decide_eq_true (by first | (with_reducible assumption) | assumption)
                        obtain ⟨ad213, e213, hx213_0, hx213_1⟩ := at_T38 (Kd.R_reads' HO_12.out).2.2 x87_5 p213 q213
                        obtain rfl : ad211 = ad213 := (by injection e213)
                        replace p213 := eq_true p213
                        replace q213 := eq_true q213
                        go_wp2
                        repeat (go_quiet (fail); try go_wp2)
                        go_ret
                        exact ⟨by first | rfl | (simp [errW_none, errW_some] <;> rfl) | (simp [*, errW_none, errW_some] <;> rfl), by repeat (first | (with_reducible first | exact HB.out | apply below_alloc | apply pw_below_drewN | apply below_drew1) | exact HB.out)⟩
                      ·rw [if_neg c60] at H
                       have c60b0 : (((rd_T36 t207 x87_5).f0).toList == ((rd_T38 t203 x87_5).f0).toList) = false := beq_eq_false_iff_ne.mpr c60
                       have c60b1 : (((rd_T36 t207 x87_5).f0).toList != ((rd_T38 t203 x87_5).f0).toList) = true := bne_iff_ne.mpr c60
                       obtain rfl := Option.some.inj H
                       have p210 : 0 ≤ (x87_5 : Int) := of_decide_eq_true (by first | (with_reducible assumption) | assumption)
                       have q210 : x87_5 < (t207.length : Int) := of_decide_eq_true (by first | (with_reducible assumption) | assumption)
                       obtain ⟨ad210, e210, hx210_0, hx210_1⟩ := at_T36 (Kd.R_reads' HO_14.out).2.2 x87_5 p210 q210
                       cases e210
                       replace p210 := eq_true p210
                       replace q210 := eq_true q210
                       have p211 : 0 ≤ (x87_5 : Int) := of_decide_eq_true (by first | (with_reducible assumption) | assumption)
                       have q211 : x87_5 < (t203.length : Int) := of_decide_eq_true (by first | (with_reducible assumption) | assumption)
                       obtain ⟨ad211, e211, hx211_0, hx211_1⟩ := at_T38 (Kd.R_reads' HO_12.out).2.2 x87_5 p211 q211
                       cases e211
                       replace p211 := eq_true p211
                       replace q211 := eq_true q211
                       go_wp2
                       repeat (go_quiet (fail); try go_wp2)
                       go_ret
                       exact ⟨by first | rfl | (simp [errW_none, errW_some] <;> rfl) | (simp [*, errW_none, errW_some] <;> rfl), by repeat (first | (with_reducible first | exact HB.out | apply below_alloc | apply pw_below_drewN | apply below_drew1) | exact HB.out)⟩
                     ·rw [if_neg c59] at H
                      exact absurd H (by simp)
                    ·rw [if_neg c58] at H
                     exact absurd H (by simp)
                   ·rw [if_neg c57] at H
                    exact absurd H (by simp)
                  ·rw [if_neg c56] at H
                   have c56b0 : decide (x87_5 < (t207.length : Int)) = false := decide_eq_false c56
                   clear c56
                   have H' := Aside0.mk H
                   clear H
                   go_wp2
                   repeat (go_quiet (fail); try go_wp2)
                   go_meet
                   case rel => exact ⟨_, H', ⟨by have := HJ4.out; have := HJ9.out; have := HJ16.out; have := HJ37.out; have := HK5.out; first | omega | exact Nat.le_refl _⟩, ⟨by repeat (first | (with_reducible first | exact HB.out | apply below_alloc | apply pw_below_drewN | apply below_drew1) | exact HB.out)⟩⟩
               ·rw [if_neg c52] at H
                have c52b0 : ((t207.length : Int) == (t203.length : Int)) = false := beq_eq_false_iff_ne.mpr c52
                have c52b1 : ((t207.length : Int) != (t203.length : Int)) = true := bne_iff_ne.mpr c52
                have c52b2 : (t207.length == t203.length) = false := by first | simpa using c52 | (simp at c52 ⊢; omega)
                obtain rfl := Option.some.inj H
                go_wp2_with (first | (go_at_call 12; (with_reducible refine (impl_Params.calls kj37 a1 a3 t207 _ A51.out).mono ?_); rintro e w62 ⟨v208, rfl, ho0, hb⟩; have n0_ := Aside0.mk (Kd.R_below (by (with_reducible repeat (first | apply Kd.R_alloc | apply Kd.R_drewN | apply Kd.R_drew)); exact HO206.out) hb); have n1_ := Aside0.mk (Kd.R_lower ho0 (below_size (by repeat (first | (with_reducible first | exact HB.out | apply below_alloc | apply pw_below_drewN | apply below_drew1) | exact HB.out)))); have n2_ := Aside0.mk (below_step (by repeat (first | (with_reducible first | exact HB.out | apply below_alloc | apply pw_below_drewN | apply below_drew1) | exact HB.out)) hb); clear HO206; clear HB; have HO206 := n0_; have HO209 := n1_; have HB := n2_; clear n0_ n1_ n2_; (try clear hb); (try clear hb2); (try clear hk); (try clear hi); (try clear ho0); obtain ⟨Ao63, co63, eo63⟩ := Kd.R_slice HO209.out; subst eo63; obtain ⟨Ao64, co64, eo64⟩ := Kd.R_slice HO206.out; subst eo64))
                repeat (go_quiet (first | (go_at_call 12; (with_reducible refine (impl_Params.calls kj37 a1 a3 t207 _ A51.out).mono ?_); rintro e w62 ⟨v208, rfl, ho0, hb⟩; have n0_ := Aside0.mk (Kd.R_below (by (with_reducible repeat (first | apply Kd.R_alloc | apply Kd.R_drewN | apply Kd.R_drew)); exact HO206.out) hb); have n1_ := Aside0.mk (Kd.R_lower ho0 (below_size (by repeat (first | (with_reducible first | exact HB.out | apply below_alloc | apply pw_below_drewN | apply below_drew1) | exact HB.out)))); have n2_ := Aside0.mk (below_step (by repeat (first | (with_reducible first | exact HB.out | apply below_alloc | apply pw_below_drewN | apply below_drew1) | exact HB.out)) hb); clear HO206; clear HB; have HO206 := n0_; have HO209 := n1_; have HB := n2_; clear n0_ n1_ n2_; (try clear hb); (try clear hb2); (try clear hk); (try clear hi); (try clear ho0); obtain ⟨Ao63, co63, eo63⟩ := Kd.R_slice HO209.out; subst eo63; obtain ⟨Ao64, co64, eo64⟩ := Kd.R_slice HO206.out; subst eo64)); try go_wp2_with (first | (go_at_call 12; (with_reducible refine (impl_Params.calls kj37 a1 a3 t207 _ A51.out).mono ?_); rintro e w62 ⟨v208, rfl, ho0, hb⟩; have n0_ := Aside0.mk (Kd.R_below (by (with_reducible repeat (first | apply Kd.R_alloc | apply Kd.R_drewN | apply Kd.R_drew)); exact HO206.out) hb); have n1_ := Aside0.mk (Kd.R_lower ho0 (below_size (by repeat (first | (with_reducible first | exact HB.out | apply below_alloc | apply pw_below_drewN | apply below_drew1) | exact HB.out)))); have n2_ := Aside0.mk (below_step (by repeat (first | (with_reducible first | exact HB.out | apply below_alloc | apply pw_below_drewN | apply below_drew1) | exact HB.out)) hb); clear HO206; clear HB; have HO206 := n0_; have HO209 := n1_; have HB := n2_; clear n0_ n1_ n2_; (try clear hb); (try clear hb2); (try clear hk); (try clear hi); (try clear ho0); obtain ⟨Ao63, co63, eo63⟩ := Kd.R_slice HO209.out; subst eo63; obtain ⟨Ao64, co64, eo64⟩ := Kd.R_slice HO206.out; subst eo64)))
                go_ret
                exact ⟨by first | rfl | (simp [errW_none, errW_some] <;> rfl) | (simp [*, errW_none, errW_some] <;> rfl), by repeat (first | (with_reducible first | exact HB.out | apply below_alloc | apply pw_below_drewN | apply below_drew1) | exact HB.out)⟩
              ·rw [if_neg c50] at H
               have c50b0 : (t204 == 1) = false := beq_eq_false_iff_ne.mpr c50
               have c50b1 : (t204 != 1) = true := bne_iff_ne.mpr c50
               (first | rw [c50b0] | (simp only [i64_w, i32_w]; rw [c50b0]) | skip)
               have H' := Aside0.mk H
               clear H
               go_wp2
               repeat (go_quiet (fail); try go_wp2)
               go_meet
               case rel => exact ⟨_, H', ⟨by have := HJ4.out; have := HJ9.out; have := HJ16.out; have := HJ37.out; first | omega | exact Nat.le_refl _⟩, ⟨by repeat (first | (with_reducible first | exact HB.out | apply below_alloc | apply pw_below_drewN | apply below_drew1) | exact HB.out)⟩⟩
             case rest =>
              clear HC48
              try clear c1
              try clear c2
              try clear p2
              try clear q2
              try clear hx2
              try clear c3
              try clear c4
              try clear c5
              try clear c6
              try clear c6b0
              try clear c6b1
              try clear p6
              try clear c7
              try clear c7b0
              try clear c7b1
              try clear c8
              try clear c12
              try clear c12b0
              try clear c12b1
              try clear c16
              try clear c19
              try clear c20
              try clear c20b0
              try clear p21
              try clear q21
              try clear hx21
              try clear c25
              try clear c36
              try clear c40
              try clear c40b0
              try clear c40b1
              try clear c46
              try clear c50
              try clear c50b0
              try clear c50b1
              try clear c52
              try clear c52b0
              try clear c52b1
              try clear c52b2
              try clear c56
              try clear c56b0
              try clear c57
              try clear c57b0
              try clear c58
              try clear c58b0
              try clear c59
              try clear c59b0
              try clear c60
              try clear c60b0
              try clear c60b1
              try clear c61
              try clear c61b0
              try clear c61b1
              try clear p64
              try clear hx210_0
              try clear hx210_1
              try clear hx211_0
              try clear hx211_1
              try clear hx212_0
              try clear hx212_1
              try clear hx213_0
              try clear hx213_1
              try clear p2
              try clear p210
              try clear p211
              try clear p212
              try clear p213
              try clear q210
              try clear q211
              try clear q212
              try clear q213
              obtain ⟨kq, HA, HJ47, HB⟩ := hcut
              cases kq with
              | zero => exact absurd HA.out (by simp [laws_FnNegotiationSays.j5])
              | succ kj47 =>
               have H := HA.out
               clear HA
               simp only [laws_FnNegotiationSays.j5] at H
               replace H := Option.bind_eq_some_iff.mp H
               obtain ⟨t214, A650, H⟩ := H
               replace H : ((spec_ParamsMatch.f kj47 a1 a2).bind fun t215 => ((laws_told.f t214 t215).bind fun t216 => (if t216 = true then ((impl_AcceptsOffer.f kj47 a1 a2).bind fun t217 => ((spec_AcceptsOffer.f a1 a2).bind fun t218 => (some (t217 == t218)))) else (some false)))) = some r := H
               have A65 := Aside0.mk A650
               clear A650
               replace H := Option.bind_eq_some_iff.mp H
               obtain ⟨t215, A660, H⟩ := H
               replace H : ((laws_told.f t214 t215).bind fun t216 => (if t216 = true then ((impl_AcceptsOffer.f kj47 a1 a2).bind fun t217 => ((spec_AcceptsOffer.f a1 a2).bind fun t218 => (some (t217 == t218)))) else (some false))) = some r := H
               have A66 := Aside0.mk A660
               clear A660
               replace H := Option.bind_eq_some_iff.mp H
               obtain ⟨t216, A670, H⟩ := H
               replace H : (if t216 = true then ((impl_AcceptsOffer.f kj47 a1 a2).bind fun t217 => ((spec_AcceptsOffer.f a1 a2).bind fun t218 => (some (t217 == t218)))) else (some false)) = some r := H
               have A67 := Aside0.mk A670
               clear A670
               by_cases c68 : t216 = true
               ·subst c68
                have H1 : ((impl_AcceptsOffer.f kj47 a1 a2).bind fun t217 => ((spec_AcceptsOffer.f a1 a2).bind fun t218 => (some (t217 == t218)))) = some r := by rw [if_pos rfl] at H; exact H
                clear H
                have H := H1
                clear H1
                replace H := Option.bind_eq_some_iff.mp H
                obtain ⟨t217, A690, H⟩ := H
                replace H : ((spec_AcceptsOffer.f a1 a2).bind fun t218 => (some (t217 == t218))) = some r := H
                have A69 := Aside0.mk A690
                clear A690
                replace H := Option.bind_eq_some_iff.mp H
                obtain ⟨t218, A700, H⟩ := H
                replace H : (some (t217 == t218)) = some r := H
                have A70 := Aside0.mk A700
                clear A700
                obtain rfl := Option.some.inj H
                go_wp2_with (first | (go_at_call 14; (with_reducible refine (impl_ParamsMatch.calls a1 a2 t214 _ A65.out).mono ?_); rintro e w71 ⟨rfl, hb⟩; have n0_ := Aside0.mk (below_step (by repeat (first | (with_reducible first | exact HB.out | apply below_alloc | apply pw_below_drewN | apply below_drew1) | exact HB.out)) hb); clear HB; have HB := n0_; clear n0_; (try clear hb); (try clear hb2); (try clear hk); (try clear hi)) | (go_at_call 15; (with_reducible refine (spec_ParamsMatch.calls kj47 a1 a2 t215 _ A66.out).mono ?_); rintro e w72 ⟨rfl, hb⟩; have n0_ := Aside0.mk (below_step (by repeat (first | (with_reducible first | exact HB.out | apply below_alloc | apply pw_below_drewN | apply below_drew1) | exact HB.out)) hb); clear HB; have HB := n0_; clear n0_; (try clear hb); (try clear hb2); (try clear hk); (try clear hi)) | (go_at_call 13; (with_reducible refine (laws_told.calls t214 t215 true _ A67.out).mono ?_); rintro e w' ⟨rfl, ⟨nd, rfl⟩⟩; (try first | exact ⟨rfl, _, World.drewN_drewN _ _ _⟩ | exact ⟨rfl, _, Eq.trans (World.drewN_drewN _ _ _) (congrArg (World.drewN _) (Nat.add_assoc _ _ _))⟩)) | (go_at_call 6; (with_reducible refine (impl_AcceptsOffer.calls kj47 a1 a2 t217 _ A69.out).mono ?_); rintro e w' ⟨rfl, ⟨nd, rfl⟩⟩; (try first | exact ⟨rfl, _, World.drewN_drewN _ _ _⟩ | exact ⟨rfl, _, Eq.trans (World.drewN_drewN _ _ _) (congrArg (World.drewN _) (Nat.add_assoc _ _ _))⟩)) | (go_at_call 16; (with_reducible refine (spec_AcceptsOffer.calls a1 a2 t218 _ A70.out).mono ?_); rintro e w' ⟨rfl, ⟨nd, rfl⟩⟩; (try first | exact ⟨rfl, _, World.drewN_drewN _ _ _⟩ | exact ⟨rfl, _, Eq.trans (World.drewN_drewN _ _ _) (congrArg (World.drewN _) (Nat.add_assoc _ _ _))⟩)))
                repeat (go_quiet (first | (go_at_call 14; (with_reducible refine (impl_ParamsMatch.calls a1 a2 t214 _ A65.out).mono ?_); rintro e w71 ⟨rfl, hb⟩; have n0_ := Aside0.mk (below_step (by repeat (first | (with_reducible first | exact HB.out | apply below_alloc | apply pw_below_drewN | apply below_drew1) | exact HB.out)) hb); clear HB; have HB := n0_; clear n0_; (try clear hb); (try clear hb2); (try clear hk); (try clear hi)) | (go_at_call 15; (with_reducible refine (spec_ParamsMatch.calls kj47 a1 a2 t215 _ A66.out).mono ?_); rintro e w72 ⟨rfl, hb⟩; have n0_ := Aside0.mk (below_step (by repeat (first | (with_reducible first | exact HB.out | apply below_alloc | apply pw_below_drewN | apply below_drew1) | exact HB.out)) hb); clear HB; have HB := n0_; clear n0_; (try clear hb); (try clear hb2); (try clear hk); (try clear hi)) | (go_at_call 13; (with_reducible refine (laws_told.calls t214 t215 true _ A67.out).mono ?_); rintro e w' ⟨rfl, ⟨nd, rfl⟩⟩; (try first | exact ⟨rfl, _, World.drewN_drewN _ _ _⟩ | exact ⟨rfl, _, Eq.trans (World.drewN_drewN _ _ _) (congrArg (World.drewN _) (Nat.add_assoc _ _ _))⟩)) | (go_at_call 6; (with_reducible refine (impl_AcceptsOffer.calls kj47 a1 a2 t217 _ A69.out).mono ?_); rintro e w' ⟨rfl, ⟨nd, rfl⟩⟩; (try first | exact ⟨rfl, _, World.drewN_drewN _ _ _⟩ | exact ⟨rfl, _, Eq.trans (World.drewN_drewN _ _ _) (congrArg (World.drewN _) (Nat.add_assoc _ _ _))⟩)) | (go_at_call 16; (with_reducible refine (spec_AcceptsOffer.calls a1 a2 t218 _ A70.out).mono ?_); rintro e w' ⟨rfl, ⟨nd, rfl⟩⟩; (try first | exact ⟨rfl, _, World.drewN_drewN _ _ _⟩ | exact ⟨rfl, _, Eq.trans (World.drewN_drewN _ _ _) (congrArg (World.drewN _) (Nat.add_assoc _ _ _))⟩))); try go_wp2_with (first | (go_at_call 14; (with_reducible refine (impl_ParamsMatch.calls a1 a2 t214 _ A65.out).mono ?_); rintro e w71 ⟨rfl, hb⟩; have n0_ := Aside0.mk (below_step (by repeat (first | (with_reducible first | exact HB.out | apply below_alloc | apply pw_below_drewN | apply below_drew1) | exact HB.out)) hb); clear HB; have HB := n0_; clear n0_; (try clear hb); (try clear hb2); (try clear hk); (try clear hi)) | (go_at_call 15; (with_reducible refine (spec_ParamsMatch.calls kj47 a1 a2 t215 _ A66.out).mono ?_); rintro e w72 ⟨rfl, hb⟩; have n0_ := Aside0.mk (below_step (by repeat (first | (with_reducible first | exact HB.out | apply below_alloc | apply pw_below_drewN | apply below_drew1) | exact HB.out)) hb); clear HB; have HB := n0_; clear n0_; (try clear hb); (try clear hb2); (try clear hk); (try clear hi)) | (go_at_call 13; (with_reducible refine (laws_told.calls t214 t215 true _ A67.out).mono ?_); rintro e w' ⟨rfl, ⟨nd, rfl⟩⟩; (try first | exact ⟨rfl, _, World.drewN_drewN _ _ _⟩ | exact ⟨rfl, _, Eq.trans (World.drewN_drewN _ _ _) (congrArg (World.drewN _) (Nat.add_assoc _ _ _))⟩)) | (go_at_call 6; (with_reducible refine (impl_AcceptsOffer.calls kj47 a1 a2 t217 _ A69.out).mono ?_); rintro e w' ⟨rfl, ⟨nd, rfl⟩⟩; (try first | exact ⟨rfl, _, World.drewN_drewN _ _ _⟩ | exact ⟨rfl, _, Eq.trans (World.drewN_drewN _ _ _) (congrArg (World.drewN _) (Nat.add_assoc _ _ _))⟩)) | (go_at_call 16; (with_reducible refine (spec_AcceptsOffer.calls a1 a2 t218 _ A70.out).mono ?_); rintro e w' ⟨rfl, ⟨nd, rfl⟩⟩; (try first | exact ⟨rfl, _, World.drewN_drewN _ _ _⟩ | exact ⟨rfl, _, Eq.trans (World.drewN_drewN _ _ _) (congrArg (World.drewN _) (Nat.add_assoc _ _ _))⟩))))
                go_ret
                exact ⟨by first | rfl | (simp [errW_none, errW_some] <;> rfl) | (simp [*, errW_none, errW_some] <;> rfl), by repeat (first | (with_reducible first | exact HB.out | apply below_alloc | apply pw_below_drewN | apply below_drew1) | exact HB.out)⟩
               ·replace c68 := Bool.eq_false_iff.mpr c68
                subst c68
                have H1 : (some false) = some r := by rw [if_neg (show ¬ (false = true) by decide)] at H; exact H
                clear H
                have H := H1
                clear H1
                obtain rfl := Option.some.inj H
                go_wp2_with (first | (go_at_call 14; (with_reducible refine (impl_ParamsMatch.calls a1 a2 t214 _ A65.out).mono ?_); rintro e w73 ⟨rfl, hb⟩; have n0_ := Aside0.mk (below_step (by repeat (first | (with_reducible first | exact HB.out | apply below_alloc | apply pw_below_drewN | apply below_drew1) | exact HB.out)) hb); clear HB; have HB := n0_; clear n0_; (try clear hb); (try clear hb2); (try clear hk); (try clear hi)) | (go_at_call 15; (with_reducible refine (spec_ParamsMatch.calls kj47 a1 a2 t215 _ A66.out).mono ?_); rintro e w74 ⟨rfl, hb⟩; have n0_ := Aside0.mk (below_step (by repeat (first | (with_reducible first | exact HB.out | apply below_alloc | apply pw_below_drewN | apply below_drew1) | exact HB.out)) hb); clear HB; have HB := n0_; clear n0_; (try clear hb); (try clear hb2); (try clear hk); (try clear hi)) | (go_at_call 13; (with_reducible refine (laws_told.calls t214 t215 false _ A67.out).mono ?_); rintro e w' ⟨rfl, ⟨nd, rfl⟩⟩; (try first | exact ⟨rfl, _, World.drewN_drewN _ _ _⟩ | exact ⟨rfl, _, Eq.trans (World.drewN_drewN _ _ _) (congrArg (World.drewN _) (Nat.add_assoc _ _ _))⟩)))
                repeat (go_quiet (first | (go_at_call 14; (with_reducible refine (impl_ParamsMatch.calls a1 a2 t214 _ A65.out).mono ?_); rintro e w73 ⟨rfl, hb⟩; have n0_ := Aside0.mk (below_step (by repeat (first | (with_reducible first | exact HB.out | apply below_alloc | apply pw_below_drewN | apply below_drew1) | exact HB.out)) hb); clear HB; have HB := n0_; clear n0_; (try clear hb); (try clear hb2); (try clear hk); (try clear hi)) | (go_at_call 15; (with_reducible refine (spec_ParamsMatch.calls kj47 a1 a2 t215 _ A66.out).mono ?_); rintro e w74 ⟨rfl, hb⟩; have n0_ := Aside0.mk (below_step (by repeat (first | (with_reducible first | exact HB.out | apply below_alloc | apply pw_below_drewN | apply below_drew1) | exact HB.out)) hb); clear HB; have HB := n0_; clear n0_; (try clear hb); (try clear hb2); (try clear hk); (try clear hi)) | (go_at_call 13; (with_reducible refine (laws_told.calls t214 t215 false _ A67.out).mono ?_); rintro e w' ⟨rfl, ⟨nd, rfl⟩⟩; (try first | exact ⟨rfl, _, World.drewN_drewN _ _ _⟩ | exact ⟨rfl, _, Eq.trans (World.drewN_drewN _ _ _) (congrArg (World.drewN _) (Nat.add_assoc _ _ _))⟩))); try go_wp2_with (first | (go_at_call 14; (with_reducible refine (impl_ParamsMatch.calls a1 a2 t214 _ A65.out).mono ?_); rintro e w73 ⟨rfl, hb⟩; have n0_ := Aside0.mk (below_step (by repeat (first | (with_reducible first | exact HB.out | apply below_alloc | apply pw_below_drewN | apply below_drew1) | exact HB.out)) hb); clear HB; have HB := n0_; clear n0_; (try clear hb); (try clear hb2); (try clear hk); (try clear hi)) | (go_at_call 15; (with_reducible refine (spec_ParamsMatch.calls kj47 a1 a2 t215 _ A66.out).mono ?_); rintro e w74 ⟨rfl, hb⟩; have n0_ := Aside0.mk (below_step (by repeat (first | (with_reducible first | exact HB.out | apply below_alloc | apply pw_below_drewN | apply below_drew1) | exact HB.out)) hb); clear HB; have HB := n0_; clear n0_; (try clear hb); (try clear hb2); (try clear hk); (try clear hi)) | (go_at_call 13; (with_reducible refine (laws_told.calls t214 t215 false _ A67.out).mono ?_); rintro e w' ⟨rfl, ⟨nd, rfl⟩⟩; (try first | exact ⟨rfl, _, World.drewN_drewN _ _ _⟩ | exact ⟨rfl, _, Eq.trans (World.drewN_drewN _ _ _) (congrArg (World.drewN _) (Nat.add_assoc _ _ _))⟩))))
                go_ret
                exact ⟨by first | rfl | (simp [errW_none, errW_some] <;> rfl) | (simp [*, errW_none, errW_some] <;> rfl), by repeat (first | (with_reducible first | exact HB.out | apply below_alloc | apply pw_below_drewN | apply below_drew1) | exact HB.out)⟩
def laws_FnNegotiationSays.Pure : Prop := ∀ (a0 : ByteArray) (a1 : ByteArray) (a2 : ByteArray) (a3 : Int), a0.size ≤ 140737488351232 → a1.size ≤ 140737488351232 → a2.size ≤ 140737488351232 → (Lit.int .i64 a3).wf = true → ∃ k, laws_FnNegotiationSays.f k a0 a1 a2 a3 = some true
theorem laws_FnNegotiationSays.walk (P : laws_FnNegotiationSays.Pure) (a0 : ByteArray) (a1 : ByteArray) (a2 : ByteArray) (a3 : Int) (w : World) (w0 : a0.size ≤ 140737488351232) (w1 : a1.size ≤ 140737488351232) (w2 : a2.size ≤ 140737488351232) (w3 : (Lit.int .i64 a3).wf = true) :
    Calls Try.prog 3 #[.string a0, .string a1, .string a2, .int .i64 a3] w fun e w' => e = .returned (.bool true) ∧ Below w.heap.size w w' := by
  obtain ⟨k, h⟩ := P a0 a1 a2 a3 w0 w1 w2 w3
  refine (laws_FnNegotiationSays.calls k a0 a1 a2 a3 true w h).mono ?_
  rintro e w' ⟨rfl, hd⟩
  exact ⟨rfl, hd⟩
end Go.Proofs.Ytgmjaggkiifdjaa.QA
namespace Go.Proofs.Ytgmjaggkiifdjaa.Pure
open Go.RowKit Go.Proofs.Ytgmjaggkiifdjaa.QA Go.Proofs.YtgmjaggkiifdjaaW.PrintWords Go.Proofs.YtgmjaggkiifdjaaW.PrintLast Go.Proofs.Ytgmjaggkiifdjaa.Base Go.Proofs.Ytgmjaggkiifdjaa.Given
def beg (a b : ByteArray) : Bool := decide (b.size ≤ a.size) && ((a.extract 0 b.size).toList == b.toList)
def star (a : ByteArray) : Bool := decide (1 ≤ a.size) && bt a ((a.size : Int) - 1) == 42
theorem hasPrefix_is (a b : ByteArray) : strings_HasPrefix.f a b = some (beg a b) := by
  unfold strings_HasPrefix.f stringslite_HasPrefix.f beg
  by_cases h : b.size ≤ a.size
  · rw [if_pos (by omega), if_pos (by omega), if_pos (by omega), decide_eq_true h, Int.toNat_natCast]; rfl
  · rw [if_neg (by omega), decide_eq_false h]; rfl
theorem starts_is (a b : ByteArray) : spec_starts.f a b = some (beg a b) := by
  unfold spec_starts.f beg
  by_cases h : b.size ≤ a.size
  · rw [if_pos (by omega), if_pos (by omega), decide_eq_true h, Int.toNat_natCast]; rfl
  · rw [if_neg (by omega), decide_eq_false h]; rfl
theorem accepts_ends (a b : ByteArray) (ha : a.size ≤ 140737488351232) : Ev (fun k => impl_AcceptsOffer.f k a b) (star a || beg a b) := by
  simp only [impl_AcceptsOffer.f, fiberhelpers_ZzOffer.f]
  refine Ev.bind (a := star a || beg a b) (Ev.bind (a := star a || beg a b) ?_ (Ev.now _)) (Ev.now _)
  simp only [fiberhelpers_acceptsOffer.f]
  have step : ∀ c : Bool, Ev (fun k => fiberhelpers_acceptsOffer.j0 k a b c) (c || beg a b) := fun c => by
    refine Ev.step (f := fun k => if c = true then some true else (strings_HasPrefix.f a b).bind fun t => if t = true then some true else some false) (fun k => rfl) ?_
    refine Ev.ite (fun h => Ev.val (by rw [h]; rfl)) (fun h => Ev.call (hasPrefix_is a b) ?_)
    simp only [Bool.not_eq_true] at h
    rw [h, Bool.false_or]
    refine Ev.ite (fun g => Ev.val g.symm) (fun g => Ev.val ?_)
    simp only [Bool.not_eq_true] at g
    exact g.symm
  unfold star
  refine Ev.ite (fun h => ?_) (fun h => ?_)
  · rw [show wrap64 ((a.size : Int) - 1) = (a.size : Int) - 1 from wrap_sub (by omega) (by omega), decide_eq_true (by omega), Bool.true_and]
    refine Ev.if_true (by omega) (Ev.if_true (by omega) (step _))
  · rw [decide_eq_false (by omega), Bool.false_and]
    exact step false
theorem offer_is (a b : ByteArray) (ha : a.size ≤ 140737488351232) : spec_AcceptsOffer.f a b = some (star a || beg a b) := by
  unfold spec_AcceptsOffer.f star
  rw [starts_is]
  by_cases h : a.size = 0
  · rw [if_pos ((tl_nil a).2 h), decide_eq_false (by omega), Bool.false_and]; rfl
  · rw [if_neg (fun g => h ((tl_nil a).1 g)), show wrap64 ((a.size : Int) - 1) = (a.size : Int) - 1 from wrap_sub (by omega) (by omega), if_pos (by omega), if_pos (by omega), decide_eq_true (by omega), Bool.true_and]
    by_cases g : bt a ((a.size : Int) - 1) = 42
    · rw [if_pos g, g]; rfl
    · rw [if_neg g, beq_eq_false_iff_ne.2 g]; rfl
theorem j5_ends (x1 x2 : ByteArray) (h1 : x1.size ≤ 200) (h2 : x2.size ≤ 200) : Ev (fun k => laws_FnNegotiationSays.j5 k x1 x2) true := by
  obtain ⟨r, hr, hc⟩ := specPM_ends x1 x2 (by omega) (by omega)
  have hm : impl_ParamsMatch.f x1 x2 = some (matchOf x1 x2) := by
    unfold impl_ParamsMatch.f fiberhelpers_ZzMatch.f fiberhelpers_paramsMatch.f
    rw [if_pos ⟨by omega, by omega⟩]; rfl
  have ht : laws_told.f (matchOf x1 x2) r = some true := by
    unfold laws_told.f
    by_cases g : r = 2
    · rw [if_pos g]
    · rw [if_neg g, hc.resolve_left g]; simp
  refine Ev.step (f := fun k => (impl_ParamsMatch.f x1 x2).bind fun t214 => ((spec_ParamsMatch.f k x1 x2).bind fun t215 => ((laws_told.f t214 t215).bind fun t216 => (if t216 = true then ((impl_AcceptsOffer.f k x1 x2).bind fun t217 => ((spec_AcceptsOffer.f x1 x2).bind fun t218 => (some (t217 == t218)))) else (some false))))) (fun k => by rw [laws_FnNegotiationSays.j5]) ?_
  refine Ev.call hm (Ev.bind hr (Ev.call ht (Ev.if_true rfl (Ev.bind (accepts_ends x1 x2 (by omega)) (Ev.call (offer_is x1 x2 (by omega)) (Ev.val ?_))))))
  simp
theorem rdIp_nat (l : List Ip) (i : Nat) (h : i < l.length) : rd_T36 l (i : Int) = l[i] := by
  show l.getD i z36 = l[i]
  rw [List.getD_eq_getElem?_getD, List.getElem?_eq_getElem h]; rfl
theorem l0_ends (x1 x2 : ByteArray) (h1 : x1.size ≤ 200) (h2 : x2.size ≤ 200) (L : List (ByteArray × ByteArray)) (hL : L.length ≤ 1099511627776) (d : Nat) : ∀ i : Nat, i + d = L.length →
    Ev (fun k => laws_FnNegotiationSays.l0 k x1 x2 (L.map toSp) (L.map toIp) ((L.map toIp).length : Int) (i : Int)) true := by
  have e1 : (L.map toIp).length = L.length := List.length_map ..
  have e2 : (L.map toSp).length = L.length := List.length_map ..
  induction d with
  | zero =>
    intro i hi
    have z : ¬ (i : Int) < ((L.map toIp).length : Int) := by omega
    exact Ev.step (fun k => by rw [laws_FnNegotiationSays.l0, if_neg z]) (j5_ends x1 x2 h1 h2)
  | succ d ih =>
    intro i hi
    have hlt : i < L.length := by omega
    have z1 : (i : Int) < ((L.map toIp).length : Int) := by omega
    have z2 : (0 : Int) ≤ (i : Int) := by omega
    have z3 : (i : Int) < ((L.map toSp).length : Int) := by omega
    have r0 : rd_T36 (L.map toIp) (i : Int) = toIp L[i] := by rw [rdIp_nat _ _ (by omega), List.getElem_map]
    have r1 : rd_T38 (L.map toSp) (i : Int) = toSp L[i] := by rw [rdSp_nat _ _ (by omega), List.getElem_map]
    have hw := Lib.hid (show wrap64 ((i : Int) + 1) = ((i + 1 : Nat) : Int) by rw [wrap_add (by omega) (by omega)]; rfl)
    refine Ev.step (f := fun k => laws_FnNegotiationSays.l0 k x1 x2 (L.map toSp) (L.map toIp) ((L.map toIp).length : Int) ((i + 1 : Nat) : Int)) (fun k => ?_) (ih (i + 1) (by omega))
    rw [laws_FnNegotiationSays.l0, if_pos z1, if_pos z2, if_pos z1, if_pos z3, r0, r1, if_pos (show (toIp L[i]).f0.toList = (toSp L[i]).f0.toList from rfl), if_pos (show (toIp L[i]).f1.toList = (toSp L[i]).f1.toList from rfl), hw.out]
theorem j3_ends (x1 x2 : ByteArray) (m : Int) (hm : m ≤ 50) (h1 : x1.size ≤ 200) (h2 : x2.size ≤ 200) : Ev (fun k => laws_FnNegotiationSays.j3 k x1 x2 m false) true := by
  obtain ⟨r, hr, hc⟩ := params_ends x1 m (by omega)
  refine Ev.step (f := fun k => (spec_Params.f k x1 m).bind fun bt203 => (if bt203.2 = 1 then ((impl_Params.f k x1 m).bind fun t207 => (if (t207.length : Int) = (bt203.1.length : Int) then (laws_FnNegotiationSays.l0 k x1 x2 bt203.1 t207 (t207.length : Int) 0) else (some false))) else (laws_FnNegotiationSays.j5 k x1 x2))) (fun k => by rw [laws_FnNegotiationSays.j3, if_neg (by simp)]) (Ev.bind hr ?_)
  rcases hc with c | ⟨c, _, c3⟩
  · exact Ev.if_false (by rw [c]; decide) (j5_ends x1 x2 h1 h2)
  · have hp := parL_small x1.size (ns x1) x1.size (by rw [ns_length]; exact Nat.le_refl _)
    have hl : (takeM m 0 (parL x1.size (ns x1))).length ≤ 200 := by
      unfold takeM
      split
      · omega
      · rw [List.length_take]; omega
    refine Ev.if_true c (Ev.bind (implParams_ends x1 m (by omega) hm (by omega)) ?_)
    rw [c3]
    refine Ev.if_true (by rw [List.length_map, List.length_map]) ?_
    exact l0_ends x1 x2 h1 h2 (takeM m 0 (parL x1.size (ns x1))) (by omega) (takeM m 0 (parL x1.size (ns x1))).length 0 (by omega)
theorem rangesF_len (dq : Bool) : ∀ (f : Nat) (h : List Int), (rangesF dq f h).length ≤ f
  | 0, _ => Nat.le_refl _
  | f + 1, h => by
    rw [rangesF]
    split
    · simp
    · rw [List.length_cons]
      split
      · simp
      · have := rangesF_len dq f ((ltrim h).drop (cutAt dq (ltrim h) + 1)); omega
theorem ranges_len (x : ByteArray) (h : x.size ≤ 200) : (rangesOf (ns x)).length ≤ 4611686018427387904 := by
  unfold rangesOf
  rw [List.length_map]
  have := rangesF_len (decide (idx (ns x) 34 ≠ -1)) (ns x).length (ns x)
  rw [ns_length] at this
  rw [ns_length]
  omega
theorem j2_ends (x0 x1 x2 : ByteArray) (m : Int) (hm : m ≤ 50) (h0 : x0.size ≤ 200) (h1 : x1.size ≤ 200) (h2 : x2.size ≤ 200) : Ev (fun k => laws_FnNegotiationSays.j2 k x0 x1 x2 m false) true := by
  obtain ⟨r, hr, hc⟩ := media_ends x0 (by omega)
  refine Ev.step (f := fun k => (spec_MediaRanges.f k x0).bind fun bt195 => (if bt195.2 = 1 then ((impl_MediaRanges.f x0).bind fun t199 => ((laws_sameTexts.f k t199 bt195.1).bind fun t202 => (laws_FnNegotiationSays.j3 k x1 x2 m (!t202)))) else (laws_FnNegotiationSays.j3 k x1 x2 m false))) (fun k => by rw [laws_FnNegotiationSays.j2, if_neg (by simp)]) (Ev.bind hr ?_)
  rcases hc with c | ⟨c, c3⟩
  · exact Ev.if_false (by rw [c]; decide) (j3_ends x1 x2 m hm h1 h2)
  · have hi : impl_MediaRanges.f x0 = some (rangesOf (ns x0)) := by unfold impl_MediaRanges.f; rw [if_pos (by omega)]
    have hs := sameTexts_ends (rangesOf (ns x0)) r.1 (ranges_len x0 h0)
    rw [decide_eq_true c3.symm] at hs
    exact Ev.if_true c (Ev.call hi (Ev.bind hs (j3_ends x1 x2 m hm h1 h2)))
theorem FnNegotiationSays : laws_FnNegotiationSays.Pure := by
  intro a0 a1 a2 a3 w0 w1 w2 w3
  refine Ev.rounds ?_
  simp only [laws_FnNegotiationSays.f]
  have s0 : Ev (fun k => laws_FnNegotiationSays.j0 k a0 a1 a2 a3 true) true := Ev.step (f := fun _ => some true) (fun k => by rw [laws_FnNegotiationSays.j0, if_pos rfl]) (Ev.now _)
  refine Ev.ite (fun _ => s0) (fun _ => Ev.ite (fun _ => s0) (fun _ => ?_))
  by_cases hz : (a2.size : Int) > 2147483647
  · rw [decide_eq_true hz]; exact s0
  rw [decide_eq_false hz]
  have m0 : ∃ l, impl_MediaRanges.f (⟨#[97, 47, 98, 44, 32, 99, 47, 100]⟩ : ByteArray) = some l ∧ l.length = 2 := ⟨_, by unfold impl_MediaRanges.f; rw [if_pos (by decide)], by decide +kernel⟩
  obtain ⟨l, hl, hl2⟩ := m0
  have ac := accepts_ends (⟨#[97]⟩ : ByteArray) (⟨#[97]⟩ : ByteArray) (by decide)
  rw [show (star (⟨#[97]⟩ : ByteArray) || beg (⟨#[97]⟩ : ByteArray) (⟨#[97]⟩ : ByteArray)) = true by decide +kernel] at ac
  refine Ev.step (f := fun k => (impl_MediaRanges.f (⟨#[97, 47, 98, 44, 32, 99, 47, 100]⟩ : ByteArray)).bind fun t185 => (if (t185.length : Int) = 2 then ((impl_AcceptsOffer.f k (⟨#[97]⟩ : ByteArray) (⟨#[97]⟩ : ByteArray)).bind fun t188 => (laws_FnNegotiationSays.j1 k a0 a1 a2 a3 (!t188))) else (laws_FnNegotiationSays.j1 k a0 a1 a2 a3 true))) (fun k => by rw [laws_FnNegotiationSays.j0, if_neg (by simp)]) ?_
  refine Ev.call hl (Ev.if_true (by omega) (Ev.bind ac ?_))
  have s2 : Ev (fun k => laws_FnNegotiationSays.j2 k a0 a1 a2 a3 true) true := Ev.step (f := fun _ => some true) (fun k => by rw [laws_FnNegotiationSays.j2, if_pos rfl]) (Ev.now _)
  refine Ev.step (f := fun k => (laws_short.f k (([a0, a1, a2] : List ByteArray))).bind fun t192 => (if t192 = true then (if a3 > 50 then (laws_FnNegotiationSays.j2 k a0 a1 a2 a3 true) else ((laws_holds.f k a1 9).bind fun t193 => (if t193 = true then (laws_FnNegotiationSays.j2 k a0 a1 a2 a3 true) else ((laws_holds.f k a2 9).bind fun t194 => (laws_FnNegotiationSays.j2 k a0 a1 a2 a3 t194))))) else (laws_FnNegotiationSays.j2 k a0 a1 a2 a3 true))) (fun k => by rw [laws_FnNegotiationSays.j1, if_neg (by simp)]) ?_
  refine Ev.bind (short_ends [a0, a1, a2] (by simp)) (Ev.ite (fun hs => ?_) (fun _ => s2))
  obtain ⟨_, hm⟩ := areShort_mem hs
  have h0 := hm a0 (by simp)
  have h1 := hm a1 (by simp)
  have h2 := hm a2 (by simp)
  refine Ev.ite (fun _ => s2) (fun h50 => Ev.bind (holds_ends a1 9 (by omega)) (Ev.ite (fun _ => s2) (fun _ => Ev.bind (holds_ends a2 9 (by omega)) ?_)))
  cases (ns a2).any fun x => decide (x = 9) with
  | true => exact s2
  | false => exact j2_ends a0 a1 a2 a3 (by omega) h0 h1 h2
end Go.Proofs.Ytgmjaggkiifdjaa.Pure
