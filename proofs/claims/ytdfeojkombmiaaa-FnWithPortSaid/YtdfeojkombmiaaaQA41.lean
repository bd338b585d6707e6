/- Printed by wip/pr.py (a program of this repo over the print program of the kit). Not trusted: Lean checks it. -/
import Derived.Test.YtdfeojkombmiaaaQA0
import Derived.Test.YtdfeojkombmiaaaQA2
import Derived.Test.YtdfeojkombmiaaaQA40
namespace Go.Proofs.Ytdfeojkombmiaaa.QA
open Go.Proofs.Ytdfeojkombmiaaa.Given
open Go.Proofs.Ytdfeojkombmiaaa.PrX
open Go.RowKit Go.Proofs.YtdfeojkombmiaaaW.PrintWords Go.Proofs.YtdfeojkombmiaaaW.PrintLast Go.Proofs.YtdfeojkombmiaaaW.PrintMore
attribute [local go_sem] max2_int min2_int max_two min_two max_three min_three max_four min_four   -- for this text's walks alone
set_option linter.unusedVariables false
set_option linter.unusedSimpArgs false

/-! ### laws_FnWithPort: function 6 -/
mutual
def laws_FnWithPort.j0 : Nat → ByteArray → Int → Bool → Bool → Option (Bool)
  | 0, _, _, _, _ => none
  | k + 1, x0, x1, x2, x25 => if x25 = true then (some true) else (if x0.size + 3 ≤ 9223372036854775807 then (if x2 = true then (if x0.size + 4 ≤ 9223372036854775807 then (laws_FnWithPort.j1 k x0 x1 x2 (x0 ++ (⟨#[58, 52, 52, 51]⟩ : ByteArray))) else (none)) else (laws_FnWithPort.j1 k x0 x1 x2 (x0 ++ (⟨#[58, 56, 48]⟩ : ByteArray)))) else (none))
def laws_FnWithPort.j1 : Nat → ByteArray → Int → Bool → ByteArray → Option (Bool)
  | 0, _, _, _, _ => none
  | k + 1, x0, x1, x2, x7 => if x0.size + 1 ≤ 9223372036854775807 then ((laws_decimal.f k x1).bind fun t281 => (if (x0 ++ (⟨#[58]⟩ : ByteArray)).size + t281.size ≤ 9223372036854775807 then ((impl_WithPort.f x0 x2).bind fun t282 => (if t282.toList = x7.toList then ((impl_WithPort.f ((x0 ++ (⟨#[58]⟩ : ByteArray)) ++ t281) x2).bind fun t283 => (if t283.toList = ((x0 ++ (⟨#[58]⟩ : ByteArray)) ++ t281).toList then ((impl_WithPort.f x7 x2).bind fun t284 => (some (t284.toList == x7.toList))) else (some false))) else (some false))) else (none))) else (none)
end
def laws_FnWithPort.f (k : Nat) (a0 : ByteArray) (a1 : Int) (a2 : Bool) : Option (Bool) := if (a0.size : Int) > 2147483647 then (some true) else ((impl_WithPort.f (⟨#[97]⟩ : ByteArray) false).bind fun t276 => (if t276.toList = ([97, 58, 56, 48] : List UInt8) then ((laws_words.f k (([a0] : List ByteArray))).bind fun t280 => (if t280 = true then (if a1 < 1 then (laws_FnWithPort.j0 k a0 a1 a2 true) else (laws_FnWithPort.j0 k a0 a1 a2 (decide (a1 > 65535)))) else (laws_FnWithPort.j0 k a0 a1 a2 true))) else (some false)))
theorem laws_FnWithPort.mono_l : ∀ k, (∀ y0 y1 y2 y3, LeO (laws_FnWithPort.j0 k y0 y1 y2 y3) (laws_FnWithPort.j0 (k + 1) y0 y1 y2 y3)) ∧ (∀ y0 y1 y2 y3, LeO (laws_FnWithPort.j1 k y0 y1 y2 y3) (laws_FnWithPort.j1 (k + 1) y0 y1 y2 y3))
  | 0 => ⟨fun _ _ _ _ r h => by simp [laws_FnWithPort.j0] at h, fun _ _ _ _ r h => by simp [laws_FnWithPort.j1] at h⟩
  | k + 1 => by
    obtain ⟨ih0, ih1⟩ := laws_FnWithPort.mono_l k
    refine ⟨?_, ?_⟩
    · intro y0 y1 y2 y3
      unfold laws_FnWithPort.j0
      repeat' first
      | (with_reducible exact ih0 _ _ _ _)
      | (with_reducible exact ih1 _ _ _ _)
      | (with_reducible exact laws_decimal.mono _ _)
      | (with_reducible exact laws_words.mono _ _)
      | (with_reducible exact LeO.refl _)
      | (with_reducible exact LeO.none _)
      | (with_reducible refine LeO.ite ?_ ?_)
      | (with_reducible refine LeO.bind ?_ (fun _ => ?_))
      | exact ih0 _ _ _ _
      | exact ih1 _ _ _ _
      | exact laws_decimal.mono _ _
      | exact laws_words.mono _ _
      | exact LeO.none _
      | refine LeO.ite ?_ ?_
      | refine LeO.bind ?_ (fun _ => ?_)
    · intro y0 y1 y2 y3
      unfold laws_FnWithPort.j1
      repeat' first
      | (with_reducible exact ih0 _ _ _ _)
      | (with_reducible exact ih1 _ _ _ _)
      | (with_reducible exact laws_decimal.mono _ _)
      | (with_reducible exact laws_words.mono _ _)
      | (with_reducible exact LeO.refl _)
      | (with_reducible exact LeO.none _)
      | (with_reducible refine LeO.ite ?_ ?_)
      | (with_reducible refine LeO.bind ?_ (fun _ => ?_))
      | exact ih0 _ _ _ _
      | exact ih1 _ _ _ _
      | exact laws_decimal.mono _ _
      | exact laws_words.mono _ _
      | exact LeO.none _
      | refine LeO.ite ?_ ?_
      | refine LeO.bind ?_ (fun _ => ?_)
theorem laws_FnWithPort.mono : ∀ a0 a1 a2 k, LeO (laws_FnWithPort.f k a0 a1 a2) (laws_FnWithPort.f (k + 1) a0 a1 a2) := by
  intro a0 a1 a2 k
  obtain ⟨ih0, ih1⟩ := laws_FnWithPort.mono_l k
  unfold laws_FnWithPort.f
  repeat' first
      | (with_reducible exact ih0 _ _ _ _)
      | (with_reducible exact ih1 _ _ _ _)
      | (with_reducible exact laws_decimal.mono _ _)
      | (with_reducible exact laws_words.mono _ _)
      | (with_reducible exact LeO.refl _)
      | (with_reducible exact LeO.none _)
      | (with_reducible refine LeO.ite ?_ ?_)
      | (with_reducible refine LeO.bind ?_ (fun _ => ?_))
      | exact ih0 _ _ _ _
      | exact ih1 _ _ _ _
      | exact laws_decimal.mono _ _
      | exact laws_words.mono _ _
      | exact LeO.none _
      | refine LeO.ite ?_ ?_
      | refine LeO.bind ?_ (fun _ => ?_)
set_option maxHeartbeats 8000000 in
set_option maxRecDepth 100000 in
theorem laws_FnWithPort.calls (k : Nat) (a0 : ByteArray) (a1 : Int) (a2 : Bool) (r : Bool) (w : World) (h : laws_FnWithPort.f k a0 a1 a2 = some r) :
    Calls Try.prog 6 #[.string a0, .int .i64 a1, .bool a2] w fun e w' => e = .returned (.bool r) ∧ Below w.heap.size w w' := by
  have HB := Aside0.mk (Below.refl w.heap.size w)
  have H : (if (a0.size : Int) > 2147483647 then (some true) else ((impl_WithPort.f (⟨#[97]⟩ : ByteArray) false).bind fun t276 => (if t276.toList = ([97, 58, 56, 48] : List UInt8) then ((laws_words.f k (([a0] : List ByteArray))).bind fun t280 => (if t280 = true then (if a1 < 1 then (laws_FnWithPort.j0 k a0 a1 a2 true) else (laws_FnWithPort.j0 k a0 a1 a2 (decide (a1 > 65535)))) else (laws_FnWithPort.j0 k a0 a1 a2 true))) else (some false)))) = some r := h
  clear h
  by_cases c4 : (a0.size : Int) > 2147483647
  · rw [if_pos c4] at H
    have c4b0 : decide (2147483647 < (a0.size : Int)) = true := decide_eq_true c4
    have c4b1 : decide (2147483647 < a0.size) = true := decide_eq_true (by omega)
    clear c4
    obtain rfl := Option.some.inj H
    go_enter Try.func6, Try.ntmps6
    go_wp2
    go_ret
    exact ⟨by first | rfl | (simp [errW_none, errW_some] <;> rfl) | (simp [*, errW_none, errW_some] <;> rfl), by repeat (first | (with_reducible first | exact HB.out | apply below_alloc | apply pw_below_drewN | apply below_drew1) | exact HB.out)⟩
  · rw [if_neg c4] at H
    have c4b0 : decide (2147483647 < (a0.size : Int)) = false := decide_eq_false c4
    have c4b1 : decide (2147483647 < a0.size) = false := decide_eq_false (by omega)
    clear c4
    replace H := Option.bind_eq_some_iff.mp H
    obtain ⟨t276, A50, H⟩ := H
    replace H : (if t276.toList = ([97, 58, 56, 48] : List UInt8) then ((laws_words.f k (([a0] : List ByteArray))).bind fun t280 => (if t280 = true then (if a1 < 1 then (laws_FnWithPort.j0 k a0 a1 a2 true) else (laws_FnWithPort.j0 k a0 a1 a2 (decide (a1 > 65535)))) else (laws_FnWithPort.j0 k a0 a1 a2 true))) else (some false)) = some r := H
    have A5 := Aside0.mk A50
    clear A50
    by_cases c6 : t276.toList = ([97, 58, 56, 48] : List UInt8)
    · rw [if_pos c6] at H
      have c6b0 : (t276.toList == ([97, 58, 56, 48] : List UInt8)) = true := beq_iff_eq.mpr c6
      have c6b1 : (t276.toList != ([97, 58, 56, 48] : List UInt8)) = false := bne_eq_false_iff_eq.mpr c6
      clear c6
      have HC7 := Aside0.mk H
      clear H
      go_enter Try.func6, Try.ntmps6
      go_upto_region 5 with (first | ((with_reducible refine gate_callee (f := 19) rfl ?_); refine goesL_ (some 12) rfl rfl Try.func19 (by kernel_rfl) rfl #[.string (⟨#[97]⟩ : ByteArray), .bool false] rfl (by (try simp only [List.map_toArray, List.map_cons, List.map_nil]); first | done | rfl | (simp only [List.length_drop, List.length_take]; rfl)) ?_; (with_reducible refine (impl_WithPort.calls (⟨#[97]⟩ : ByteArray) false t276 _ A5.out).mono ?_); rintro e w' ⟨rfl, ⟨nd, rfl⟩⟩; refine ⟨_, rfl, ?_⟩))
      (try simp only [Act.put, List.setIfInBounds_toArray, List.set_cons_zero, List.set_cons_succ])
      go_cut [25] (fun v25 wc => ∃ (kq : Nat) (x25_6 : Bool), v25 = .bool x25_6 ∧ Aside0 (laws_FnWithPort.j0 kq a0 a1 a2 x25_6 = some r) ∧ Aside0 (kq ≤ k) ∧ Aside0 (Below w.heap.size w wc))
      case first =>
        have H := HC7.out
        clear HC7
        obtain ⟨y277, hy277⟩ : ∃ y_ : List ByteArray, y_ = (([a0] : List ByteArray)) := ⟨_, rfl⟩
        replace H : ((laws_words.f k y277).bind fun t280 => (if t280 = true then (if a1 < 1 then (laws_FnWithPort.j0 k a0 a1 a2 true) else (laws_FnWithPort.j0 k a0 a1 a2 (decide (a1 > 65535)))) else (laws_FnWithPort.j0 k a0 a1 a2 true))) = some r := by first | (rw [hy277]; with_reducible exact H) | (have H2_ := (Option.bind_some _ _).symm.trans H; rw [hy277]; with_reducible exact H2_) | (have H2_ := (Option.bind_some _ _).symm.trans H; with_reducible exact H2_) | with_reducible exact H | (rw [hy277]; exact H) | exact H
        have Ny277 := Aside0.mk hy277
        clear hy277
        replace H := Option.bind_eq_some_iff.mp H
        obtain ⟨t280, A80, H⟩ := H
        replace H : (if t280 = true then (if a1 < 1 then (laws_FnWithPort.j0 k a0 a1 a2 true) else (laws_FnWithPort.j0 k a0 a1 a2 (decide (a1 > 65535)))) else (laws_FnWithPort.j0 k a0 a1 a2 true)) = some r := H
        have A8 := Aside0.mk A80
        clear A80
        by_cases c9 : t280 = true
        · subst c9
          have H1 : (if a1 < 1 then (laws_FnWithPort.j0 k a0 a1 a2 true) else (laws_FnWithPort.j0 k a0 a1 a2 (decide (a1 > 65535)))) = some r := by rw [if_pos rfl] at H; exact H
          clear H
          have H := H1
          clear H1
          by_cases c10 : a1 < 1
          · rw [if_pos c10] at H
            have c10b0 : decide (a1 < 1) = true := decide_eq_true c10
            clear c10
            (first | rw [c10b0] | (simp only [i64_w, i32_w]; rw [c10b0]) | skip)
            have H' := Aside0.mk H
            clear H
            go_wp2_with (first | ((with_reducible refine gate_dst (N := 15) rfl ?_); refine Kd.R_lit Kd.string _ 9 ?hg (N := 15) ?hd (xs := ([a0] : List ByteArray)) (inner := [.string a0]) (ok := fun _ => True) (okp := fun _ => True) ?hr ?hp (fun _ hk => hk) trivial (Below.refl _ _) (Nat.le_refl _) (by simp) ?_; (case hd => rfl); (case hg => rfl); (case hr => first | (go_simp; done) | (go_simp; rfl)); (case hp => exact (Reps.one (show Kd.M Kd.string _ _ _ a0 [.string a0] from rfl) (Reps.none _ _))); intro v278 w11 ho12 hb hg_ hnew_; clear hg_ hnew_; (first | rw [← Ny277.out] at ho12 | (simp only [Int.reduceToNat] at ho12; rw [← Ny277.out] at ho12)); have n0_ := Aside0.mk (Kd.R_lower ho12 (below_size (by repeat (first | (with_reducible first | exact HB.out | apply below_alloc | apply pw_below_drewN | apply below_drew1) | exact HB.out)))); have n1_ := Aside0.mk (below_step (by repeat (first | (with_reducible first | exact HB.out | apply below_alloc | apply pw_below_drewN | apply below_drew1) | exact HB.out)) hb); clear HB; have HO279 := n0_; have HB := n1_; clear n0_ n1_; clear hb ho12; obtain ⟨Ao13, co13, eo13⟩ := Kd.R_slice HO279.out; subst eo13) | ((with_reducible refine gate_callee (f := 14) rfl ?_); refine goesL_ (some 16) rfl rfl Try.func14 (by kernel_rfl) rfl #[.slice Ao13 y277.length co13] rfl (by (try simp only [List.map_toArray, List.map_cons, List.map_nil]); first | done | rfl | (simp only [List.length_drop, List.length_take]; rfl)) ?_; (with_reducible refine (laws_words.calls k _ _ y277 true _ ?side1 ?side2 A8.out).mono ?_); (case side1 => repeat (first | exact (Kd.R_reads' HO279.out).2.2 | (with_reducible refine Kd.C_alloc ?_ _) | (with_reducible refine Kd.C_drewN ?_ _) | (with_reducible refine Kd.C_drew ?_))); (case side2 => exact (Kd.R_reads' HO279.out).2.1); rintro e w' ⟨rfl, ⟨nd, rfl⟩⟩; refine ⟨_, rfl, ?_⟩))
            go_meet
            case rel => exact ⟨_, (true), (by first | rfl | (simp; done) | (rw [prx_ne]; first | done | rfl) | (simp [*]; done)), H', ⟨by first | omega | exact Nat.le_refl _⟩, ⟨by repeat (first | (with_reducible first | exact HB.out | apply below_alloc | apply pw_below_drewN | apply below_drew1) | exact HB.out)⟩⟩
          · rw [if_neg c10] at H
            have c10b0 : decide (a1 < 1) = false := decide_eq_false c10
            clear c10
            (first | rw [c10b0] | (simp only [i64_w, i32_w]; rw [c10b0]) | skip)
            have H' := Aside0.mk H
            clear H
            go_wp2_with (first | ((with_reducible refine gate_dst (N := 15) rfl ?_); refine Kd.R_lit Kd.string _ 9 ?hg (N := 15) ?hd (xs := ([a0] : List ByteArray)) (inner := [.string a0]) (ok := fun _ => True) (okp := fun _ => True) ?hr ?hp (fun _ hk => hk) trivial (Below.refl _ _) (Nat.le_refl _) (by simp) ?_; (case hd => rfl); (case hg => rfl); (case hr => first | (go_simp; done) | (go_simp; rfl)); (case hp => exact (Reps.one (show Kd.M Kd.string _ _ _ a0 [.string a0] from rfl) (Reps.none _ _))); intro v278 w14 ho15 hb hg_ hnew_; clear hg_ hnew_; (first | rw [← Ny277.out] at ho15 | (simp only [Int.reduceToNat] at ho15; rw [← Ny277.out] at ho15)); have n0_ := Aside0.mk (Kd.R_lower ho15 (below_size (by repeat (first | (with_reducible first | exact HB.out | apply below_alloc | apply pw_below_drewN | apply below_drew1) | exact HB.out)))); have n1_ := Aside0.mk (below_step (by repeat (first | (with_reducible first | exact HB.out | apply below_alloc | apply pw_below_drewN | apply below_drew1) | exact HB.out)) hb); clear HB; have HO279 := n0_; have HB := n1_; clear n0_ n1_; clear hb ho15; obtain ⟨Ao16, co16, eo16⟩ := Kd.R_slice HO279.out; subst eo16) | ((with_reducible refine gate_callee (f := 14) rfl ?_); refine goesL_ (some 16) rfl rfl Try.func14 (by kernel_rfl) rfl #[.slice Ao16 y277.length co16] rfl (by (try simp only [List.map_toArray, List.map_cons, List.map_nil]); first | done | rfl | (simp only [List.length_drop, List.length_take]; rfl)) ?_; (with_reducible refine (laws_words.calls k _ _ y277 true _ ?side1 ?side2 A8.out).mono ?_); (case side1 => repeat (first | exact (Kd.R_reads' HO279.out).2.2 | (with_reducible refine Kd.C_alloc ?_ _) | (with_reducible refine Kd.C_drewN ?_ _) | (with_reducible refine Kd.C_drew ?_))); (case side2 => exact (Kd.R_reads' HO279.out).2.1); rintro e w' ⟨rfl, ⟨nd, rfl⟩⟩; refine ⟨_, rfl, ?_⟩))
            go_meet
            case rel => exact ⟨_, (decide (a1 > 65535)), (by first | rfl | (simp; done) | (rw [prx_ne]; first | done | rfl) | (simp [*]; done)), H', ⟨by first | omega | exact Nat.le_refl _⟩, ⟨by repeat (first | (with_reducible first | exact HB.out | apply below_alloc | apply pw_below_drewN | apply below_drew1) | exact HB.out)⟩⟩
        · replace c9 := Bool.eq_false_iff.mpr c9
          subst c9
          have H1 : (laws_FnWithPort.j0 k a0 a1 a2 true) = some r := by rw [if_neg (show ¬ (false = true) by decide)] at H; exact H
          clear H
          have H := H1
          clear H1
          have H' := Aside0.mk H
          clear H
          go_wp2_with (first | ((with_reducible refine gate_dst (N := 15) rfl ?_); refine Kd.R_lit Kd.string _ 9 ?hg (N := 15) ?hd (xs := ([a0] : List ByteArray)) (inner := [.string a0]) (ok := fun _ => True) (okp := fun _ => True) ?hr ?hp (fun _ hk => hk) trivial (Below.refl _ _) (Nat.le_refl _) (by simp) ?_; (case hd => rfl); (case hg => rfl); (case hr => first | (go_simp; done) | (go_simp; rfl)); (case hp => exact (Reps.one (show Kd.M Kd.string _ _ _ a0 [.string a0] from rfl) (Reps.none _ _))); intro v278 w17 ho18 hb hg_ hnew_; clear hg_ hnew_; (first | rw [← Ny277.out] at ho18 | (simp only [Int.reduceToNat] at ho18; rw [← Ny277.out] at ho18)); have n0_ := Aside0.mk (Kd.R_lower ho18 (below_size (by repeat (first | (with_reducible first | exact HB.out | apply below_alloc | apply pw_below_drewN | apply below_drew1) | exact HB.out)))); have n1_ := Aside0.mk (below_step (by repeat (first | (with_reducible first | exact HB.out | apply below_alloc | apply pw_below_drewN | apply below_drew1) | exact HB.out)) hb); clear HB; have HO279 := n0_; have HB := n1_; clear n0_ n1_; clear hb ho18; obtain ⟨Ao19, co19, eo19⟩ := Kd.R_slice HO279.out; subst eo19) | ((with_reducible refine gate_callee (f := 14) rfl ?_); refine goesL_ (some 16) rfl rfl Try.func14 (by kernel_rfl) rfl #[.slice Ao19 y277.length co19] rfl (by (try simp only [List.map_toArray, List.map_cons, List.map_nil]); first | done | rfl | (simp only [List.length_drop, List.length_take]; rfl)) ?_; (with_reducible refine (laws_words.calls k _ _ y277 false _ ?side1 ?side2 A8.out).mono ?_); (case side1 => repeat (first | exact (Kd.R_reads' HO279.out).2.2 | (with_reducible refine Kd.C_alloc ?_ _) | (with_reducible refine Kd.C_drewN ?_ _) | (with_reducible refine Kd.C_drew ?_))); (case side2 => exact (Kd.R_reads' HO279.out).2.1); rintro e w' ⟨rfl, ⟨nd, rfl⟩⟩; refine ⟨_, rfl, ?_⟩))
          go_meet
          case rel => exact ⟨_, (true), (by first | rfl | (simp; done) | (rw [prx_ne]; first | done | rfl) | (simp [*]; done)), H', ⟨by first | omega | exact Nat.le_refl _⟩, ⟨by repeat (first | (with_reducible first | exact HB.out | apply below_alloc | apply pw_below_drewN | apply below_drew1) | exact HB.out)⟩⟩
      case rest =>
        clear HC7
        try clear c1
        try clear p2
        try clear c4
        try clear c4b0
        try clear c4b1
        try clear c6
        try clear c6b0
        try clear c6b1
        try clear c9
        try clear c10
        try clear c10b0
        try clear c14
        try clear c19
        obtain ⟨kq, x25_6, rfl, HA, HJ6, HB⟩ := hcut
        cases kq with
        | zero => exact absurd HA.out (by simp [laws_FnWithPort.j0])
        | succ kj6 =>
          have H := HA.out
          clear HA
          simp only [laws_FnWithPort.j0] at H
          by_cases c20 : x25_6 = true
          · subst c20
            have H1 : (some true) = some r := by rw [if_pos rfl] at H; exact H
            clear H
            have H := H1
            clear H1
            obtain rfl := Option.some.inj H
            go_wp2
            go_ret
            exact ⟨by first | rfl | (simp [errW_none, errW_some] <;> rfl) | (simp [*, errW_none, errW_some] <;> rfl), by repeat (first | (with_reducible first | exact HB.out | apply below_alloc | apply pw_below_drewN | apply below_drew1) | exact HB.out)⟩
          · replace c20 := Bool.eq_false_iff.mpr c20
            subst c20
            have H1 : (if a0.size + 3 ≤ 9223372036854775807 then (if a2 = true then (if a0.size + 4 ≤ 9223372036854775807 then (laws_FnWithPort.j1 kj6 a0 a1 a2 (a0 ++ (⟨#[58, 52, 52, 51]⟩ : ByteArray))) else (none)) else (laws_FnWithPort.j1 kj6 a0 a1 a2 (a0 ++ (⟨#[58, 56, 48]⟩ : ByteArray)))) else (none)) = some r := by rw [if_neg (show ¬ (false = true) by decide)] at H; exact H
            clear H
            have H := H1
            clear H1
            by_cases c21 : a0.size + 3 ≤ 9223372036854775807
            · rw [if_pos c21] at H
              have c21b0 := eq_true c21
              have c21b1 : decide (a0.size + 3 ≤ 9223372036854775807) = true := decide_eq_true c21
              try have c21b2 : (9223372036854775807 < a0.size + 3) = False := eq_false (Nat.not_lt.2 c21)
              try (have c21b3 := c21; simp only [ByteArray.size_append, prx_sz, List.length_cons, List.length_nil] at c21b3)
              have HC22 := Aside0.mk H
              clear H
              go_upto_if 28 with (fail)
              go_cut [7] (fun v7 wc => ∃ (kq : Nat) (x7_21 : ByteArray), v7 = .string x7_21 ∧ Aside0 (laws_FnWithPort.j1 kq a0 a1 a2 x7_21 = some r) ∧ Aside0 (kq ≤ kj6) ∧ Aside0 (Below w.heap.size w wc))
              case first =>
                have H := HC22.out
                clear HC22
                by_cases c23 : a2 = true
                · subst c23
                  have H1 : (if a0.size + 4 ≤ 9223372036854775807 then (laws_FnWithPort.j1 kj6 a0 a1 true (a0 ++ (⟨#[58, 52, 52, 51]⟩ : ByteArray))) else (none)) = some r := by rw [if_pos rfl] at H; exact H
                  clear H
                  have H := H1
                  clear H1
                  by_cases c24 : a0.size + 4 ≤ 9223372036854775807
                  · rw [if_pos c24] at H
                    have c24b0 := eq_true c24
                    have c24b1 : decide (a0.size + 4 ≤ 9223372036854775807) = true := decide_eq_true c24
                    try have c24b2 : (9223372036854775807 < a0.size + 4) = False := eq_false (Nat.not_lt.2 c24)
                    try (have c24b3 := c24; simp only [ByteArray.size_append, prx_sz, List.length_cons, List.length_nil] at c24b3)
                    have H' := Aside0.mk H
                    clear H
                    go_wp2
                    go_meet
                    case rel => exact ⟨_, (a0 ++ (⟨#[58, 52, 52, 51]⟩ : ByteArray)), (by first | rfl | (simp; done) | (rw [prx_ne]; first | done | rfl) | (simp [*]; done)), H', ⟨by have := HJ6.out; first | omega | exact Nat.le_refl _⟩, ⟨by repeat (first | (with_reducible first | exact HB.out | apply below_alloc | apply pw_below_drewN | apply below_drew1) | exact HB.out)⟩⟩
                  · rw [if_neg c24] at H
                    exact absurd H (by simp)
                · replace c23 := Bool.eq_false_iff.mpr c23
                  subst c23
                  have H1 : (laws_FnWithPort.j1 kj6 a0 a1 false (a0 ++ (⟨#[58, 56, 48]⟩ : ByteArray))) = some r := by rw [if_neg (show ¬ (false = true) by decide)] at H; exact H
                  clear H
                  have H := H1
                  clear H1
                  have H' := Aside0.mk H
                  clear H
                  go_wp2
                  go_meet
                  case rel => exact ⟨_, (a0 ++ (⟨#[58, 56, 48]⟩ : ByteArray)), (by first | rfl | (simp; done) | (rw [prx_ne]; first | done | rfl) | (simp [*]; done)), H', ⟨by have := HJ6.out; first | omega | exact Nat.le_refl _⟩, ⟨by repeat (first | (with_reducible first | exact HB.out | apply below_alloc | apply pw_below_drewN | apply below_drew1) | exact HB.out)⟩⟩
              case rest =>
                clear HC22
                try clear c1
                try clear c2
                try clear p2
                try clear c4
                try clear c4b0
                try clear c4b1
                try clear c6
                try clear c6b0
                try clear c6b1
                try clear c9
                try clear c10
                try clear c10b0
                try clear c14
                try clear c19
                try clear c20
                try clear c21
                try clear c21b0
                try clear c21b1
                try clear c21b2
                try clear c23
                try clear c24
                try clear c24b0
                try clear c24b1
                try clear c24b2
                try clear p2
                obtain ⟨kq, x7_21, rfl, HA, HJ21, HB⟩ := hcut
                cases kq with
                | zero => exact absurd HA.out (by simp [laws_FnWithPort.j1])
                | succ kj21 =>
                  have H := HA.out
                  clear HA
                  simp only [laws_FnWithPort.j1] at H
                  by_cases c25 : a0.size + 1 ≤ 9223372036854775807
                  · rw [if_pos c25] at H
                    have c25b0 := eq_true c25
                    have c25b1 : decide (a0.size + 1 ≤ 9223372036854775807) = true := decide_eq_true c25
                    try have c25b2 : (9223372036854775807 < a0.size + 1) = False := eq_false (Nat.not_lt.2 c25)
                    try (have c25b3 := c25; simp only [ByteArray.size_append, prx_sz, List.length_cons, List.length_nil] at c25b3)
                    replace H := Option.bind_eq_some_iff.mp H
                    obtain ⟨t281, A260, H⟩ := H
                    replace H : (if (a0 ++ (⟨#[58]⟩ : ByteArray)).size + t281.size ≤ 9223372036854775807 then ((impl_WithPort.f a0 a2).bind fun t282 => (if t282.toList = x7_21.toList then ((impl_WithPort.f ((a0 ++ (⟨#[58]⟩ : ByteArray)) ++ t281) a2).bind fun t283 => (if t283.toList = ((a0 ++ (⟨#[58]⟩ : ByteArray)) ++ t281).toList then ((impl_WithPort.f x7_21 a2).bind fun t284 => (some (t284.toList == x7_21.toList))) else (some false))) else (some false))) else (none)) = some r := H
                    have A26 := Aside0.mk A260
                    clear A260
                    by_cases c27 : (a0 ++ (⟨#[58]⟩ : ByteArray)).size + t281.size ≤ 9223372036854775807
                    · rw [if_pos c27] at H
                      have c27b0 := eq_true c27
                      have c27b1 : decide ((a0 ++ (⟨#[58]⟩ : ByteArray)).size + t281.size ≤ 9223372036854775807) = true := decide_eq_true c27
                      try have c27b2 : (9223372036854775807 < (a0 ++ (⟨#[58]⟩ : ByteArray)).size + t281.size) = False := eq_false (Nat.not_lt.2 c27)
                      try (have c27b3 := c27; simp only [ByteArray.size_append, prx_sz, List.length_cons, List.length_nil] at c27b3)
                      replace H := Option.bind_eq_some_iff.mp H
                      obtain ⟨t282, A280, H⟩ := H
                      replace H : (if t282.toList = x7_21.toList then ((impl_WithPort.f ((a0 ++ (⟨#[58]⟩ : ByteArray)) ++ t281) a2).bind fun t283 => (if t283.toList = ((a0 ++ (⟨#[58]⟩ : ByteArray)) ++ t281).toList then ((impl_WithPort.f x7_21 a2).bind fun t284 => (some (t284.toList == x7_21.toList))) else (some false))) else (some false)) = some r := H
                      have A28 := Aside0.mk A280
                      clear A280
                      by_cases c29 : t282.toList = x7_21.toList
                      · rw [if_pos c29] at H
                        have c29b0 : (t282.toList == x7_21.toList) = true := beq_iff_eq.mpr c29
                        have c29b1 : (t282.toList != x7_21.toList) = false := bne_eq_false_iff_eq.mpr c29
                        clear c29
                        replace H := Option.bind_eq_some_iff.mp H
                        obtain ⟨t283, A300, H⟩ := H
                        replace H : (if t283.toList = ((a0 ++ (⟨#[58]⟩ : ByteArray)) ++ t281).toList then ((impl_WithPort.f x7_21 a2).bind fun t284 => (some (t284.toList == x7_21.toList))) else (some false)) = some r := H
                        have A30 := Aside0.mk A300
                        clear A300
                        by_cases c31 : t283.toList = ((a0 ++ (⟨#[58]⟩ : ByteArray)) ++ t281).toList
                        · rw [if_pos c31] at H
                          have c31b0 : (t283.toList == ((a0 ++ (⟨#[58]⟩ : ByteArray)) ++ t281).toList) = true := beq_iff_eq.mpr c31
                          have c31b1 : (t283.toList != ((a0 ++ (⟨#[58]⟩ : ByteArray)) ++ t281).toList) = false := bne_eq_false_iff_eq.mpr c31
                          clear c31
                          replace H := Option.bind_eq_some_iff.mp H
                          obtain ⟨t284, A320, H⟩ := H
                          replace H : (some (t284.toList == x7_21.toList)) = some r := H
                          have A32 := Aside0.mk A320
                          clear A320
                          obtain rfl := Option.some.inj H
                          go_wp2_with (first | ((with_reducible refine gate_callee (f := 20) rfl ?_); refine goesL_ (some 34) rfl rfl Try.func20 (by kernel_rfl) rfl #[.int .i64 a1] rfl (by (try simp only [List.map_toArray, List.map_cons, List.map_nil]); first | done | rfl | (simp only [List.length_drop, List.length_take]; rfl)) ?_; (with_reducible refine (laws_decimal.calls kj21 a1 t281 _ A26.out).mono ?_); rintro e w33 ⟨rfl, hb⟩; refine ⟨_, rfl, ?_⟩; have n0_ := Aside0.mk (below_step (by repeat (first | (with_reducible first | exact HB.out | apply below_alloc | apply pw_below_drewN | apply below_drew1) | exact HB.out)) hb); clear HB; have HB := n0_; clear n0_; (try clear hb); (try clear hb2); (try clear hk); (try clear hi)) | ((with_reducible refine gate_callee (f := 19) rfl ?_); refine goesL_ (some 38) rfl rfl Try.func19 (by kernel_rfl) rfl #[.string a0, .bool a2] rfl (by (try simp only [List.map_toArray, List.map_cons, List.map_nil]); first | done | rfl | (simp only [List.length_drop, List.length_take]; rfl)) ?_; (with_reducible refine (impl_WithPort.calls a0 a2 t282 _ A28.out).mono ?_); rintro e w' ⟨rfl, ⟨nd, rfl⟩⟩; refine ⟨_, rfl, ?_⟩) | (go_at_call 19; (with_reducible refine (impl_WithPort.calls ((a0 ++ (⟨#[58]⟩ : ByteArray)) ++ t281) a2 t283 _ A30.out).mono ?_); rintro e w' ⟨rfl, ⟨nd, rfl⟩⟩) | (go_at_call 19; (with_reducible refine (impl_WithPort.calls x7_21 a2 t284 _ A32.out).mono ?_); rintro e w' ⟨rfl, ⟨nd, rfl⟩⟩))
                          go_ret
                          exact ⟨by first | rfl | (simp [errW_none, errW_some] <;> rfl) | (simp [*, errW_none, errW_some] <;> rfl), by repeat (first | (with_reducible first | exact HB.out | apply below_alloc | apply pw_below_drewN | apply below_drew1) | exact HB.out)⟩
                        · rw [if_neg c31] at H
                          have c31b0 : (t283.toList == ((a0 ++ (⟨#[58]⟩ : ByteArray)) ++ t281).toList) = false := beq_eq_false_iff_ne.mpr c31
                          have c31b1 : (t283.toList != ((a0 ++ (⟨#[58]⟩ : ByteArray)) ++ t281).toList) = true := bne_iff_ne.mpr c31
                          obtain rfl := Option.some.inj H
                          go_wp2_with (first | ((with_reducible refine gate_callee (f := 20) rfl ?_); refine goesL_ (some 34) rfl rfl Try.func20 (by kernel_rfl) rfl #[.int .i64 a1] rfl (by (try simp only [List.map_toArray, List.map_cons, List.map_nil]); first | done | rfl | (simp only [List.length_drop, List.length_take]; rfl)) ?_; (with_reducible refine (laws_decimal.calls kj21 a1 t281 _ A26.out).mono ?_); rintro e w34 ⟨rfl, hb⟩; refine ⟨_, rfl, ?_⟩; have n0_ := Aside0.mk (below_step (by repeat (first | (with_reducible first | exact HB.out | apply below_alloc | apply pw_below_drewN | apply below_drew1) | exact HB.out)) hb); clear HB; have HB := n0_; clear n0_; (try clear hb); (try clear hb2); (try clear hk); (try clear hi)) | ((with_reducible refine gate_callee (f := 19) rfl ?_); refine goesL_ (some 38) rfl rfl Try.func19 (by kernel_rfl) rfl #[.string a0, .bool a2] rfl (by (try simp only [List.map_toArray, List.map_cons, List.map_nil]); first | done | rfl | (simp only [List.length_drop, List.length_take]; rfl)) ?_; (with_reducible refine (impl_WithPort.calls a0 a2 t282 _ A28.out).mono ?_); rintro e w' ⟨rfl, ⟨nd, rfl⟩⟩; refine ⟨_, rfl, ?_⟩) | (go_at_call 19; (with_reducible refine (impl_WithPort.calls ((a0 ++ (⟨#[58]⟩ : ByteArray)) ++ t281) a2 t283 _ A30.out).mono ?_); rintro e w' ⟨rfl, ⟨nd, rfl⟩⟩))
                          go_ret
                          exact ⟨by first | rfl | (simp [errW_none, errW_some] <;> rfl) | (simp [*, errW_none, errW_some] <;> rfl), by repeat (first | (with_reducible first | exact HB.out | apply below_alloc | apply pw_below_drewN | apply below_drew1) | exact HB.out)⟩
                      · rw [if_neg c29] at H
                        have c29b0 : (t282.toList == x7_21.toList) = false := beq_eq_false_iff_ne.mpr c29
                        have c29b1 : (t282.toList != x7_21.toList) = true := bne_iff_ne.mpr c29
                        obtain rfl := Option.some.inj H
                        go_wp2_with (first | ((with_reducible refine gate_callee (f := 20) rfl ?_); refine goesL_ (some 34) rfl rfl Try.func20 (by kernel_rfl) rfl #[.int .i64 a1] rfl (by (try simp only [List.map_toArray, List.map_cons, List.map_nil]); first | done | rfl | (simp only [List.length_drop, List.length_take]; rfl)) ?_; (with_reducible refine (laws_decimal.calls kj21 a1 t281 _ A26.out).mono ?_); rintro e w35 ⟨rfl, hb⟩; refine ⟨_, rfl, ?_⟩; have n0_ := Aside0.mk (below_step (by repeat (first | (with_reducible first | exact HB.out | apply below_alloc | apply pw_below_drewN | apply below_drew1) | exact HB.out)) hb); clear HB; have HB := n0_; clear n0_; (try clear hb); (try clear hb2); (try clear hk); (try clear hi)) | ((with_reducible refine gate_callee (f := 19) rfl ?_); refine goesL_ (some 38) rfl rfl Try.func19 (by kernel_rfl) rfl #[.string a0, .bool a2] rfl (by (try simp only [List.map_toArray, List.map_cons, List.map_nil]); first | done | rfl | (simp only [List.length_drop, List.length_take]; rfl)) ?_; (with_reducible refine (impl_WithPort.calls a0 a2 t282 _ A28.out).mono ?_); rintro e w' ⟨rfl, ⟨nd, rfl⟩⟩; refine ⟨_, rfl, ?_⟩))
                        go_ret
                        exact ⟨by first | rfl | (simp [errW_none, errW_some] <;> rfl) | (simp [*, errW_none, errW_some] <;> rfl), by repeat (first | (with_reducible first | exact HB.out | apply below_alloc | apply pw_below_drewN | apply below_drew1) | exact HB.out)⟩
                    · rw [if_neg c27] at H
                      exact absurd H (by simp)
                  · rw [if_neg c25] at H
                    exact absurd H (by simp)
            · rw [if_neg c21] at H
              exact absurd H (by simp)
    · rw [if_neg c6] at H
      have c6b0 : (t276.toList == ([97, 58, 56, 48] : List UInt8)) = false := beq_eq_false_iff_ne.mpr c6
      have c6b1 : (t276.toList != ([97, 58, 56, 48] : List UInt8)) = true := bne_iff_ne.mpr c6
      obtain rfl := Option.some.inj H
      go_enter Try.func6, Try.ntmps6
      go_wp2_with (first | ((with_reducible refine gate_callee (f := 19) rfl ?_); refine goesL_ (some 12) rfl rfl Try.func19 (by kernel_rfl) rfl #[.string (⟨#[97]⟩ : ByteArray), .bool false] rfl (by (try simp only [List.map_toArray, List.map_cons, List.map_nil]); first | done | rfl | (simp only [List.length_drop, List.length_take]; rfl)) ?_; (with_reducible refine (impl_WithPort.calls (⟨#[97]⟩ : ByteArray) false t276 _ A5.out).mono ?_); rintro e w' ⟨rfl, ⟨nd, rfl⟩⟩; refine ⟨_, rfl, ?_⟩))
      go_ret
      exact ⟨by first | rfl | (simp [errW_none, errW_some] <;> rfl) | (simp [*, errW_none, errW_some] <;> rfl), by repeat (first | (with_reducible first | exact HB.out | apply below_alloc | apply pw_below_drewN | apply below_drew1) | exact HB.out)⟩

/-- THE ONE PURE STATEMENT of laws_FnWithPort: yours. -/
def laws_FnWithPort.Pure : Prop := ∀ (a0 : ByteArray) (a1 : Int) (a2 : Bool), a0.size ≤ 140737488351232 → (Lit.int .i64 a1).wf = true → ∃ k, laws_FnWithPort.f k a0 a1 a2 = some true
theorem laws_FnWithPort.walk (P : laws_FnWithPort.Pure) (a0 : ByteArray) (a1 : Int) (a2 : Bool) (w : World) (w0 : a0.size ≤ 140737488351232) (w1 : (Lit.int .i64 a1).wf = true) :
    Calls Try.prog 6 #[.string a0, .int .i64 a1, .bool a2] w fun e w' => e = .returned (.bool true) ∧ Below w.heap.size w w' := by
  obtain ⟨k, h⟩ := P a0 a1 a2 w0 w1
  refine (laws_FnWithPort.calls k a0 a1 a2 true w h).mono ?_
  rintro e w' ⟨rfl, hd⟩
  exact ⟨rfl, hd⟩

end Go.Proofs.Ytdfeojkombmiaaa.QA
