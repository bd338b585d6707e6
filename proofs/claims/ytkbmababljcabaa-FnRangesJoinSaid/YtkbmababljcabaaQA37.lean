/- Printed by wip/pr.py (a program of this repo over the print program of the kit). Not trusted: Lean checks it. -/
import Derived.Test.YtkbmababljcabaaQA0
import Derived.Test.YtkbmababljcabaaQA9
import Derived.Test.YtkbmababljcabaaQA11
import Derived.Test.YtkbmababljcabaaQA15
import Derived.Test.YtkbmababljcabaaQA36
import Derived.Test.YtkbmababljcabaaGRanges
namespace Go.Proofs.Ytkbmababljcabaa.QA
open Go.Proofs.Ytkbmababljcabaa.Given
open Go.Proofs.Ytkbmababljcabaa.PrX
open Go.RowKit Go.Proofs.YtkbmababljcabaaW.PrintWords Go.Proofs.YtkbmababljcabaaW.PrintLast Go.Proofs.YtkbmababljcabaaW.PrintMore
attribute [local go_sem] max2_int min2_int max_two min_two max_three min_three max_four min_four   -- for this text's walks alone
set_option linter.unusedVariables false
set_option linter.unusedSimpArgs false

/-! ### laws_FnRangesJoin: function 4 -/
mutual
def laws_FnRangesJoin.j0 : Nat → List ByteArray → List Int → Bool → Option (Bool)
  | 0, _, _, _ => none
  | k + 1, x0, x1, x17 => if x17 = true then (some true) else ((impl_MediaRanges.f (⟨#[97, 47, 98, 44, 32, 99, 47, 100]⟩ : ByteArray)).bind fun t273 => ((laws_sameTexts.f k t273 (([(⟨#[97, 47, 98]⟩ : ByteArray), (⟨#[99, 47, 100]⟩ : ByteArray)] : List ByteArray))).bind fun t279 => (if t279 = true then (if (x0.length : Int) = 0 then (laws_FnRangesJoin.j1 k x0 x1 true) else ((laws_words.f k x0).bind fun t280 => (laws_FnRangesJoin.j1 k x0 x1 (!t280)))) else (some false))))
def laws_FnRangesJoin.j1 : Nat → List ByteArray → List Int → Bool → Option (Bool)
  | 0, _, _, _ => none
  | k + 1, x0, x1, x30 => if x30 = true then (some true) else (laws_FnRangesJoin.l0 k x1 ([] : List ByteArray) x0 (x0.length : Int) 0)
def laws_FnRangesJoin.l0 : Nat → List Int → List ByteArray → List ByteArray → Int → Int → Option (Bool)
  | 0, _, _, _, _, _ => none
  | k + 1, x1, x6, x31, x32, x33 => if x33 < x32 then (if 0 ≤ x33 then (if x33 < (x31.length : Int) then (if (rdOf ByteArray.empty x31 x33).size + 1 ≤ 9223372036854775807 then (if ((rdOf ByteArray.empty x31 x33) ++ (⟨#[47]⟩ : ByteArray)).size + (rdOf ByteArray.empty x31 x33).size ≤ 9223372036854775807 then (if x33 < (x1.length : Int) then (if (Int.tmod (rd x1 x33) 2) = 1 then (if 4 + (rdOf ByteArray.empty x31 x33).size ≤ 9223372036854775807 then (if ((⟨#[59, 112, 61, 34]⟩ : ByteArray) ++ (rdOf ByteArray.empty x31 x33)).size + 1 ≤ 9223372036854775807 then (if (((⟨#[59, 112, 61, 34]⟩ : ByteArray) ++ (rdOf ByteArray.empty x31 x33)) ++ (⟨#[44]⟩ : ByteArray)).size + (rdOf ByteArray.empty x31 x33).size ≤ 9223372036854775807 then (if ((((⟨#[59, 112, 61, 34]⟩ : ByteArray) ++ (rdOf ByteArray.empty x31 x33)) ++ (⟨#[44]⟩ : ByteArray)) ++ (rdOf ByteArray.empty x31 x33)).size + 1 ≤ 9223372036854775807 then (if (((rdOf ByteArray.empty x31 x33) ++ (⟨#[47]⟩ : ByteArray)) ++ (rdOf ByteArray.empty x31 x33)).size + (((((⟨#[59, 112, 61, 34]⟩ : ByteArray) ++ (rdOf ByteArray.empty x31 x33)) ++ (⟨#[44]⟩ : ByteArray)) ++ (rdOf ByteArray.empty x31 x33)) ++ (⟨#[34]⟩ : ByteArray)).size ≤ 9223372036854775807 then (if x6.length < 8796093022208 then (laws_FnRangesJoin.l0 k x1 (x6 ++ [(((rdOf ByteArray.empty x31 x33) ++ (⟨#[47]⟩ : ByteArray)) ++ (rdOf ByteArray.empty x31 x33)) ++ (((((⟨#[59, 112, 61, 34]⟩ : ByteArray) ++ (rdOf ByteArray.empty x31 x33)) ++ (⟨#[44]⟩ : ByteArray)) ++ (rdOf ByteArray.empty x31 x33)) ++ (⟨#[34]⟩ : ByteArray))]) x31 x32 (wrap64 (x33 + 1))) else (none)) else (none)) else (none)) else (none)) else (none)) else (none)) else (if x6.length < 8796093022208 then (laws_FnRangesJoin.l0 k x1 (x6 ++ [((rdOf ByteArray.empty x31 x33) ++ (⟨#[47]⟩ : ByteArray)) ++ (rdOf ByteArray.empty x31 x33)]) x31 x32 (wrap64 (x33 + 1))) else (none))) else (if x6.length < 8796093022208 then (laws_FnRangesJoin.l0 k x1 (x6 ++ [((rdOf ByteArray.empty x31 x33) ++ (⟨#[47]⟩ : ByteArray)) ++ (rdOf ByteArray.empty x31 x33)]) x31 x32 (wrap64 (x33 + 1))) else (none))) else (none)) else (none)) else (none)) else (none)) else ((laws_joined.f k x6 (⟨#[44, 32]⟩ : ByteArray)).bind fun t292 => ((impl_MediaRanges.f t292).bind fun t293 => ((laws_sameTexts.f k t293 x6).bind fun t296 => (if t296 = true then ((laws_joined.f k x6 (⟨#[44]⟩ : ByteArray)).bind fun t297 => ((impl_MediaRanges.f t297).bind fun t298 => ((laws_sameTexts.f k t298 x6).bind fun t301 => (some t301)))) else (some false)))))
end
def laws_FnRangesJoin.f (k : Nat) (l0 : List ByteArray) (l1 : List Int) : Option (Bool) := (laws_zzFits6.f k l0).bind fun t272 => (if t272 = true then (laws_FnRangesJoin.j0 k l0 l1 (decide ((l1.length : Int) > 2147483647))) else (laws_FnRangesJoin.j0 k l0 l1 true))
theorem laws_FnRangesJoin.mono_l : ∀ k, (∀ y0 y1 y2, LeO (laws_FnRangesJoin.j0 k y0 y1 y2) (laws_FnRangesJoin.j0 (k + 1) y0 y1 y2)) ∧ (∀ y0 y1 y2, LeO (laws_FnRangesJoin.j1 k y0 y1 y2) (laws_FnRangesJoin.j1 (k + 1) y0 y1 y2)) ∧ (∀ y0 y1 y2 y3 y4, LeO (laws_FnRangesJoin.l0 k y0 y1 y2 y3 y4) (laws_FnRangesJoin.l0 (k + 1) y0 y1 y2 y3 y4))
  | 0 => ⟨fun _ _ _ r h => by simp [laws_FnRangesJoin.j0] at h, fun _ _ _ r h => by simp [laws_FnRangesJoin.j1] at h, fun _ _ _ _ _ r h => by simp [laws_FnRangesJoin.l0] at h⟩
  | k + 1 => by
    obtain ⟨ih0, ih1, ih2⟩ := laws_FnRangesJoin.mono_l k
    refine ⟨?_, ?_, ?_⟩
    · intro y0 y1 y2
      unfold laws_FnRangesJoin.j0
      repeat' first
      | (with_reducible exact ih0 _ _ _)
      | (with_reducible exact ih1 _ _ _)
      | (with_reducible exact ih2 _ _ _ _ _)
      | (with_reducible exact laws_joined.mono _ _ _)
      | (with_reducible exact laws_sameTexts.mono _ _ _)
      | (with_reducible exact laws_words.mono _ _)
      | (with_reducible exact laws_zzFits6.mono _ _)
      | (with_reducible exact LeO.refl _)
      | (with_reducible exact LeO.none _)
      | (with_reducible refine LeO.ite ?_ ?_)
      | (with_reducible refine LeO.bind ?_ (fun _ => ?_))
      | exact ih0 _ _ _
      | exact ih1 _ _ _
      | exact ih2 _ _ _ _ _
      | exact laws_joined.mono _ _ _
      | exact laws_sameTexts.mono _ _ _
      | exact laws_words.mono _ _
      | exact laws_zzFits6.mono _ _
      | exact LeO.none _
      | refine LeO.ite ?_ ?_
      | refine LeO.bind ?_ (fun _ => ?_)
    · intro y0 y1 y2
      unfold laws_FnRangesJoin.j1
      repeat' first
      | (with_reducible exact ih0 _ _ _)
      | (with_reducible exact ih1 _ _ _)
      | (with_reducible exact ih2 _ _ _ _ _)
      | (with_reducible exact laws_joined.mono _ _ _)
      | (with_reducible exact laws_sameTexts.mono _ _ _)
      | (with_reducible exact laws_words.mono _ _)
      | (with_reducible exact laws_zzFits6.mono _ _)
      | (with_reducible exact LeO.refl _)
      | (with_reducible exact LeO.none _)
      | (with_reducible refine LeO.ite ?_ ?_)
      | (with_reducible refine LeO.bind ?_ (fun _ => ?_))
      | exact ih0 _ _ _
      | exact ih1 _ _ _
      | exact ih2 _ _ _ _ _
      | exact laws_joined.mono _ _ _
      | exact laws_sameTexts.mono _ _ _
      | exact laws_words.mono _ _
      | exact laws_zzFits6.mono _ _
      | exact LeO.none _
      | refine LeO.ite ?_ ?_
      | refine LeO.bind ?_ (fun _ => ?_)
    · intro y0 y1 y2 y3 y4
      unfold laws_FnRangesJoin.l0
      repeat' first
      | (with_reducible exact ih0 _ _ _)
      | (with_reducible exact ih1 _ _ _)
      | (with_reducible exact ih2 _ _ _ _ _)
      | (with_reducible exact laws_joined.mono _ _ _)
      | (with_reducible exact laws_sameTexts.mono _ _ _)
      | (with_reducible exact laws_words.mono _ _)
      | (with_reducible exact laws_zzFits6.mono _ _)
      | (with_reducible exact LeO.refl _)
      | (with_reducible exact LeO.none _)
      | (with_reducible refine LeO.ite ?_ ?_)
      | (with_reducible refine LeO.bind ?_ (fun _ => ?_))
      | exact ih0 _ _ _
      | exact ih1 _ _ _
      | exact ih2 _ _ _ _ _
      | exact laws_joined.mono _ _ _
      | exact laws_sameTexts.mono _ _ _
      | exact laws_words.mono _ _
      | exact laws_zzFits6.mono _ _
      | exact LeO.none _
      | refine LeO.ite ?_ ?_
      | refine LeO.bind ?_ (fun _ => ?_)
theorem laws_FnRangesJoin.mono : ∀ a0 a1 k, LeO (laws_FnRangesJoin.f k a0 a1) (laws_FnRangesJoin.f (k + 1) a0 a1) := by
  intro a0 a1 k
  obtain ⟨ih0, ih1, ih2⟩ := laws_FnRangesJoin.mono_l k
  unfold laws_FnRangesJoin.f
  repeat' first
      | (with_reducible exact ih0 _ _ _)
      | (with_reducible exact ih1 _ _ _)
      | (with_reducible exact ih2 _ _ _ _ _)
      | (with_reducible exact laws_joined.mono _ _ _)
      | (with_reducible exact laws_sameTexts.mono _ _ _)
      | (with_reducible exact laws_words.mono _ _)
      | (with_reducible exact laws_zzFits6.mono _ _)
      | (with_reducible exact LeO.refl _)
      | (with_reducible exact LeO.none _)
      | (with_reducible refine LeO.ite ?_ ?_)
      | (with_reducible refine LeO.bind ?_ (fun _ => ?_))
      | exact ih0 _ _ _
      | exact ih1 _ _ _
      | exact ih2 _ _ _ _ _
      | exact laws_joined.mono _ _ _
      | exact laws_sameTexts.mono _ _ _
      | exact laws_words.mono _ _
      | exact laws_zzFits6.mono _ _
      | exact LeO.none _
      | refine LeO.ite ?_ ?_
      | refine LeO.bind ?_ (fun _ => ?_)
set_option maxHeartbeats 8000000 in
set_option maxRecDepth 100000 in
theorem laws_FnRangesJoin.calls (k : Nat) (A0 : Option Addr) (c0 : Nat) (l0 : List ByteArray) (A1 : Option Addr) (c1 : Nat) (l1 : List Int) (r : Bool) (w : World) (hr0 : Kd.C Kd.string w A0 l0.length l0) (hc0 : l0.length ≤ c0) (hr1 : Kd.C (Kd.int .u8) w A1 l1.length l1) (hc1 : l1.length ≤ c1) (h : laws_FnRangesJoin.f k l0 l1 = some r) :
    Calls Try.prog 4 #[.slice A0 l0.length c0, .slice A1 l1.length c1] w fun e w' => e = .returned (.bool r) ∧ Below w.heap.size w w' := by
  have HR0 := Aside0.mk hr0
  have HC0 := Aside0.mk hc0
  clear hr0 hc0
  have HR1 := Aside0.mk hr1
  have HC1 := Aside0.mk hc1
  clear hr1 hc1
  have HB := Aside0.mk (Below.refl w.heap.size w)
  have H : ((laws_zzFits6.f k l0).bind fun t272 => (if t272 = true then (laws_FnRangesJoin.j0 k l0 l1 (decide ((l1.length : Int) > 2147483647))) else (laws_FnRangesJoin.j0 k l0 l1 true))) = some r := h
  clear h
  have HC3 := Aside0.mk H
  clear H
  go_enter Try.func4, Try.ntmps4
  go_upto_region 1 with (fail)
  go_cut [17] (fun v17 wc => ∃ (kq : Nat) (x17_2 : Bool), v17 = .bool x17_2 ∧ Aside0 (laws_FnRangesJoin.j0 kq l0 l1 x17_2 = some r) ∧ Aside0 (kq ≤ k) ∧ Aside0 (Below w.heap.size w wc))
  case first =>
    have H := HC3.out
    clear HC3
    replace H := Option.bind_eq_some_iff.mp H
    obtain ⟨t272, A40, H⟩ := H
    replace H : (if t272 = true then (laws_FnRangesJoin.j0 k l0 l1 (decide ((l1.length : Int) > 2147483647))) else (laws_FnRangesJoin.j0 k l0 l1 true)) = some r := H
    have A4 := Aside0.mk A40
    clear A40
    by_cases c5 : t272 = true
    · subst c5
      have H1 : (laws_FnRangesJoin.j0 k l0 l1 (decide ((l1.length : Int) > 2147483647))) = some r := by rw [if_pos rfl] at H; exact H
      clear H
      have H := H1
      clear H1
      have H' := Aside0.mk H
      clear H
      go_wp2_with (first | ((with_reducible refine gate_callee (f := 17) rfl ?_); refine goesL_ (some 11) rfl rfl Try.func17 (by kernel_rfl) rfl #[.slice A0 l0.length c0] rfl (by (try simp only [List.map_toArray, List.map_cons, List.map_nil]); first | done | rfl | (simp only [List.length_drop, List.length_take]; rfl)) ?_; (with_reducible refine (laws_zzFits6.calls k _ _ l0 true _ ?side1 ?side2 A4.out).mono ?_); (case side1 => repeat (first | exact (Kd.C_below HR0.out HB.out) | (with_reducible refine Kd.C_alloc ?_ _) | (with_reducible refine Kd.C_drewN ?_ _) | (with_reducible refine Kd.C_drew ?_))); (case side2 => exact HC0.out); rintro e w' ⟨rfl, ⟨nd, rfl⟩⟩; refine ⟨_, rfl, ?_⟩))
      go_meet
      case rel => exact ⟨_, (decide ((l1.length : Int) > 2147483647)), (by first | rfl | (simp; done) | (rw [prx_ne]; first | done | rfl) | (simp [*]; done)), H', ⟨by first | omega | exact Nat.le_refl _⟩, ⟨by repeat (first | (with_reducible first | exact HB.out | apply below_alloc | apply pw_below_drewN | apply below_drew1) | exact HB.out)⟩⟩
    · replace c5 := Bool.eq_false_iff.mpr c5
      subst c5
      have H1 : (laws_FnRangesJoin.j0 k l0 l1 true) = some r := by rw [if_neg (show ¬ (false = true) by decide)] at H; exact H
      clear H
      have H := H1
      clear H1
      have H' := Aside0.mk H
      clear H
      go_wp2_with (first | ((with_reducible refine gate_callee (f := 17) rfl ?_); refine goesL_ (some 11) rfl rfl Try.func17 (by kernel_rfl) rfl #[.slice A0 l0.length c0] rfl (by (try simp only [List.map_toArray, List.map_cons, List.map_nil]); first | done | rfl | (simp only [List.length_drop, List.length_take]; rfl)) ?_; (with_reducible refine (laws_zzFits6.calls k _ _ l0 false _ ?side1 ?side2 A4.out).mono ?_); (case side1 => repeat (first | exact (Kd.C_below HR0.out HB.out) | (with_reducible refine Kd.C_alloc ?_ _) | (with_reducible refine Kd.C_drewN ?_ _) | (with_reducible refine Kd.C_drew ?_))); (case side2 => exact HC0.out); rintro e w' ⟨rfl, ⟨nd, rfl⟩⟩; refine ⟨_, rfl, ?_⟩))
      go_meet
      case rel => exact ⟨_, (true), (by first | rfl | (simp; done) | (rw [prx_ne]; first | done | rfl) | (simp [*]; done)), H', ⟨by first | omega | exact Nat.le_refl _⟩, ⟨by repeat (first | (with_reducible first | exact HB.out | apply below_alloc | apply pw_below_drewN | apply below_drew1) | exact HB.out)⟩⟩
  case rest =>
    clear HC3
    try clear c1
    try clear p2
    try clear c4
    try clear c5
    obtain ⟨kq, x17_2, rfl, HA, HJ2, HB⟩ := hcut
    cases kq with
    | zero => exact absurd HA.out (by simp [laws_FnRangesJoin.j0])
    | succ kj2 =>
      have H := HA.out
      clear HA
      simp only [laws_FnRangesJoin.j0] at H
      by_cases c6 : x17_2 = true
      · subst c6
        have H1 : (some true) = some r := by rw [if_pos rfl] at H; exact H
        clear H
        have H := H1
        clear H1
        obtain rfl := Option.some.inj H
        go_wp2
        go_ret
        exact ⟨by first | rfl | (simp [errW_none, errW_some] <;> rfl) | (simp [*, errW_none, errW_some] <;> rfl), by repeat (first | (with_reducible first | exact HB.out | apply below_alloc | apply pw_below_drewN | apply below_drew1) | exact HB.out)⟩
      · replace c6 := Bool.eq_false_iff.mpr c6
        subst c6
        have H1 : ((impl_MediaRanges.f (⟨#[97, 47, 98, 44, 32, 99, 47, 100]⟩ : ByteArray)).bind fun t273 => ((laws_sameTexts.f kj2 t273 (([(⟨#[97, 47, 98]⟩ : ByteArray), (⟨#[99, 47, 100]⟩ : ByteArray)] : List ByteArray))).bind fun t279 => (if t279 = true then (if (l0.length : Int) = 0 then (laws_FnRangesJoin.j1 kj2 l0 l1 true) else ((laws_words.f kj2 l0).bind fun t280 => (laws_FnRangesJoin.j1 kj2 l0 l1 (!t280)))) else (some false)))) = some r := by rw [if_neg (show ¬ (false = true) by decide)] at H; exact H
        clear H
        have H := H1
        clear H1
        replace H := Option.bind_eq_some_iff.mp H
        obtain ⟨t273, A70, H⟩ := H
        replace H : ((laws_sameTexts.f kj2 t273 (([(⟨#[97, 47, 98]⟩ : ByteArray), (⟨#[99, 47, 100]⟩ : ByteArray)] : List ByteArray))).bind fun t279 => (if t279 = true then (if (l0.length : Int) = 0 then (laws_FnRangesJoin.j1 kj2 l0 l1 true) else ((laws_words.f kj2 l0).bind fun t280 => (laws_FnRangesJoin.j1 kj2 l0 l1 (!t280)))) else (some false))) = some r := H
        have A7 := Aside0.mk A70
        clear A70
        obtain ⟨y276, hy276⟩ : ∃ y_ : List ByteArray, y_ = (([(⟨#[97, 47, 98]⟩ : ByteArray), (⟨#[99, 47, 100]⟩ : ByteArray)] : List ByteArray)) := ⟨_, rfl⟩
        replace H : ((laws_sameTexts.f kj2 t273 y276).bind fun t279 => (if t279 = true then (if (l0.length : Int) = 0 then (laws_FnRangesJoin.j1 kj2 l0 l1 true) else ((laws_words.f kj2 l0).bind fun t280 => (laws_FnRangesJoin.j1 kj2 l0 l1 (!t280)))) else (some false))) = some r := by first | (rw [hy276]; with_reducible exact H) | (have H2_ := (Option.bind_some _ _).symm.trans H; rw [hy276]; with_reducible exact H2_) | (have H2_ := (Option.bind_some _ _).symm.trans H; with_reducible exact H2_) | with_reducible exact H | (rw [hy276]; exact H) | exact H
        have Ny276 := Aside0.mk hy276
        clear hy276
        replace H := Option.bind_eq_some_iff.mp H
        obtain ⟨t279, A80, H⟩ := H
        replace H : (if t279 = true then (if (l0.length : Int) = 0 then (laws_FnRangesJoin.j1 kj2 l0 l1 true) else ((laws_words.f kj2 l0).bind fun t280 => (laws_FnRangesJoin.j1 kj2 l0 l1 (!t280)))) else (some false)) = some r := H
        have A8 := Aside0.mk A80
        clear A80
        by_cases c9 : t279 = true
        · subst c9
          have H1 : (if (l0.length : Int) = 0 then (laws_FnRangesJoin.j1 kj2 l0 l1 true) else ((laws_words.f kj2 l0).bind fun t280 => (laws_FnRangesJoin.j1 kj2 l0 l1 (!t280)))) = some r := by rw [if_pos rfl] at H; exact H
          clear H
          have H := H1
          clear H1
          have HC10 := Aside0.mk H
          clear H
          go_upto_region 6 with (first | ((with_reducible refine gate_callee (f := 18) rfl ?_); refine goesL_ (some 18) rfl rfl Try.func18 (by kernel_rfl) rfl #[.string (⟨#[97, 47, 98, 44, 32, 99, 47, 100]⟩ : ByteArray)] rfl (by (try simp only [List.map_toArray, List.map_cons, List.map_nil]); first | done | rfl | (simp only [List.length_drop, List.length_take]; rfl)) ?_; (with_reducible refine (impl_MediaRanges.calls (⟨#[97, 47, 98, 44, 32, 99, 47, 100]⟩ : ByteArray) t273 _ A7.out).mono ?_); rintro e w11 ⟨v274, rfl, ho0, hb⟩; refine ⟨_, rfl, ?_⟩; have n0_ := Aside0.mk (Kd.R_lower ho0 (below_size (by repeat (first | (with_reducible first | exact HB.out | apply below_alloc | apply pw_below_drewN | apply below_drew1) | exact HB.out)))); have n1_ := Aside0.mk (below_step (by repeat (first | (with_reducible first | exact HB.out | apply below_alloc | apply pw_below_drewN | apply below_drew1) | exact HB.out)) hb); clear HB; have HO275 := n0_; have HB := n1_; clear n0_ n1_; (try clear hb); (try clear hb2); (try clear hk); (try clear hi); (try clear ho0)) | ((with_reducible refine gate_dst (N := 20) rfl ?_); (try (refine gate_guard (by rfl) ?_; dsimp only)); refine Kd.R_lit Kd.string _ 9 ?hg (N := 20) ?hd (xs := ([(⟨#[97, 47, 98]⟩ : ByteArray), (⟨#[99, 47, 100]⟩ : ByteArray)] : List ByteArray)) (inner := [.string (⟨#[97, 47, 98]⟩ : ByteArray), .string (⟨#[99, 47, 100]⟩ : ByteArray)]) (ok := fun _ => True) (okp := fun _ => True) ?hr ?hp (fun _ hk => hk) trivial (Below.refl _ _) (Nat.le_refl _) (by simp) ?_; (case hd => rfl); (case hg => rfl); (case hr => first | (go_simp; done) | (go_simp; rfl)); (case hp => exact (Reps.one (show Kd.M Kd.string _ _ _ (⟨#[97, 47, 98]⟩ : ByteArray) [.string (⟨#[97, 47, 98]⟩ : ByteArray)] from rfl) (Reps.one (show Kd.M Kd.string _ _ _ (⟨#[99, 47, 100]⟩ : ByteArray) [.string (⟨#[99, 47, 100]⟩ : ByteArray)] from rfl) (Reps.none _ _)))); intro v277 w12 ho13 hb hg_ hnew_; clear hg_ hnew_; (first | rw [← Ny276.out] at ho13 | (simp only [Int.reduceToNat] at ho13; rw [← Ny276.out] at ho13)); have n0_ := Aside0.mk (Kd.R_elder' (by (with_reducible repeat (first | apply Kd.R_alloc | apply Kd.R_drewN | apply Kd.R_drew)); exact HO275.out) (Kd.R_base ho13) hb); have n1_ := Aside0.mk (Kd.R_lower (Kd.R_new' ho13 (Kd.R_lt (by (with_reducible repeat (first | apply Kd.R_alloc | apply Kd.R_drewN | apply Kd.R_drew)); exact HO275.out))) (below_size (by repeat (first | (with_reducible first | exact HB.out | apply below_alloc | apply pw_below_drewN | apply below_drew1) | exact HB.out)))); have n2_ := Aside0.mk (below_step (by repeat (first | (with_reducible first | exact HB.out | apply below_alloc | apply pw_below_drewN | apply below_drew1) | exact HB.out)) hb); clear HO275; clear HB; have HO275 := n0_; have HO278 := n1_; have HB := n2_; clear n0_ n1_ n2_; clear hb ho13; obtain ⟨Ao14, co14, eo14⟩ := Kd.R_slice HO275.out; subst eo14; obtain ⟨Ao15, co15, eo15⟩ := Kd.R_slice HO278.out; subst eo15) | ((with_reducible refine gate_callee (f := 19) rfl ?_); refine goesL_ (some 21) rfl rfl Try.func19 (by kernel_rfl) rfl #[.slice Ao14 t273.length co14, .slice Ao15 y276.length co15] rfl (by (try simp only [List.map_toArray, List.map_cons, List.map_nil]); first | done | rfl | (simp only [List.length_drop, List.length_take]; rfl)) ?_; (with_reducible refine (laws_sameTexts.calls kj2 _ _ t273 _ _ y276 true _ ?side1 ?side2 ?side3 ?side4 A8.out).mono ?_); (case side1 => repeat (first | exact (Kd.R_reads' HO275.out).2.2 | (with_reducible refine Kd.C_alloc ?_ _) | (with_reducible refine Kd.C_drewN ?_ _) | (with_reducible refine Kd.C_drew ?_))); (case side2 => exact (Kd.R_reads' HO275.out).2.1); (case side3 => repeat (first | exact (Kd.R_reads' HO278.out).2.2 | (with_reducible refine Kd.C_alloc ?_ _) | (with_reducible refine Kd.C_drewN ?_ _) | (with_reducible refine Kd.C_drew ?_))); (case side4 => exact (Kd.R_reads' HO278.out).2.1); rintro e w' ⟨rfl, ⟨nd, rfl⟩⟩; refine ⟨_, rfl, ?_⟩))
          (try simp only [Act.put, List.setIfInBounds_toArray, List.set_cons_zero, List.set_cons_succ])
          go_cut [30] (fun v30 wc => ∃ (kq : Nat) (x30_9 : Bool), v30 = .bool x30_9 ∧ Aside0 (laws_FnRangesJoin.j1 kq l0 l1 x30_9 = some r) ∧ Aside0 (kq ≤ kj2) ∧ Aside0 (Below w.heap.size w wc))
          case first =>
            have H := HC10.out
            clear HC10
            by_cases c16 : (l0.length : Int) = 0
            · rw [if_pos c16] at H
              have c16b0 : ((l0.length : Int) == 0) = true := beq_iff_eq.mpr c16
              have c16b1 : ((l0.length : Int) != 0) = false := bne_eq_false_iff_eq.mpr c16
              clear c16
              (first | rw [c16b0] | (simp only [i64_w, i32_w]; rw [c16b0]) | skip)
              have H' := Aside0.mk H
              clear H
              go_wp2
              go_meet
              case rel => exact ⟨_, (true), (by first | rfl | (simp; done) | (rw [prx_ne]; first | done | rfl) | (simp [*]; done)), H', ⟨by have := HJ2.out; first | omega | exact Nat.le_refl _⟩, ⟨by repeat (first | (with_reducible first | exact HB.out | apply below_alloc | apply pw_below_drewN | apply below_drew1) | exact HB.out)⟩⟩
            · rw [if_neg c16] at H
              have c16b0 : ((l0.length : Int) == 0) = false := beq_eq_false_iff_ne.mpr c16
              have c16b1 : ((l0.length : Int) != 0) = true := bne_iff_ne.mpr c16
              have c16b2 : ¬ (l0 = []) := fun h_ => c16 (by rw [h_]; rfl)
              (first | rw [c16b0] | (simp only [i64_w, i32_w]; rw [c16b0]) | skip)
              replace H := Option.bind_eq_some_iff.mp H
              obtain ⟨t280, A170, H⟩ := H
              replace H : (laws_FnRangesJoin.j1 kj2 l0 l1 (!t280)) = some r := H
              have A17 := Aside0.mk A170
              clear A170
              have H' := Aside0.mk H
              clear H
              go_wp2_with (first | (go_at_call 20; (with_reducible refine (laws_words.calls kj2 _ _ l0 t280 _ ?side1 ?side2 A17.out).mono ?_); (case side1 => repeat (first | exact (Kd.C_below HR0.out HB.out) | (with_reducible refine Kd.C_alloc ?_ _) | (with_reducible refine Kd.C_drewN ?_ _) | (with_reducible refine Kd.C_drew ?_))); (case side2 => exact HC0.out); rintro e w' ⟨rfl, ⟨nd, rfl⟩⟩))
              go_meet
              case rel => exact ⟨_, (!t280), (by first | rfl | (simp; done) | (rw [prx_ne]; first | done | rfl) | (simp [*]; done)), H', ⟨by have := HJ2.out; first | omega | exact Nat.le_refl _⟩, ⟨by repeat (first | (with_reducible first | exact HB.out | apply below_alloc | apply pw_below_drewN | apply below_drew1) | exact HB.out)⟩⟩
          case rest =>
            clear HC10
            try clear c1
            try clear p2
            try clear c4
            try clear c5
            try clear c6
            try clear c9
            try clear c16
            try clear c16b0
            try clear c16b1
            try clear c16b2
            try clear c17
            try clear p2
            obtain ⟨kq, x30_9, rfl, HA, HJ9, HB⟩ := hcut
            cases kq with
            | zero => exact absurd HA.out (by simp [laws_FnRangesJoin.j1])
            | succ kj9 =>
              have H := HA.out
              clear HA
              simp only [laws_FnRangesJoin.j1] at H
              by_cases c18 : x30_9 = true
              · subst c18
                have H1 : (some true) = some r := by rw [if_pos rfl] at H; exact H
                clear H
                have H := H1
                clear H1
                obtain rfl := Option.some.inj H
                go_wp2
                go_ret
                exact ⟨by first | rfl | (simp [errW_none, errW_some] <;> rfl) | (simp [*, errW_none, errW_some] <;> rfl), by repeat (first | (with_reducible first | exact HB.out | apply below_alloc | apply pw_below_drewN | apply below_drew1) | exact HB.out)⟩
              · replace c18 := Bool.eq_false_iff.mpr c18
                subst c18
                have H1 : (laws_FnRangesJoin.l0 kj9 l1 ([] : List ByteArray) l0 (l0.length : Int) 0) = some r := by rw [if_neg (show ¬ (false = true) by decide)] at H; exact H
                clear H
                have H := H1
                clear H1
                have H' := Aside0.mk H
                clear H
                go_wp2
                go_loopg [6, 33] kj9 (fun kq v6 v33 w' => ∃ (x6_3 : List ByteArray) (x33_3 : Int), v33 = .int .i64 x33_3 ∧ Aside0 (laws_FnRangesJoin.l0 kq l1 x6_3 l0 (l0.length : Int) x33_3 = some r) ∧ Aside0 (kq ≤ kj9) ∧ Aside0 (Kd.R Kd.string 9 w' w.heap.size (fun _ => True) v6 x6_3) ∧ Aside0 (Below w.heap.size w w'))
                case atStart => exact ⟨(([] : List ByteArray)), (0), (by first | rfl | (simp; done) | (rw [prx_ne]; first | done | rfl) | (simp [*]; done)), H', ⟨Nat.le_refl _⟩, ⟨by first | exact Kd.R_nil _ _ _ _ _ | exact Kd.N_nil _ _ _ _ _ | exact Kd.V_nil _ _ _ _ _ | exact Kd.Q_nil _ _ _ _ _ | exact Kd.S_nil _ _ _ _ _⟩, ⟨by repeat (first | (with_reducible first | exact HB.out | apply below_alloc | apply pw_below_drewN | apply below_drew1) | exact HB.out)⟩⟩
                case round =>
                  clear H'
                  try clear c1
                  try clear p2
                  try clear c4
                  try clear c5
                  try clear c6
                  try clear c9
                  try clear c16
                  try clear c16b0
                  try clear c16b1
                  try clear c16b2
                  try clear c17
                  try clear c18
                  try clear p2
                  obtain ⟨x6_3, x33_3, rfl, HA, HK3, HO_6, HB⟩ := hrel
                  cases gk with
                  | zero => exact absurd HA.out (by simp [laws_FnRangesJoin.l0])
                  | succ k3 =>
                    have H := HA.out
                    clear HA
                    simp only [laws_FnRangesJoin.l0] at H
                    by_cases c19 : x33_3 < (l0.length : Int)
                    · rw [if_pos c19] at H
                      have c19b0 : decide (x33_3 < (l0.length : Int)) = true := decide_eq_true c19
                      clear c19
                      by_cases c20 : 0 ≤ x33_3
                      · rw [if_pos c20] at H
                        have c20b0 : decide (0 ≤ x33_3) = true := decide_eq_true c20
                        clear c20
                        by_cases c21 : x33_3 < (l0.length : Int)
                        · rw [if_pos c21] at H
                          have c21b0 : decide (x33_3 < (l0.length : Int)) = true := decide_eq_true c21
                          clear c21
                          by_cases c22 : (rdOf ByteArray.empty l0 x33_3).size + 1 ≤ 9223372036854775807
                          · rw [if_pos c22] at H
                            have c22b0 := eq_true c22
                            have c22b1 : decide ((rdOf ByteArray.empty l0 x33_3).size + 1 ≤ 9223372036854775807) = true := decide_eq_true c22
                            try have c22b2 : (9223372036854775807 < (rdOf ByteArray.empty l0 x33_3).size + 1) = False := eq_false (Nat.not_lt.2 c22)
                            try (have c22b3 := c22; simp only [ByteArray.size_append, prx_sz, List.length_cons, List.length_nil] at c22b3)
                            by_cases c23 : ((rdOf ByteArray.empty l0 x33_3) ++ (⟨#[47]⟩ : ByteArray)).size + (rdOf ByteArray.empty l0 x33_3).size ≤ 9223372036854775807
                            · rw [if_pos c23] at H
                              have c23b0 := eq_true c23
                              have c23b1 : decide (((rdOf ByteArray.empty l0 x33_3) ++ (⟨#[47]⟩ : ByteArray)).size + (rdOf ByteArray.empty l0 x33_3).size ≤ 9223372036854775807) = true := decide_eq_true c23
                              try have c23b2 : (9223372036854775807 < ((rdOf ByteArray.empty l0 x33_3) ++ (⟨#[47]⟩ : ByteArray)).size + (rdOf ByteArray.empty l0 x33_3).size) = False := eq_false (Nat.not_lt.2 c23)
                              try (have c23b3 := c23; simp only [ByteArray.size_append, prx_sz, List.length_cons, List.length_nil] at c23b3)
                              by_cases c24 : x33_3 < (l1.length : Int)
                              · rw [if_pos c24] at H
                                have c24b0 : decide (x33_3 < (l1.length : Int)) = true := decide_eq_true c24
                                clear c24
                                by_cases c25 : (Int.tmod (rd l1 x33_3) 2) = 1
                                · rw [if_pos c25] at H
                                  have c25b0 : ((Int.tmod (rd l1 x33_3) 2) == 1) = true := beq_iff_eq.mpr c25
                                  have c25b1 : ((Int.tmod (rd l1 x33_3) 2) != 1) = false := bne_eq_false_iff_eq.mpr c25
                                  clear c25
                                  by_cases c26 : 4 + (rdOf ByteArray.empty l0 x33_3).size ≤ 9223372036854775807
                                  · rw [if_pos c26] at H
                                    have c26b0 := eq_true c26
                                    have c26b1 : decide (4 + (rdOf ByteArray.empty l0 x33_3).size ≤ 9223372036854775807) = true := decide_eq_true c26
                                    try have c26b2 : (9223372036854775807 < 4 + (rdOf ByteArray.empty l0 x33_3).size) = False := eq_false (Nat.not_lt.2 c26)
                                    try (have c26b3 := c26; simp only [ByteArray.size_append, prx_sz, List.length_cons, List.length_nil] at c26b3)
                                    by_cases c27 : ((⟨#[59, 112, 61, 34]⟩ : ByteArray) ++ (rdOf ByteArray.empty l0 x33_3)).size + 1 ≤ 9223372036854775807
                                    · rw [if_pos c27] at H
                                      have c27b0 := eq_true c27
                                      have c27b1 : decide (((⟨#[59, 112, 61, 34]⟩ : ByteArray) ++ (rdOf ByteArray.empty l0 x33_3)).size + 1 ≤ 9223372036854775807) = true := decide_eq_true c27
                                      try have c27b2 : (9223372036854775807 < ((⟨#[59, 112, 61, 34]⟩ : ByteArray) ++ (rdOf ByteArray.empty l0 x33_3)).size + 1) = False := eq_false (Nat.not_lt.2 c27)
                                      try (have c27b3 := c27; simp only [ByteArray.size_append, prx_sz, List.length_cons, List.length_nil] at c27b3)
                                      by_cases c28 : (((⟨#[59, 112, 61, 34]⟩ : ByteArray) ++ (rdOf ByteArray.empty l0 x33_3)) ++ (⟨#[44]⟩ : ByteArray)).size + (rdOf ByteArray.empty l0 x33_3).size ≤ 9223372036854775807
                                      · rw [if_pos c28] at H
                                        have c28b0 := eq_true c28
                                        have c28b1 : decide ((((⟨#[59, 112, 61, 34]⟩ : ByteArray) ++ (rdOf ByteArray.empty l0 x33_3)) ++ (⟨#[44]⟩ : ByteArray)).size + (rdOf ByteArray.empty l0 x33_3).size ≤ 9223372036854775807) = true := decide_eq_true c28
                                        try have c28b2 : (9223372036854775807 < (((⟨#[59, 112, 61, 34]⟩ : ByteArray) ++ (rdOf ByteArray.empty l0 x33_3)) ++ (⟨#[44]⟩ : ByteArray)).size + (rdOf ByteArray.empty l0 x33_3).size) = False := eq_false (Nat.not_lt.2 c28)
                                        try (have c28b3 := c28; simp only [ByteArray.size_append, prx_sz, List.length_cons, List.length_nil] at c28b3)
                                        by_cases c29 : ((((⟨#[59, 112, 61, 34]⟩ : ByteArray) ++ (rdOf ByteArray.empty l0 x33_3)) ++ (⟨#[44]⟩ : ByteArray)) ++ (rdOf ByteArray.empty l0 x33_3)).size + 1 ≤ 9223372036854775807
                                        · rw [if_pos c29] at H
                                          have c29b0 := eq_true c29
                                          have c29b1 : decide (((((⟨#[59, 112, 61, 34]⟩ : ByteArray) ++ (rdOf ByteArray.empty l0 x33_3)) ++ (⟨#[44]⟩ : ByteArray)) ++ (rdOf ByteArray.empty l0 x33_3)).size + 1 ≤ 9223372036854775807) = true := decide_eq_true c29
                                          try have c29b2 : (9223372036854775807 < ((((⟨#[59, 112, 61, 34]⟩ : ByteArray) ++ (rdOf ByteArray.empty l0 x33_3)) ++ (⟨#[44]⟩ : ByteArray)) ++ (rdOf ByteArray.empty l0 x33_3)).size + 1) = False := eq_false (Nat.not_lt.2 c29)
                                          try (have c29b3 := c29; simp only [ByteArray.size_append, prx_sz, List.length_cons, List.length_nil] at c29b3)
                                          by_cases c30 : (((rdOf ByteArray.empty l0 x33_3) ++ (⟨#[47]⟩ : ByteArray)) ++ (rdOf ByteArray.empty l0 x33_3)).size + (((((⟨#[59, 112, 61, 34]⟩ : ByteArray) ++ (rdOf ByteArray.empty l0 x33_3)) ++ (⟨#[44]⟩ : ByteArray)) ++ (rdOf ByteArray.empty l0 x33_3)) ++ (⟨#[34]⟩ : ByteArray)).size ≤ 9223372036854775807
                                          · rw [if_pos c30] at H
                                            have c30b0 := eq_true c30
                                            have c30b1 : decide ((((rdOf ByteArray.empty l0 x33_3) ++ (⟨#[47]⟩ : ByteArray)) ++ (rdOf ByteArray.empty l0 x33_3)).size + (((((⟨#[59, 112, 61, 34]⟩ : ByteArray) ++ (rdOf ByteArray.empty l0 x33_3)) ++ (⟨#[44]⟩ : ByteArray)) ++ (rdOf ByteArray.empty l0 x33_3)) ++ (⟨#[34]⟩ : ByteArray)).size ≤ 9223372036854775807) = true := decide_eq_true c30
                                            try have c30b2 : (9223372036854775807 < (((rdOf ByteArray.empty l0 x33_3) ++ (⟨#[47]⟩ : ByteArray)) ++ (rdOf ByteArray.empty l0 x33_3)).size + (((((⟨#[59, 112, 61, 34]⟩ : ByteArray) ++ (rdOf ByteArray.empty l0 x33_3)) ++ (⟨#[44]⟩ : ByteArray)) ++ (rdOf ByteArray.empty l0 x33_3)) ++ (⟨#[34]⟩ : ByteArray)).size) = False := eq_false (Nat.not_lt.2 c30)
                                            try (have c30b3 := c30; simp only [ByteArray.size_append, prx_sz, List.length_cons, List.length_nil] at c30b3)
                                            by_cases c31 : x6_3.length < 8796093022208
                                            · rw [if_pos c31] at H
                                              have LMc31 := Aside0.mk c31
                                              clear c31
                                              obtain ⟨y283, hy283⟩ : ∃ y_ : List ByteArray, y_ = (x6_3 ++ [(((rdOf ByteArray.empty l0 x33_3) ++ (⟨#[47]⟩ : ByteArray)) ++ (rdOf ByteArray.empty l0 x33_3)) ++ (((((⟨#[59, 112, 61, 34]⟩ : ByteArray) ++ (rdOf ByteArray.empty l0 x33_3)) ++ (⟨#[44]⟩ : ByteArray)) ++ (rdOf ByteArray.empty l0 x33_3)) ++ (⟨#[34]⟩ : ByteArray))]) := ⟨_, rfl⟩
                                              replace H : (laws_FnRangesJoin.l0 k3 l1 y283 l0 (l0.length : Int) (wrap64 (x33_3 + 1))) = some r := by first | (rw [hy283]; with_reducible exact H) | (have H2_ := (Option.bind_some _ _).symm.trans H; rw [hy283]; with_reducible exact H2_) | (have H2_ := (Option.bind_some _ _).symm.trans H; with_reducible exact H2_) | with_reducible exact H | (rw [hy283]; exact H) | exact H
                                              have Ny283 := Aside0.mk hy283
                                              clear hy283
                                              have H' := Aside0.mk H
                                              clear H
                                              have p281 : 0 ≤ (x33_3 : Int) := of_decide_eq_true (by first | (with_reducible assumption) | assumption)
                                              have q281 : x33_3 < (l0.length : Int) := of_decide_eq_true (by first | (with_reducible assumption) | assumption)
                                              obtain ⟨ad281, e281, hx281_0⟩ := Kd.at_string HR0.out x33_3 p281 q281
                                              cases e281
                                              replace hx281_0 := (HB.out.cell (World.block_lt_of_cell? w _ hx281_0)).trans hx281_0
                                              replace p281 := eq_true p281
                                              replace q281 := eq_true q281
                                              have p282 : 0 ≤ (x33_3 : Int) := of_decide_eq_true (by first | (with_reducible assumption) | assumption)
                                              have q282 : x33_3 < (l1.length : Int) := of_decide_eq_true (by first | (with_reducible assumption) | assumption)
                                              obtain ⟨ad282, e282, hx282_0⟩ := Kd.at_int HR1.out x33_3 p282 q282
                                              cases e282
                                              replace hx282_0 := (HB.out.cell (World.block_lt_of_cell? w _ hx282_0)).trans hx282_0
                                              replace p282 := eq_true p282
                                              replace q282 := eq_true q282
                                              go_wp2_with (first | ((with_reducible refine gate_builtin (b := .append) (xs := #[.tmp 62, .tmp 64]) rfl ?_); (try (refine gate_guard (by rfl) ?_; dsimp only)); at_builtin; refine Kd.R_append Kd.string (w0 := w) w.heap.size rfl (.tmp 62) (.tmp 64) 29 9 (.string ⟨#[]⟩) 16 rfl Try.underlying29 info9 rfl (by decide) (by omega) u6 x6_3 ((((rdOf ByteArray.empty l0 x33_3) ++ (⟨#[47]⟩ : ByteArray)) ++ (rdOf ByteArray.empty l0 x33_3)) ++ (((((⟨#[59, 112, 61, 34]⟩ : ByteArray) ++ (rdOf ByteArray.empty l0 x33_3)) ++ (⟨#[44]⟩ : ByteArray)) ++ (rdOf ByteArray.empty l0 x33_3)) ++ (⟨#[34]⟩ : ByteArray))) [.string ((((rdOf ByteArray.empty l0 x33_3) ++ (⟨#[47]⟩ : ByteArray)) ++ (rdOf ByteArray.empty l0 x33_3)) ++ (((((⟨#[59, 112, 61, 34]⟩ : ByteArray) ++ (rdOf ByteArray.empty l0 x33_3)) ++ (⟨#[44]⟩ : ByteArray)) ++ (rdOf ByteArray.empty l0 x33_3)) ++ (⟨#[34]⟩ : ByteArray)))] (fun _ => True) (fun _ => False) rfl rfl ?aP (fun _ hk => hk.elim) ?aF ?aO ?aB ?aS ?aL ?_; (case aP => exact rfl); (case aB => exact (by repeat (first | (with_reducible first | exact HB.out | apply below_alloc | apply pw_below_drewN | apply below_drew1) | exact HB.out))); (case aF => exact (fun _ _ => trivial)); (case aO => exact (by (with_reducible repeat (first | apply Kd.R_alloc | apply Kd.R_drewN | apply Kd.R_drew)); exact HO_6.out)); (case aS => exact (below_size (by repeat (first | (with_reducible first | exact HB.out | apply below_alloc | apply pw_below_drewN | apply below_drew1) | exact HB.out)))); (case aL => have := LMc31.out; omega); intro v284 w32 ho hb hg hat; rw [← Ny283.out] at ho; have n0_ := Aside0.mk (hb); have n1_ := Aside0.mk (ho); clear HB; clear HO_6; have HB := n0_; have HO285 := n1_; clear n0_ n1_; clear ho hb hg hat))
                                              go_roundg k3
                                              case measure => have := HJ2.out; have := HJ9.out; have := HK3.out; omega
                                              case rel => exact ⟨(y283), (wrap64 (x33_3 + 1)), (by first | rfl | (simp; done) | (rw [prx_ne]; first | done | rfl) | (simp [*]; done)), H', ⟨by have := HJ2.out; have := HJ9.out; have := HK3.out; omega⟩, ⟨by (with_reducible repeat (first | apply Kd.R_alloc | apply Kd.R_drewN | apply Kd.R_drew)); exact HO285.out⟩, ⟨by repeat (first | (with_reducible first | exact HB.out | apply below_alloc | apply pw_below_drewN | apply below_drew1) | exact HB.out)⟩⟩
                                            · rw [if_neg c31] at H
                                              exact absurd H (by simp)
                                          · rw [if_neg c30] at H
                                            exact absurd H (by simp)
                                        · rw [if_neg c29] at H
                                          exact absurd H (by simp)
                                      · rw [if_neg c28] at H
                                        exact absurd H (by simp)
                                    · rw [if_neg c27] at H
                                      exact absurd H (by simp)
                                  · rw [if_neg c26] at H
                                    exact absurd H (by simp)
                                · rw [if_neg c25] at H
                                  have c25b0 : ((Int.tmod (rd l1 x33_3) 2) == 1) = false := beq_eq_false_iff_ne.mpr c25
                                  have c25b1 : ((Int.tmod (rd l1 x33_3) 2) != 1) = true := bne_iff_ne.mpr c25
                                  by_cases c33 : x6_3.length < 8796093022208
                                  · rw [if_pos c33] at H
                                    have LMc33 := Aside0.mk c33
                                    clear c33
                                    obtain ⟨y286, hy286⟩ : ∃ y_ : List ByteArray, y_ = (x6_3 ++ [((rdOf ByteArray.empty l0 x33_3) ++ (⟨#[47]⟩ : ByteArray)) ++ (rdOf ByteArray.empty l0 x33_3)]) := ⟨_, rfl⟩
                                    replace H : (laws_FnRangesJoin.l0 k3 l1 y286 l0 (l0.length : Int) (wrap64 (x33_3 + 1))) = some r := by first | (rw [hy286]; with_reducible exact H) | (have H2_ := (Option.bind_some _ _).symm.trans H; rw [hy286]; with_reducible exact H2_) | (have H2_ := (Option.bind_some _ _).symm.trans H; with_reducible exact H2_) | with_reducible exact H | (rw [hy286]; exact H) | exact H
                                    have Ny286 := Aside0.mk hy286
                                    clear hy286
                                    have H' := Aside0.mk H
                                    clear H
                                    have p281 : 0 ≤ (x33_3 : Int) := of_decide_eq_true (by first | (with_reducible assumption) | assumption)
                                    have q281 : x33_3 < (l0.length : Int) := of_decide_eq_true (by first | (with_reducible assumption) | assumption)
                                    obtain ⟨ad281, e281, hx281_0⟩ := Kd.at_string HR0.out x33_3 p281 q281
                                    cases e281
                                    replace hx281_0 := (HB.out.cell (World.block_lt_of_cell? w _ hx281_0)).trans hx281_0
                                    replace p281 := eq_true p281
                                    replace q281 := eq_true q281
                                    have p282 : 0 ≤ (x33_3 : Int) := of_decide_eq_true (by first | (with_reducible assumption) | assumption)
                                    have q282 : x33_3 < (l1.length : Int) := of_decide_eq_true (by first | (with_reducible assumption) | assumption)
                                    obtain ⟨ad282, e282, hx282_0⟩ := Kd.at_int HR1.out x33_3 p282 q282
                                    cases e282
                                    replace hx282_0 := (HB.out.cell (World.block_lt_of_cell? w _ hx282_0)).trans hx282_0
                                    replace p282 := eq_true p282
                                    replace q282 := eq_true q282
                                    go_wp2_with (first | ((with_reducible refine gate_builtin (b := .append) (xs := #[.tmp 62, .tmp 64]) rfl ?_); (try (refine gate_guard (by rfl) ?_; dsimp only)); at_builtin; refine Kd.R_append Kd.string (w0 := w) w.heap.size rfl (.tmp 62) (.tmp 64) 29 9 (.string ⟨#[]⟩) 16 rfl Try.underlying29 info9 rfl (by decide) (by omega) u6 x6_3 (((rdOf ByteArray.empty l0 x33_3) ++ (⟨#[47]⟩ : ByteArray)) ++ (rdOf ByteArray.empty l0 x33_3)) [.string (((rdOf ByteArray.empty l0 x33_3) ++ (⟨#[47]⟩ : ByteArray)) ++ (rdOf ByteArray.empty l0 x33_3))] (fun _ => True) (fun _ => False) rfl rfl ?aP (fun _ hk => hk.elim) ?aF ?aO ?aB ?aS ?aL ?_; (case aP => exact rfl); (case aB => exact (by repeat (first | (with_reducible first | exact HB.out | apply below_alloc | apply pw_below_drewN | apply below_drew1) | exact HB.out))); (case aF => exact (fun _ _ => trivial)); (case aO => exact (by (with_reducible repeat (first | apply Kd.R_alloc | apply Kd.R_drewN | apply Kd.R_drew)); exact HO_6.out)); (case aS => exact (below_size (by repeat (first | (with_reducible first | exact HB.out | apply below_alloc | apply pw_below_drewN | apply below_drew1) | exact HB.out)))); (case aL => have := LMc33.out; omega); intro v287 w34 ho hb hg hat; rw [← Ny286.out] at ho; have n0_ := Aside0.mk (hb); have n1_ := Aside0.mk (ho); clear HB; clear HO_6; have HB := n0_; have HO288 := n1_; clear n0_ n1_; clear ho hb hg hat))
                                    go_roundg k3
                                    case measure => have := HJ2.out; have := HJ9.out; have := HK3.out; omega
                                    case rel => exact ⟨(y286), (wrap64 (x33_3 + 1)), (by first | rfl | (simp; done) | (rw [prx_ne]; first | done | rfl) | (simp [*]; done)), H', ⟨by have := HJ2.out; have := HJ9.out; have := HK3.out; omega⟩, ⟨by (with_reducible repeat (first | apply Kd.R_alloc | apply Kd.R_drewN | apply Kd.R_drew)); exact HO288.out⟩, ⟨by repeat (first | (with_reducible first | exact HB.out | apply below_alloc | apply pw_below_drewN | apply below_drew1) | exact HB.out)⟩⟩
                                  · rw [if_neg c33] at H
                                    exact absurd H (by simp)
                              · rw [if_neg c24] at H
                                have c24b0 : decide (x33_3 < (l1.length : Int)) = false := decide_eq_false c24
                                clear c24
                                by_cases c35 : x6_3.length < 8796093022208
                                · rw [if_pos c35] at H
                                  have LMc35 := Aside0.mk c35
                                  clear c35
                                  obtain ⟨y289, hy289⟩ : ∃ y_ : List ByteArray, y_ = (x6_3 ++ [((rdOf ByteArray.empty l0 x33_3) ++ (⟨#[47]⟩ : ByteArray)) ++ (rdOf ByteArray.empty l0 x33_3)]) := ⟨_, rfl⟩
                                  replace H : (laws_FnRangesJoin.l0 k3 l1 y289 l0 (l0.length : Int) (wrap64 (x33_3 + 1))) = some r := by first | (rw [hy289]; with_reducible exact H) | (have H2_ := (Option.bind_some _ _).symm.trans H; rw [hy289]; with_reducible exact H2_) | (have H2_ := (Option.bind_some _ _).symm.trans H; with_reducible exact H2_) | with_reducible exact H | (rw [hy289]; exact H) | exact H
                                  have Ny289 := Aside0.mk hy289
                                  clear hy289
                                  have H' := Aside0.mk H
                                  clear H
                                  have p281 : 0 ≤ (x33_3 : Int) := of_decide_eq_true (by first | (with_reducible assumption) | assumption)
                                  have q281 : x33_3 < (l0.length : Int) := of_decide_eq_true (by first | (with_reducible assumption) | assumption)
                                  obtain ⟨ad281, e281, hx281_0⟩ := Kd.at_string HR0.out x33_3 p281 q281
                                  cases e281
                                  replace hx281_0 := (HB.out.cell (World.block_lt_of_cell? w _ hx281_0)).trans hx281_0
                                  replace p281 := eq_true p281
                                  replace q281 := eq_true q281
                                  go_wp2_with (first | ((with_reducible refine gate_builtin (b := .append) (xs := #[.tmp 62, .tmp 64]) rfl ?_); (try (refine gate_guard (by rfl) ?_; dsimp only)); at_builtin; refine Kd.R_append Kd.string (w0 := w) w.heap.size rfl (.tmp 62) (.tmp 64) 29 9 (.string ⟨#[]⟩) 16 rfl Try.underlying29 info9 rfl (by decide) (by omega) u6 x6_3 (((rdOf ByteArray.empty l0 x33_3) ++ (⟨#[47]⟩ : ByteArray)) ++ (rdOf ByteArray.empty l0 x33_3)) [.string (((rdOf ByteArray.empty l0 x33_3) ++ (⟨#[47]⟩ : ByteArray)) ++ (rdOf ByteArray.empty l0 x33_3))] (fun _ => True) (fun _ => False) rfl rfl ?aP (fun _ hk => hk.elim) ?aF ?aO ?aB ?aS ?aL ?_; (case aP => exact rfl); (case aB => exact (by repeat (first | (with_reducible first | exact HB.out | apply below_alloc | apply pw_below_drewN | apply below_drew1) | exact HB.out))); (case aF => exact (fun _ _ => trivial)); (case aO => exact (by (with_reducible repeat (first | apply Kd.R_alloc | apply Kd.R_drewN | apply Kd.R_drew)); exact HO_6.out)); (case aS => exact (below_size (by repeat (first | (with_reducible first | exact HB.out | apply below_alloc | apply pw_below_drewN | apply below_drew1) | exact HB.out)))); (case aL => have := LMc35.out; omega); intro v290 w36 ho hb hg hat; rw [← Ny289.out] at ho; have n0_ := Aside0.mk (hb); have n1_ := Aside0.mk (ho); clear HB; clear HO_6; have HB := n0_; have HO291 := n1_; clear n0_ n1_; clear ho hb hg hat))
                                  go_roundg k3
                                  case measure => have := HJ2.out; have := HJ9.out; have := HK3.out; omega
                                  case rel => exact ⟨(y289), (wrap64 (x33_3 + 1)), (by first | rfl | (simp; done) | (rw [prx_ne]; first | done | rfl) | (simp [*]; done)), H', ⟨by have := HJ2.out; have := HJ9.out; have := HK3.out; omega⟩, ⟨by (with_reducible repeat (first | apply Kd.R_alloc | apply Kd.R_drewN | apply Kd.R_drew)); exact HO291.out⟩, ⟨by repeat (first | (with_reducible first | exact HB.out | apply below_alloc | apply pw_below_drewN | apply below_drew1) | exact HB.out)⟩⟩
                                · rw [if_neg c35] at H
                                  exact absurd H (by simp)
                            · rw [if_neg c23] at H
                              exact absurd H (by simp)
                          · rw [if_neg c22] at H
                            exact absurd H (by simp)
                        · rw [if_neg c21] at H
                          exact absurd H (by simp)
                      · rw [if_neg c20] at H
                        exact absurd H (by simp)
                    · rw [if_neg c19] at H
                      have c19b0 : decide (x33_3 < (l0.length : Int)) = false := decide_eq_false c19
                      clear c19
                      replace H := Option.bind_eq_some_iff.mp H
                      obtain ⟨t292, A370, H⟩ := H
                      replace H : ((impl_MediaRanges.f t292).bind fun t293 => ((laws_sameTexts.f k3 t293 x6_3).bind fun t296 => (if t296 = true then ((laws_joined.f k3 x6_3 (⟨#[44]⟩ : ByteArray)).bind fun t297 => ((impl_MediaRanges.f t297).bind fun t298 => ((laws_sameTexts.f k3 t298 x6_3).bind fun t301 => (some t301)))) else (some false)))) = some r := H
                      have A37 := Aside0.mk A370
                      clear A370
                      replace H := Option.bind_eq_some_iff.mp H
                      obtain ⟨t293, A380, H⟩ := H
                      replace H : ((laws_sameTexts.f k3 t293 x6_3).bind fun t296 => (if t296 = true then ((laws_joined.f k3 x6_3 (⟨#[44]⟩ : ByteArray)).bind fun t297 => ((impl_MediaRanges.f t297).bind fun t298 => ((laws_sameTexts.f k3 t298 x6_3).bind fun t301 => (some t301)))) else (some false))) = some r := H
                      have A38 := Aside0.mk A380
                      clear A380
                      replace H := Option.bind_eq_some_iff.mp H
                      obtain ⟨t296, A390, H⟩ := H
                      replace H : (if t296 = true then ((laws_joined.f k3 x6_3 (⟨#[44]⟩ : ByteArray)).bind fun t297 => ((impl_MediaRanges.f t297).bind fun t298 => ((laws_sameTexts.f k3 t298 x6_3).bind fun t301 => (some t301)))) else (some false)) = some r := H
                      have A39 := Aside0.mk A390
                      clear A390
                      by_cases c40 : t296 = true
                      · subst c40
                        have H1 : ((laws_joined.f k3 x6_3 (⟨#[44]⟩ : ByteArray)).bind fun t297 => ((impl_MediaRanges.f t297).bind fun t298 => ((laws_sameTexts.f k3 t298 x6_3).bind fun t301 => (some t301)))) = some r := by rw [if_pos rfl] at H; exact H
                        clear H
                        have H := H1
                        clear H1
                        replace H := Option.bind_eq_some_iff.mp H
                        obtain ⟨t297, A410, H⟩ := H
                        replace H : ((impl_MediaRanges.f t297).bind fun t298 => ((laws_sameTexts.f k3 t298 x6_3).bind fun t301 => (some t301))) = some r := H
                        have A41 := Aside0.mk A410
                        clear A410
                        replace H := Option.bind_eq_some_iff.mp H
                        obtain ⟨t298, A420, H⟩ := H
                        replace H : ((laws_sameTexts.f k3 t298 x6_3).bind fun t301 => (some t301)) = some r := H
                        have A42 := Aside0.mk A420
                        clear A420
                        replace H := Option.bind_eq_some_iff.mp H
                        obtain ⟨t301, A430, H⟩ := H
                        replace H : (some t301) = some r := H
                        have A43 := Aside0.mk A430
                        clear A430
                        obtain rfl := Option.some.inj H
                        obtain ⟨Ao44, co44, eo44⟩ := Kd.R_slice HO_6.out
                        subst eo44
                        go_wp2_with (first | ((with_reducible refine gate_callee (f := 21) rfl ?_); refine goesL_ (some 68) rfl rfl Try.func21 (by kernel_rfl) rfl #[.slice Ao44 x6_3.length co44, .string (⟨#[44, 32]⟩ : ByteArray)] rfl (by (try simp only [List.map_toArray, List.map_cons, List.map_nil]); first | done | rfl | (simp only [List.length_drop, List.length_take]; rfl)) ?_; (with_reducible refine (laws_joined.calls k3 _ _ x6_3 (⟨#[44, 32]⟩ : ByteArray) t292 _ ?side1 ?side2 A37.out).mono ?_); (case side1 => repeat (first | exact (Kd.R_reads' HO_6.out).2.2 | (with_reducible refine Kd.C_alloc ?_ _) | (with_reducible refine Kd.C_drewN ?_ _) | (with_reducible refine Kd.C_drew ?_))); (case side2 => exact (Kd.R_reads' HO_6.out).2.1); rintro e w' ⟨rfl, ⟨nd, rfl⟩⟩; refine ⟨_, rfl, ?_⟩) | ((with_reducible refine gate_callee (f := 18) rfl ?_); refine goesL_ (some 69) rfl rfl Try.func18 (by kernel_rfl) rfl #[.string t292] rfl (by (try simp only [List.map_toArray, List.map_cons, List.map_nil]); first | done | rfl | (simp only [List.length_drop, List.length_take]; rfl)) ?_; (with_reducible refine (impl_MediaRanges.calls t292 t293 _ A38.out).mono ?_); rintro e w45 ⟨v294, rfl, ho0, hb⟩; refine ⟨_, rfl, ?_⟩; have n0_ := Aside0.mk (Kd.R_elder' (by (with_reducible repeat (first | apply Kd.R_alloc | apply Kd.R_drewN | apply Kd.R_drew)); exact HO_6.out) (Kd.R_base ho0) hb); have n1_ := Aside0.mk (Kd.R_lower (Kd.R_new' ho0 (Kd.R_lt (by (with_reducible repeat (first | apply Kd.R_alloc | apply Kd.R_drewN | apply Kd.R_drew)); exact HO_6.out))) (below_size (by repeat (first | (with_reducible first | exact HB.out | apply below_alloc | apply pw_below_drewN | apply below_drew1) | exact HB.out)))); have n2_ := Aside0.mk (below_step (by repeat (first | (with_reducible first | exact HB.out | apply below_alloc | apply pw_below_drewN | apply below_drew1) | exact HB.out)) hb); clear HO_6; clear HB; have HO_6 := n0_; have HO295 := n1_; have HB := n2_; clear n0_ n1_ n2_; (try clear hb); (try clear hb2); (try clear hk); (try clear hi); (try clear ho0); obtain ⟨Ao46, co46, eo46⟩ := Kd.R_slice HO295.out; subst eo46) | ((with_reducible refine gate_callee (f := 19) rfl ?_); refine goesL_ (some 71) rfl rfl Try.func19 (by kernel_rfl) rfl #[.slice Ao46 t293.length co46, .slice Ao44 x6_3.length co44] rfl (by (try simp only [List.map_toArray, List.map_cons, List.map_nil]); first | done | rfl | (simp only [List.length_drop, List.length_take]; rfl)) ?_; (with_reducible refine (laws_sameTexts.calls k3 _ _ t293 _ _ x6_3 true _ ?side1 ?side2 ?side3 ?side4 A39.out).mono ?_); (case side1 => repeat (first | exact (Kd.R_reads' HO295.out).2.2 | (with_reducible refine Kd.C_alloc ?_ _) | (with_reducible refine Kd.C_drewN ?_ _) | (with_reducible refine Kd.C_drew ?_))); (case side2 => exact (Kd.R_reads' HO295.out).2.1); (case side3 => repeat (first | exact (Kd.R_reads' HO_6.out).2.2 | (with_reducible refine Kd.C_alloc ?_ _) | (with_reducible refine Kd.C_drewN ?_ _) | (with_reducible refine Kd.C_drew ?_))); (case side4 => exact (Kd.R_reads' HO_6.out).2.1); rintro e w' ⟨rfl, ⟨nd, rfl⟩⟩; refine ⟨_, rfl, ?_⟩) | (go_at_call 21; (with_reducible refine (laws_joined.calls k3 _ _ x6_3 (⟨#[44]⟩ : ByteArray) t297 _ ?side1 ?side2 A41.out).mono ?_); (case side1 => repeat (first | exact (Kd.R_reads' HO_6.out).2.2 | (with_reducible refine Kd.C_alloc ?_ _) | (with_reducible refine Kd.C_drewN ?_ _) | (with_reducible refine Kd.C_drew ?_))); (case side2 => exact (Kd.R_reads' HO_6.out).2.1); rintro e w' ⟨rfl, ⟨nd, rfl⟩⟩) | (go_at_call 18; (with_reducible refine (impl_MediaRanges.calls t297 t298 _ A42.out).mono ?_); rintro e w47 ⟨v299, rfl, ho0, hb⟩; have n0_ := Aside0.mk (Kd.R_elder' (by (with_reducible repeat (first | apply Kd.R_alloc | apply Kd.R_drewN | apply Kd.R_drew)); exact HO_6.out) (Kd.R_base ho0) hb); have n1_ := Aside0.mk (Kd.R_elder' (by (with_reducible repeat (first | apply Kd.R_alloc | apply Kd.R_drewN | apply Kd.R_drew)); exact HO295.out) (Kd.R_base ho0) hb); have n2_ := Aside0.mk (Kd.R_lower (Kd.R_new' (Kd.R_new' ho0 (Kd.R_lt (by (with_reducible repeat (first | apply Kd.R_alloc | apply Kd.R_drewN | apply Kd.R_drew)); exact HO_6.out))) (Kd.R_lt (by (with_reducible repeat (first | apply Kd.R_alloc | apply Kd.R_drewN | apply Kd.R_drew)); exact HO295.out))) (below_size (by repeat (first | (with_reducible first | exact HB.out | apply below_alloc | apply pw_below_drewN | apply below_drew1) | exact HB.out)))); have n3_ := Aside0.mk (below_step (by repeat (first | (with_reducible first | exact HB.out | apply below_alloc | apply pw_below_drewN | apply below_drew1) | exact HB.out)) hb); clear HO_6; clear HO295; clear HB; have HO_6 := n0_; have HO295 := n1_; have HO300 := n2_; have HB := n3_; clear n0_ n1_ n2_ n3_; (try clear hb); (try clear hb2); (try clear hk); (try clear hi); (try clear ho0); obtain ⟨Ao48, co48, eo48⟩ := Kd.R_slice HO300.out; subst eo48) | (go_at_call 19; (with_reducible refine (laws_sameTexts.calls k3 _ _ t298 _ _ x6_3 t301 _ ?side1 ?side2 ?side3 ?side4 A43.out).mono ?_); (case side1 => repeat (first | exact (Kd.R_reads' HO300.out).2.2 | (with_reducible refine Kd.C_alloc ?_ _) | (with_reducible refine Kd.C_drewN ?_ _) | (with_reducible refine Kd.C_drew ?_))); (case side2 => exact (Kd.R_reads' HO300.out).2.1); (case side3 => repeat (first | exact (Kd.R_reads' HO_6.out).2.2 | (with_reducible refine Kd.C_alloc ?_ _) | (with_reducible refine Kd.C_drewN ?_ _) | (with_reducible refine Kd.C_drew ?_))); (case side4 => exact (Kd.R_reads' HO_6.out).2.1); rintro e w' ⟨rfl, ⟨nd, rfl⟩⟩))
                        go_ret
                        exact ⟨by first | rfl | (simp [errW_none, errW_some] <;> rfl) | (simp [*, errW_none, errW_some] <;> rfl), by repeat (first | (with_reducible first | exact HB.out | apply below_alloc | apply pw_below_drewN | apply below_drew1) | exact HB.out)⟩
                      · replace c40 := Bool.eq_false_iff.mpr c40
                        subst c40
                        have H1 : (some false) = some r := by rw [if_neg (show ¬ (false = true) by decide)] at H; exact H
                        clear H
                        have H := H1
                        clear H1
                        obtain rfl := Option.some.inj H
                        obtain ⟨Ao49, co49, eo49⟩ := Kd.R_slice HO_6.out
                        subst eo49
                        go_wp2_with (first | ((with_reducible refine gate_callee (f := 21) rfl ?_); refine goesL_ (some 68) rfl rfl Try.func21 (by kernel_rfl) rfl #[.slice Ao49 x6_3.length co49, .string (⟨#[44, 32]⟩ : ByteArray)] rfl (by (try simp only [List.map_toArray, List.map_cons, List.map_nil]); first | done | rfl | (simp only [List.length_drop, List.length_take]; rfl)) ?_; (with_reducible refine (laws_joined.calls k3 _ _ x6_3 (⟨#[44, 32]⟩ : ByteArray) t292 _ ?side1 ?side2 A37.out).mono ?_); (case side1 => repeat (first | exact (Kd.R_reads' HO_6.out).2.2 | (with_reducible refine Kd.C_alloc ?_ _) | (with_reducible refine Kd.C_drewN ?_ _) | (with_reducible refine Kd.C_drew ?_))); (case side2 => exact (Kd.R_reads' HO_6.out).2.1); rintro e w' ⟨rfl, ⟨nd, rfl⟩⟩; refine ⟨_, rfl, ?_⟩) | ((with_reducible refine gate_callee (f := 18) rfl ?_); refine goesL_ (some 69) rfl rfl Try.func18 (by kernel_rfl) rfl #[.string t292] rfl (by (try simp only [List.map_toArray, List.map_cons, List.map_nil]); first | done | rfl | (simp only [List.length_drop, List.length_take]; rfl)) ?_; (with_reducible refine (impl_MediaRanges.calls t292 t293 _ A38.out).mono ?_); rintro e w50 ⟨v294, rfl, ho0, hb⟩; refine ⟨_, rfl, ?_⟩; have n0_ := Aside0.mk (Kd.R_elder' (by (with_reducible repeat (first | apply Kd.R_alloc | apply Kd.R_drewN | apply Kd.R_drew)); exact HO_6.out) (Kd.R_base ho0) hb); have n1_ := Aside0.mk (Kd.R_lower (Kd.R_new' ho0 (Kd.R_lt (by (with_reducible repeat (first | apply Kd.R_alloc | apply Kd.R_drewN | apply Kd.R_drew)); exact HO_6.out))) (below_size (by repeat (first | (with_reducible first | exact HB.out | apply below_alloc | apply pw_below_drewN | apply below_drew1) | exact HB.out)))); have n2_ := Aside0.mk (below_step (by repeat (first | (with_reducible first | exact HB.out | apply below_alloc | apply pw_below_drewN | apply below_drew1) | exact HB.out)) hb); clear HO_6; clear HB; have HO_6 := n0_; have HO295 := n1_; have HB := n2_; clear n0_ n1_ n2_; (try clear hb); (try clear hb2); (try clear hk); (try clear hi); (try clear ho0); obtain ⟨Ao51, co51, eo51⟩ := Kd.R_slice HO295.out; subst eo51) | ((with_reducible refine gate_callee (f := 19) rfl ?_); refine goesL_ (some 71) rfl rfl Try.func19 (by kernel_rfl) rfl #[.slice Ao51 t293.length co51, .slice Ao49 x6_3.length co49] rfl (by (try simp only [List.map_toArray, List.map_cons, List.map_nil]); first | done | rfl | (simp only [List.length_drop, List.length_take]; rfl)) ?_; (with_reducible refine (laws_sameTexts.calls k3 _ _ t293 _ _ x6_3 false _ ?side1 ?side2 ?side3 ?side4 A39.out).mono ?_); (case side1 => repeat (first | exact (Kd.R_reads' HO295.out).2.2 | (with_reducible refine Kd.C_alloc ?_ _) | (with_reducible refine Kd.C_drewN ?_ _) | (with_reducible refine Kd.C_drew ?_))); (case side2 => exact (Kd.R_reads' HO295.out).2.1); (case side3 => repeat (first | exact (Kd.R_reads' HO_6.out).2.2 | (with_reducible refine Kd.C_alloc ?_ _) | (with_reducible refine Kd.C_drewN ?_ _) | (with_reducible refine Kd.C_drew ?_))); (case side4 => exact (Kd.R_reads' HO_6.out).2.1); rintro e w' ⟨rfl, ⟨nd, rfl⟩⟩; refine ⟨_, rfl, ?_⟩))
                        go_ret
                        exact ⟨by first | rfl | (simp [errW_none, errW_some] <;> rfl) | (simp [*, errW_none, errW_some] <;> rfl), by repeat (first | (with_reducible first | exact HB.out | apply below_alloc | apply pw_below_drewN | apply below_drew1) | exact HB.out)⟩
        · replace c9 := Bool.eq_false_iff.mpr c9
          subst c9
          have H1 : (some false) = some r := by rw [if_neg (show ¬ (false = true) by decide)] at H; exact H
          clear H
          have H := H1
          clear H1
          obtain rfl := Option.some.inj H
          go_wp2_with (first | ((with_reducible refine gate_callee (f := 18) rfl ?_); refine goesL_ (some 18) rfl rfl Try.func18 (by kernel_rfl) rfl #[.string (⟨#[97, 47, 98, 44, 32, 99, 47, 100]⟩ : ByteArray)] rfl (by (try simp only [List.map_toArray, List.map_cons, List.map_nil]); first | done | rfl | (simp only [List.length_drop, List.length_take]; rfl)) ?_; (with_reducible refine (impl_MediaRanges.calls (⟨#[97, 47, 98, 44, 32, 99, 47, 100]⟩ : ByteArray) t273 _ A7.out).mono ?_); rintro e w52 ⟨v274, rfl, ho0, hb⟩; refine ⟨_, rfl, ?_⟩; have n0_ := Aside0.mk (Kd.R_lower ho0 (below_size (by repeat (first | (with_reducible first | exact HB.out | apply below_alloc | apply pw_below_drewN | apply below_drew1) | exact HB.out)))); have n1_ := Aside0.mk (below_step (by repeat (first | (with_reducible first | exact HB.out | apply below_alloc | apply pw_below_drewN | apply below_drew1) | exact HB.out)) hb); clear HB; have HO275 := n0_; have HB := n1_; clear n0_ n1_; (try clear hb); (try clear hb2); (try clear hk); (try clear hi); (try clear ho0)) | ((with_reducible refine gate_dst (N := 20) rfl ?_); (try (refine gate_guard (by rfl) ?_; dsimp only)); refine Kd.R_lit Kd.string _ 9 ?hg (N := 20) ?hd (xs := ([(⟨#[97, 47, 98]⟩ : ByteArray), (⟨#[99, 47, 100]⟩ : ByteArray)] : List ByteArray)) (inner := [.string (⟨#[97, 47, 98]⟩ : ByteArray), .string (⟨#[99, 47, 100]⟩ : ByteArray)]) (ok := fun _ => True) (okp := fun _ => True) ?hr ?hp (fun _ hk => hk) trivial (Below.refl _ _) (Nat.le_refl _) (by simp) ?_; (case hd => rfl); (case hg => rfl); (case hr => first | (go_simp; done) | (go_simp; rfl)); (case hp => exact (Reps.one (show Kd.M Kd.string _ _ _ (⟨#[97, 47, 98]⟩ : ByteArray) [.string (⟨#[97, 47, 98]⟩ : ByteArray)] from rfl) (Reps.one (show Kd.M Kd.string _ _ _ (⟨#[99, 47, 100]⟩ : ByteArray) [.string (⟨#[99, 47, 100]⟩ : ByteArray)] from rfl) (Reps.none _ _)))); intro v277 w53 ho54 hb hg_ hnew_; clear hg_ hnew_; (first | rw [← Ny276.out] at ho54 | (simp only [Int.reduceToNat] at ho54; rw [← Ny276.out] at ho54)); have n0_ := Aside0.mk (Kd.R_elder' (by (with_reducible repeat (first | apply Kd.R_alloc | apply Kd.R_drewN | apply Kd.R_drew)); exact HO275.out) (Kd.R_base ho54) hb); have n1_ := Aside0.mk (Kd.R_lower (Kd.R_new' ho54 (Kd.R_lt (by (with_reducible repeat (first | apply Kd.R_alloc | apply Kd.R_drewN | apply Kd.R_drew)); exact HO275.out))) (below_size (by repeat (first | (with_reducible first | exact HB.out | apply below_alloc | apply pw_below_drewN | apply below_drew1) | exact HB.out)))); have n2_ := Aside0.mk (below_step (by repeat (first | (with_reducible first | exact HB.out | apply below_alloc | apply pw_below_drewN | apply below_drew1) | exact HB.out)) hb); clear HO275; clear HB; have HO275 := n0_; have HO278 := n1_; have HB := n2_; clear n0_ n1_ n2_; clear hb ho54; obtain ⟨Ao55, co55, eo55⟩ := Kd.R_slice HO275.out; subst eo55; obtain ⟨Ao56, co56, eo56⟩ := Kd.R_slice HO278.out; subst eo56) | ((with_reducible refine gate_callee (f := 19) rfl ?_); refine goesL_ (some 21) rfl rfl Try.func19 (by kernel_rfl) rfl #[.slice Ao55 t273.length co55, .slice Ao56 y276.length co56] rfl (by (try simp only [List.map_toArray, List.map_cons, List.map_nil]); first | done | rfl | (simp only [List.length_drop, List.length_take]; rfl)) ?_; (with_reducible refine (laws_sameTexts.calls kj2 _ _ t273 _ _ y276 false _ ?side1 ?side2 ?side3 ?side4 A8.out).mono ?_); (case side1 => repeat (first | exact (Kd.R_reads' HO275.out).2.2 | (with_reducible refine Kd.C_alloc ?_ _) | (with_reducible refine Kd.C_drewN ?_ _) | (with_reducible refine Kd.C_drew ?_))); (case side2 => exact (Kd.R_reads' HO275.out).2.1); (case side3 => repeat (first | exact (Kd.R_reads' HO278.out).2.2 | (with_reducible refine Kd.C_alloc ?_ _) | (with_reducible refine Kd.C_drewN ?_ _) | (with_reducible refine Kd.C_drew ?_))); (case side4 => exact (Kd.R_reads' HO278.out).2.1); rintro e w' ⟨rfl, ⟨nd, rfl⟩⟩; refine ⟨_, rfl, ?_⟩))
          go_ret
          exact ⟨by first | rfl | (simp [errW_none, errW_some] <;> rfl) | (simp [*, errW_none, errW_some] <;> rfl), by repeat (first | (with_reducible first | exact HB.out | apply below_alloc | apply pw_below_drewN | apply below_drew1) | exact HB.out)⟩

/-- THE ONE PURE STATEMENT of laws_FnRangesJoin: yours. -/
def laws_FnRangesJoin.Pure : Prop := ∀ (l0 : List ByteArray) (l1 : List Int), l0.length * 16 ≤ 140737488351232 → l1.length ≤ maxLen → l1.length * 1 ≤ 140737488351232 → (∀ x ∈ l1, (Lit.int .u8 x).wf = true) → ∃ k, laws_FnRangesJoin.f k l0 l1 = some true
theorem laws_FnRangesJoin.walk (P : laws_FnRangesJoin.Pure) (a0 : Option Addr) (cap0 : Nat) (l0 : List ByteArray) (a1 : Option Addr) (len1 cap1 : Nat) (z1 : List Int) (w : World) (w0 : Kd.C Kd.string w a0 l0.length l0) (y0 : l0.length ≤ cap0) (m0 : l0.length * 16 ≤ 140737488351232) (w1 : (a1 = none ∧ len1 = 0 ∧ cap1 = 0 ∧ z1 = []) ∨ ∃ x, a1 = some x ∧ len1 ≤ cap1 ∧ cap1 ≤ maxLen ∧ z1.length = cap1 ∧ (∀ i, i < z1.length → w.cell? (x.add i) = some (.int .u8 (z1.getD i 0))) ∧ ∀ n ∈ z1, (Lit.int .u8 n).wf = true) (y1 : len1 * 1 ≤ 140737488351232) :
    Calls Try.prog 4 #[.slice a0 l0.length cap0, .slice a1 len1 cap1] w fun e w' => e = .returned (.bool true) ∧ Below w.heap.size w w' := by
  obtain ⟨l1, rfl, hr1, hm1, hw1, hc1⟩ := ReadsInt.ofRowC w1
  obtain ⟨k, h⟩ := P l0 l1 m0 hm1 y1 hw1
  refine (laws_FnRangesJoin.calls k _ _ l0 _ _ l1 true w w0 y0 (Kd.C_of_reads (d := (0 : Int)) (h1 := fun _ => rfl) hr1) hc1 h).mono ?_
  rintro e w' ⟨rfl, hd⟩
  exact ⟨rfl, hd⟩

end Go.Proofs.Ytkbmababljcabaa.QA
