/- Printed by wip/pr.py (a program of this repo over the print program of the kit). Not trusted: Lean checks it. -/
import Derived.Test.YtdfeojkombmiaaaQA0
import Derived.Test.YtdfeojkombmiaaaQA2
import Derived.Test.YtdfeojkombmiaaaQA3
import Derived.Test.YtdfeojkombmiaaaQA4
import Derived.Test.YtdfeojkombmiaaaQA25
namespace Go.Proofs.Ytdfeojkombmiaaa.QA
open Go.Proofs.Ytdfeojkombmiaaa.Given
open Go.Proofs.Ytdfeojkombmiaaa.PrX
open Go.RowKit Go.Proofs.YtdfeojkombmiaaaW.PrintWords Go.Proofs.YtdfeojkombmiaaaW.PrintLast Go.Proofs.YtdfeojkombmiaaaW.PrintMore
attribute [local go_sem] max2_int min2_int max_two min_two max_three min_three max_four min_four   -- for this text's walks alone
set_option linter.unusedVariables false
set_option linter.unusedSimpArgs false

/-! ### laws_FnNoCacheWord: function 9 -/
mutual
def laws_FnNoCacheWord.j0 : Nat → List ByteArray → Int → Bool → Option (Bool)
  | 0, _, _, _ => none
  | k + 1, x0, x1, x15 => if x15 = true then (some false) else ((laws_words.f k x0).bind fun t191 => (if t191 = true then (if x1 < (-1) then (laws_FnNoCacheWord.j1 k x0 x1 true) else (laws_FnNoCacheWord.j1 k x0 x1 (decide (x1 > (x0.length : Int))))) else (laws_FnNoCacheWord.j1 k x0 x1 true)))
def laws_FnNoCacheWord.j1 : Nat → List ByteArray → Int → Bool → Option (Bool)
  | 0, _, _, _ => none
  | k + 1, x0, x1, x28 => if x28 = true then (some true) else (laws_FnNoCacheWord.l0 k x0 x1 ([] : List ByteArray) x0 (x0.length : Int) 0)
def laws_FnNoCacheWord.l0 : Nat → List ByteArray → Int → List ByteArray → List ByteArray → Int → Int → Option (Bool)
  | 0, _, _, _, _, _, _ => none
  | k + 1, x0, x1, x5, x29, x30, x31 => if x31 < x30 then (if 0 ≤ x31 then (if x31 < (x29.length : Int) then (if x31 = x1 then (if x5.length < 8796093022208 then ((some (x5 ++ [(⟨#[110, 111, 45, 99, 97, 99, 104, 101]⟩ : ByteArray)] : List ByteArray)).bind fun y193 => (if y193.length < 8796093022208 then (laws_FnNoCacheWord.l0 k x0 x1 (y193 ++ [rdOf ByteArray.empty x29 x31]) x29 x30 (wrap64 (x31 + 1))) else (none))) else (none)) else (if x5.length < 8796093022208 then (laws_FnNoCacheWord.l0 k x0 x1 (x5 ++ [rdOf ByteArray.empty x29 x31]) x29 x30 (wrap64 (x31 + 1))) else (none))) else (none)) else (none)) else (if x1 = (x0.length : Int) then (if x5.length < 8796093022208 then (laws_FnNoCacheWord.j3 k x1 (x5 ++ [(⟨#[110, 111, 45, 99, 97, 99, 104, 101]⟩ : ByteArray)])) else (none)) else (laws_FnNoCacheWord.j3 k x1 x5))
def laws_FnNoCacheWord.j3 : Nat → Int → List ByteArray → Option (Bool)
  | 0, _, _ => none
  | k + 1, x1, x5 => (laws_joined.f k x5 (⟨#[44, 32]⟩ : ByteArray)).bind fun t205 => ((impl_NoCache.f k t205).bind fun t206 => (if (t206 == (decide (x1 ≥ 0))) = true then ((laws_joined.f k x5 (⟨#[44]⟩ : ByteArray)).bind fun t207 => ((impl_NoCache.f k t207).bind fun t208 => (some (t208 == (decide (x1 ≥ 0)))))) else (some false)))
end
def laws_FnNoCacheWord.f (k : Nat) (l0 : List ByteArray) (a1 : Int) : Option (Bool) := (laws_zzFits6.f k l0).bind fun t188 => (if t188 = true then ((impl_NoCache.f k (⟨#[97, 44, 32, 110, 111, 45, 99, 97, 99, 104, 101]⟩ : ByteArray)).bind fun t189 => (if t189 = true then ((impl_NoCache.f k (⟨#[97]⟩ : ByteArray)).bind fun t190 => (laws_FnNoCacheWord.j0 k l0 a1 t190)) else (laws_FnNoCacheWord.j0 k l0 a1 true))) else (some true))
theorem laws_FnNoCacheWord.mono_l : ∀ k, (∀ y0 y1 y2, LeO (laws_FnNoCacheWord.j0 k y0 y1 y2) (laws_FnNoCacheWord.j0 (k + 1) y0 y1 y2)) ∧ (∀ y0 y1 y2, LeO (laws_FnNoCacheWord.j1 k y0 y1 y2) (laws_FnNoCacheWord.j1 (k + 1) y0 y1 y2)) ∧ (∀ y0 y1 y2 y3 y4 y5, LeO (laws_FnNoCacheWord.l0 k y0 y1 y2 y3 y4 y5) (laws_FnNoCacheWord.l0 (k + 1) y0 y1 y2 y3 y4 y5)) ∧ (∀ y0 y1, LeO (laws_FnNoCacheWord.j3 k y0 y1) (laws_FnNoCacheWord.j3 (k + 1) y0 y1))
  | 0 => ⟨fun _ _ _ r h => by simp [laws_FnNoCacheWord.j0] at h, fun _ _ _ r h => by simp [laws_FnNoCacheWord.j1] at h, fun _ _ _ _ _ _ r h => by simp [laws_FnNoCacheWord.l0] at h, fun _ _ r h => by simp [laws_FnNoCacheWord.j3] at h⟩
  | k + 1 => by
    obtain ⟨ih0, ih1, ih2, ih3⟩ := laws_FnNoCacheWord.mono_l k
    refine ⟨?_, ?_, ?_, ?_⟩
    · intro y0 y1 y2
      unfold laws_FnNoCacheWord.j0
      repeat' first
      | (with_reducible exact ih0 _ _ _)
      | (with_reducible exact ih1 _ _ _)
      | (with_reducible exact ih2 _ _ _ _ _ _)
      | (with_reducible exact ih3 _ _)
      | (with_reducible exact impl_NoCache.mono _ _)
      | (with_reducible exact laws_joined.mono _ _ _)
      | (with_reducible exact laws_words.mono _ _)
      | (with_reducible exact laws_zzFits6.mono _ _)
      | (with_reducible exact LeO.refl _)
      | (with_reducible exact LeO.none _)
      | (with_reducible refine LeO.ite ?_ ?_)
      | (with_reducible refine LeO.bind ?_ (fun _ => ?_))
      | exact ih0 _ _ _
      | exact ih1 _ _ _
      | exact ih2 _ _ _ _ _ _
      | exact ih3 _ _
      | exact impl_NoCache.mono _ _
      | exact laws_joined.mono _ _ _
      | exact laws_words.mono _ _
      | exact laws_zzFits6.mono _ _
      | exact LeO.none _
      | refine LeO.ite ?_ ?_
      | refine LeO.bind ?_ (fun _ => ?_)
    · intro y0 y1 y2
      unfold laws_FnNoCacheWord.j1
      repeat' first
      | (with_reducible exact ih0 _ _ _)
      | (with_reducible exact ih1 _ _ _)
      | (with_reducible exact ih2 _ _ _ _ _ _)
      | (with_reducible exact ih3 _ _)
      | (with_reducible exact impl_NoCache.mono _ _)
      | (with_reducible exact laws_joined.mono _ _ _)
      | (with_reducible exact laws_words.mono _ _)
      | (with_reducible exact laws_zzFits6.mono _ _)
      | (with_reducible exact LeO.refl _)
      | (with_reducible exact LeO.none _)
      | (with_reducible refine LeO.ite ?_ ?_)
      | (with_reducible refine LeO.bind ?_ (fun _ => ?_))
      | exact ih0 _ _ _
      | exact ih1 _ _ _
      | exact ih2 _ _ _ _ _ _
      | exact ih3 _ _
      | exact impl_NoCache.mono _ _
      | exact laws_joined.mono _ _ _
      | exact laws_words.mono _ _
      | exact laws_zzFits6.mono _ _
      | exact LeO.none _
      | refine LeO.ite ?_ ?_
      | refine LeO.bind ?_ (fun _ => ?_)
    · intro y0 y1 y2 y3 y4 y5
      unfold laws_FnNoCacheWord.l0
      repeat' first
      | (with_reducible exact ih0 _ _ _)
      | (with_reducible exact ih1 _ _ _)
      | (with_reducible exact ih2 _ _ _ _ _ _)
      | (with_reducible exact ih3 _ _)
      | (with_reducible exact impl_NoCache.mono _ _)
      | (with_reducible exact laws_joined.mono _ _ _)
      | (with_reducible exact laws_words.mono _ _)
      | (with_reducible exact laws_zzFits6.mono _ _)
      | (with_reducible exact LeO.refl _)
      | (with_reducible exact LeO.none _)
      | (with_reducible refine LeO.ite ?_ ?_)
      | (with_reducible refine LeO.bind ?_ (fun _ => ?_))
      | exact ih0 _ _ _
      | exact ih1 _ _ _
      | exact ih2 _ _ _ _ _ _
      | exact ih3 _ _
      | exact impl_NoCache.mono _ _
      | exact laws_joined.mono _ _ _
      | exact laws_words.mono _ _
      | exact laws_zzFits6.mono _ _
      | exact LeO.none _
      | refine LeO.ite ?_ ?_
      | refine LeO.bind ?_ (fun _ => ?_)
    · intro y0 y1
      unfold laws_FnNoCacheWord.j3
      repeat' first
      | (with_reducible exact ih0 _ _ _)
      | (with_reducible exact ih1 _ _ _)
      | (with_reducible exact ih2 _ _ _ _ _ _)
      | (with_reducible exact ih3 _ _)
      | (with_reducible exact impl_NoCache.mono _ _)
      | (with_reducible exact laws_joined.mono _ _ _)
      | (with_reducible exact laws_words.mono _ _)
      | (with_reducible exact laws_zzFits6.mono _ _)
      | (with_reducible exact LeO.refl _)
      | (with_reducible exact LeO.none _)
      | (with_reducible refine LeO.ite ?_ ?_)
      | (with_reducible refine LeO.bind ?_ (fun _ => ?_))
      | exact ih0 _ _ _
      | exact ih1 _ _ _
      | exact ih2 _ _ _ _ _ _
      | exact ih3 _ _
      | exact impl_NoCache.mono _ _
      | exact laws_joined.mono _ _ _
      | exact laws_words.mono _ _
      | exact laws_zzFits6.mono _ _
      | exact LeO.none _
      | refine LeO.ite ?_ ?_
      | refine LeO.bind ?_ (fun _ => ?_)
theorem laws_FnNoCacheWord.mono : ∀ a0 a1 k, LeO (laws_FnNoCacheWord.f k a0 a1) (laws_FnNoCacheWord.f (k + 1) a0 a1) := by
  intro a0 a1 k
  obtain ⟨ih0, ih1, ih2, ih3⟩ := laws_FnNoCacheWord.mono_l k
  unfold laws_FnNoCacheWord.f
  repeat' first
      | (with_reducible exact ih0 _ _ _)
      | (with_reducible exact ih1 _ _ _)
      | (with_reducible exact ih2 _ _ _ _ _ _)
      | (with_reducible exact ih3 _ _)
      | (with_reducible exact impl_NoCache.mono _ _)
      | (with_reducible exact laws_joined.mono _ _ _)
      | (with_reducible exact laws_words.mono _ _)
      | (with_reducible exact laws_zzFits6.mono _ _)
      | (with_reducible exact LeO.refl _)
      | (with_reducible exact LeO.none _)
      | (with_reducible refine LeO.ite ?_ ?_)
      | (with_reducible refine LeO.bind ?_ (fun _ => ?_))
      | exact ih0 _ _ _
      | exact ih1 _ _ _
      | exact ih2 _ _ _ _ _ _
      | exact ih3 _ _
      | exact impl_NoCache.mono _ _
      | exact laws_joined.mono _ _ _
      | exact laws_words.mono _ _
      | exact laws_zzFits6.mono _ _
      | exact LeO.none _
      | refine LeO.ite ?_ ?_
      | refine LeO.bind ?_ (fun _ => ?_)
set_option maxHeartbeats 8000000 in
set_option maxRecDepth 100000 in
theorem laws_FnNoCacheWord.calls (k : Nat) (A0 : Option Addr) (c0 : Nat) (l0 : List ByteArray) (a1 : Int) (r : Bool) (w : World) (hr0 : Kd.C Kd.string w A0 l0.length l0) (hc0 : l0.length ≤ c0) (h : laws_FnNoCacheWord.f k l0 a1 = some r) :
    Calls Try.prog 9 #[.slice A0 l0.length c0, .int .i64 a1] w fun e w' => e = .returned (.bool r) ∧ Below w.heap.size w w' := by
  have HR0 := Aside0.mk hr0
  have HC0 := Aside0.mk hc0
  clear hr0 hc0
  have HB := Aside0.mk (Below.refl w.heap.size w)
  have H : ((laws_zzFits6.f k l0).bind fun t188 => (if t188 = true then ((impl_NoCache.f k (⟨#[97, 44, 32, 110, 111, 45, 99, 97, 99, 104, 101]⟩ : ByteArray)).bind fun t189 => (if t189 = true then ((impl_NoCache.f k (⟨#[97]⟩ : ByteArray)).bind fun t190 => (laws_FnNoCacheWord.j0 k l0 a1 t190)) else (laws_FnNoCacheWord.j0 k l0 a1 true))) else (some true))) = some r := h
  clear h
  replace H := Option.bind_eq_some_iff.mp H
  obtain ⟨t188, A30, H⟩ := H
  replace H : (if t188 = true then ((impl_NoCache.f k (⟨#[97, 44, 32, 110, 111, 45, 99, 97, 99, 104, 101]⟩ : ByteArray)).bind fun t189 => (if t189 = true then ((impl_NoCache.f k (⟨#[97]⟩ : ByteArray)).bind fun t190 => (laws_FnNoCacheWord.j0 k l0 a1 t190)) else (laws_FnNoCacheWord.j0 k l0 a1 true))) else (some true)) = some r := H
  have A3 := Aside0.mk A30
  clear A30
  by_cases c4 : t188 = true
  · subst c4
    have H1 : ((impl_NoCache.f k (⟨#[97, 44, 32, 110, 111, 45, 99, 97, 99, 104, 101]⟩ : ByteArray)).bind fun t189 => (if t189 = true then ((impl_NoCache.f k (⟨#[97]⟩ : ByteArray)).bind fun t190 => (laws_FnNoCacheWord.j0 k l0 a1 t190)) else (laws_FnNoCacheWord.j0 k l0 a1 true))) = some r := by rw [if_pos rfl] at H; exact H
    clear H
    have H := H1
    clear H1
    have HC5 := Aside0.mk H
    clear H
    go_enter Try.func9, Try.ntmps9
    go_upto_region 3 with (first | ((with_reducible refine gate_callee (f := 27) rfl ?_); refine goesL_ (some 9) rfl rfl Try.func27 (by kernel_rfl) rfl #[.slice A0 l0.length c0] rfl (by (try simp only [List.map_toArray, List.map_cons, List.map_nil]); first | done | rfl | (simp only [List.length_drop, List.length_take]; rfl)) ?_; (with_reducible refine (laws_zzFits6.calls k _ _ l0 true _ ?side1 ?side2 A3.out).mono ?_); (case side1 => repeat (first | exact HR0.out | (with_reducible refine Kd.C_alloc ?_ _) | (with_reducible refine Kd.C_drewN ?_ _) | (with_reducible refine Kd.C_drew ?_))); (case side2 => exact HC0.out); rintro e w' ⟨rfl, ⟨nd, rfl⟩⟩; refine ⟨_, rfl, ?_⟩))
    (try simp only [Act.put, List.setIfInBounds_toArray, List.set_cons_zero, List.set_cons_succ])
    go_cut [15] (fun v15 wc => ∃ (kq : Nat) (x15_4 : Bool), v15 = .bool x15_4 ∧ Aside0 (laws_FnNoCacheWord.j0 kq l0 a1 x15_4 = some r) ∧ Aside0 (kq ≤ k) ∧ Aside0 (Below w.heap.size w wc))
    case first =>
      have H := HC5.out
      clear HC5
      replace H := Option.bind_eq_some_iff.mp H
      obtain ⟨t189, A60, H⟩ := H
      replace H : (if t189 = true then ((impl_NoCache.f k (⟨#[97]⟩ : ByteArray)).bind fun t190 => (laws_FnNoCacheWord.j0 k l0 a1 t190)) else (laws_FnNoCacheWord.j0 k l0 a1 true)) = some r := H
      have A6 := Aside0.mk A60
      clear A60
      by_cases c7 : t189 = true
      · subst c7
        have H1 : ((impl_NoCache.f k (⟨#[97]⟩ : ByteArray)).bind fun t190 => (laws_FnNoCacheWord.j0 k l0 a1 t190)) = some r := by rw [if_pos rfl] at H; exact H
        clear H
        have H := H1
        clear H1
        replace H := Option.bind_eq_some_iff.mp H
        obtain ⟨t190, A80, H⟩ := H
        replace H : (laws_FnNoCacheWord.j0 k l0 a1 t190) = some r := H
        have A8 := Aside0.mk A80
        clear A80
        have H' := Aside0.mk H
        clear H
        go_wp2_with (first | ((with_reducible refine gate_callee (f := 28) rfl ?_); refine goesL_ (some 11) rfl rfl Try.func28 (by kernel_rfl) rfl #[.string (⟨#[97, 44, 32, 110, 111, 45, 99, 97, 99, 104, 101]⟩ : ByteArray)] rfl (by (try simp only [List.map_toArray, List.map_cons, List.map_nil]); first | done | rfl | (simp only [List.length_drop, List.length_take]; rfl)) ?_; (with_reducible refine (impl_NoCache.calls k (⟨#[97, 44, 32, 110, 111, 45, 99, 97, 99, 104, 101]⟩ : ByteArray) true _ A6.out).mono ?_); rintro e w' ⟨rfl, ⟨nd, rfl⟩⟩; refine ⟨_, rfl, ?_⟩) | (go_at_call 28; (with_reducible refine (impl_NoCache.calls k (⟨#[97]⟩ : ByteArray) t190 _ A8.out).mono ?_); rintro e w' ⟨rfl, ⟨nd, rfl⟩⟩))
        go_meet
        case rel => exact ⟨_, (t190), (by first | rfl | (simp; done) | (rw [prx_ne]; first | done | rfl) | (simp [*]; done)), H', ⟨by first | omega | exact Nat.le_refl _⟩, ⟨by repeat (first | (with_reducible first | exact HB.out | apply below_alloc | apply pw_below_drewN | apply below_drew1) | exact HB.out)⟩⟩
      · replace c7 := Bool.eq_false_iff.mpr c7
        subst c7
        have H1 : (laws_FnNoCacheWord.j0 k l0 a1 true) = some r := by rw [if_neg (show ¬ (false = true) by decide)] at H; exact H
        clear H
        have H := H1
        clear H1
        have H' := Aside0.mk H
        clear H
        go_wp2_with (first | ((with_reducible refine gate_callee (f := 28) rfl ?_); refine goesL_ (some 11) rfl rfl Try.func28 (by kernel_rfl) rfl #[.string (⟨#[97, 44, 32, 110, 111, 45, 99, 97, 99, 104, 101]⟩ : ByteArray)] rfl (by (try simp only [List.map_toArray, List.map_cons, List.map_nil]); first | done | rfl | (simp only [List.length_drop, List.length_take]; rfl)) ?_; (with_reducible refine (impl_NoCache.calls k (⟨#[97, 44, 32, 110, 111, 45, 99, 97, 99, 104, 101]⟩ : ByteArray) false _ A6.out).mono ?_); rintro e w' ⟨rfl, ⟨nd, rfl⟩⟩; refine ⟨_, rfl, ?_⟩))
        go_meet
        case rel => exact ⟨_, (true), (by first | rfl | (simp; done) | (rw [prx_ne]; first | done | rfl) | (simp [*]; done)), H', ⟨by first | omega | exact Nat.le_refl _⟩, ⟨by repeat (first | (with_reducible first | exact HB.out | apply below_alloc | apply pw_below_drewN | apply below_drew1) | exact HB.out)⟩⟩
    case rest =>
      clear HC5
      try clear c2
      try clear p2
      try clear c4
      try clear c7
      obtain ⟨kq, x15_4, rfl, HA, HJ4, HB⟩ := hcut
      cases kq with
      | zero => exact absurd HA.out (by simp [laws_FnNoCacheWord.j0])
      | succ kj4 =>
        have H := HA.out
        clear HA
        simp only [laws_FnNoCacheWord.j0] at H
        by_cases c9 : x15_4 = true
        · subst c9
          have H1 : (some false) = some r := by rw [if_pos rfl] at H; exact H
          clear H
          have H := H1
          clear H1
          obtain rfl := Option.some.inj H
          go_wp2
          go_ret
          exact ⟨by first | rfl | (simp [errW_none, errW_some] <;> rfl) | (simp [*, errW_none, errW_some] <;> rfl), by repeat (first | (with_reducible first | exact HB.out | apply below_alloc | apply pw_below_drewN | apply below_drew1) | exact HB.out)⟩
        · replace c9 := Bool.eq_false_iff.mpr c9
          subst c9
          have H1 : ((laws_words.f kj4 l0).bind fun t191 => (if t191 = true then (if a1 < (-1) then (laws_FnNoCacheWord.j1 kj4 l0 a1 true) else (laws_FnNoCacheWord.j1 kj4 l0 a1 (decide (a1 > (l0.length : Int))))) else (laws_FnNoCacheWord.j1 kj4 l0 a1 true))) = some r := by rw [if_neg (show ¬ (false = true) by decide)] at H; exact H
          clear H
          have H := H1
          clear H1
          have HC10 := Aside0.mk H
          clear H
          go_upto_region 5 with (fail)
          go_cut [28] (fun v28 wc => ∃ (kq : Nat) (x28_9 : Bool), v28 = .bool x28_9 ∧ Aside0 (laws_FnNoCacheWord.j1 kq l0 a1 x28_9 = some r) ∧ Aside0 (kq ≤ kj4) ∧ Aside0 (Below w.heap.size w wc))
          case first =>
            have H := HC10.out
            clear HC10
            replace H := Option.bind_eq_some_iff.mp H
            obtain ⟨t191, A110, H⟩ := H
            replace H : (if t191 = true then (if a1 < (-1) then (laws_FnNoCacheWord.j1 kj4 l0 a1 true) else (laws_FnNoCacheWord.j1 kj4 l0 a1 (decide (a1 > (l0.length : Int))))) else (laws_FnNoCacheWord.j1 kj4 l0 a1 true)) = some r := H
            have A11 := Aside0.mk A110
            clear A110
            by_cases c12 : t191 = true
            · subst c12
              have H1 : (if a1 < (-1) then (laws_FnNoCacheWord.j1 kj4 l0 a1 true) else (laws_FnNoCacheWord.j1 kj4 l0 a1 (decide (a1 > (l0.length : Int))))) = some r := by rw [if_pos rfl] at H; exact H
              clear H
              have H := H1
              clear H1
              by_cases c13 : a1 < (-1)
              · rw [if_pos c13] at H
                have c13b0 : decide (a1 < (-1)) = true := decide_eq_true c13
                clear c13
                (first | rw [c13b0] | (simp only [i64_w, i32_w]; rw [c13b0]) | skip)
                have H' := Aside0.mk H
                clear H
                go_wp2_with (first | ((with_reducible refine gate_callee (f := 14) rfl ?_); refine goesL_ (some 17) rfl rfl Try.func14 (by kernel_rfl) rfl #[.slice A0 l0.length c0] rfl (by (try simp only [List.map_toArray, List.map_cons, List.map_nil]); first | done | rfl | (simp only [List.length_drop, List.length_take]; rfl)) ?_; (with_reducible refine (laws_words.calls kj4 _ _ l0 true _ ?side1 ?side2 A11.out).mono ?_); (case side1 => repeat (first | exact (Kd.C_below HR0.out HB.out) | (with_reducible refine Kd.C_alloc ?_ _) | (with_reducible refine Kd.C_drewN ?_ _) | (with_reducible refine Kd.C_drew ?_))); (case side2 => exact HC0.out); rintro e w' ⟨rfl, ⟨nd, rfl⟩⟩; refine ⟨_, rfl, ?_⟩))
                go_meet
                case rel => exact ⟨_, (true), (by first | rfl | (simp; done) | (rw [prx_ne]; first | done | rfl) | (simp [*]; done)), H', ⟨by have := HJ4.out; first | omega | exact Nat.le_refl _⟩, ⟨by repeat (first | (with_reducible first | exact HB.out | apply below_alloc | apply pw_below_drewN | apply below_drew1) | exact HB.out)⟩⟩
              · rw [if_neg c13] at H
                have c13b0 : decide (a1 < (-1)) = false := decide_eq_false c13
                clear c13
                (first | rw [c13b0] | (simp only [i64_w, i32_w]; rw [c13b0]) | skip)
                have H' := Aside0.mk H
                clear H
                go_wp2_with (first | ((with_reducible refine gate_callee (f := 14) rfl ?_); refine goesL_ (some 17) rfl rfl Try.func14 (by kernel_rfl) rfl #[.slice A0 l0.length c0] rfl (by (try simp only [List.map_toArray, List.map_cons, List.map_nil]); first | done | rfl | (simp only [List.length_drop, List.length_take]; rfl)) ?_; (with_reducible refine (laws_words.calls kj4 _ _ l0 true _ ?side1 ?side2 A11.out).mono ?_); (case side1 => repeat (first | exact (Kd.C_below HR0.out HB.out) | (with_reducible refine Kd.C_alloc ?_ _) | (with_reducible refine Kd.C_drewN ?_ _) | (with_reducible refine Kd.C_drew ?_))); (case side2 => exact HC0.out); rintro e w' ⟨rfl, ⟨nd, rfl⟩⟩; refine ⟨_, rfl, ?_⟩))
                go_meet
                case rel => exact ⟨_, (decide (a1 > (l0.length : Int))), (by first | rfl | (simp; done) | (rw [prx_ne]; first | done | rfl) | (simp [*]; done)), H', ⟨by have := HJ4.out; first | omega | exact Nat.le_refl _⟩, ⟨by repeat (first | (with_reducible first | exact HB.out | apply below_alloc | apply pw_below_drewN | apply below_drew1) | exact HB.out)⟩⟩
            · replace c12 := Bool.eq_false_iff.mpr c12
              subst c12
              have H1 : (laws_FnNoCacheWord.j1 kj4 l0 a1 true) = some r := by rw [if_neg (show ¬ (false = true) by decide)] at H; exact H
              clear H
              have H := H1
              clear H1
              have H' := Aside0.mk H
              clear H
              go_wp2_with (first | ((with_reducible refine gate_callee (f := 14) rfl ?_); refine goesL_ (some 17) rfl rfl Try.func14 (by kernel_rfl) rfl #[.slice A0 l0.length c0] rfl (by (try simp only [List.map_toArray, List.map_cons, List.map_nil]); first | done | rfl | (simp only [List.length_drop, List.length_take]; rfl)) ?_; (with_reducible refine (laws_words.calls kj4 _ _ l0 false _ ?side1 ?side2 A11.out).mono ?_); (case side1 => repeat (first | exact (Kd.C_below HR0.out HB.out) | (with_reducible refine Kd.C_alloc ?_ _) | (with_reducible refine Kd.C_drewN ?_ _) | (with_reducible refine Kd.C_drew ?_))); (case side2 => exact HC0.out); rintro e w' ⟨rfl, ⟨nd, rfl⟩⟩; refine ⟨_, rfl, ?_⟩))
              go_meet
              case rel => exact ⟨_, (true), (by first | rfl | (simp; done) | (rw [prx_ne]; first | done | rfl) | (simp [*]; done)), H', ⟨by have := HJ4.out; first | omega | exact Nat.le_refl _⟩, ⟨by repeat (first | (with_reducible first | exact HB.out | apply below_alloc | apply pw_below_drewN | apply below_drew1) | exact HB.out)⟩⟩
          case rest =>
            clear HC10
            try clear c1
            try clear c2
            try clear p2
            try clear c4
            try clear c7
            try clear c9
            try clear c12
            try clear c13
            try clear c13b0
            try clear p2
            obtain ⟨kq, x28_9, rfl, HA, HJ9, HB⟩ := hcut
            cases kq with
            | zero => exact absurd HA.out (by simp [laws_FnNoCacheWord.j1])
            | succ kj9 =>
              have H := HA.out
              clear HA
              simp only [laws_FnNoCacheWord.j1] at H
              by_cases c14 : x28_9 = true
              · subst c14
                have H1 : (some true) = some r := by rw [if_pos rfl] at H; exact H
                clear H
                have H := H1
                clear H1
                obtain rfl := Option.some.inj H
                go_wp2
                go_ret
                exact ⟨by first | rfl | (simp [errW_none, errW_some] <;> rfl) | (simp [*, errW_none, errW_some] <;> rfl), by repeat (first | (with_reducible first | exact HB.out | apply below_alloc | apply pw_below_drewN | apply below_drew1) | exact HB.out)⟩
              · replace c14 := Bool.eq_false_iff.mpr c14
                subst c14
                have H1 : (laws_FnNoCacheWord.l0 kj9 l0 a1 ([] : List ByteArray) l0 (l0.length : Int) 0) = some r := by rw [if_neg (show ¬ (false = true) by decide)] at H; exact H
                clear H
                have H := H1
                clear H1
                have H' := Aside0.mk H
                clear H
                go_wp2
                go_loopg [5, 31] kj9 (fun kq v5 v31 w' => ∃ (x5_3 : List ByteArray) (x31_3 : Int), v31 = .int .i64 x31_3 ∧ Aside0 (laws_FnNoCacheWord.l0 kq l0 a1 x5_3 l0 (l0.length : Int) x31_3 = some r) ∧ Aside0 (kq ≤ kj9) ∧ Aside0 (Kd.R Kd.string 9 w' w.heap.size (fun _ => True) v5 x5_3) ∧ Aside0 (Below w.heap.size w w'))
                case atStart => exact ⟨(([] : List ByteArray)), (0), (by first | rfl | (simp; done) | (rw [prx_ne]; first | done | rfl) | (simp [*]; done)), H', ⟨Nat.le_refl _⟩, ⟨by first | exact Kd.R_nil _ _ _ _ _ | exact Kd.N_nil _ _ _ _ _ | exact Kd.V_nil _ _ _ _ _ | exact Kd.Q_nil _ _ _ _ _ | exact Kd.S_nil _ _ _ _ _⟩, ⟨by repeat (first | (with_reducible first | exact HB.out | apply below_alloc | apply pw_below_drewN | apply below_drew1) | exact HB.out)⟩⟩
                case round =>
                  clear H'
                  try clear c1
                  try clear c2
                  try clear p2
                  try clear c4
                  try clear c7
                  try clear c9
                  try clear c12
                  try clear c13
                  try clear c13b0
                  try clear c14
                  try clear p2
                  obtain ⟨x5_3, x31_3, rfl, HA, HK3, HO_5, HB⟩ := hrel
                  cases gk with
                  | zero => exact absurd HA.out (by simp [laws_FnNoCacheWord.l0])
                  | succ k3 =>
                    have H := HA.out
                    clear HA
                    simp only [laws_FnNoCacheWord.l0] at H
                    by_cases c15 : x31_3 < (l0.length : Int)
                    · rw [if_pos c15] at H
                      have c15b0 : decide (x31_3 < (l0.length : Int)) = true := decide_eq_true c15
                      clear c15
                      by_cases c16 : 0 ≤ x31_3
                      · rw [if_pos c16] at H
                        have c16b0 : decide (0 ≤ x31_3) = true := decide_eq_true c16
                        clear c16
                        by_cases c17 : x31_3 < (l0.length : Int)
                        · rw [if_pos c17] at H
                          have c17b0 : decide (x31_3 < (l0.length : Int)) = true := decide_eq_true c17
                          clear c17
                          by_cases c18 : x31_3 = a1
                          · rw [if_pos c18] at H
                            have c18b0 : (x31_3 == a1) = true := beq_iff_eq.mpr c18
                            have c18b1 : (x31_3 != a1) = false := bne_eq_false_iff_eq.mpr c18
                            clear c18
                            by_cases c19 : x5_3.length < 8796093022208
                            · rw [if_pos c19] at H
                              have LMc19 := Aside0.mk c19
                              clear c19
                              obtain ⟨y193, hy193⟩ : ∃ y_ : List ByteArray, y_ = (x5_3 ++ [(⟨#[110, 111, 45, 99, 97, 99, 104, 101]⟩ : ByteArray)]) := ⟨_, rfl⟩
                              replace H : (if y193.length < 8796093022208 then (laws_FnNoCacheWord.l0 k3 l0 a1 (y193 ++ [rdOf ByteArray.empty l0 x31_3]) l0 (l0.length : Int) (wrap64 (x31_3 + 1))) else (none)) = some r := by first | (rw [hy193]; with_reducible exact H) | (have H2_ := (Option.bind_some _ _).symm.trans H; rw [hy193]; with_reducible exact H2_) | (have H2_ := (Option.bind_some _ _).symm.trans H; with_reducible exact H2_) | with_reducible exact H | (rw [hy193]; exact H) | exact H
                              have Ny193 := Aside0.mk hy193
                              clear hy193
                              by_cases c20 : y193.length < 8796093022208
                              · rw [if_pos c20] at H
                                have LMc20 := Aside0.mk c20
                                clear c20
                                obtain ⟨y196, hy196⟩ : ∃ y_ : List ByteArray, y_ = (y193 ++ [rdOf ByteArray.empty l0 x31_3]) := ⟨_, rfl⟩
                                replace H : (laws_FnNoCacheWord.l0 k3 l0 a1 y196 l0 (l0.length : Int) (wrap64 (x31_3 + 1))) = some r := by first | (rw [hy196]; with_reducible exact H) | (have H2_ := (Option.bind_some _ _).symm.trans H; rw [hy196]; with_reducible exact H2_) | (have H2_ := (Option.bind_some _ _).symm.trans H; with_reducible exact H2_) | with_reducible exact H | (rw [hy196]; exact H) | exact H
                                have Ny196 := Aside0.mk hy196
                                clear hy196
                                have H' := Aside0.mk H
                                clear H
                                have p192 : 0 ≤ (x31_3 : Int) := of_decide_eq_true (by first | (with_reducible assumption) | assumption)
                                have q192 : x31_3 < (l0.length : Int) := of_decide_eq_true (by first | (with_reducible assumption) | assumption)
                                obtain ⟨ad192, e192, hx192_0⟩ := Kd.at_string HR0.out x31_3 p192 q192
                                cases e192
                                replace hx192_0 := (HB.out.cell (World.block_lt_of_cell? w _ hx192_0)).trans hx192_0
                                replace p192 := eq_true p192
                                replace q192 := eq_true q192
                                go_wp2_with (first | ((with_reducible refine gate_builtin (b := .append) (xs := #[.tmp 39, .tmp 40]) rfl ?_); (try (refine gate_guard (by rfl) ?_; dsimp only)); at_builtin; refine Kd.R_append Kd.string (w0 := w) w.heap.size rfl (.tmp 39) (.tmp 40) 36 9 (.string ⟨#[]⟩) 16 rfl Try.underlying36 info9 rfl (by decide) (by omega) u5 x5_3 (⟨#[110, 111, 45, 99, 97, 99, 104, 101]⟩ : ByteArray) [.string (⟨#[110, 111, 45, 99, 97, 99, 104, 101]⟩ : ByteArray)] (fun _ => True) (fun _ => False) rfl rfl ?aP (fun _ hk => hk.elim) ?aF ?aO ?aB ?aS ?aL ?_; (case aP => exact rfl); (case aB => exact (by repeat (first | (with_reducible first | exact HB.out | apply below_alloc | apply pw_below_drewN | apply below_drew1) | exact HB.out))); (case aF => exact (fun _ _ => trivial)); (case aO => exact (by (with_reducible repeat (first | apply Kd.R_alloc | apply Kd.R_drewN | apply Kd.R_drew)); exact HO_5.out)); (case aS => exact (below_size (by repeat (first | (with_reducible first | exact HB.out | apply below_alloc | apply pw_below_drewN | apply below_drew1) | exact HB.out)))); (case aL => have := LMc19.out; omega); intro v194 w21 ho hb hg hat; rw [← Ny193.out] at ho; have n0_ := Aside0.mk (hb); have n1_ := Aside0.mk (ho); clear HB; clear HO_5; have HB := n0_; have HO195 := n1_; clear n0_ n1_; clear ho hb hg hat) | ((with_reducible refine gate_builtin (b := .append) (xs := #[.tmp 42, .tmp 44]) rfl ?_); (try (refine gate_guard (by rfl) ?_; dsimp only)); at_builtin; refine Kd.R_append Kd.string (w0 := w) w.heap.size rfl (.tmp 42) (.tmp 44) 36 9 (.string ⟨#[]⟩) 16 rfl Try.underlying36 info9 rfl (by decide) (by omega) v194 y193 (rdOf ByteArray.empty l0 x31_3) [.string (rdOf ByteArray.empty l0 x31_3)] (fun _ => True) (fun _ => False) rfl rfl ?aP (fun _ hk => hk.elim) ?aF ?aO ?aB ?aS ?aL ?_; (case aP => exact rfl); (case aB => exact (by repeat (first | (with_reducible first | exact HB.out | apply below_alloc | apply pw_below_drewN | apply below_drew1) | exact HB.out))); (case aF => exact (fun _ _ => trivial)); (case aO => exact (by (with_reducible repeat (first | apply Kd.R_alloc | apply Kd.R_drewN | apply Kd.R_drew)); exact HO195.out)); (case aS => exact (below_size (by repeat (first | (with_reducible first | exact HB.out | apply below_alloc | apply pw_below_drewN | apply below_drew1) | exact HB.out)))); (case aL => have := LMc20.out; omega); intro v197 w22 ho hb hg hat; rw [← Ny196.out] at ho; have n0_ := Aside0.mk (hb); have n1_ := Aside0.mk (ho); clear HB; clear HO195; have HB := n0_; have HO198 := n1_; clear n0_ n1_; clear ho hb hg hat))
                                go_roundg k3
                                case measure => have := HJ4.out; have := HJ9.out; have := HK3.out; omega
                                case rel => exact ⟨(y196), (wrap64 (x31_3 + 1)), (by first | rfl | (simp; done) | (rw [prx_ne]; first | done | rfl) | (simp [*]; done)), H', ⟨by have := HJ4.out; have := HJ9.out; have := HK3.out; omega⟩, ⟨by (with_reducible repeat (first | apply Kd.R_alloc | apply Kd.R_drewN | apply Kd.R_drew)); exact HO198.out⟩, ⟨by repeat (first | (with_reducible first | exact HB.out | apply below_alloc | apply pw_below_drewN | apply below_drew1) | exact HB.out)⟩⟩
                              · rw [if_neg c20] at H
                                exact absurd H (by simp)
                            · rw [if_neg c19] at H
                              exact absurd H (by simp)
                          · rw [if_neg c18] at H
                            have c18b0 : (x31_3 == a1) = false := beq_eq_false_iff_ne.mpr c18
                            have c18b1 : (x31_3 != a1) = true := bne_iff_ne.mpr c18
                            by_cases c23 : x5_3.length < 8796093022208
                            · rw [if_pos c23] at H
                              have LMc23 := Aside0.mk c23
                              clear c23
                              obtain ⟨y199, hy199⟩ : ∃ y_ : List ByteArray, y_ = (x5_3 ++ [rdOf ByteArray.empty l0 x31_3]) := ⟨_, rfl⟩
                              replace H : (laws_FnNoCacheWord.l0 k3 l0 a1 y199 l0 (l0.length : Int) (wrap64 (x31_3 + 1))) = some r := by first | (rw [hy199]; with_reducible exact H) | (have H2_ := (Option.bind_some _ _).symm.trans H; rw [hy199]; with_reducible exact H2_) | (have H2_ := (Option.bind_some _ _).symm.trans H; with_reducible exact H2_) | with_reducible exact H | (rw [hy199]; exact H) | exact H
                              have Ny199 := Aside0.mk hy199
                              clear hy199
                              have H' := Aside0.mk H
                              clear H
                              have p192 : 0 ≤ (x31_3 : Int) := of_decide_eq_true (by first | (with_reducible assumption) | assumption)
                              have q192 : x31_3 < (l0.length : Int) := of_decide_eq_true (by first | (with_reducible assumption) | assumption)
                              obtain ⟨ad192, e192, hx192_0⟩ := Kd.at_string HR0.out x31_3 p192 q192
                              cases e192
                              replace hx192_0 := (HB.out.cell (World.block_lt_of_cell? w _ hx192_0)).trans hx192_0
                              replace p192 := eq_true p192
                              replace q192 := eq_true q192
                              go_wp2_with (first | ((with_reducible refine gate_builtin (b := .append) (xs := #[.tmp 42, .tmp 44]) rfl ?_); (try (refine gate_guard (by rfl) ?_; dsimp only)); at_builtin; refine Kd.R_append Kd.string (w0 := w) w.heap.size rfl (.tmp 42) (.tmp 44) 36 9 (.string ⟨#[]⟩) 16 rfl Try.underlying36 info9 rfl (by decide) (by omega) u5 x5_3 (rdOf ByteArray.empty l0 x31_3) [.string (rdOf ByteArray.empty l0 x31_3)] (fun _ => True) (fun _ => False) rfl rfl ?aP (fun _ hk => hk.elim) ?aF ?aO ?aB ?aS ?aL ?_; (case aP => exact rfl); (case aB => exact (by repeat (first | (with_reducible first | exact HB.out | apply below_alloc | apply pw_below_drewN | apply below_drew1) | exact HB.out))); (case aF => exact (fun _ _ => trivial)); (case aO => exact (by (with_reducible repeat (first | apply Kd.R_alloc | apply Kd.R_drewN | apply Kd.R_drew)); exact HO_5.out)); (case aS => exact (below_size (by repeat (first | (with_reducible first | exact HB.out | apply below_alloc | apply pw_below_drewN | apply below_drew1) | exact HB.out)))); (case aL => have := LMc23.out; omega); intro v200 w24 ho hb hg hat; rw [← Ny199.out] at ho; have n0_ := Aside0.mk (hb); have n1_ := Aside0.mk (ho); clear HB; clear HO_5; have HB := n0_; have HO201 := n1_; clear n0_ n1_; clear ho hb hg hat))
                              go_roundg k3
                              case measure => have := HJ4.out; have := HJ9.out; have := HK3.out; omega
                              case rel => exact ⟨(y199), (wrap64 (x31_3 + 1)), (by first | rfl | (simp; done) | (rw [prx_ne]; first | done | rfl) | (simp [*]; done)), H', ⟨by have := HJ4.out; have := HJ9.out; have := HK3.out; omega⟩, ⟨by (with_reducible repeat (first | apply Kd.R_alloc | apply Kd.R_drewN | apply Kd.R_drew)); exact HO201.out⟩, ⟨by repeat (first | (with_reducible first | exact HB.out | apply below_alloc | apply pw_below_drewN | apply below_drew1) | exact HB.out)⟩⟩
                            · rw [if_neg c23] at H
                              exact absurd H (by simp)
                        · rw [if_neg c17] at H
                          exact absurd H (by simp)
                      · rw [if_neg c16] at H
                        exact absurd H (by simp)
                    · rw [if_neg c15] at H
                      have c15b0 : decide (x31_3 < (l0.length : Int)) = false := decide_eq_false c15
                      clear c15
                      have HC25 := Aside0.mk H
                      clear H
                      go_upto_if 50 with (fail)
                      go_cut [5] (fun v5 wc => ∃ (kq : Nat) (x5_24 : List ByteArray), Aside0 (laws_FnNoCacheWord.j3 kq a1 x5_24 = some r) ∧ Aside0 (kq ≤ k3) ∧ Aside0 (Kd.R Kd.string 9 wc w.heap.size (fun _ => True) v5 x5_24) ∧ Aside0 (Below w.heap.size w wc))
                      case first =>
                        have H := HC25.out
                        clear HC25
                        by_cases c26 : a1 = (l0.length : Int)
                        · rw [if_pos c26] at H
                          have c26b0 : (a1 == (l0.length : Int)) = true := beq_iff_eq.mpr c26
                          have c26b1 : (a1 != (l0.length : Int)) = false := bne_eq_false_iff_eq.mpr c26
                          clear c26
                          (first | rw [c26b0] | (simp only [i64_w, i32_w]; rw [c26b0]) | skip)
                          by_cases c27 : x5_3.length < 8796093022208
                          · rw [if_pos c27] at H
                            have LMc27 := Aside0.mk c27
                            clear c27
                            obtain ⟨y202, hy202⟩ : ∃ y_ : List ByteArray, y_ = (x5_3 ++ [(⟨#[110, 111, 45, 99, 97, 99, 104, 101]⟩ : ByteArray)]) := ⟨_, rfl⟩
                            replace H : (laws_FnNoCacheWord.j3 k3 a1 y202) = some r := by first | (rw [hy202]; with_reducible exact H) | (have H2_ := (Option.bind_some _ _).symm.trans H; rw [hy202]; with_reducible exact H2_) | (have H2_ := (Option.bind_some _ _).symm.trans H; with_reducible exact H2_) | with_reducible exact H | (rw [hy202]; exact H) | exact H
                            have Ny202 := Aside0.mk hy202
                            clear hy202
                            have H' := Aside0.mk H
                            clear H
                            go_wp2_with (first | ((with_reducible refine gate_builtin (b := .append) (xs := #[.tmp 51, .tmp 52]) rfl ?_); (try (refine gate_guard (by rfl) ?_; dsimp only)); at_builtin; refine Kd.R_append Kd.string (w0 := w) w.heap.size rfl (.tmp 51) (.tmp 52) 36 9 (.string ⟨#[]⟩) 16 rfl Try.underlying36 info9 rfl (by decide) (by omega) u5 x5_3 (⟨#[110, 111, 45, 99, 97, 99, 104, 101]⟩ : ByteArray) [.string (⟨#[110, 111, 45, 99, 97, 99, 104, 101]⟩ : ByteArray)] (fun _ => True) (fun _ => False) rfl rfl ?aP (fun _ hk => hk.elim) ?aF ?aO ?aB ?aS ?aL ?_; (case aP => exact rfl); (case aB => exact (by repeat (first | (with_reducible first | exact HB.out | apply below_alloc | apply pw_below_drewN | apply below_drew1) | exact HB.out))); (case aF => exact (fun _ _ => trivial)); (case aO => exact (by (with_reducible repeat (first | apply Kd.R_alloc | apply Kd.R_drewN | apply Kd.R_drew)); exact HO_5.out)); (case aS => exact (below_size (by repeat (first | (with_reducible first | exact HB.out | apply below_alloc | apply pw_below_drewN | apply below_drew1) | exact HB.out)))); (case aL => have := LMc27.out; omega); intro v203 w28 ho hb hg hat; rw [← Ny202.out] at ho; have n0_ := Aside0.mk (hb); have n1_ := Aside0.mk (ho); clear HB; clear HO_5; have HB := n0_; have HO204 := n1_; clear n0_ n1_; clear ho hb hg hat))
                            go_meet
                            case rel => exact ⟨_, (y202), H', ⟨by have := HJ4.out; have := HJ9.out; have := HK3.out; first | omega | exact Nat.le_refl _⟩, ⟨by (with_reducible repeat (first | apply Kd.R_alloc | apply Kd.R_drewN | apply Kd.R_drew)); exact HO204.out⟩, ⟨by repeat (first | (with_reducible first | exact HB.out | apply below_alloc | apply pw_below_drewN | apply below_drew1) | exact HB.out)⟩⟩
                          · rw [if_neg c27] at H
                            exact absurd H (by simp)
                        · rw [if_neg c26] at H
                          have c26b0 : (a1 == (l0.length : Int)) = false := beq_eq_false_iff_ne.mpr c26
                          have c26b1 : (a1 != (l0.length : Int)) = true := bne_iff_ne.mpr c26
                          (first | rw [c26b0] | (simp only [i64_w, i32_w]; rw [c26b0]) | skip)
                          have H' := Aside0.mk H
                          clear H
                          go_wp2
                          go_meet
                          case rel => exact ⟨_, (x5_3), H', ⟨by have := HJ4.out; have := HJ9.out; have := HK3.out; first | omega | exact Nat.le_refl _⟩, ⟨by (with_reducible repeat (first | apply Kd.R_alloc | apply Kd.R_drewN | apply Kd.R_drew)); exact HO_5.out⟩, ⟨by repeat (first | (with_reducible first | exact HB.out | apply below_alloc | apply pw_below_drewN | apply below_drew1) | exact HB.out)⟩⟩
                      case rest =>
                        clear HC25
                        try clear c1
                        try clear p1
                        try clear q1
                        try clear hx1
                        try clear c2
                        try clear p2
                        try clear c4
                        try clear p6
                        try clear c7
                        try clear c9
                        try clear c12
                        try clear c13
                        try clear c13b0
                        try clear c14
                        try clear c15
                        try clear c15b0
                        try clear c16
                        try clear c16b0
                        try clear c17
                        try clear c17b0
                        try clear c18
                        try clear c18b0
                        try clear c18b1
                        try clear c19
                        try clear p19
                        try clear q19
                        try clear hx19
                        try clear c20
                        try clear c23
                        try clear c26
                        try clear c26b0
                        try clear c26b1
                        try clear c27
                        try clear c28
                        try clear hx192_0
                        try clear p192
                        try clear p2
                        try clear q192
                        obtain ⟨kq, x5_24, HA, HJ24, HO_5, HB⟩ := hcut
                        cases kq with
                        | zero => exact absurd HA.out (by simp [laws_FnNoCacheWord.j3])
                        | succ kj24 =>
                          have H := HA.out
                          clear HA
                          simp only [laws_FnNoCacheWord.j3] at H
                          replace H := Option.bind_eq_some_iff.mp H
                          obtain ⟨t205, A290, H⟩ := H
                          replace H : ((impl_NoCache.f kj24 t205).bind fun t206 => (if (t206 == (decide (a1 ≥ 0))) = true then ((laws_joined.f kj24 x5_24 (⟨#[44]⟩ : ByteArray)).bind fun t207 => ((impl_NoCache.f kj24 t207).bind fun t208 => (some (t208 == (decide (a1 ≥ 0)))))) else (some false))) = some r := H
                          have A29 := Aside0.mk A290
                          clear A290
                          replace H := Option.bind_eq_some_iff.mp H
                          obtain ⟨t206, A300, H⟩ := H
                          replace H : (if (t206 == (decide (a1 ≥ 0))) = true then ((laws_joined.f kj24 x5_24 (⟨#[44]⟩ : ByteArray)).bind fun t207 => ((impl_NoCache.f kj24 t207).bind fun t208 => (some (t208 == (decide (a1 ≥ 0)))))) else (some false)) = some r := H
                          have A30 := Aside0.mk A300
                          clear A300
                          by_cases c31 : (t206 == (decide (a1 ≥ 0))) = true
                          · rw [if_pos c31] at H
                            have c31b0 : (t206 == (decide (a1 ≥ 0))) = true := c31
                            (try (have c31b1 : decide (t206 = (decide (a1 ≥ 0))) = true := by simpa using c31))
                            (try (have c31b2 : (t206 == (decide (a1 ≥ 0))) = true := by simpa using c31))
                            clear c31
                            replace H := Option.bind_eq_some_iff.mp H
                            obtain ⟨t207, A320, H⟩ := H
                            replace H : ((impl_NoCache.f kj24 t207).bind fun t208 => (some (t208 == (decide (a1 ≥ 0))))) = some r := H
                            have A32 := Aside0.mk A320
                            clear A320
                            replace H := Option.bind_eq_some_iff.mp H
                            obtain ⟨t208, A330, H⟩ := H
                            replace H : (some (t208 == (decide (a1 ≥ 0)))) = some r := H
                            have A33 := Aside0.mk A330
                            clear A330
                            obtain rfl := Option.some.inj H
                            obtain ⟨Ao34, co34, eo34⟩ := Kd.R_slice HO_5.out
                            subst eo34
                            go_wp2_with (first | ((with_reducible refine gate_callee (f := 29) rfl ?_); refine goesL_ (some 55) rfl rfl Try.func29 (by kernel_rfl) rfl #[.slice Ao34 x5_24.length co34, .string (⟨#[44, 32]⟩ : ByteArray)] rfl (by (try simp only [List.map_toArray, List.map_cons, List.map_nil]); first | done | rfl | (simp only [List.length_drop, List.length_take]; rfl)) ?_; (with_reducible refine (laws_joined.calls kj24 _ _ x5_24 (⟨#[44, 32]⟩ : ByteArray) t205 _ ?side1 ?side2 A29.out).mono ?_); (case side1 => repeat (first | exact (Kd.R_reads' HO_5.out).2.2 | (with_reducible refine Kd.C_alloc ?_ _) | (with_reducible refine Kd.C_drewN ?_ _) | (with_reducible refine Kd.C_drew ?_))); (case side2 => exact (Kd.R_reads' HO_5.out).2.1); rintro e w' ⟨rfl, ⟨nd, rfl⟩⟩; refine ⟨_, rfl, ?_⟩) | ((with_reducible refine gate_callee (f := 28) rfl ?_); refine goesL_ (some 56) rfl rfl Try.func28 (by kernel_rfl) rfl #[.string t205] rfl (by (try simp only [List.map_toArray, List.map_cons, List.map_nil]); first | done | rfl | (simp only [List.length_drop, List.length_take]; rfl)) ?_; (with_reducible refine (impl_NoCache.calls kj24 t205 t206 _ A30.out).mono ?_); rintro e w' ⟨rfl, ⟨nd, rfl⟩⟩; refine ⟨_, rfl, ?_⟩) | (go_at_call 29; (with_reducible refine (laws_joined.calls kj24 _ _ x5_24 (⟨#[44]⟩ : ByteArray) t207 _ ?side1 ?side2 A32.out).mono ?_); (case side1 => repeat (first | exact (Kd.R_reads' HO_5.out).2.2 | (with_reducible refine Kd.C_alloc ?_ _) | (with_reducible refine Kd.C_drewN ?_ _) | (with_reducible refine Kd.C_drew ?_))); (case side2 => exact (Kd.R_reads' HO_5.out).2.1); rintro e w' ⟨rfl, ⟨nd, rfl⟩⟩) | (go_at_call 28; (with_reducible refine (impl_NoCache.calls kj24 t207 t208 _ A33.out).mono ?_); rintro e w' ⟨rfl, ⟨nd, rfl⟩⟩))
                            go_ret
                            exact ⟨by first | rfl | (simp [errW_none, errW_some] <;> rfl) | (simp [*, errW_none, errW_some] <;> rfl), by repeat (first | (with_reducible first | exact HB.out | apply below_alloc | apply pw_below_drewN | apply below_drew1) | exact HB.out)⟩
                          · rw [if_neg c31] at H
                            have c31b0 : (t206 == (decide (a1 ≥ 0))) = false := by simpa using c31
                            (try (have c31b1 : decide (t206 = (decide (a1 ≥ 0))) = false := by simpa using c31))
                            (try (have c31b2 : (t206 == (decide (a1 ≥ 0))) = false := by simpa using c31))
                            (try (have c31b3 : ¬ (t206 = (decide (a1 ≥ 0))) := by simpa using c31))
                            clear c31
                            obtain rfl := Option.some.inj H
                            obtain ⟨Ao35, co35, eo35⟩ := Kd.R_slice HO_5.out
                            subst eo35
                            go_wp2_with (first | ((with_reducible refine gate_callee (f := 29) rfl ?_); refine goesL_ (some 55) rfl rfl Try.func29 (by kernel_rfl) rfl #[.slice Ao35 x5_24.length co35, .string (⟨#[44, 32]⟩ : ByteArray)] rfl (by (try simp only [List.map_toArray, List.map_cons, List.map_nil]); first | done | rfl | (simp only [List.length_drop, List.length_take]; rfl)) ?_; (with_reducible refine (laws_joined.calls kj24 _ _ x5_24 (⟨#[44, 32]⟩ : ByteArray) t205 _ ?side1 ?side2 A29.out).mono ?_); (case side1 => repeat (first | exact (Kd.R_reads' HO_5.out).2.2 | (with_reducible refine Kd.C_alloc ?_ _) | (with_reducible refine Kd.C_drewN ?_ _) | (with_reducible refine Kd.C_drew ?_))); (case side2 => exact (Kd.R_reads' HO_5.out).2.1); rintro e w' ⟨rfl, ⟨nd, rfl⟩⟩; refine ⟨_, rfl, ?_⟩) | ((with_reducible refine gate_callee (f := 28) rfl ?_); refine goesL_ (some 56) rfl rfl Try.func28 (by kernel_rfl) rfl #[.string t205] rfl (by (try simp only [List.map_toArray, List.map_cons, List.map_nil]); first | done | rfl | (simp only [List.length_drop, List.length_take]; rfl)) ?_; (with_reducible refine (impl_NoCache.calls kj24 t205 t206 _ A30.out).mono ?_); rintro e w' ⟨rfl, ⟨nd, rfl⟩⟩; refine ⟨_, rfl, ?_⟩))
                            go_ret
                            exact ⟨by first | rfl | (simp [errW_none, errW_some] <;> rfl) | (simp [*, errW_none, errW_some] <;> rfl), by repeat (first | (with_reducible first | exact HB.out | apply below_alloc | apply pw_below_drewN | apply below_drew1) | exact HB.out)⟩
  · replace c4 := Bool.eq_false_iff.mpr c4
    subst c4
    have H1 : (some true) = some r := by rw [if_neg (show ¬ (false = true) by decide)] at H; exact H
    clear H
    have H := H1
    clear H1
    obtain rfl := Option.some.inj H
    go_enter Try.func9, Try.ntmps9
    go_wp2_with (first | ((with_reducible refine gate_callee (f := 27) rfl ?_); refine goesL_ (some 9) rfl rfl Try.func27 (by kernel_rfl) rfl #[.slice A0 l0.length c0] rfl (by (try simp only [List.map_toArray, List.map_cons, List.map_nil]); first | done | rfl | (simp only [List.length_drop, List.length_take]; rfl)) ?_; (with_reducible refine (laws_zzFits6.calls k _ _ l0 false _ ?side1 ?side2 A3.out).mono ?_); (case side1 => repeat (first | exact HR0.out | (with_reducible refine Kd.C_alloc ?_ _) | (with_reducible refine Kd.C_drewN ?_ _) | (with_reducible refine Kd.C_drew ?_))); (case side2 => exact HC0.out); rintro e w' ⟨rfl, ⟨nd, rfl⟩⟩; refine ⟨_, rfl, ?_⟩))
    go_ret
    exact ⟨by first | rfl | (simp [errW_none, errW_some] <;> rfl) | (simp [*, errW_none, errW_some] <;> rfl), by repeat (first | (with_reducible first | exact HB.out | apply below_alloc | apply pw_below_drewN | apply below_drew1) | exact HB.out)⟩

/-- THE ONE PURE STATEMENT of laws_FnNoCacheWord: yours. -/
def laws_FnNoCacheWord.Pure : Prop := ∀ (l0 : List ByteArray) (a1 : Int), l0.length * 16 ≤ 140737488351232 → (Lit.int .i64 a1).wf = true → ∃ k, laws_FnNoCacheWord.f k l0 a1 = some true
theorem laws_FnNoCacheWord.walk (P : laws_FnNoCacheWord.Pure) (a0 : Option Addr) (cap0 : Nat) (l0 : List ByteArray) (a1 : Int) (w : World) (w0 : Kd.C Kd.string w a0 l0.length l0) (y0 : l0.length ≤ cap0) (m0 : l0.length * 16 ≤ 140737488351232) (w1 : (Lit.int .i64 a1).wf = true) :
    Calls Try.prog 9 #[.slice a0 l0.length cap0, .int .i64 a1] w fun e w' => e = .returned (.bool true) ∧ Below w.heap.size w w' := by
  obtain ⟨k, h⟩ := P l0 a1 m0 w1
  refine (laws_FnNoCacheWord.calls k _ _ l0 a1 true w w0 y0 h).mono ?_
  rintro e w' ⟨rfl, hd⟩
  exact ⟨rfl, hd⟩

end Go.Proofs.Ytdfeojkombmiaaa.QA
