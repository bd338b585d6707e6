/- Printed by wip/pr.py (a program of this repo over the print program of the kit). Not trusted: Lean checks it. -/
import Derived.Test.YtdfeojkombmiaaaQA0
import Derived.Test.YtdfeojkombmiaaaQA2
import Derived.Test.YtdfeojkombmiaaaQA3
import Derived.Test.YtdfeojkombmiaaaQA4
import Derived.Test.YtdfeojkombmiaaaQA33
import Derived.Test.YtdfeojkombmiaaaGSpliced
namespace Go.Proofs.Ytdfeojkombmiaaa.QA
open Go.Proofs.Ytdfeojkombmiaaa.Given
open Go.Proofs.Ytdfeojkombmiaaa.PrX
open Go.RowKit Go.Proofs.YtdfeojkombmiaaaW.PrintWords Go.Proofs.YtdfeojkombmiaaaW.PrintLast Go.Proofs.YtdfeojkombmiaaaW.PrintMore
attribute [local go_sem] max2_int min2_int max_two min_two max_three min_three max_four min_four   -- for this text's walks alone
set_option linter.unusedVariables false
set_option linter.unusedSimpArgs false

/-! ### laws_FnSplicedJoin: function 12 -/
mutual
def laws_FnSplicedJoin.j0 : Nat → List ByteArray → Bool → Option (Bool)
  | 0, _, _ => none
  | k + 1, x0, x24 => if x24 = true then (some false) else ((laws_joined.f k x0 (⟨#[44]⟩ : ByteArray)).bind fun t233 => (if (x0.length : Int) = 0 then (laws_FnSplicedJoin.j1 k x0 t233 true) else ((laws_words.f k x0).bind fun t234 => (if t234 = true then (laws_FnSplicedJoin.j1 k x0 t233 (decide ((wrap64 ((t233.size : Int) + (x0.length : Int))) > 240))) else (laws_FnSplicedJoin.j1 k x0 t233 true)))))
def laws_FnSplicedJoin.j1 : Nat → List ByteArray → ByteArray → Bool → Option (Bool)
  | 0, _, _, _ => none
  | k + 1, x0, x5, x42 => if x42 = true then (some true) else ((impl_Spliced.f x5).bind fun bt235 => ((laws_joined.f k x0 (⟨#[44, 32]⟩ : ByteArray)).bind fun t239 => ((impl_Spliced.f t239).bind fun bt240 => (if bt235.2 = true then (if bt240.2 = true then ((laws_sameTexts.f k bt235.1 x0).bind fun t244 => (if t244 = true then ((laws_sameTexts.f k bt240.1 x0).bind fun t245 => (some t245)) else (some false))) else (some false)) else (some false)))))
end
def laws_FnSplicedJoin.f (k : Nat) (l0 : List ByteArray) : Option (Bool) := (laws_zzFits6.f k l0).bind fun t224 => (if t224 = true then ((impl_Spliced.f (⟨#[97, 44, 32, 98]⟩ : ByteArray)).bind fun bt225 => (if bt225.2 = true then ((laws_sameTexts.f k bt225.1 (([(⟨#[97]⟩ : ByteArray), (⟨#[98]⟩ : ByteArray)] : List ByteArray))).bind fun t232 => (laws_FnSplicedJoin.j0 k l0 (!t232))) else (laws_FnSplicedJoin.j0 k l0 true))) else (some true))
theorem laws_FnSplicedJoin.mono_l : ∀ k, (∀ y0 y1, LeO (laws_FnSplicedJoin.j0 k y0 y1) (laws_FnSplicedJoin.j0 (k + 1) y0 y1)) ∧ (∀ y0 y1 y2, LeO (laws_FnSplicedJoin.j1 k y0 y1 y2) (laws_FnSplicedJoin.j1 (k + 1) y0 y1 y2))
  | 0 => ⟨fun _ _ r h => by simp [laws_FnSplicedJoin.j0] at h, fun _ _ _ r h => by simp [laws_FnSplicedJoin.j1] at h⟩
  | k + 1 => by
    obtain ⟨ih0, ih1⟩ := laws_FnSplicedJoin.mono_l k
    refine ⟨?_, ?_⟩
    · intro y0 y1
      unfold laws_FnSplicedJoin.j0
      repeat' first
      | (with_reducible exact ih0 _ _)
      | (with_reducible exact ih1 _ _ _)
      | (with_reducible exact laws_joined.mono _ _ _)
      | (with_reducible exact laws_sameTexts.mono _ _ _)
      | (with_reducible exact laws_words.mono _ _)
      | (with_reducible exact laws_zzFits6.mono _ _)
      | (with_reducible exact LeO.refl _)
      | (with_reducible exact LeO.none _)
      | (with_reducible refine LeO.ite ?_ ?_)
      | (with_reducible refine LeO.bind ?_ (fun _ => ?_))
      | exact ih0 _ _
      | exact ih1 _ _ _
      | exact laws_joined.mono _ _ _
      | exact laws_sameTexts.mono _ _ _
      | exact laws_words.mono _ _
      | exact laws_zzFits6.mono _ _
      | exact LeO.none _
      | refine LeO.ite ?_ ?_
      | refine LeO.bind ?_ (fun _ => ?_)
    · intro y0 y1 y2
      unfold laws_FnSplicedJoin.j1
      repeat' first
      | (with_reducible exact ih0 _ _)
      | (with_reducible exact ih1 _ _ _)
      | (with_reducible exact laws_joined.mono _ _ _)
      | (with_reducible exact laws_sameTexts.mono _ _ _)
      | (with_reducible exact laws_words.mono _ _)
      | (with_reducible exact laws_zzFits6.mono _ _)
      | (with_reducible exact LeO.refl _)
      | (with_reducible exact LeO.none _)
      | (with_reducible refine LeO.ite ?_ ?_)
      | (with_reducible refine LeO.bind ?_ (fun _ => ?_))
      | exact ih0 _ _
      | exact ih1 _ _ _
      | exact laws_joined.mono _ _ _
      | exact laws_sameTexts.mono _ _ _
      | exact laws_words.mono _ _
      | exact laws_zzFits6.mono _ _
      | exact LeO.none _
      | refine LeO.ite ?_ ?_
      | refine LeO.bind ?_ (fun _ => ?_)
theorem laws_FnSplicedJoin.mono : ∀ a0 k, LeO (laws_FnSplicedJoin.f k a0) (laws_FnSplicedJoin.f (k + 1) a0) := by
  intro a0 k
  obtain ⟨ih0, ih1⟩ := laws_FnSplicedJoin.mono_l k
  unfold laws_FnSplicedJoin.f
  repeat' first
      | (with_reducible exact ih0 _ _)
      | (with_reducible exact ih1 _ _ _)
      | (with_reducible exact laws_joined.mono _ _ _)
      | (with_reducible exact laws_sameTexts.mono _ _ _)
      | (with_reducible exact laws_words.mono _ _)
      | (with_reducible exact laws_zzFits6.mono _ _)
      | (with_reducible exact LeO.refl _)
      | (with_reducible exact LeO.none _)
      | (with_reducible refine LeO.ite ?_ ?_)
      | (with_reducible refine LeO.bind ?_ (fun _ => ?_))
      | exact ih0 _ _
      | exact ih1 _ _ _
      | exact laws_joined.mono _ _ _
      | exact laws_sameTexts.mono _ _ _
      | exact laws_words.mono _ _
      | exact laws_zzFits6.mono _ _
      | exact LeO.none _
      | refine LeO.ite ?_ ?_
      | refine LeO.bind ?_ (fun _ => ?_)
set_option maxHeartbeats 8000000 in
set_option maxRecDepth 100000 in
theorem laws_FnSplicedJoin.calls (k : Nat) (A0 : Option Addr) (c0 : Nat) (l0 : List ByteArray) (r : Bool) (w : World) (hr0 : Kd.C Kd.string w A0 l0.length l0) (hc0 : l0.length ≤ c0) (h : laws_FnSplicedJoin.f k l0 = some r) :
    Calls Try.prog 12 #[.slice A0 l0.length c0] w fun e w' => e = .returned (.bool r) ∧ Below w.heap.size w w' := by
  have HR0 := Aside0.mk hr0
  have HC0 := Aside0.mk hc0
  clear hr0 hc0
  have HB := Aside0.mk (Below.refl w.heap.size w)
  have H : ((laws_zzFits6.f k l0).bind fun t224 => (if t224 = true then ((impl_Spliced.f (⟨#[97, 44, 32, 98]⟩ : ByteArray)).bind fun bt225 => (if bt225.2 = true then ((laws_sameTexts.f k bt225.1 (([(⟨#[97]⟩ : ByteArray), (⟨#[98]⟩ : ByteArray)] : List ByteArray))).bind fun t232 => (laws_FnSplicedJoin.j0 k l0 (!t232))) else (laws_FnSplicedJoin.j0 k l0 true))) else (some true))) = some r := h
  clear h
  replace H := Option.bind_eq_some_iff.mp H
  obtain ⟨t224, A20, H⟩ := H
  replace H : (if t224 = true then ((impl_Spliced.f (⟨#[97, 44, 32, 98]⟩ : ByteArray)).bind fun bt225 => (if bt225.2 = true then ((laws_sameTexts.f k bt225.1 (([(⟨#[97]⟩ : ByteArray), (⟨#[98]⟩ : ByteArray)] : List ByteArray))).bind fun t232 => (laws_FnSplicedJoin.j0 k l0 (!t232))) else (laws_FnSplicedJoin.j0 k l0 true))) else (some true)) = some r := H
  have A2 := Aside0.mk A20
  clear A20
  by_cases c3 : t224 = true
  · subst c3
    have H1 : ((impl_Spliced.f (⟨#[97, 44, 32, 98]⟩ : ByteArray)).bind fun bt225 => (if bt225.2 = true then ((laws_sameTexts.f k bt225.1 (([(⟨#[97]⟩ : ByteArray), (⟨#[98]⟩ : ByteArray)] : List ByteArray))).bind fun t232 => (laws_FnSplicedJoin.j0 k l0 (!t232))) else (laws_FnSplicedJoin.j0 k l0 true))) = some r := by rw [if_pos rfl] at H; exact H
    clear H
    have H := H1
    clear H1
    replace H := Option.bind_eq_some_iff.mp H
    obtain ⟨⟨t225, t226⟩, A40, H⟩ := H
    replace H : (if t226 = true then ((laws_sameTexts.f k t225 (([(⟨#[97]⟩ : ByteArray), (⟨#[98]⟩ : ByteArray)] : List ByteArray))).bind fun t232 => (laws_FnSplicedJoin.j0 k l0 (!t232))) else (laws_FnSplicedJoin.j0 k l0 true)) = some r := H
    have A4 := Aside0.mk A40
    clear A40
    have HC5 := Aside0.mk H
    clear H
    go_enter Try.func12, Try.ntmps12
    go_upto_region 4 with (first | ((with_reducible refine gate_callee (f := 27) rfl ?_); refine goesL_ (some 11) rfl rfl Try.func27 (by kernel_rfl) rfl #[.slice A0 l0.length c0] rfl (by (try simp only [List.map_toArray, List.map_cons, List.map_nil]); first | done | rfl | (simp only [List.length_drop, List.length_take]; rfl)) ?_; (with_reducible refine (laws_zzFits6.calls k _ _ l0 true _ ?side1 ?side2 A2.out).mono ?_); (case side1 => repeat (first | exact HR0.out | (with_reducible refine Kd.C_alloc ?_ _) | (with_reducible refine Kd.C_drewN ?_ _) | (with_reducible refine Kd.C_drew ?_))); (case side2 => exact HC0.out); rintro e w' ⟨rfl, ⟨nd, rfl⟩⟩; refine ⟨_, rfl, ?_⟩) | ((with_reducible refine gate_callee (f := 38) rfl ?_); refine goesL_ (some 14) rfl rfl Try.func38 (by kernel_rfl) rfl #[.string (⟨#[97, 44, 32, 98]⟩ : ByteArray)] rfl (by (try simp only [List.map_toArray, List.map_cons, List.map_nil]); first | done | rfl | (simp only [List.length_drop, List.length_take]; rfl)) ?_; (with_reducible refine (impl_Spliced.calls (⟨#[97, 44, 32, 98]⟩ : ByteArray) t225 t226 _ A4.out).mono ?_); rintro e w6 ⟨v227, rfl, ho0, hb⟩; refine ⟨_, rfl, ?_⟩; have n0_ := Aside0.mk (Kd.R_lower ho0 (below_size (by repeat (first | (with_reducible first | exact HB.out | apply below_alloc | apply pw_below_drewN | apply below_drew1) | exact HB.out)))); have n1_ := Aside0.mk (below_step (by repeat (first | (with_reducible first | exact HB.out | apply below_alloc | apply pw_below_drewN | apply below_drew1) | exact HB.out)) hb); clear HB; have HO228 := n0_; have HB := n1_; clear n0_ n1_; (try clear hb); (try clear hb2); (try clear hk); (try clear hi); (try clear ho0)))
    (try simp only [Act.put, List.setIfInBounds_toArray, List.set_cons_zero, List.set_cons_succ])
    go_cut [24] (fun v24 wc => ∃ (kq : Nat) (x24_4 : Bool), v24 = .bool x24_4 ∧ Aside0 (laws_FnSplicedJoin.j0 kq l0 x24_4 = some r) ∧ Aside0 (kq ≤ k) ∧ Aside0 (Below w.heap.size w wc))
    case first =>
      have H := HC5.out
      clear HC5
      by_cases c7 : t226 = true
      · subst c7
        have H1 : ((laws_sameTexts.f k t225 (([(⟨#[97]⟩ : ByteArray), (⟨#[98]⟩ : ByteArray)] : List ByteArray))).bind fun t232 => (laws_FnSplicedJoin.j0 k l0 (!t232))) = some r := by rw [if_pos rfl] at H; exact H
        clear H
        have H := H1
        clear H1
        obtain ⟨y229, hy229⟩ : ∃ y_ : List ByteArray, y_ = (([(⟨#[97]⟩ : ByteArray), (⟨#[98]⟩ : ByteArray)] : List ByteArray)) := ⟨_, rfl⟩
        replace H : ((laws_sameTexts.f k t225 y229).bind fun t232 => (laws_FnSplicedJoin.j0 k l0 (!t232))) = some r := by first | (rw [hy229]; with_reducible exact H) | (have H2_ := (Option.bind_some _ _).symm.trans H; rw [hy229]; with_reducible exact H2_) | (have H2_ := (Option.bind_some _ _).symm.trans H; with_reducible exact H2_) | with_reducible exact H | (rw [hy229]; exact H) | exact H
        have Ny229 := Aside0.mk hy229
        clear hy229
        replace H := Option.bind_eq_some_iff.mp H
        obtain ⟨t232, A80, H⟩ := H
        replace H : (laws_FnSplicedJoin.j0 k l0 (!t232)) = some r := H
        have A8 := Aside0.mk A80
        clear A80
        have H' := Aside0.mk H
        clear H
        go_wp2_with (first | ((with_reducible refine gate_dst (N := 21) rfl ?_); (try (refine gate_guard (by rfl) ?_; dsimp only)); refine Kd.R_lit Kd.string _ 9 ?hg (N := 21) ?hd (xs := ([(⟨#[97]⟩ : ByteArray), (⟨#[98]⟩ : ByteArray)] : List ByteArray)) (inner := [.string (⟨#[97]⟩ : ByteArray), .string (⟨#[98]⟩ : ByteArray)]) (ok := fun _ => True) (okp := fun _ => True) ?hr ?hp (fun _ hk => hk) trivial (Below.refl _ _) (Nat.le_refl _) (by simp) ?_; (case hd => rfl); (case hg => rfl); (case hr => first | (go_simp; done) | (go_simp; rfl)); (case hp => exact (Reps.one (show Kd.M Kd.string _ _ _ (⟨#[97]⟩ : ByteArray) [.string (⟨#[97]⟩ : ByteArray)] from rfl) (Reps.one (show Kd.M Kd.string _ _ _ (⟨#[98]⟩ : ByteArray) [.string (⟨#[98]⟩ : ByteArray)] from rfl) (Reps.none _ _)))); intro v230 w9 ho10 hb hg_ hnew_; clear hg_ hnew_; (first | rw [← Ny229.out] at ho10 | (simp only [Int.reduceToNat] at ho10; rw [← Ny229.out] at ho10)); have n0_ := Aside0.mk (Kd.R_elder' (by (with_reducible repeat (first | apply Kd.R_alloc | apply Kd.R_drewN | apply Kd.R_drew)); exact HO228.out) (Kd.R_base ho10) hb); have n1_ := Aside0.mk (Kd.R_lower (Kd.R_new' ho10 (Kd.R_lt (by (with_reducible repeat (first | apply Kd.R_alloc | apply Kd.R_drewN | apply Kd.R_drew)); exact HO228.out))) (below_size (by repeat (first | (with_reducible first | exact HB.out | apply below_alloc | apply pw_below_drewN | apply below_drew1) | exact HB.out)))); have n2_ := Aside0.mk (below_step (by repeat (first | (with_reducible first | exact HB.out | apply below_alloc | apply pw_below_drewN | apply below_drew1) | exact HB.out)) hb); clear HO228; clear HB; have HO228 := n0_; have HO231 := n1_; have HB := n2_; clear n0_ n1_ n2_; clear hb ho10; obtain ⟨Ao11, co11, eo11⟩ := Kd.R_slice HO228.out; subst eo11; obtain ⟨Ao12, co12, eo12⟩ := Kd.R_slice HO231.out; subst eo12) | (go_at_call 39; (with_reducible refine (laws_sameTexts.calls k _ _ t225 _ _ y229 t232 _ ?side1 ?side2 ?side3 ?side4 A8.out).mono ?_); (case side1 => repeat (first | exact (Kd.R_reads' HO228.out).2.2 | (with_reducible refine Kd.C_alloc ?_ _) | (with_reducible refine Kd.C_drewN ?_ _) | (with_reducible refine Kd.C_drew ?_))); (case side2 => exact (Kd.R_reads' HO228.out).2.1); (case side3 => repeat (first | exact (Kd.R_reads' HO231.out).2.2 | (with_reducible refine Kd.C_alloc ?_ _) | (with_reducible refine Kd.C_drewN ?_ _) | (with_reducible refine Kd.C_drew ?_))); (case side4 => exact (Kd.R_reads' HO231.out).2.1); rintro e w' ⟨rfl, ⟨nd, rfl⟩⟩))
        go_meet
        case rel => exact ⟨_, (!t232), (by first | rfl | (simp; done) | (rw [prx_ne]; first | done | rfl) | (simp [*]; done)), H', ⟨by first | omega | exact Nat.le_refl _⟩, ⟨by repeat (first | (with_reducible first | exact HB.out | apply below_alloc | apply pw_below_drewN | apply below_drew1) | exact HB.out)⟩⟩
      · replace c7 := Bool.eq_false_iff.mpr c7
        subst c7
        have H1 : (laws_FnSplicedJoin.j0 k l0 true) = some r := by rw [if_neg (show ¬ (false = true) by decide)] at H; exact H
        clear H
        have H := H1
        clear H1
        have H' := Aside0.mk H
        clear H
        go_wp2
        go_meet
        case rel => exact ⟨_, (true), (by first | rfl | (simp; done) | (rw [prx_ne]; first | done | rfl) | (simp [*]; done)), H', ⟨by first | omega | exact Nat.le_refl _⟩, ⟨by repeat (first | (with_reducible first | exact HB.out | apply below_alloc | apply pw_below_drewN | apply below_drew1) | exact HB.out)⟩⟩
    case rest =>
      clear HC5
      try clear c1
      try clear c2
      try clear p2
      try clear c3
      try clear c7
      try clear c12
      obtain ⟨kq, x24_4, rfl, HA, HJ4, HB⟩ := hcut
      cases kq with
      | zero => exact absurd HA.out (by simp [laws_FnSplicedJoin.j0])
      | succ kj4 =>
        have H := HA.out
        clear HA
        simp only [laws_FnSplicedJoin.j0] at H
        by_cases c13 : x24_4 = true
        · subst c13
          have H1 : (some false) = some r := by rw [if_pos rfl] at H; exact H
          clear H
          have H := H1
          clear H1
          obtain rfl := Option.some.inj H
          go_wp2
          go_ret
          exact ⟨by first | rfl | (simp [errW_none, errW_some] <;> rfl) | (simp [*, errW_none, errW_some] <;> rfl), by repeat (first | (with_reducible first | exact HB.out | apply below_alloc | apply pw_below_drewN | apply below_drew1) | exact HB.out)⟩
        · replace c13 := Bool.eq_false_iff.mpr c13
          subst c13
          have H1 : ((laws_joined.f kj4 l0 (⟨#[44]⟩ : ByteArray)).bind fun t233 => (if (l0.length : Int) = 0 then (laws_FnSplicedJoin.j1 kj4 l0 t233 true) else ((laws_words.f kj4 l0).bind fun t234 => (if t234 = true then (laws_FnSplicedJoin.j1 kj4 l0 t233 (decide ((wrap64 ((t233.size : Int) + (l0.length : Int))) > 240))) else (laws_FnSplicedJoin.j1 kj4 l0 t233 true))))) = some r := by rw [if_neg (show ¬ (false = true) by decide)] at H; exact H
          clear H
          have H := H1
          clear H1
          replace H := Option.bind_eq_some_iff.mp H
          obtain ⟨t233, A140, H⟩ := H
          replace H : (if (l0.length : Int) = 0 then (laws_FnSplicedJoin.j1 kj4 l0 t233 true) else ((laws_words.f kj4 l0).bind fun t234 => (if t234 = true then (laws_FnSplicedJoin.j1 kj4 l0 t233 (decide ((wrap64 ((t233.size : Int) + (l0.length : Int))) > 240))) else (laws_FnSplicedJoin.j1 kj4 l0 t233 true)))) = some r := H
          have A14 := Aside0.mk A140
          clear A140
          have HC15 := Aside0.mk H
          clear H
          go_upto_region 7 with (first | ((with_reducible refine gate_callee (f := 29) rfl ?_); refine goesL_ (some 26) rfl rfl Try.func29 (by kernel_rfl) rfl #[.slice A0 l0.length c0, .string (⟨#[44]⟩ : ByteArray)] rfl (by (try simp only [List.map_toArray, List.map_cons, List.map_nil]); first | done | rfl | (simp only [List.length_drop, List.length_take]; rfl)) ?_; (with_reducible refine (laws_joined.calls kj4 _ _ l0 (⟨#[44]⟩ : ByteArray) t233 _ ?side1 ?side2 A14.out).mono ?_); (case side1 => repeat (first | exact (Kd.C_below HR0.out HB.out) | (with_reducible refine Kd.C_alloc ?_ _) | (with_reducible refine Kd.C_drewN ?_ _) | (with_reducible refine Kd.C_drew ?_))); (case side2 => exact HC0.out); rintro e w' ⟨rfl, ⟨nd, rfl⟩⟩; refine ⟨_, rfl, ?_⟩))
          (try simp only [Act.put, List.setIfInBounds_toArray, List.set_cons_zero, List.set_cons_succ])
          go_cut [42] (fun v42 wc => ∃ (kq : Nat) (x42_14 : Bool), v42 = .bool x42_14 ∧ Aside0 (laws_FnSplicedJoin.j1 kq l0 t233 x42_14 = some r) ∧ Aside0 (kq ≤ kj4) ∧ Aside0 (Below w.heap.size w wc))
          case first =>
            have H := HC15.out
            clear HC15
            by_cases c16 : (l0.length : Int) = 0
            · rw [if_pos c16] at H
              have c16b0 : ((l0.length : Int) == 0) = true := beq_iff_eq.mpr c16
              have c16b1 : ((l0.length : Int) != 0) = false := bne_eq_false_iff_eq.mpr c16
              clear c16
              (first | rw [c16b0] | (simp only [i64_w, i32_w]; rw [c16b0]) | skip)
              have H' := Aside0.mk H
              clear H
              go_wp2
              go_meet
              case rel => exact ⟨_, (true), (by first | rfl | (simp; done) | (rw [prx_ne]; first | done | rfl) | (simp [*]; done)), H', ⟨by have := HJ4.out; first | omega | exact Nat.le_refl _⟩, ⟨by repeat (first | (with_reducible first | exact HB.out | apply below_alloc | apply pw_below_drewN | apply below_drew1) | exact HB.out)⟩⟩
            · rw [if_neg c16] at H
              have c16b0 : ((l0.length : Int) == 0) = false := beq_eq_false_iff_ne.mpr c16
              have c16b1 : ((l0.length : Int) != 0) = true := bne_iff_ne.mpr c16
              have c16b2 : ¬ (l0 = []) := fun h_ => c16 (by rw [h_]; rfl)
              (first | rw [c16b0] | (simp only [i64_w, i32_w]; rw [c16b0]) | skip)
              replace H := Option.bind_eq_some_iff.mp H
              obtain ⟨t234, A170, H⟩ := H
              replace H : (if t234 = true then (laws_FnSplicedJoin.j1 kj4 l0 t233 (decide ((wrap64 ((t233.size : Int) + (l0.length : Int))) > 240))) else (laws_FnSplicedJoin.j1 kj4 l0 t233 true)) = some r := H
              have A17 := Aside0.mk A170
              clear A170
              by_cases c18 : t234 = true
              · subst c18
                have H1 : (laws_FnSplicedJoin.j1 kj4 l0 t233 (decide ((wrap64 ((t233.size : Int) + (l0.length : Int))) > 240))) = some r := by rw [if_pos rfl] at H; exact H
                clear H
                have H := H1
                clear H1
                have H' := Aside0.mk H
                clear H
                go_wp2_with (first | (go_at_call 14; (with_reducible refine (laws_words.calls kj4 _ _ l0 true _ ?side1 ?side2 A17.out).mono ?_); (case side1 => repeat (first | exact (Kd.C_below HR0.out HB.out) | (with_reducible refine Kd.C_alloc ?_ _) | (with_reducible refine Kd.C_drewN ?_ _) | (with_reducible refine Kd.C_drew ?_))); (case side2 => exact HC0.out); rintro e w' ⟨rfl, ⟨nd, rfl⟩⟩))
                go_meet
                case rel => exact ⟨_, (decide ((wrap64 ((t233.size : Int) + (l0.length : Int))) > 240)), (by first | rfl | (simp; done) | (rw [prx_ne]; first | done | rfl) | (simp [*]; done)), H', ⟨by have := HJ4.out; first | omega | exact Nat.le_refl _⟩, ⟨by repeat (first | (with_reducible first | exact HB.out | apply below_alloc | apply pw_below_drewN | apply below_drew1) | exact HB.out)⟩⟩
              · replace c18 := Bool.eq_false_iff.mpr c18
                subst c18
                have H1 : (laws_FnSplicedJoin.j1 kj4 l0 t233 true) = some r := by rw [if_neg (show ¬ (false = true) by decide)] at H; exact H
                clear H
                have H := H1
                clear H1
                have H' := Aside0.mk H
                clear H
                go_wp2_with (first | (go_at_call 14; (with_reducible refine (laws_words.calls kj4 _ _ l0 false _ ?side1 ?side2 A17.out).mono ?_); (case side1 => repeat (first | exact (Kd.C_below HR0.out HB.out) | (with_reducible refine Kd.C_alloc ?_ _) | (with_reducible refine Kd.C_drewN ?_ _) | (with_reducible refine Kd.C_drew ?_))); (case side2 => exact HC0.out); rintro e w' ⟨rfl, ⟨nd, rfl⟩⟩))
                go_meet
                case rel => exact ⟨_, (true), (by first | rfl | (simp; done) | (rw [prx_ne]; first | done | rfl) | (simp [*]; done)), H', ⟨by have := HJ4.out; first | omega | exact Nat.le_refl _⟩, ⟨by repeat (first | (with_reducible first | exact HB.out | apply below_alloc | apply pw_below_drewN | apply below_drew1) | exact HB.out)⟩⟩
          case rest =>
            clear HC15
            try clear c1
            try clear c2
            try clear p2
            try clear c3
            try clear p6
            try clear c7
            try clear c12
            try clear c13
            try clear c16
            try clear c16b0
            try clear c16b1
            try clear c16b2
            try clear c18
            try clear p2
            obtain ⟨kq, x42_14, rfl, HA, HJ14, HB⟩ := hcut
            cases kq with
            | zero => exact absurd HA.out (by simp [laws_FnSplicedJoin.j1])
            | succ kj14 =>
              have H := HA.out
              clear HA
              simp only [laws_FnSplicedJoin.j1] at H
              by_cases c19 : x42_14 = true
              · subst c19
                have H1 : (some true) = some r := by rw [if_pos rfl] at H; exact H
                clear H
                have H := H1
                clear H1
                obtain rfl := Option.some.inj H
                go_wp2
                go_ret
                exact ⟨by first | rfl | (simp [errW_none, errW_some] <;> rfl) | (simp [*, errW_none, errW_some] <;> rfl), by repeat (first | (with_reducible first | exact HB.out | apply below_alloc | apply pw_below_drewN | apply below_drew1) | exact HB.out)⟩
              · replace c19 := Bool.eq_false_iff.mpr c19
                subst c19
                have H1 : ((impl_Spliced.f t233).bind fun bt235 => ((laws_joined.f kj14 l0 (⟨#[44, 32]⟩ : ByteArray)).bind fun t239 => ((impl_Spliced.f t239).bind fun bt240 => (if bt235.2 = true then (if bt240.2 = true then ((laws_sameTexts.f kj14 bt235.1 l0).bind fun t244 => (if t244 = true then ((laws_sameTexts.f kj14 bt240.1 l0).bind fun t245 => (some t245)) else (some false))) else (some false)) else (some false))))) = some r := by rw [if_neg (show ¬ (false = true) by decide)] at H; exact H
                clear H
                have H := H1
                clear H1
                replace H := Option.bind_eq_some_iff.mp H
                obtain ⟨⟨t235, t236⟩, A200, H⟩ := H
                replace H : ((laws_joined.f kj14 l0 (⟨#[44, 32]⟩ : ByteArray)).bind fun t239 => ((impl_Spliced.f t239).bind fun bt240 => (if t236 = true then (if bt240.2 = true then ((laws_sameTexts.f kj14 t235 l0).bind fun t244 => (if t244 = true then ((laws_sameTexts.f kj14 bt240.1 l0).bind fun t245 => (some t245)) else (some false))) else (some false)) else (some false)))) = some r := H
                have A20 := Aside0.mk A200
                clear A200
                replace H := Option.bind_eq_some_iff.mp H
                obtain ⟨t239, A210, H⟩ := H
                replace H : ((impl_Spliced.f t239).bind fun bt240 => (if t236 = true then (if bt240.2 = true then ((laws_sameTexts.f kj14 t235 l0).bind fun t244 => (if t244 = true then ((laws_sameTexts.f kj14 bt240.1 l0).bind fun t245 => (some t245)) else (some false))) else (some false)) else (some false))) = some r := H
                have A21 := Aside0.mk A210
                clear A210
                replace H := Option.bind_eq_some_iff.mp H
                obtain ⟨⟨t240, t241⟩, A220, H⟩ := H
                replace H : (if t236 = true then (if t241 = true then ((laws_sameTexts.f kj14 t235 l0).bind fun t244 => (if t244 = true then ((laws_sameTexts.f kj14 t240 l0).bind fun t245 => (some t245)) else (some false))) else (some false)) else (some false)) = some r := H
                have A22 := Aside0.mk A220
                clear A220
                by_cases c23 : t236 = true
                · subst c23
                  have H1 : (if t241 = true then ((laws_sameTexts.f kj14 t235 l0).bind fun t244 => (if t244 = true then ((laws_sameTexts.f kj14 t240 l0).bind fun t245 => (some t245)) else (some false))) else (some false)) = some r := by rw [if_pos rfl] at H; exact H
                  clear H
                  have H := H1
                  clear H1
                  by_cases c24 : t241 = true
                  · subst c24
                    have H1 : ((laws_sameTexts.f kj14 t235 l0).bind fun t244 => (if t244 = true then ((laws_sameTexts.f kj14 t240 l0).bind fun t245 => (some t245)) else (some false))) = some r := by rw [if_pos rfl] at H; exact H
                    clear H
                    have H := H1
                    clear H1
                    replace H := Option.bind_eq_some_iff.mp H
                    obtain ⟨t244, A250, H⟩ := H
                    replace H : (if t244 = true then ((laws_sameTexts.f kj14 t240 l0).bind fun t245 => (some t245)) else (some false)) = some r := H
                    have A25 := Aside0.mk A250
                    clear A250
                    by_cases c26 : t244 = true
                    · subst c26
                      have H1 : ((laws_sameTexts.f kj14 t240 l0).bind fun t245 => (some t245)) = some r := by rw [if_pos rfl] at H; exact H
                      clear H
                      have H := H1
                      clear H1
                      replace H := Option.bind_eq_some_iff.mp H
                      obtain ⟨t245, A270, H⟩ := H
                      replace H : (some t245) = some r := H
                      have A27 := Aside0.mk A270
                      clear A270
                      obtain rfl := Option.some.inj H
                      go_wp2_with (first | ((with_reducible refine gate_callee (f := 38) rfl ?_); refine goesL_ (some 45) rfl rfl Try.func38 (by kernel_rfl) rfl #[.string t233] rfl (by (try simp only [List.map_toArray, List.map_cons, List.map_nil]); first | done | rfl | (simp only [List.length_drop, List.length_take]; rfl)) ?_; (with_reducible refine (impl_Spliced.calls t233 t235 true _ A20.out).mono ?_); rintro e w28 ⟨v237, rfl, ho0, hb⟩; refine ⟨_, rfl, ?_⟩; have n0_ := Aside0.mk (Kd.R_lower ho0 (below_size (by repeat (first | (with_reducible first | exact HB.out | apply below_alloc | apply pw_below_drewN | apply below_drew1) | exact HB.out)))); have n1_ := Aside0.mk (below_step (by repeat (first | (with_reducible first | exact HB.out | apply below_alloc | apply pw_below_drewN | apply below_drew1) | exact HB.out)) hb); clear HB; have HO238 := n0_; have HB := n1_; clear n0_ n1_; (try clear hb); (try clear hb2); (try clear hk); (try clear hi); (try clear ho0)) | ((with_reducible refine gate_callee (f := 29) rfl ?_); refine goesL_ (some 50) rfl rfl Try.func29 (by kernel_rfl) rfl #[.slice A0 l0.length c0, .string (⟨#[44, 32]⟩ : ByteArray)] rfl (by (try simp only [List.map_toArray, List.map_cons, List.map_nil]); first | done | rfl | (simp only [List.length_drop, List.length_take]; rfl)) ?_; (with_reducible refine (laws_joined.calls kj14 _ _ l0 (⟨#[44, 32]⟩ : ByteArray) t239 _ ?side1 ?side2 A21.out).mono ?_); (case side1 => repeat (first | exact (Kd.C_below HR0.out HB.out) | (with_reducible refine Kd.C_alloc ?_ _) | (with_reducible refine Kd.C_drewN ?_ _) | (with_reducible refine Kd.C_drew ?_))); (case side2 => exact HC0.out); rintro e w' ⟨rfl, ⟨nd, rfl⟩⟩; refine ⟨_, rfl, ?_⟩) | ((with_reducible refine gate_callee (f := 38) rfl ?_); refine goesL_ (some 51) rfl rfl Try.func38 (by kernel_rfl) rfl #[.string t239] rfl (by (try simp only [List.map_toArray, List.map_cons, List.map_nil]); first | done | rfl | (simp only [List.length_drop, List.length_take]; rfl)) ?_; (with_reducible refine (impl_Spliced.calls t239 t240 true _ A22.out).mono ?_); rintro e w29 ⟨v242, rfl, ho0, hb⟩; refine ⟨_, rfl, ?_⟩; have n0_ := Aside0.mk (Kd.R_elder' (by (with_reducible repeat (first | apply Kd.R_alloc | apply Kd.R_drewN | apply Kd.R_drew)); exact HO238.out) (Kd.R_base ho0) hb); have n1_ := Aside0.mk (Kd.R_lower (Kd.R_new' ho0 (Kd.R_lt (by (with_reducible repeat (first | apply Kd.R_alloc | apply Kd.R_drewN | apply Kd.R_drew)); exact HO238.out))) (below_size (by repeat (first | (with_reducible first | exact HB.out | apply below_alloc | apply pw_below_drewN | apply below_drew1) | exact HB.out)))); have n2_ := Aside0.mk (below_step (by repeat (first | (with_reducible first | exact HB.out | apply below_alloc | apply pw_below_drewN | apply below_drew1) | exact HB.out)) hb); clear HO238; clear HB; have HO238 := n0_; have HO243 := n1_; have HB := n2_; clear n0_ n1_ n2_; (try clear hb); (try clear hb2); (try clear hk); (try clear hi); (try clear ho0); obtain ⟨Ao30, co30, eo30⟩ := Kd.R_slice HO238.out; subst eo30) | (go_at_call 39; (with_reducible refine (laws_sameTexts.calls kj14 _ _ t235 _ _ l0 true _ ?side1 ?side2 ?side3 ?side4 A25.out).mono ?_); (case side1 => repeat (first | exact (Kd.R_reads' HO238.out).2.2 | (with_reducible refine Kd.C_alloc ?_ _) | (with_reducible refine Kd.C_drewN ?_ _) | (with_reducible refine Kd.C_drew ?_))); (case side2 => exact (Kd.R_reads' HO238.out).2.1); (case side3 => repeat (first | exact (Kd.C_below HR0.out HB.out) | (with_reducible refine Kd.C_alloc ?_ _) | (with_reducible refine Kd.C_drewN ?_ _) | (with_reducible refine Kd.C_drew ?_))); (case side4 => exact HC0.out); rintro e w' ⟨rfl, ⟨nd, rfl⟩⟩; obtain ⟨Ao31, co31, eo31⟩ := Kd.R_slice HO243.out; subst eo31) | (go_at_call 39; (with_reducible refine (laws_sameTexts.calls kj14 _ _ t240 _ _ l0 t245 _ ?side1 ?side2 ?side3 ?side4 A27.out).mono ?_); (case side1 => repeat (first | exact (Kd.R_reads' HO243.out).2.2 | (with_reducible refine Kd.C_alloc ?_ _) | (with_reducible refine Kd.C_drewN ?_ _) | (with_reducible refine Kd.C_drew ?_))); (case side2 => exact (Kd.R_reads' HO243.out).2.1); (case side3 => repeat (first | exact (Kd.C_below HR0.out (by repeat (first | (with_reducible first | exact HB.out | apply below_alloc | apply pw_below_drewN | apply below_drew1) | exact HB.out))) | (with_reducible refine Kd.C_alloc ?_ _) | (with_reducible refine Kd.C_drewN ?_ _) | (with_reducible refine Kd.C_drew ?_))); (case side4 => exact HC0.out); rintro e w' ⟨rfl, ⟨nd, rfl⟩⟩))
                      go_ret
                      exact ⟨by first | rfl | (simp [errW_none, errW_some] <;> rfl) | (simp [*, errW_none, errW_some] <;> rfl), by repeat (first | (with_reducible first | exact HB.out | apply below_alloc | apply pw_below_drewN | apply below_drew1) | exact HB.out)⟩
                    · replace c26 := Bool.eq_false_iff.mpr c26
                      subst c26
                      have H1 : (some false) = some r := by rw [if_neg (show ¬ (false = true) by decide)] at H; exact H
                      clear H
                      have H := H1
                      clear H1
                      obtain rfl := Option.some.inj H
                      go_wp2_with (first | ((with_reducible refine gate_callee (f := 38) rfl ?_); refine goesL_ (some 45) rfl rfl Try.func38 (by kernel_rfl) rfl #[.string t233] rfl (by (try simp only [List.map_toArray, List.map_cons, List.map_nil]); first | done | rfl | (simp only [List.length_drop, List.length_take]; rfl)) ?_; (with_reducible refine (impl_Spliced.calls t233 t235 true _ A20.out).mono ?_); rintro e w32 ⟨v237, rfl, ho0, hb⟩; refine ⟨_, rfl, ?_⟩; have n0_ := Aside0.mk (Kd.R_lower ho0 (below_size (by repeat (first | (with_reducible first | exact HB.out | apply below_alloc | apply pw_below_drewN | apply below_drew1) | exact HB.out)))); have n1_ := Aside0.mk (below_step (by repeat (first | (with_reducible first | exact HB.out | apply below_alloc | apply pw_below_drewN | apply below_drew1) | exact HB.out)) hb); clear HB; have HO238 := n0_; have HB := n1_; clear n0_ n1_; (try clear hb); (try clear hb2); (try clear hk); (try clear hi); (try clear ho0)) | ((with_reducible refine gate_callee (f := 29) rfl ?_); refine goesL_ (some 50) rfl rfl Try.func29 (by kernel_rfl) rfl #[.slice A0 l0.length c0, .string (⟨#[44, 32]⟩ : ByteArray)] rfl (by (try simp only [List.map_toArray, List.map_cons, List.map_nil]); first | done | rfl | (simp only [List.length_drop, List.length_take]; rfl)) ?_; (with_reducible refine (laws_joined.calls kj14 _ _ l0 (⟨#[44, 32]⟩ : ByteArray) t239 _ ?side1 ?side2 A21.out).mono ?_); (case side1 => repeat (first | exact (Kd.C_below HR0.out HB.out) | (with_reducible refine Kd.C_alloc ?_ _) | (with_reducible refine Kd.C_drewN ?_ _) | (with_reducible refine Kd.C_drew ?_))); (case side2 => exact HC0.out); rintro e w' ⟨rfl, ⟨nd, rfl⟩⟩; refine ⟨_, rfl, ?_⟩) | ((with_reducible refine gate_callee (f := 38) rfl ?_); refine goesL_ (some 51) rfl rfl Try.func38 (by kernel_rfl) rfl #[.string t239] rfl (by (try simp only [List.map_toArray, List.map_cons, List.map_nil]); first | done | rfl | (simp only [List.length_drop, List.length_take]; rfl)) ?_; (with_reducible refine (impl_Spliced.calls t239 t240 true _ A22.out).mono ?_); rintro e w33 ⟨v242, rfl, ho0, hb⟩; refine ⟨_, rfl, ?_⟩; have n0_ := Aside0.mk (Kd.R_elder' (by (with_reducible repeat (first | apply Kd.R_alloc | apply Kd.R_drewN | apply Kd.R_drew)); exact HO238.out) (Kd.R_base ho0) hb); have n1_ := Aside0.mk (Kd.R_lower (Kd.R_new' ho0 (Kd.R_lt (by (with_reducible repeat (first | apply Kd.R_alloc | apply Kd.R_drewN | apply Kd.R_drew)); exact HO238.out))) (below_size (by repeat (first | (with_reducible first | exact HB.out | apply below_alloc | apply pw_below_drewN | apply below_drew1) | exact HB.out)))); have n2_ := Aside0.mk (below_step (by repeat (first | (with_reducible first | exact HB.out | apply below_alloc | apply pw_below_drewN | apply below_drew1) | exact HB.out)) hb); clear HO238; clear HB; have HO238 := n0_; have HO243 := n1_; have HB := n2_; clear n0_ n1_ n2_; (try clear hb); (try clear hb2); (try clear hk); (try clear hi); (try clear ho0); obtain ⟨Ao34, co34, eo34⟩ := Kd.R_slice HO238.out; subst eo34) | (go_at_call 39; (with_reducible refine (laws_sameTexts.calls kj14 _ _ t235 _ _ l0 false _ ?side1 ?side2 ?side3 ?side4 A25.out).mono ?_); (case side1 => repeat (first | exact (Kd.R_reads' HO238.out).2.2 | (with_reducible refine Kd.C_alloc ?_ _) | (with_reducible refine Kd.C_drewN ?_ _) | (with_reducible refine Kd.C_drew ?_))); (case side2 => exact (Kd.R_reads' HO238.out).2.1); (case side3 => repeat (first | exact (Kd.C_below HR0.out HB.out) | (with_reducible refine Kd.C_alloc ?_ _) | (with_reducible refine Kd.C_drewN ?_ _) | (with_reducible refine Kd.C_drew ?_))); (case side4 => exact HC0.out); rintro e w' ⟨rfl, ⟨nd, rfl⟩⟩))
                      go_ret
                      exact ⟨by first | rfl | (simp [errW_none, errW_some] <;> rfl) | (simp [*, errW_none, errW_some] <;> rfl), by repeat (first | (with_reducible first | exact HB.out | apply below_alloc | apply pw_below_drewN | apply below_drew1) | exact HB.out)⟩
                  · replace c24 := Bool.eq_false_iff.mpr c24
                    subst c24
                    have H1 : (some false) = some r := by rw [if_neg (show ¬ (false = true) by decide)] at H; exact H
                    clear H
                    have H := H1
                    clear H1
                    obtain rfl := Option.some.inj H
                    go_wp2_with (first | ((with_reducible refine gate_callee (f := 38) rfl ?_); refine goesL_ (some 45) rfl rfl Try.func38 (by kernel_rfl) rfl #[.string t233] rfl (by (try simp only [List.map_toArray, List.map_cons, List.map_nil]); first | done | rfl | (simp only [List.length_drop, List.length_take]; rfl)) ?_; (with_reducible refine (impl_Spliced.calls t233 t235 true _ A20.out).mono ?_); rintro e w35 ⟨v237, rfl, ho0, hb⟩; refine ⟨_, rfl, ?_⟩; have n0_ := Aside0.mk (Kd.R_lower ho0 (below_size (by repeat (first | (with_reducible first | exact HB.out | apply below_alloc | apply pw_below_drewN | apply below_drew1) | exact HB.out)))); have n1_ := Aside0.mk (below_step (by repeat (first | (with_reducible first | exact HB.out | apply below_alloc | apply pw_below_drewN | apply below_drew1) | exact HB.out)) hb); clear HB; have HO238 := n0_; have HB := n1_; clear n0_ n1_; (try clear hb); (try clear hb2); (try clear hk); (try clear hi); (try clear ho0)) | ((with_reducible refine gate_callee (f := 29) rfl ?_); refine goesL_ (some 50) rfl rfl Try.func29 (by kernel_rfl) rfl #[.slice A0 l0.length c0, .string (⟨#[44, 32]⟩ : ByteArray)] rfl (by (try simp only [List.map_toArray, List.map_cons, List.map_nil]); first | done | rfl | (simp only [List.length_drop, List.length_take]; rfl)) ?_; (with_reducible refine (laws_joined.calls kj14 _ _ l0 (⟨#[44, 32]⟩ : ByteArray) t239 _ ?side1 ?side2 A21.out).mono ?_); (case side1 => repeat (first | exact (Kd.C_below HR0.out HB.out) | (with_reducible refine Kd.C_alloc ?_ _) | (with_reducible refine Kd.C_drewN ?_ _) | (with_reducible refine Kd.C_drew ?_))); (case side2 => exact HC0.out); rintro e w' ⟨rfl, ⟨nd, rfl⟩⟩; refine ⟨_, rfl, ?_⟩) | ((with_reducible refine gate_callee (f := 38) rfl ?_); refine goesL_ (some 51) rfl rfl Try.func38 (by kernel_rfl) rfl #[.string t239] rfl (by (try simp only [List.map_toArray, List.map_cons, List.map_nil]); first | done | rfl | (simp only [List.length_drop, List.length_take]; rfl)) ?_; (with_reducible refine (impl_Spliced.calls t239 t240 false _ A22.out).mono ?_); rintro e w36 ⟨v242, rfl, ho0, hb⟩; refine ⟨_, rfl, ?_⟩; have n0_ := Aside0.mk (Kd.R_elder' (by (with_reducible repeat (first | apply Kd.R_alloc | apply Kd.R_drewN | apply Kd.R_drew)); exact HO238.out) (Kd.R_base ho0) hb); have n1_ := Aside0.mk (Kd.R_lower (Kd.R_new' ho0 (Kd.R_lt (by (with_reducible repeat (first | apply Kd.R_alloc | apply Kd.R_drewN | apply Kd.R_drew)); exact HO238.out))) (below_size (by repeat (first | (with_reducible first | exact HB.out | apply below_alloc | apply pw_below_drewN | apply below_drew1) | exact HB.out)))); have n2_ := Aside0.mk (below_step (by repeat (first | (with_reducible first | exact HB.out | apply below_alloc | apply pw_below_drewN | apply below_drew1) | exact HB.out)) hb); clear HO238; clear HB; have HO238 := n0_; have HO243 := n1_; have HB := n2_; clear n0_ n1_ n2_; (try clear hb); (try clear hb2); (try clear hk); (try clear hi); (try clear ho0)))
                    go_ret
                    exact ⟨by first | rfl | (simp [errW_none, errW_some] <;> rfl) | (simp [*, errW_none, errW_some] <;> rfl), by repeat (first | (with_reducible first | exact HB.out | apply below_alloc | apply pw_below_drewN | apply below_drew1) | exact HB.out)⟩
                · replace c23 := Bool.eq_false_iff.mpr c23
                  subst c23
                  have H1 : (some false) = some r := by rw [if_neg (show ¬ (false = true) by decide)] at H; exact H
                  clear H
                  have H := H1
                  clear H1
                  obtain rfl := Option.some.inj H
                  go_wp2_with (first | ((with_reducible refine gate_callee (f := 38) rfl ?_); refine goesL_ (some 45) rfl rfl Try.func38 (by kernel_rfl) rfl #[.string t233] rfl (by (try simp only [List.map_toArray, List.map_cons, List.map_nil]); first | done | rfl | (simp only [List.length_drop, List.length_take]; rfl)) ?_; (with_reducible refine (impl_Spliced.calls t233 t235 false _ A20.out).mono ?_); rintro e w37 ⟨v237, rfl, ho0, hb⟩; refine ⟨_, rfl, ?_⟩; have n0_ := Aside0.mk (Kd.R_lower ho0 (below_size (by repeat (first | (with_reducible first | exact HB.out | apply below_alloc | apply pw_below_drewN | apply below_drew1) | exact HB.out)))); have n1_ := Aside0.mk (below_step (by repeat (first | (with_reducible first | exact HB.out | apply below_alloc | apply pw_below_drewN | apply below_drew1) | exact HB.out)) hb); clear HB; have HO238 := n0_; have HB := n1_; clear n0_ n1_; (try clear hb); (try clear hb2); (try clear hk); (try clear hi); (try clear ho0)) | ((with_reducible refine gate_callee (f := 29) rfl ?_); refine goesL_ (some 50) rfl rfl Try.func29 (by kernel_rfl) rfl #[.slice A0 l0.length c0, .string (⟨#[44, 32]⟩ : ByteArray)] rfl (by (try simp only [List.map_toArray, List.map_cons, List.map_nil]); first | done | rfl | (simp only [List.length_drop, List.length_take]; rfl)) ?_; (with_reducible refine (laws_joined.calls kj14 _ _ l0 (⟨#[44, 32]⟩ : ByteArray) t239 _ ?side1 ?side2 A21.out).mono ?_); (case side1 => repeat (first | exact (Kd.C_below HR0.out HB.out) | (with_reducible refine Kd.C_alloc ?_ _) | (with_reducible refine Kd.C_drewN ?_ _) | (with_reducible refine Kd.C_drew ?_))); (case side2 => exact HC0.out); rintro e w' ⟨rfl, ⟨nd, rfl⟩⟩; refine ⟨_, rfl, ?_⟩) | ((with_reducible refine gate_callee (f := 38) rfl ?_); refine goesL_ (some 51) rfl rfl Try.func38 (by kernel_rfl) rfl #[.string t239] rfl (by (try simp only [List.map_toArray, List.map_cons, List.map_nil]); first | done | rfl | (simp only [List.length_drop, List.length_take]; rfl)) ?_; (with_reducible refine (impl_Spliced.calls t239 t240 t241 _ A22.out).mono ?_); rintro e w38 ⟨v242, rfl, ho0, hb⟩; refine ⟨_, rfl, ?_⟩; have n0_ := Aside0.mk (Kd.R_elder' (by (with_reducible repeat (first | apply Kd.R_alloc | apply Kd.R_drewN | apply Kd.R_drew)); exact HO238.out) (Kd.R_base ho0) hb); have n1_ := Aside0.mk (Kd.R_lower (Kd.R_new' ho0 (Kd.R_lt (by (with_reducible repeat (first | apply Kd.R_alloc | apply Kd.R_drewN | apply Kd.R_drew)); exact HO238.out))) (below_size (by repeat (first | (with_reducible first | exact HB.out | apply below_alloc | apply pw_below_drewN | apply below_drew1) | exact HB.out)))); have n2_ := Aside0.mk (below_step (by repeat (first | (with_reducible first | exact HB.out | apply below_alloc | apply pw_below_drewN | apply below_drew1) | exact HB.out)) hb); clear HO238; clear HB; have HO238 := n0_; have HO243 := n1_; have HB := n2_; clear n0_ n1_ n2_; (try clear hb); (try clear hb2); (try clear hk); (try clear hi); (try clear ho0)))
                  go_ret
                  exact ⟨by first | rfl | (simp [errW_none, errW_some] <;> rfl) | (simp [*, errW_none, errW_some] <;> rfl), by repeat (first | (with_reducible first | exact HB.out | apply below_alloc | apply pw_below_drewN | apply below_drew1) | exact HB.out)⟩
  · replace c3 := Bool.eq_false_iff.mpr c3
    subst c3
    have H1 : (some true) = some r := by rw [if_neg (show ¬ (false = true) by decide)] at H; exact H
    clear H
    have H := H1
    clear H1
    obtain rfl := Option.some.inj H
    go_enter Try.func12, Try.ntmps12
    go_wp2_with (first | ((with_reducible refine gate_callee (f := 27) rfl ?_); refine goesL_ (some 11) rfl rfl Try.func27 (by kernel_rfl) rfl #[.slice A0 l0.length c0] rfl (by (try simp only [List.map_toArray, List.map_cons, List.map_nil]); first | done | rfl | (simp only [List.length_drop, List.length_take]; rfl)) ?_; (with_reducible refine (laws_zzFits6.calls k _ _ l0 false _ ?side1 ?side2 A2.out).mono ?_); (case side1 => repeat (first | exact HR0.out | (with_reducible refine Kd.C_alloc ?_ _) | (with_reducible refine Kd.C_drewN ?_ _) | (with_reducible refine Kd.C_drew ?_))); (case side2 => exact HC0.out); rintro e w' ⟨rfl, ⟨nd, rfl⟩⟩; refine ⟨_, rfl, ?_⟩))
    go_ret
    exact ⟨by first | rfl | (simp [errW_none, errW_some] <;> rfl) | (simp [*, errW_none, errW_some] <;> rfl), by repeat (first | (with_reducible first | exact HB.out | apply below_alloc | apply pw_below_drewN | apply below_drew1) | exact HB.out)⟩

/-- THE ONE PURE STATEMENT of laws_FnSplicedJoin: yours. -/
def laws_FnSplicedJoin.Pure : Prop := ∀ (l0 : List ByteArray), l0.length * 16 ≤ 140737488351232 → ∃ k, laws_FnSplicedJoin.f k l0 = some true
theorem laws_FnSplicedJoin.walk (P : laws_FnSplicedJoin.Pure) (a0 : Option Addr) (cap0 : Nat) (l0 : List ByteArray) (w : World) (w0 : Kd.C Kd.string w a0 l0.length l0) (y0 : l0.length ≤ cap0) (m0 : l0.length * 16 ≤ 140737488351232) :
    Calls Try.prog 12 #[.slice a0 l0.length cap0] w fun e w' => e = .returned (.bool true) ∧ Below w.heap.size w w' := by
  obtain ⟨k, h⟩ := P l0 m0
  refine (laws_FnSplicedJoin.calls k _ _ l0 true w w0 y0 h).mono ?_
  rintro e w' ⟨rfl, hd⟩
  exact ⟨rfl, hd⟩

end Go.Proofs.Ytdfeojkombmiaaa.QA
