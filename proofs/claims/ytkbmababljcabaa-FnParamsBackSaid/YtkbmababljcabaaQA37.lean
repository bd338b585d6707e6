/- Printed by wip/pr.py (a program of this repo over the print program of the kit). Not trusted: Lean checks it. -/
import Derived.Test.YtkbmababljcabaaQA0
import Derived.Test.YtkbmababljcabaaQA14
import Derived.Test.YtkbmababljcabaaGLow
namespace Go.Proofs.Ytkbmababljcabaa.QA
open Go.Proofs.Ytkbmababljcabaa.Given
open Go.Proofs.Ytkbmababljcabaa.PrX
open Go.RowKit Go.Proofs.YtkbmababljcabaaW.PrintWords Go.Proofs.YtkbmababljcabaaW.PrintLast Go.Proofs.YtkbmababljcabaaW.PrintMore
attribute [local go_sem] max2_int min2_int max_two min_two max_three min_three max_four min_four   -- for this text's walks alone
set_option linter.unusedVariables false
set_option linter.unusedSimpArgs false

/-! ### laws_plainParams: function 27 -/
mutual
def laws_plainParams.l0 : Nat → List (S47) → List (S47) → Int → Int → Option (Bool)
  | 0, _, _, _, _ => none
  | k + 1, x0, x6, x7, x8 => if x8 < x7 then (if 0 ≤ x8 then (if x8 < (x6.length : Int) then ((laws_words.f k (([(rd_T47 x6 x8).f0, (rd_T47 x6 x8).f1] : List ByteArray))).bind fun t273 => (if t273 = true then ((laws_low.f ((rd_T47 x6 x8).f0)).bind fun t274 => (laws_plainParams.j1 k x0 x8 x6 x7 x8 (t274.toList == ([113] : List UInt8)) ((rd_T47 x6 x8).f0) ((rd_T47 x6 x8).f1))) else (laws_plainParams.j1 k x0 x8 x6 x7 x8 true ((rd_T47 x6 x8).f0) ((rd_T47 x6 x8).f1)))) else (none)) else (none)) else (some (decide ((x0.length : Int) ≤ 8)))
def laws_plainParams.j1 : Nat → List (S47) → Int → List (S47) → Int → Int → Bool → ByteArray → ByteArray → Option (Bool)
  | 0, _, _, _, _, _, _, _, _ => none
  | k + 1, x0, x3, x6, x7, x8, x25, x270000, x270001 => if x25 = true then (some false) else (laws_plainParams.l1 k x0 x6 x7 x8 x3 0 x270000 x270001)
def laws_plainParams.l1 : Nat → List (S47) → List (S47) → Int → Int → Int → Int → ByteArray → ByteArray → Option (Bool)
  | 0, _, _, _, _, _, _, _, _ => none
  | k + 1, x0, x6, x7, x8, x26, x27, x270000, x270001 => if x27 < x26 then (if 0 ≤ x27 then (if x27 < (x0.length : Int) then ((laws_low.f ((rd_T47 x0 x27).f0)).bind fun t276 => ((laws_low.f x270000).bind fun t277 => (if t276.toList = t277.toList then (some false) else (laws_plainParams.l1 k x0 x6 x7 x8 x26 (wrap64 (x27 + 1)) x270000 x270001)))) else (none)) else (none)) else (laws_plainParams.l0 k x0 x6 x7 (wrap64 (x8 + 1)))
end
def laws_plainParams.f (k : Nat) (l0 : List (S47)) : Option (Bool) := laws_plainParams.l0 k l0 l0 (l0.length : Int) 0
theorem laws_plainParams.mono_l : ∀ k, (∀ y0 y1 y2 y3, LeO (laws_plainParams.l0 k y0 y1 y2 y3) (laws_plainParams.l0 (k + 1) y0 y1 y2 y3)) ∧ (∀ y0 y1 y2 y3 y4 y5 y6 y7, LeO (laws_plainParams.j1 k y0 y1 y2 y3 y4 y5 y6 y7) (laws_plainParams.j1 (k + 1) y0 y1 y2 y3 y4 y5 y6 y7)) ∧ (∀ y0 y1 y2 y3 y4 y5 y6 y7, LeO (laws_plainParams.l1 k y0 y1 y2 y3 y4 y5 y6 y7) (laws_plainParams.l1 (k + 1) y0 y1 y2 y3 y4 y5 y6 y7))
  | 0 => ⟨fun _ _ _ _ r h => by simp [laws_plainParams.l0] at h, fun _ _ _ _ _ _ _ _ r h => by simp [laws_plainParams.j1] at h, fun _ _ _ _ _ _ _ _ r h => by simp [laws_plainParams.l1] at h⟩
  | k + 1 => by
    obtain ⟨ih0, ih1, ih2⟩ := laws_plainParams.mono_l k
    refine ⟨?_, ?_, ?_⟩
    · intro y0 y1 y2 y3
      unfold laws_plainParams.l0
      repeat' first
      | (with_reducible exact ih0 _ _ _ _)
      | (with_reducible exact ih1 _ _ _ _ _ _ _ _)
      | (with_reducible exact ih2 _ _ _ _ _ _ _ _)
      | (with_reducible exact laws_words.mono _ _)
      | (with_reducible exact LeO.refl _)
      | (with_reducible exact LeO.none _)
      | (with_reducible refine LeO.ite ?_ ?_)
      | (with_reducible refine LeO.bind ?_ (fun _ => ?_))
      | exact ih0 _ _ _ _
      | exact ih1 _ _ _ _ _ _ _ _
      | exact ih2 _ _ _ _ _ _ _ _
      | exact laws_words.mono _ _
      | exact LeO.none _
      | refine LeO.ite ?_ ?_
      | refine LeO.bind ?_ (fun _ => ?_)
    · intro y0 y1 y2 y3 y4 y5 y6 y7
      unfold laws_plainParams.j1
      repeat' first
      | (with_reducible exact ih0 _ _ _ _)
      | (with_reducible exact ih1 _ _ _ _ _ _ _ _)
      | (with_reducible exact ih2 _ _ _ _ _ _ _ _)
      | (with_reducible exact laws_words.mono _ _)
      | (with_reducible exact LeO.refl _)
      | (with_reducible exact LeO.none _)
      | (with_reducible refine LeO.ite ?_ ?_)
      | (with_reducible refine LeO.bind ?_ (fun _ => ?_))
      | exact ih0 _ _ _ _
      | exact ih1 _ _ _ _ _ _ _ _
      | exact ih2 _ _ _ _ _ _ _ _
      | exact laws_words.mono _ _
      | exact LeO.none _
      | refine LeO.ite ?_ ?_
      | refine LeO.bind ?_ (fun _ => ?_)
    · intro y0 y1 y2 y3 y4 y5 y6 y7
      unfold laws_plainParams.l1
      repeat' first
      | (with_reducible exact ih0 _ _ _ _)
      | (with_reducible exact ih1 _ _ _ _ _ _ _ _)
      | (with_reducible exact ih2 _ _ _ _ _ _ _ _)
      | (with_reducible exact laws_words.mono _ _)
      | (with_reducible exact LeO.refl _)
      | (with_reducible exact LeO.none _)
      | (with_reducible refine LeO.ite ?_ ?_)
      | (with_reducible refine LeO.bind ?_ (fun _ => ?_))
      | exact ih0 _ _ _ _
      | exact ih1 _ _ _ _ _ _ _ _
      | exact ih2 _ _ _ _ _ _ _ _
      | exact laws_words.mono _ _
      | exact LeO.none _
      | refine LeO.ite ?_ ?_
      | refine LeO.bind ?_ (fun _ => ?_)
theorem laws_plainParams.mono : ∀ a0 k, LeO (laws_plainParams.f k a0) (laws_plainParams.f (k + 1) a0) := by
  intro a0 k
  obtain ⟨ih0, ih1, ih2⟩ := laws_plainParams.mono_l k
  unfold laws_plainParams.f
  repeat' first
      | (with_reducible exact ih0 _ _ _ _)
      | (with_reducible exact ih1 _ _ _ _ _ _ _ _)
      | (with_reducible exact ih2 _ _ _ _ _ _ _ _)
      | (with_reducible exact laws_words.mono _ _)
      | (with_reducible exact LeO.refl _)
      | (with_reducible exact LeO.none _)
      | (with_reducible refine LeO.ite ?_ ?_)
      | (with_reducible refine LeO.bind ?_ (fun _ => ?_))
      | exact ih0 _ _ _ _
      | exact ih1 _ _ _ _ _ _ _ _
      | exact ih2 _ _ _ _ _ _ _ _
      | exact laws_words.mono _ _
      | exact LeO.none _
      | refine LeO.ite ?_ ?_
      | refine LeO.bind ?_ (fun _ => ?_)
def laws_plainParams.T9 : Bool × List (List Nat × List Nat) := (true, [([], []), ([], []), ([0, 1], [0, 1]), ([2], [2]), ([3], [3]), ([4], [4]), ([], []), ([6], [6]), ([7, 5], [7]), ([5, 8], [5, 8])])
def laws_plainParams.B9 : List Nat := [0, 0, 3, 7, 15, 31, 0, 64, 255, 511]
theorem laws_plainParams.tab9 : rtab .any (opsOf Try.f27 9) = laws_plainParams.T9 := by kernel_rfl
theorem laws_plainParams.bits9 : waitsOk laws_plainParams.T9.2 laws_plainParams.B9 = true := by kernel_rfl
set_option maxHeartbeats 8000000 in
set_option maxRecDepth 100000 in
theorem laws_plainParams.calls (k : Nat) (A0 : Option Addr) (c0 : Nat) (l0 : List (S47)) (r : Bool) (w : World) (hr0 : Kd.C k47 w A0 l0.length l0) (hc0 : l0.length ≤ c0) (h : laws_plainParams.f k l0 = some r) :
    Calls Try.prog 27 #[.slice A0 l0.length c0] w fun e w' => e = .returned (.bool r) ∧ Below w.heap.size w w' := by
  have hu47 := Try.underlying47
  have HR0 := Aside0.mk hr0
  have HC0 := Aside0.mk hc0
  clear hr0 hc0
  have HB := Aside0.mk (Below.refl w.heap.size w)
  have H : (laws_plainParams.l0 k l0 l0 (l0.length : Int) 0) = some r := h
  clear h
  have H' := Aside0.mk H
  clear H
  go_enter Try.func27, Try.ntmps27
  go_wp2
  go_loopg [8] k (fun kq v8 w' => ∃ (x8_1 : Int), v8 = .int .i64 x8_1 ∧ Aside0 (laws_plainParams.l0 kq l0 l0 (l0.length : Int) x8_1 = some r) ∧ Aside0 (kq ≤ k) ∧ Aside0 (Below w.heap.size w w'))
  case atStart => exact ⟨(0), (by first | rfl | (simp; done) | (rw [prx_ne]; first | done | rfl) | (simp [*]; done)), H', ⟨Nat.le_refl _⟩, ⟨by repeat (first | (with_reducible first | exact HB.out | apply below_alloc | apply pw_below_drewN | apply below_drew1) | exact HB.out)⟩⟩
  case round =>
    clear H'
    obtain ⟨x8_1, rfl, HA, HK1, HB⟩ := hrel
    cases gk with
    | zero => exact absurd HA.out (by simp [laws_plainParams.l0])
    | succ k1 =>
      have H := HA.out
      clear HA
      simp only [laws_plainParams.l0] at H
      by_cases c2 : x8_1 < (l0.length : Int)
      · rw [if_pos c2] at H
        have c2b0 : decide (x8_1 < (l0.length : Int)) = true := decide_eq_true c2
        clear c2
        by_cases c3 : 0 ≤ x8_1
        · rw [if_pos c3] at H
          have c3b0 : decide (0 ≤ x8_1) = true := decide_eq_true c3
          clear c3
          by_cases c4 : x8_1 < (l0.length : Int)
          · rw [if_pos c4] at H
            have c4b0 : decide (x8_1 < (l0.length : Int)) = true := decide_eq_true c4
            clear c4
            have HC5 := Aside0.mk H
            clear H
            have p268 : 0 ≤ (x8_1 : Int) := of_decide_eq_true (by first | (with_reducible assumption) | assumption)
            have q268 : x8_1 < (l0.length : Int) := of_decide_eq_true (by first | (with_reducible assumption) | assumption)
            obtain ⟨ad268, e268, hx268_0, hx268_1⟩ := at_T47 HR0.out x8_1 p268 q268
            cases e268
            replace hx268_0 := (HB.out.cell (World.block_lt_of_cell? w _ hx268_0)).trans hx268_0
            replace hx268_1 := (HB.out.cell (World.block_lt_of_cell? w _ hx268_1)).trans hx268_1
            replace p268 := eq_true p268
            replace q268 := eq_true q268
            go_upto_region 4 with (first | ((with_reducible refine gate_dst (N := 4) rfl ?_); refine box_event ?hg (N := 4) ?hd (cs := #[.string (⟨#[]⟩ : ByteArray), .string (⟨#[]⟩ : ByteArray)]) (t := 47) ?hr ?_; (case hd => rfl); (case hg => rfl); (case hr => first | (go_simp; done) | (go_simp; rfl)); intro gb269 hg w6 hbox hb; have n0_ := Aside0.mk (below_step (by repeat (first | (with_reducible first | exact HB.out | apply below_alloc | apply pw_below_drewN | apply below_drew1) | exact HB.out)) hb); have n1_ := Aside0.mk (hbox); have n2_ := Aside0.mk ((by rw [hg]; exact (below_size (by repeat (first | (with_reducible first | exact HB.out | apply below_alloc | apply pw_below_drewN | apply below_drew1) | exact HB.out))) : w.heap.size ≤ gb269)); have n3_ := Aside0.mk ((by rw [hg]; exact (below_size (by repeat (first | (with_reducible first | exact HB.out | apply below_alloc | apply pw_below_drewN | apply below_drew1) | exact HB.out))) : w.heap.size ≤ gb269)); clear HB; have HB := n0_; have BK269 := n1_; have GW269 := n2_; have GE269 := n3_; clear n0_ n1_ n2_ n3_; clear hb hbox hg; have hcz7_0 : w6.cell? ⟨gb269, 0, none⟩ = some (.string (⟨#[]⟩ : ByteArray)) := (blk_cell BK269.out 0).trans rfl; have hcz7_1 : w6.cell? ⟨gb269, 1, none⟩ = some (.string (⟨#[]⟩ : ByteArray)) := (blk_cell BK269.out 1).trans rfl; have hfz7_0 := blk_frozen BK269.out 0; have hfz7_1 := blk_frozen BK269.out 1))
            (try simp only [Act.put, List.setIfInBounds_toArray, List.set_cons_zero, List.set_cons_succ])
            go_cut [25] (fun v25 wc => ∃ (kq : Nat) (x25_4 : Bool), v25 = .bool x25_4 ∧ Aside0 (laws_plainParams.j1 kq l0 x8_1 l0 (l0.length : Int) x8_1 x25_4 ((rd_T47 l0 x8_1).f0) ((rd_T47 l0 x8_1).f1) = some r) ∧ Aside0 (kq ≤ k1) ∧ Aside0 (wc.heap[gb269]? = some (.cells #[.string ((rd_T47 l0 x8_1).f0), .string ((rd_T47 l0 x8_1).f1)] 47 (0, 0))) ∧ Aside0 (Below w.heap.size w wc))
            case first =>
              have H := HC5.out
              clear HC5
              obtain ⟨y270, hy270⟩ : ∃ y_ : List ByteArray, y_ = (([(rd_T47 l0 x8_1).f0, (rd_T47 l0 x8_1).f1] : List ByteArray)) := ⟨_, rfl⟩
              replace H : ((laws_words.f k1 y270).bind fun t273 => (if t273 = true then ((laws_low.f ((rd_T47 l0 x8_1).f0)).bind fun t274 => (laws_plainParams.j1 k1 l0 x8_1 l0 (l0.length : Int) x8_1 (t274.toList == ([113] : List UInt8)) ((rd_T47 l0 x8_1).f0) ((rd_T47 l0 x8_1).f1))) else (laws_plainParams.j1 k1 l0 x8_1 l0 (l0.length : Int) x8_1 true ((rd_T47 l0 x8_1).f0) ((rd_T47 l0 x8_1).f1)))) = some r := by first | (rw [hy270]; with_reducible exact H) | (have H2_ := (Option.bind_some _ _).symm.trans H; rw [hy270]; with_reducible exact H2_) | (have H2_ := (Option.bind_some _ _).symm.trans H; with_reducible exact H2_) | with_reducible exact H | (rw [hy270]; exact H) | exact H
              have Ny270 := Aside0.mk hy270
              clear hy270
              replace H := Option.bind_eq_some_iff.mp H
              obtain ⟨t273, A80, H⟩ := H
              replace H : (if t273 = true then ((laws_low.f ((rd_T47 l0 x8_1).f0)).bind fun t274 => (laws_plainParams.j1 k1 l0 x8_1 l0 (l0.length : Int) x8_1 (t274.toList == ([113] : List UInt8)) ((rd_T47 l0 x8_1).f0) ((rd_T47 l0 x8_1).f1))) else (laws_plainParams.j1 k1 l0 x8_1 l0 (l0.length : Int) x8_1 true ((rd_T47 l0 x8_1).f0) ((rd_T47 l0 x8_1).f1))) = some r := H
              have A8 := Aside0.mk A80
              clear A80
              by_cases c9 : t273 = true
              · subst c9
                have H1 : ((laws_low.f ((rd_T47 l0 x8_1).f0)).bind fun t274 => (laws_plainParams.j1 k1 l0 x8_1 l0 (l0.length : Int) x8_1 (t274.toList == ([113] : List UInt8)) ((rd_T47 l0 x8_1).f0) ((rd_T47 l0 x8_1).f1))) = some r := by rw [if_pos rfl] at H; exact H
                clear H
                have H := H1
                clear H1
                replace H := Option.bind_eq_some_iff.mp H
                obtain ⟨t274, A100, H⟩ := H
                replace H : (laws_plainParams.j1 k1 l0 x8_1 l0 (l0.length : Int) x8_1 (t274.toList == ([113] : List UInt8)) ((rd_T47 l0 x8_1).f0) ((rd_T47 l0 x8_1).f1)) = some r := H
                have A10 := Aside0.mk A100
                clear A100
                have H' := Aside0.mk H
                clear H
                have hcz11_0 : w6.cell? ⟨gb269, 0, none⟩ = some (.string (⟨#[]⟩ : ByteArray)) := (blk_cell BK269.out 0).trans rfl
                have hcz11_1 : w6.cell? ⟨gb269, 1, none⟩ = some (.string (⟨#[]⟩ : ByteArray)) := (blk_cell BK269.out 1).trans rfl
                have hfz11_0 := blk_frozen BK269.out 0
                have hfz11_1 := blk_frozen BK269.out 1
                go_wp2_with (first | ((with_reducible refine gate_dst (N := 17) rfl ?_); refine Kd.R_lit Kd.string _ 9 ?hg (N := 17) ?hd (xs := ([(rd_T47 l0 x8_1).f0, (rd_T47 l0 x8_1).f1] : List ByteArray)) (inner := [.string ((rd_T47 l0 x8_1).f0), .string ((rd_T47 l0 x8_1).f1)]) (ok := fun _ => True) (okp := fun _ => True) ?hr ?hp (fun _ hk => hk) trivial (Below.refl _ _) (Nat.le_refl _) (by simp) ?_; (case hd => rfl); (case hg => rfl); (case hr => first | (go_simp; done) | (go_simp; rfl)); (case hp => exact (Reps.one (show Kd.M Kd.string _ _ _ ((rd_T47 l0 x8_1).f0) [.string ((rd_T47 l0 x8_1).f0)] from rfl) (Reps.one (show Kd.M Kd.string _ _ _ ((rd_T47 l0 x8_1).f1) [.string ((rd_T47 l0 x8_1).f1)] from rfl) (Reps.none _ _)))); intro v271 w12 ho13 hb hg_ hnew_; clear hg_ hnew_; (first | rw [← Ny270.out] at ho13 | (simp only [Int.reduceToNat] at ho13; rw [← Ny270.out] at ho13)); have n0_ := Aside0.mk (Kd.R_lower ho13 (below_size (by repeat (first | (with_reducible first | exact HB.out | apply below_alloc | apply pw_below_drewN | apply below_drew1 | refine below_set ?_ GE269.out) | exact HB.out)))); have n1_ := Aside0.mk (blk_below (g := gb269) (o := .cells #[.string ((rd_T47 l0 x8_1).f0), .string ((rd_T47 l0 x8_1).f1)] 47 (0, 0)) (by (with_reducible repeat (first | refine blk_drewN ?_ _ | refine blk_drew ?_ | refine blk_alloc ?_ _)); refine blk_put (cs := #[.string ((rd_T47 l0 x8_1).f0), .string (⟨#[]⟩ : ByteArray)]) ?_ 1 _ rfl; (with_reducible repeat (first | refine blk_drewN ?_ _ | refine blk_drew ?_ | refine blk_alloc ?_ _)); refine blk_put (cs := #[.string (⟨#[]⟩ : ByteArray), .string (⟨#[]⟩ : ByteArray)]) ?_ 0 _ rfl; (with_reducible repeat (first | refine blk_drewN ?_ _ | refine blk_drew ?_ | refine blk_alloc ?_ _)); exact BK269.out) hb); have n2_ := Aside0.mk (below_step (by repeat (first | (with_reducible first | exact HB.out | apply below_alloc | apply pw_below_drewN | apply below_drew1 | refine below_set ?_ GE269.out) | exact HB.out)) hb); clear BK269; clear HB; have HO272 := n0_; have BK269 := n1_; have HB := n2_; clear n0_ n1_ n2_; clear hb ho13; obtain ⟨Ao14, co14, eo14⟩ := Kd.R_slice HO272.out; subst eo14) | ((with_reducible refine gate_callee (f := 20) rfl ?_); refine goesL_ (some 18) rfl rfl Try.func20 (by kernel_rfl) rfl #[.slice Ao14 y270.length co14] rfl (by (try simp only [List.map_toArray, List.map_cons, List.map_nil]); first | done | rfl | (simp only [List.length_drop, List.length_take]; rfl)) ?_; (with_reducible refine (laws_words.calls k1 _ _ y270 true _ ?side1 ?side2 A8.out).mono ?_); (case side1 => repeat (first | exact (Kd.R_reads' HO272.out).2.2 | (with_reducible refine Kd.C_alloc ?_ _) | (with_reducible refine Kd.C_drewN ?_ _) | (with_reducible refine Kd.C_drew ?_))); (case side2 => exact (Kd.R_reads' HO272.out).2.1); rintro e w' ⟨rfl, ⟨nd, rfl⟩⟩; refine ⟨_, rfl, ?_⟩; have hcz15_0 : w12.cell? ⟨gb269, 0, none⟩ = some (.string ((rd_T47 l0 x8_1).f0)) := (blk_cell BK269.out 0).trans rfl; have hcz15_1 : w12.cell? ⟨gb269, 1, none⟩ = some (.string ((rd_T47 l0 x8_1).f1)) := (blk_cell BK269.out 1).trans rfl; have hfz15_0 := blk_frozen BK269.out 0; have hfz15_1 := blk_frozen BK269.out 1) | (go_at_call 29; (with_reducible refine (laws_low.calls ((rd_T47 l0 x8_1).f0) t274 _ A10.out).mono ?_); rintro e w16 ⟨rfl, hb⟩; have n0_ := Aside0.mk (Kd.R_below (by (with_reducible repeat (first | apply Kd.R_alloc | apply Kd.R_drewN | apply Kd.R_drew)); exact HO272.out) hb); have n1_ := Aside0.mk (blk_below (g := gb269) (o := .cells #[.string ((rd_T47 l0 x8_1).f0), .string ((rd_T47 l0 x8_1).f1)] 47 (0, 0)) (by (with_reducible repeat (first | refine blk_drewN ?_ _ | refine blk_drew ?_ | refine blk_alloc ?_ _)); exact BK269.out) hb); have n2_ := Aside0.mk (below_step (by repeat (first | (with_reducible first | exact HB.out | apply below_alloc | apply pw_below_drewN | apply below_drew1 | refine below_set ?_ GE269.out) | exact HB.out)) hb); clear HO272; clear BK269; clear HB; have HO272 := n0_; have BK269 := n1_; have HB := n2_; clear n0_ n1_ n2_; (try clear hb); (try clear hb2); (try clear hk); (try clear hi)))
                go_meet
                case rel => exact ⟨_, ((t274.toList == ([113] : List UInt8))), (by first | rfl | (simp; done) | (rw [prx_ne]; first | done | rfl) | (simp [*]; done)), H', ⟨by have := HK1.out; first | omega | exact Nat.le_refl _⟩, ⟨by (with_reducible repeat (first | refine blk_drewN ?_ _ | refine blk_drew ?_ | refine blk_alloc ?_ _)); exact BK269.out⟩, ⟨by repeat (first | (with_reducible first | exact HB.out | apply below_alloc | apply pw_below_drewN | apply below_drew1 | refine below_set ?_ GE269.out) | exact HB.out)⟩⟩
              · replace c9 := Bool.eq_false_iff.mpr c9
                subst c9
                have H1 : (laws_plainParams.j1 k1 l0 x8_1 l0 (l0.length : Int) x8_1 true ((rd_T47 l0 x8_1).f0) ((rd_T47 l0 x8_1).f1)) = some r := by rw [if_neg (show ¬ (false = true) by decide)] at H; exact H
                clear H
                have H := H1
                clear H1
                have H' := Aside0.mk H
                clear H
                have hcz17_0 : w6.cell? ⟨gb269, 0, none⟩ = some (.string (⟨#[]⟩ : ByteArray)) := (blk_cell BK269.out 0).trans rfl
                have hcz17_1 : w6.cell? ⟨gb269, 1, none⟩ = some (.string (⟨#[]⟩ : ByteArray)) := (blk_cell BK269.out 1).trans rfl
                have hfz17_0 := blk_frozen BK269.out 0
                have hfz17_1 := blk_frozen BK269.out 1
                go_wp2_with (first | ((with_reducible refine gate_dst (N := 17) rfl ?_); refine Kd.R_lit Kd.string _ 9 ?hg (N := 17) ?hd (xs := ([(rd_T47 l0 x8_1).f0, (rd_T47 l0 x8_1).f1] : List ByteArray)) (inner := [.string ((rd_T47 l0 x8_1).f0), .string ((rd_T47 l0 x8_1).f1)]) (ok := fun _ => True) (okp := fun _ => True) ?hr ?hp (fun _ hk => hk) trivial (Below.refl _ _) (Nat.le_refl _) (by simp) ?_; (case hd => rfl); (case hg => rfl); (case hr => first | (go_simp; done) | (go_simp; rfl)); (case hp => exact (Reps.one (show Kd.M Kd.string _ _ _ ((rd_T47 l0 x8_1).f0) [.string ((rd_T47 l0 x8_1).f0)] from rfl) (Reps.one (show Kd.M Kd.string _ _ _ ((rd_T47 l0 x8_1).f1) [.string ((rd_T47 l0 x8_1).f1)] from rfl) (Reps.none _ _)))); intro v271 w18 ho19 hb hg_ hnew_; clear hg_ hnew_; (first | rw [← Ny270.out] at ho19 | (simp only [Int.reduceToNat] at ho19; rw [← Ny270.out] at ho19)); have n0_ := Aside0.mk (Kd.R_lower ho19 (below_size (by repeat (first | (with_reducible first | exact HB.out | apply below_alloc | apply pw_below_drewN | apply below_drew1 | refine below_set ?_ GE269.out) | exact HB.out)))); have n1_ := Aside0.mk (blk_below (g := gb269) (o := .cells #[.string ((rd_T47 l0 x8_1).f0), .string ((rd_T47 l0 x8_1).f1)] 47 (0, 0)) (by (with_reducible repeat (first | refine blk_drewN ?_ _ | refine blk_drew ?_ | refine blk_alloc ?_ _)); refine blk_put (cs := #[.string ((rd_T47 l0 x8_1).f0), .string (⟨#[]⟩ : ByteArray)]) ?_ 1 _ rfl; (with_reducible repeat (first | refine blk_drewN ?_ _ | refine blk_drew ?_ | refine blk_alloc ?_ _)); refine blk_put (cs := #[.string (⟨#[]⟩ : ByteArray), .string (⟨#[]⟩ : ByteArray)]) ?_ 0 _ rfl; (with_reducible repeat (first | refine blk_drewN ?_ _ | refine blk_drew ?_ | refine blk_alloc ?_ _)); exact BK269.out) hb); have n2_ := Aside0.mk (below_step (by repeat (first | (with_reducible first | exact HB.out | apply below_alloc | apply pw_below_drewN | apply below_drew1 | refine below_set ?_ GE269.out) | exact HB.out)) hb); clear BK269; clear HB; have HO272 := n0_; have BK269 := n1_; have HB := n2_; clear n0_ n1_ n2_; clear hb ho19; obtain ⟨Ao20, co20, eo20⟩ := Kd.R_slice HO272.out; subst eo20) | ((with_reducible refine gate_callee (f := 20) rfl ?_); refine goesL_ (some 18) rfl rfl Try.func20 (by kernel_rfl) rfl #[.slice Ao20 y270.length co20] rfl (by (try simp only [List.map_toArray, List.map_cons, List.map_nil]); first | done | rfl | (simp only [List.length_drop, List.length_take]; rfl)) ?_; (with_reducible refine (laws_words.calls k1 _ _ y270 false _ ?side1 ?side2 A8.out).mono ?_); (case side1 => repeat (first | exact (Kd.R_reads' HO272.out).2.2 | (with_reducible refine Kd.C_alloc ?_ _) | (with_reducible refine Kd.C_drewN ?_ _) | (with_reducible refine Kd.C_drew ?_))); (case side2 => exact (Kd.R_reads' HO272.out).2.1); rintro e w' ⟨rfl, ⟨nd, rfl⟩⟩; refine ⟨_, rfl, ?_⟩))
                go_meet
                case rel => exact ⟨_, (true), (by first | rfl | (simp; done) | (rw [prx_ne]; first | done | rfl) | (simp [*]; done)), H', ⟨by have := HK1.out; first | omega | exact Nat.le_refl _⟩, ⟨by (with_reducible repeat (first | refine blk_drewN ?_ _ | refine blk_drew ?_ | refine blk_alloc ?_ _)); exact BK269.out⟩, ⟨by repeat (first | (with_reducible first | exact HB.out | apply below_alloc | apply pw_below_drewN | apply below_drew1 | refine below_set ?_ GE269.out) | exact HB.out)⟩⟩
            case rest =>
              clear HC5
              try clear c2
              try clear c2b0
              try clear p2
              try clear q2
              try clear hx2
              try clear c3
              try clear c3b0
              try clear c4
              try clear c4b0
              try clear c9
              try clear c20
              try clear hcz11_0
              try clear hcz11_1
              try clear hcz15_0
              try clear hcz15_1
              try clear hcz17_0
              try clear hcz17_1
              try clear hcz7_0
              try clear hcz7_1
              try clear hfz11_0
              try clear hfz11_1
              try clear hfz15_0
              try clear hfz15_1
              try clear hfz17_0
              try clear hfz17_1
              try clear hfz7_0
              try clear hfz7_1
              try clear hx268_0
              try clear hx268_1
              try clear p268
              try clear q268
              obtain ⟨kq, x25_4, rfl, HA, HJ4, BK269, HB⟩ := hcut
              cases kq with
              | zero => exact absurd HA.out (by simp [laws_plainParams.j1])
              | succ kj4 =>
                have H := HA.out
                clear HA
                simp only [laws_plainParams.j1] at H
                by_cases c21 : x25_4 = true
                · subst c21
                  have H1 : (some false) = some r := by rw [if_pos rfl] at H; exact H
                  clear H
                  have H := H1
                  clear H1
                  obtain rfl := Option.some.inj H
                  go_wp2
                  go_ret
                  exact ⟨by first | rfl | (simp [errW_none, errW_some] <;> rfl) | (simp [*, errW_none, errW_some] <;> rfl), by repeat (first | (with_reducible first | exact HB.out | apply below_alloc | apply pw_below_drewN | apply below_drew1 | refine below_set ?_ GE269.out) | exact HB.out)⟩
                · replace c21 := Bool.eq_false_iff.mpr c21
                  subst c21
                  have H1 : (laws_plainParams.l1 kj4 l0 l0 (l0.length : Int) x8_1 x8_1 0 ((rd_T47 l0 x8_1).f0) ((rd_T47 l0 x8_1).f1)) = some r := by rw [if_neg (show ¬ (false = true) by decide)] at H; exact H
                  clear H
                  have H := H1
                  clear H1
                  have H' := Aside0.mk H
                  clear H
                  go_wp2
                  go_loopg [27] kj4 (fun kq v27 w' => ∃ (x27_3 : Int), v27 = .int .i64 x27_3 ∧ Aside0 (laws_plainParams.l1 kq l0 l0 (l0.length : Int) x8_1 x8_1 x27_3 ((rd_T47 l0 x8_1).f0) ((rd_T47 l0 x8_1).f1) = some r) ∧ Aside0 (kq ≤ kj4) ∧ Aside0 (w'.heap[gb269]? = some (.cells #[.string ((rd_T47 l0 x8_1).f0), .string ((rd_T47 l0 x8_1).f1)] 47 (0, 0))) ∧ Aside0 (Below w.heap.size w w'))
                  case atStart => exact ⟨(0), (by first | rfl | (simp; done) | (rw [prx_ne]; first | done | rfl) | (simp [*]; done)), H', ⟨Nat.le_refl _⟩, ⟨by (with_reducible repeat (first | refine blk_drewN ?_ _ | refine blk_drew ?_ | refine blk_alloc ?_ _)); exact BK269.out⟩, ⟨by repeat (first | (with_reducible first | exact HB.out | apply below_alloc | apply pw_below_drewN | apply below_drew1 | refine below_set ?_ GE269.out) | exact HB.out)⟩⟩
                  case round =>
                    clear H'
                    try clear c2
                    try clear c2b0
                    try clear p2
                    try clear q2
                    try clear hx2
                    try clear c3
                    try clear c3b0
                    try clear c4
                    try clear c4b0
                    try clear c9
                    try clear c20
                    try clear c21
                    try clear hcz11_0
                    try clear hcz11_1
                    try clear hcz15_0
                    try clear hcz15_1
                    try clear hcz17_0
                    try clear hcz17_1
                    try clear hcz7_0
                    try clear hcz7_1
                    try clear hfz11_0
                    try clear hfz11_1
                    try clear hfz15_0
                    try clear hfz15_1
                    try clear hfz17_0
                    try clear hfz17_1
                    try clear hfz7_0
                    try clear hfz7_1
                    try clear hx268_0
                    try clear hx268_1
                    try clear p2
                    try clear p268
                    try clear q2
                    try clear q268
                    obtain ⟨x27_3, rfl, HA, HK3, BK269, HB⟩ := hrel
                    cases gk with
                    | zero => exact absurd HA.out (by simp [laws_plainParams.l1])
                    | succ k3 =>
                      have H := HA.out
                      clear HA
                      simp only [laws_plainParams.l1] at H
                      by_cases c22 : x27_3 < x8_1
                      · rw [if_pos c22] at H
                        have c22b0 : decide (x27_3 < x8_1) = true := decide_eq_true c22
                        clear c22
                        by_cases c23 : 0 ≤ x27_3
                        · rw [if_pos c23] at H
                          have c23b0 : decide (0 ≤ x27_3) = true := decide_eq_true c23
                          clear c23
                          by_cases c24 : x27_3 < (l0.length : Int)
                          · rw [if_pos c24] at H
                            have c24b0 : decide (x27_3 < (l0.length : Int)) = true := decide_eq_true c24
                            clear c24
                            replace H := Option.bind_eq_some_iff.mp H
                            obtain ⟨t276, A250, H⟩ := H
                            replace H : ((laws_low.f ((rd_T47 l0 x8_1).f0)).bind fun t277 => (if t276.toList = t277.toList then (some false) else (laws_plainParams.l1 k3 l0 l0 (l0.length : Int) x8_1 x8_1 (wrap64 (x27_3 + 1)) ((rd_T47 l0 x8_1).f0) ((rd_T47 l0 x8_1).f1)))) = some r := H
                            have A25 := Aside0.mk A250
                            clear A250
                            replace H := Option.bind_eq_some_iff.mp H
                            obtain ⟨t277, A260, H⟩ := H
                            replace H : (if t276.toList = t277.toList then (some false) else (laws_plainParams.l1 k3 l0 l0 (l0.length : Int) x8_1 x8_1 (wrap64 (x27_3 + 1)) ((rd_T47 l0 x8_1).f0) ((rd_T47 l0 x8_1).f1))) = some r := H
                            have A26 := Aside0.mk A260
                            clear A260
                            by_cases c27 : t276.toList = t277.toList
                            · rw [if_pos c27] at H
                              have c27b0 : (t276.toList == t277.toList) = true := beq_iff_eq.mpr c27
                              have c27b1 : (t276.toList != t277.toList) = false := bne_eq_false_iff_eq.mpr c27
                              clear c27
                              obtain rfl := Option.some.inj H
                              try go_wp2
                              have n0_ := Aside0.mk (blk_drew BK269.out)
                              have n1_ := Aside0.mk (below_drew1 HB.out)
                              clear BK269
                              clear HB
                              have BK269 := n0_
                              have HB := n1_
                              clear n0_ n1_
                              have p275 : 0 ≤ (x27_3 : Int) := of_decide_eq_true (by first | (with_reducible assumption) | assumption)
                              have q275 : x27_3 < (l0.length : Int) := of_decide_eq_true (by first | (with_reducible assumption) | assumption)
                              obtain ⟨ad275, e275, hx275_0, hx275_1⟩ := at_T47 HR0.out x27_3 p275 q275
                              have hw275_1 := hx275_1
                              have hw275_0 := hx275_0
                              obtain rfl : ad268 = ad275 := (by injection e275)
                              replace hx275_0 := (HB.out.cell (World.block_lt_of_cell? w _ hx275_0)).trans hx275_0
                              replace hx275_1 := (HB.out.cell (World.block_lt_of_cell? w _ hx275_1)).trans hx275_1
                              replace p275 := eq_true p275
                              replace q275 := eq_true q275
                              refine start_ (n := 10) (S := fun w' => w'.cell? ⟨gb269, 0, none⟩ = some (.string ((rd_T47 l0 x8_1).f0)) ∧ w'.cell? ⟨gb269, 1, none⟩ = some (.string ((rd_T47 l0 x8_1).f1)) ∧ w'.cell? (ad268.add ((x27_3).toNat * 2)) = some (.string ((rd_T47 l0 x27_3).f0)) ∧ w'.cell? ⟨(ad268.add ((x27_3).toNat * 2)).block, (ad268.add ((x27_3).toNat * 2)).off + 1, none⟩ = some (.string ((rd_T47 l0 x27_3).f1))) (ds := []) #[false, false, false, false, false, false, false, false, false, false] (by kernel_rfl) rfl rfl ⟨(blk_cell BK269.out 0).trans rfl, (blk_cell BK269.out 1).trans rfl, ((HB.out.cell (World.block_lt_of_cell? w _ hw275_0)).trans hw275_0), ((HB.out.cell (World.block_lt_of_cell? w _ hw275_1)).trans hw275_1)⟩ (fun hHeld => ?_); refine with_tabW laws_plainParams.tab9 laws_plainParams.bits9 (fun HT_ HW_ => ?_)
                              generalize wr.drew = w28 at BK269 HB hx275_0 hx275_1 hHeld ⊢
                              refine pure_ (i := 0) (N := some 30) (v := ?_) (a' := ?_) #[true, false, false, false, false, false, false, false, false, false] rfl rfl (any_of HT_.out (by kernel_rfl)) (fun _ _ _ h => h) (Or.inl ⟨by rfl, ?_⟩) ?_ ?_
                              rotate_left
                              · intro w'
                                go_simp
                                with_reducible rfl
                              rotate_left
                              · simp only [Act.put, List.setIfInBounds_toArray, List.set_cons_zero, List.set_cons_succ, i64_w, i32_w]
                                rfl
                              refine pure_ (i := 1) (N := some 31) (v := ?_) (a' := ?_) #[true, true, false, false, false, false, false, false, false, false] rfl rfl (any_of HT_.out (by kernel_rfl)) (fun _ _ _ h => h) (Or.inl ⟨by rfl, ?_⟩) ?_ ?_
                              rotate_left
                              · intro w'
                                go_simp
                                with_reducible rfl
                              rotate_left
                              · simp only [Act.put, List.setIfInBounds_toArray, List.set_cons_zero, List.set_cons_succ, i64_w, i32_w]
                                rfl
                              refine pure_ (i := 2) (N := some 32) (v := ?_) (a' := ?_) #[true, true, true, false, false, false, false, false, false, false] rfl rfl (any_of HT_.out (by kernel_rfl)) (fun _ _ _ h => h) (Or.inl ⟨by rfl, ?_⟩) ?_ ?_
                              rotate_left
                              · intro w'
                                go_simp
                                with_reducible rfl
                              rotate_left
                              · simp only [Act.put, List.setIfInBounds_toArray, List.set_cons_zero, List.set_cons_succ, i64_w, i32_w]
                                rfl
                              refine pure_ (i := 3) (N := some 33) (v := ?_) (a' := ?_) #[true, true, true, true, false, false, false, false, false, false] rfl rfl (any_of HT_.out (by kernel_rfl)) (fun _ _ _ h => h) (Or.inl ⟨by rfl, ?_⟩) ?_ ?_
                              rotate_left
                              · intro w'
                                go_simp
                                with_reducible rfl
                              rotate_left
                              · simp only [Act.put, List.setIfInBounds_toArray, List.set_cons_zero, List.set_cons_succ, i64_w, i32_w]
                                rfl
                              refine pure_ (i := 6) (N := some 36) (v := ?_) (a' := ?_) #[true, true, true, true, false, false, true, false, false, false] rfl rfl (any_of HT_.out (by kernel_rfl)) (fun _ _ _ h => h) (Or.inl ⟨by rfl, ?_⟩) ?_ ?_
                              rotate_left
                              · intro w'
                                go_simp
                                with_reducible rfl
                              rotate_left
                              · simp only [Act.put, List.setIfInBounds_toArray, List.set_cons_zero, List.set_cons_succ, i64_w, i32_w]
                                rfl
                              refine take_ (i := 4) (N := some 34) (v := ?_) (a' := ?_) #[true, true, true, true, true, false, true, false, false, false] rfl rfl (take_ofW HT_.out HW_.out (by kernel_rfl)) (fun _ _ _ h => h) (Or.inl ⟨by rfl, ?_⟩) hHeld ?_ ?_
                              rotate_left
                              · rintro w' ⟨s0, s1, s2, s3⟩
                                go_simp
                                with_reducible rfl
                              rotate_left
                              · simp only [Act.put, List.setIfInBounds_toArray, List.set_cons_zero, List.set_cons_succ, i64_w, i32_w]
                                rfl
                              refine take_ (i := 7) (N := some 37) (v := ?_) (a' := ?_) #[true, true, true, true, true, false, true, true, false, false] rfl rfl (take_ofW HT_.out HW_.out (by kernel_rfl)) (fun _ _ _ h => h) (Or.inl ⟨by rfl, ?_⟩) hHeld ?_ ?_
                              rotate_left
                              · rintro w' ⟨s0, s1, s2, s3⟩
                                go_simp
                                with_reducible rfl
                              rotate_left
                              · simp only [Act.put, List.setIfInBounds_toArray, List.set_cons_zero, List.set_cons_succ, i64_w, i32_w]
                                rfl
                              refine one_ (i := 5) (N := some 35) #[true, true, true, true, true, true, true, true, false, false] rfl rfl (one_of HT_.out (by kernel_rfl)) (by decide) (fun K hK => ?_)
                              refine goes_ Try.func29 (by kernel_rfl) rfl #[.string ((rd_T47 l0 x27_3).f0)] (by rfl) rfl rfl (by (try simp only [List.map_toArray, List.map_cons, List.map_nil]); first | done | rfl | (simp only [List.length_drop, List.length_take]; rfl)) ?_
                              with_reducible refine (laws_low.calls ((rd_T47 l0 x27_3).f0) t276 _ A25.out).mono ?_
                              rintro e w29 ⟨rfl, hb⟩
                              refine ⟨_, rfl, ?_⟩
                              have n0_ := Aside0.mk (blk_below (g := gb269) (o := .cells #[.string ((rd_T47 l0 x8_1).f0), .string ((rd_T47 l0 x8_1).f1)] 47 (0, 0)) (by (with_reducible repeat (first | refine blk_drewN ?_ _ | refine blk_drew ?_ | refine blk_alloc ?_ _)); exact BK269.out) hb)
                              have n1_ := Aside0.mk (below_step (by repeat (first | (with_reducible first | exact HB.out | apply below_alloc | apply pw_below_drewN | apply below_drew1 | refine below_set ?_ GE269.out) | exact HB.out)) hb)
                              clear BK269
                              clear HB
                              have BK269 := n0_
                              have HB := n1_
                              clear n0_ n1_
                              (try clear hb)
                              (try clear hb2)
                              (try clear hk)
                              (try clear hi)
                              refine hK.out _ _ ⟨(blk_cell BK269.out 0).trans rfl, (blk_cell BK269.out 1).trans rfl, ((HB.out.cell (World.block_lt_of_cell? w _ hw275_0)).trans hw275_0), ((HB.out.cell (World.block_lt_of_cell? w _ hw275_1)).trans hw275_1)⟩ (fun hHeld => ?_)
                              clear hK K
                              refine norm_ (a' := ?_) ?_ ?_
                              rotate_left
                              · show Act.put _ (some 35) _ = _
                                simp only [Act.put, List.setIfInBounds_toArray, List.set_cons_zero, List.set_cons_succ, i64_w, i32_w]
                                rfl
                              refine one_ (i := 8) (N := some 38) #[true, true, true, true, true, true, true, true, true, false] rfl rfl (one_of HT_.out (by kernel_rfl)) (by decide) (fun K hK => ?_)
                              refine goes_ Try.func29 (by kernel_rfl) rfl #[.string ((rd_T47 l0 x8_1).f0)] (by rfl) rfl rfl (by (try simp only [List.map_toArray, List.map_cons, List.map_nil]); first | done | rfl | (simp only [List.length_drop, List.length_take]; rfl)) ?_
                              with_reducible refine (laws_low.calls ((rd_T47 l0 x8_1).f0) t277 _ A26.out).mono ?_
                              rintro e w30 ⟨rfl, hb⟩
                              refine ⟨_, rfl, ?_⟩
                              have n0_ := Aside0.mk (blk_below (g := gb269) (o := .cells #[.string ((rd_T47 l0 x8_1).f0), .string ((rd_T47 l0 x8_1).f1)] 47 (0, 0)) (by (with_reducible repeat (first | refine blk_drewN ?_ _ | refine blk_drew ?_ | refine blk_alloc ?_ _)); exact BK269.out) hb)
                              have n1_ := Aside0.mk (below_step (by repeat (first | (with_reducible first | exact HB.out | apply below_alloc | apply pw_below_drewN | apply below_drew1 | refine below_set ?_ GE269.out) | exact HB.out)) hb)
                              clear BK269
                              clear HB
                              have BK269 := n0_
                              have HB := n1_
                              clear n0_ n1_
                              (try clear hb)
                              (try clear hb2)
                              (try clear hk)
                              (try clear hi)
                              refine hK.out _ _ ⟨(blk_cell BK269.out 0).trans rfl, (blk_cell BK269.out 1).trans rfl, ((HB.out.cell (World.block_lt_of_cell? w _ hw275_0)).trans hw275_0), ((HB.out.cell (World.block_lt_of_cell? w _ hw275_1)).trans hw275_1)⟩ (fun hHeld => ?_)
                              clear hK K
                              refine norm_ (a' := ?_) ?_ ?_
                              rotate_left
                              · show Act.put _ (some 38) _ = _
                                simp only [Act.put, List.setIfInBounds_toArray, List.set_cons_zero, List.set_cons_succ, i64_w, i32_w]
                                rfl
                              refine pure_ (i := 9) (N := some 39) (v := ?_) (a' := ?_) #[true, true, true, true, true, true, true, true, true, true] rfl rfl (any_of HT_.out (by kernel_rfl)) (fun _ _ _ h => h) (Or.inl ⟨by rfl, ?_⟩) ?_ ?_
                              rotate_left
                              · intro w'
                                go_simp
                                with_reducible rfl
                              rotate_left
                              · simp only [Act.put, List.setIfInBounds_toArray, List.set_cons_zero, List.set_cons_succ, i64_w, i32_w]
                                rfl
                              refine done_ (done_of HT_.out (by kernel_rfl)) ?_
                              try go_wp2
                              go_ret
                              exact ⟨by first | rfl | (simp [errW_none, errW_some] <;> rfl) | (simp [*, errW_none, errW_some] <;> rfl), by repeat (first | (with_reducible first | exact HB.out | apply below_alloc | apply pw_below_drewN | apply below_drew1 | refine below_set ?_ GE269.out) | exact HB.out)⟩
                            · rw [if_neg c27] at H
                              have c27b0 : (t276.toList == t277.toList) = false := beq_eq_false_iff_ne.mpr c27
                              have c27b1 : (t276.toList != t277.toList) = true := bne_iff_ne.mpr c27
                              have H' := Aside0.mk H
                              clear H
                              try go_wp2
                              have n0_ := Aside0.mk (blk_drew BK269.out)
                              have n1_ := Aside0.mk (below_drew1 HB.out)
                              clear BK269
                              clear HB
                              have BK269 := n0_
                              have HB := n1_
                              clear n0_ n1_
                              have p275 : 0 ≤ (x27_3 : Int) := of_decide_eq_true (by first | (with_reducible assumption) | assumption)
                              have q275 : x27_3 < (l0.length : Int) := of_decide_eq_true (by first | (with_reducible assumption) | assumption)
                              obtain ⟨ad275, e275, hx275_0, hx275_1⟩ := at_T47 HR0.out x27_3 p275 q275
                              have hw275_1 := hx275_1
                              have hw275_0 := hx275_0
                              obtain rfl : ad268 = ad275 := (by injection e275)
                              replace hx275_0 := (HB.out.cell (World.block_lt_of_cell? w _ hx275_0)).trans hx275_0
                              replace hx275_1 := (HB.out.cell (World.block_lt_of_cell? w _ hx275_1)).trans hx275_1
                              replace p275 := eq_true p275
                              replace q275 := eq_true q275
                              refine start_ (n := 10) (S := fun w' => w'.cell? ⟨gb269, 0, none⟩ = some (.string ((rd_T47 l0 x8_1).f0)) ∧ w'.cell? ⟨gb269, 1, none⟩ = some (.string ((rd_T47 l0 x8_1).f1)) ∧ w'.cell? (ad268.add ((x27_3).toNat * 2)) = some (.string ((rd_T47 l0 x27_3).f0)) ∧ w'.cell? ⟨(ad268.add ((x27_3).toNat * 2)).block, (ad268.add ((x27_3).toNat * 2)).off + 1, none⟩ = some (.string ((rd_T47 l0 x27_3).f1))) (ds := []) #[false, false, false, false, false, false, false, false, false, false] (by kernel_rfl) rfl rfl ⟨(blk_cell BK269.out 0).trans rfl, (blk_cell BK269.out 1).trans rfl, ((HB.out.cell (World.block_lt_of_cell? w _ hw275_0)).trans hw275_0), ((HB.out.cell (World.block_lt_of_cell? w _ hw275_1)).trans hw275_1)⟩ (fun hHeld => ?_); refine with_tabW laws_plainParams.tab9 laws_plainParams.bits9 (fun HT_ HW_ => ?_)
                              generalize wr.drew = w31 at BK269 HB hx275_0 hx275_1 hHeld ⊢
                              refine pure_ (i := 0) (N := some 30) (v := ?_) (a' := ?_) #[true, false, false, false, false, false, false, false, false, false] rfl rfl (any_of HT_.out (by kernel_rfl)) (fun _ _ _ h => h) (Or.inl ⟨by rfl, ?_⟩) ?_ ?_
                              rotate_left
                              · intro w'
                                go_simp
                                with_reducible rfl
                              rotate_left
                              · simp only [Act.put, List.setIfInBounds_toArray, List.set_cons_zero, List.set_cons_succ, i64_w, i32_w]
                                rfl
                              refine pure_ (i := 1) (N := some 31) (v := ?_) (a' := ?_) #[true, true, false, false, false, false, false, false, false, false] rfl rfl (any_of HT_.out (by kernel_rfl)) (fun _ _ _ h => h) (Or.inl ⟨by rfl, ?_⟩) ?_ ?_
                              rotate_left
                              · intro w'
                                go_simp
                                with_reducible rfl
                              rotate_left
                              · simp only [Act.put, List.setIfInBounds_toArray, List.set_cons_zero, List.set_cons_succ, i64_w, i32_w]
                                rfl
                              refine pure_ (i := 2) (N := some 32) (v := ?_) (a' := ?_) #[true, true, true, false, false, false, false, false, false, false] rfl rfl (any_of HT_.out (by kernel_rfl)) (fun _ _ _ h => h) (Or.inl ⟨by rfl, ?_⟩) ?_ ?_
                              rotate_left
                              · intro w'
                                go_simp
                                with_reducible rfl
                              rotate_left
                              · simp only [Act.put, List.setIfInBounds_toArray, List.set_cons_zero, List.set_cons_succ, i64_w, i32_w]
                                rfl
                              refine pure_ (i := 3) (N := some 33) (v := ?_) (a' := ?_) #[true, true, true, true, false, false, false, false, false, false] rfl rfl (any_of HT_.out (by kernel_rfl)) (fun _ _ _ h => h) (Or.inl ⟨by rfl, ?_⟩) ?_ ?_
                              rotate_left
                              · intro w'
                                go_simp
                                with_reducible rfl
                              rotate_left
                              · simp only [Act.put, List.setIfInBounds_toArray, List.set_cons_zero, List.set_cons_succ, i64_w, i32_w]
                                rfl
                              refine pure_ (i := 6) (N := some 36) (v := ?_) (a' := ?_) #[true, true, true, true, false, false, true, false, false, false] rfl rfl (any_of HT_.out (by kernel_rfl)) (fun _ _ _ h => h) (Or.inl ⟨by rfl, ?_⟩) ?_ ?_
                              rotate_left
                              · intro w'
                                go_simp
                                with_reducible rfl
                              rotate_left
                              · simp only [Act.put, List.setIfInBounds_toArray, List.set_cons_zero, List.set_cons_succ, i64_w, i32_w]
                                rfl
                              refine take_ (i := 4) (N := some 34) (v := ?_) (a' := ?_) #[true, true, true, true, true, false, true, false, false, false] rfl rfl (take_ofW HT_.out HW_.out (by kernel_rfl)) (fun _ _ _ h => h) (Or.inl ⟨by rfl, ?_⟩) hHeld ?_ ?_
                              rotate_left
                              · rintro w' ⟨s0, s1, s2, s3⟩
                                go_simp
                                with_reducible rfl
                              rotate_left
                              · simp only [Act.put, List.setIfInBounds_toArray, List.set_cons_zero, List.set_cons_succ, i64_w, i32_w]
                                rfl
                              refine take_ (i := 7) (N := some 37) (v := ?_) (a' := ?_) #[true, true, true, true, true, false, true, true, false, false] rfl rfl (take_ofW HT_.out HW_.out (by kernel_rfl)) (fun _ _ _ h => h) (Or.inl ⟨by rfl, ?_⟩) hHeld ?_ ?_
                              rotate_left
                              · rintro w' ⟨s0, s1, s2, s3⟩
                                go_simp
                                with_reducible rfl
                              rotate_left
                              · simp only [Act.put, List.setIfInBounds_toArray, List.set_cons_zero, List.set_cons_succ, i64_w, i32_w]
                                rfl
                              refine one_ (i := 5) (N := some 35) #[true, true, true, true, true, true, true, true, false, false] rfl rfl (one_of HT_.out (by kernel_rfl)) (by decide) (fun K hK => ?_)
                              refine goes_ Try.func29 (by kernel_rfl) rfl #[.string ((rd_T47 l0 x27_3).f0)] (by rfl) rfl rfl (by (try simp only [List.map_toArray, List.map_cons, List.map_nil]); first | done | rfl | (simp only [List.length_drop, List.length_take]; rfl)) ?_
                              with_reducible refine (laws_low.calls ((rd_T47 l0 x27_3).f0) t276 _ A25.out).mono ?_
                              rintro e w32 ⟨rfl, hb⟩
                              refine ⟨_, rfl, ?_⟩
                              have n0_ := Aside0.mk (blk_below (g := gb269) (o := .cells #[.string ((rd_T47 l0 x8_1).f0), .string ((rd_T47 l0 x8_1).f1)] 47 (0, 0)) (by (with_reducible repeat (first | refine blk_drewN ?_ _ | refine blk_drew ?_ | refine blk_alloc ?_ _)); exact BK269.out) hb)
                              have n1_ := Aside0.mk (below_step (by repeat (first | (with_reducible first | exact HB.out | apply below_alloc | apply pw_below_drewN | apply below_drew1 | refine below_set ?_ GE269.out) | exact HB.out)) hb)
                              clear BK269
                              clear HB
                              have BK269 := n0_
                              have HB := n1_
                              clear n0_ n1_
                              (try clear hb)
                              (try clear hb2)
                              (try clear hk)
                              (try clear hi)
                              refine hK.out _ _ ⟨(blk_cell BK269.out 0).trans rfl, (blk_cell BK269.out 1).trans rfl, ((HB.out.cell (World.block_lt_of_cell? w _ hw275_0)).trans hw275_0), ((HB.out.cell (World.block_lt_of_cell? w _ hw275_1)).trans hw275_1)⟩ (fun hHeld => ?_)
                              clear hK K
                              refine norm_ (a' := ?_) ?_ ?_
                              rotate_left
                              · show Act.put _ (some 35) _ = _
                                simp only [Act.put, List.setIfInBounds_toArray, List.set_cons_zero, List.set_cons_succ, i64_w, i32_w]
                                rfl
                              refine one_ (i := 8) (N := some 38) #[true, true, true, true, true, true, true, true, true, false] rfl rfl (one_of HT_.out (by kernel_rfl)) (by decide) (fun K hK => ?_)
                              refine goes_ Try.func29 (by kernel_rfl) rfl #[.string ((rd_T47 l0 x8_1).f0)] (by rfl) rfl rfl (by (try simp only [List.map_toArray, List.map_cons, List.map_nil]); first | done | rfl | (simp only [List.length_drop, List.length_take]; rfl)) ?_
                              with_reducible refine (laws_low.calls ((rd_T47 l0 x8_1).f0) t277 _ A26.out).mono ?_
                              rintro e w33 ⟨rfl, hb⟩
                              refine ⟨_, rfl, ?_⟩
                              have n0_ := Aside0.mk (blk_below (g := gb269) (o := .cells #[.string ((rd_T47 l0 x8_1).f0), .string ((rd_T47 l0 x8_1).f1)] 47 (0, 0)) (by (with_reducible repeat (first | refine blk_drewN ?_ _ | refine blk_drew ?_ | refine blk_alloc ?_ _)); exact BK269.out) hb)
                              have n1_ := Aside0.mk (below_step (by repeat (first | (with_reducible first | exact HB.out | apply below_alloc | apply pw_below_drewN | apply below_drew1 | refine below_set ?_ GE269.out) | exact HB.out)) hb)
                              clear BK269
                              clear HB
                              have BK269 := n0_
                              have HB := n1_
                              clear n0_ n1_
                              (try clear hb)
                              (try clear hb2)
                              (try clear hk)
                              (try clear hi)
                              refine hK.out _ _ ⟨(blk_cell BK269.out 0).trans rfl, (blk_cell BK269.out 1).trans rfl, ((HB.out.cell (World.block_lt_of_cell? w _ hw275_0)).trans hw275_0), ((HB.out.cell (World.block_lt_of_cell? w _ hw275_1)).trans hw275_1)⟩ (fun hHeld => ?_)
                              clear hK K
                              refine norm_ (a' := ?_) ?_ ?_
                              rotate_left
                              · show Act.put _ (some 38) _ = _
                                simp only [Act.put, List.setIfInBounds_toArray, List.set_cons_zero, List.set_cons_succ, i64_w, i32_w]
                                rfl
                              refine pure_ (i := 9) (N := some 39) (v := ?_) (a' := ?_) #[true, true, true, true, true, true, true, true, true, true] rfl rfl (any_of HT_.out (by kernel_rfl)) (fun _ _ _ h => h) (Or.inl ⟨by rfl, ?_⟩) ?_ ?_
                              rotate_left
                              · intro w'
                                go_simp
                                with_reducible rfl
                              rotate_left
                              · simp only [Act.put, List.setIfInBounds_toArray, List.set_cons_zero, List.set_cons_succ, i64_w, i32_w]
                                rfl
                              refine done_ (done_of HT_.out (by kernel_rfl)) ?_
                              try go_wp2
                              go_roundg k3
                              case measure => have := HK1.out; have := HJ4.out; have := HK3.out; omega
                              case rel => exact ⟨(wrap64 (x27_3 + 1)), (by first | rfl | (simp; done) | (rw [prx_ne]; first | done | rfl) | (simp [*]; done)), H', ⟨by have := HK1.out; have := HJ4.out; have := HK3.out; omega⟩, ⟨by (with_reducible repeat (first | refine blk_drewN ?_ _ | refine blk_drew ?_ | refine blk_alloc ?_ _)); exact BK269.out⟩, ⟨by repeat (first | (with_reducible first | exact HB.out | apply below_alloc | apply pw_below_drewN | apply below_drew1 | refine below_set ?_ GE269.out) | exact HB.out)⟩⟩
                          · rw [if_neg c24] at H
                            exact absurd H (by simp)
                        · rw [if_neg c23] at H
                          exact absurd H (by simp)
                      · rw [if_neg c22] at H
                        have c22b0 : decide (x27_3 < x8_1) = false := decide_eq_false c22
                        clear c22
                        have H' := Aside0.mk H
                        clear H
                        go_wp2
                        go_roundg k3
                        case measure => have := HK1.out; have := HJ4.out; have := HK3.out; omega
                        case rel => exact ⟨(wrap64 (x8_1 + 1)), (by first | rfl | (simp; done) | (rw [prx_ne]; first | done | rfl) | (simp [*]; done)), H', ⟨by have := HK1.out; have := HJ4.out; have := HK3.out; omega⟩, ⟨by repeat (first | (with_reducible first | exact HB.out | apply below_alloc | apply pw_below_drewN | apply below_drew1 | refine below_set ?_ GE269.out) | exact HB.out)⟩⟩
          · rw [if_neg c4] at H
            exact absurd H (by simp)
        · rw [if_neg c3] at H
          exact absurd H (by simp)
      · rw [if_neg c2] at H
        have c2b0 : decide (x8_1 < (l0.length : Int)) = false := decide_eq_false c2
        clear c2
        obtain rfl := Option.some.inj H
        go_wp2
        go_ret
        exact ⟨by first | rfl | (simp [errW_none, errW_some] <;> rfl) | (simp [*, errW_none, errW_some] <;> rfl), by repeat (first | (with_reducible first | exact HB.out | apply below_alloc | apply pw_below_drewN | apply below_drew1) | exact HB.out)⟩

end Go.Proofs.Ytkbmababljcabaa.QA
