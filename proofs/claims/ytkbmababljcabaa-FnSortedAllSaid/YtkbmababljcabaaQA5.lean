/- Printed by wip/pr.py (a program of this repo over the print program of the kit). Not trusted: Lean checks it. -/
import Derived.Test.YtkbmababljcabaaQA0
import Derived.Test.YtkbmababljcabaaGSort
namespace Go.Proofs.Ytkbmababljcabaa.QA
open Go.Proofs.Ytkbmababljcabaa.Given
open Go.Proofs.Ytkbmababljcabaa.PrX
open Go.RowKit Go.Proofs.YtkbmababljcabaaW.PrintWords Go.Proofs.YtkbmababljcabaaW.PrintLast Go.Proofs.YtkbmababljcabaaW.PrintMore
attribute [local go_sem] max2_int min2_int max_two min_two max_three min_three max_four min_four   -- for this text's walks alone
set_option linter.unusedVariables false
set_option linter.unusedSimpArgs false

/-! ### impl_SortAccepted: function 14 -/
mutual
def impl_SortAccepted.l0 : Nat → List (S75) → List (S26) → Int → Int → Option ((List (S26)))
  | 0, _, _, _, _ => none
  | k + 1, x3, x9, x10, x11 => if x11 < x10 then (if 0 ≤ x11 then (if x11 < (x9.length : Int) then (if x3.length < 2513169434916 then (impl_SortAccepted.l0 k (x3 ++ [(⟨(rd_T26 x9 x11).f0, (rd_T26 x9 x11).f1, (rd_T26 x9 x11).f2, (rd_T26 x9 x11).f3, (rd_T26 x9 x11).f4⟩ : S75)]) x9 x10 (wrap64 (x11 + 1))) else (none)) else (none)) else (none)) else ((fiberhelpers_ZzSort.f x3).bind fun t110 => (impl_SortAccepted.l1 k ([] : List (S26)) t110 (t110.length : Int) 0))
def impl_SortAccepted.l1 : Nat → List (S26) → List (S75) → Int → Int → Option ((List (S26)))
  | 0, _, _, _, _ => none
  | k + 1, x6, x21, x22, x23 => if x23 < x22 then (if 0 ≤ x23 then (if x23 < (x21.length : Int) then (if x6.length < 2513169434916 then (impl_SortAccepted.l1 k (x6 ++ [(⟨(rd_T75 x21 x23).f0, (rd_T75 x21 x23).f1, (rd_T75 x21 x23).f2, (rd_T75 x21 x23).f3, (rd_T75 x21 x23).f4⟩ : S26)]) x21 x22 (wrap64 (x23 + 1))) else (none)) else (none)) else (none)) else (some x6)
end
def impl_SortAccepted.f (k : Nat) (l0 : List (S26)) : Option ((List (S26))) := impl_SortAccepted.l0 k ([] : List (S75)) l0 (l0.length : Int) 0
theorem impl_SortAccepted.mono_l : ∀ k, (∀ y0 y1 y2 y3, LeO (impl_SortAccepted.l0 k y0 y1 y2 y3) (impl_SortAccepted.l0 (k + 1) y0 y1 y2 y3)) ∧ (∀ y0 y1 y2 y3, LeO (impl_SortAccepted.l1 k y0 y1 y2 y3) (impl_SortAccepted.l1 (k + 1) y0 y1 y2 y3))
  | 0 => ⟨fun _ _ _ _ r h => by simp [impl_SortAccepted.l0] at h, fun _ _ _ _ r h => by simp [impl_SortAccepted.l1] at h⟩
  | k + 1 => by
    obtain ⟨ih0, ih1⟩ := impl_SortAccepted.mono_l k
    refine ⟨?_, ?_⟩
    · intro y0 y1 y2 y3
      unfold impl_SortAccepted.l0
      repeat' first
      | (with_reducible exact ih0 _ _ _ _)
      | (with_reducible exact ih1 _ _ _ _)
      | (with_reducible exact LeO.refl _)
      | (with_reducible exact LeO.none _)
      | (with_reducible refine LeO.ite ?_ ?_)
      | (with_reducible refine LeO.bind ?_ (fun _ => ?_))
      | exact ih0 _ _ _ _
      | exact ih1 _ _ _ _
      | exact LeO.none _
      | refine LeO.ite ?_ ?_
      | refine LeO.bind ?_ (fun _ => ?_)
    · intro y0 y1 y2 y3
      unfold impl_SortAccepted.l1
      repeat' first
      | (with_reducible exact ih0 _ _ _ _)
      | (with_reducible exact ih1 _ _ _ _)
      | (with_reducible exact LeO.refl _)
      | (with_reducible exact LeO.none _)
      | (with_reducible refine LeO.ite ?_ ?_)
      | (with_reducible refine LeO.bind ?_ (fun _ => ?_))
      | exact ih0 _ _ _ _
      | exact ih1 _ _ _ _
      | exact LeO.none _
      | refine LeO.ite ?_ ?_
      | refine LeO.bind ?_ (fun _ => ?_)
theorem impl_SortAccepted.mono : ∀ a0 k, LeO (impl_SortAccepted.f k a0) (impl_SortAccepted.f (k + 1) a0) := by
  intro a0 k
  obtain ⟨ih0, ih1⟩ := impl_SortAccepted.mono_l k
  unfold impl_SortAccepted.f
  repeat' first
      | (with_reducible exact ih0 _ _ _ _)
      | (with_reducible exact ih1 _ _ _ _)
      | (with_reducible exact LeO.refl _)
      | (with_reducible exact LeO.none _)
      | (with_reducible refine LeO.ite ?_ ?_)
      | (with_reducible refine LeO.bind ?_ (fun _ => ?_))
      | exact ih0 _ _ _ _
      | exact ih1 _ _ _ _
      | exact LeO.none _
      | refine LeO.ite ?_ ?_
      | refine LeO.bind ?_ (fun _ => ?_)
set_option maxHeartbeats 8000000 in
set_option maxRecDepth 100000 in
theorem impl_SortAccepted.calls (k : Nat) (A0 : Option Addr) (c0 : Nat) (l0 : List (S26)) (r : List (S26)) (w : World) (hr0 : Kd.C k26 w A0 l0.length l0) (hc0 : l0.length ≤ c0) (h : impl_SortAccepted.f k l0 = some r) :
    Calls Try.prog 14 #[.slice A0 l0.length c0] w fun e w' => ∃ v0_ : Value, e = .returned (v0_) ∧ Kd.R k26 26 w' w.heap.size (fun _ => True) v0_ r ∧ Below w.heap.size w w' := by
  have hu26 := Try.underlying26
  have hu75 := Try.underlying75
  have HR0 := Aside0.mk hr0
  have HC0 := Aside0.mk hc0
  clear hr0 hc0
  have HB := Aside0.mk (Below.refl w.heap.size w)
  have H : (impl_SortAccepted.l0 k ([] : List (S75)) l0 (l0.length : Int) 0) = some r := h
  clear h
  have H' := Aside0.mk H
  clear H
  go_enter Try.func14, Try.ntmps14
  go_wp2
  go_loopg [3, 11] k (fun kq v3 v11 w' => ∃ (x3_1 : List (S75)) (x11_1 : Int), v11 = .int .i64 x11_1 ∧ Aside0 (impl_SortAccepted.l0 kq x3_1 l0 (l0.length : Int) x11_1 = some r) ∧ Aside0 (kq ≤ k) ∧ Aside0 (Kd.R k75 75 w' w.heap.size (fun _ => True) v3 x3_1) ∧ Aside0 (Below w.heap.size w w'))
  case atStart => exact ⟨(([] : List (S75))), (0), (by first | rfl | (simp; done) | (rw [prx_ne]; first | done | rfl) | (simp [*]; done)), H', ⟨Nat.le_refl _⟩, ⟨by first | exact Kd.R_nil _ _ _ _ _ | exact Kd.N_nil _ _ _ _ _ | exact Kd.V_nil _ _ _ _ _ | exact Kd.Q_nil _ _ _ _ _ | exact Kd.S_nil _ _ _ _ _⟩, ⟨by repeat (first | (with_reducible first | exact HB.out | apply below_alloc | apply pw_below_drewN | apply below_drew1) | exact HB.out)⟩⟩
  case round =>
    clear H'
    try clear c1
    obtain ⟨x3_1, x11_1, rfl, HA, HK1, HO_3, HB⟩ := hrel
    cases gk with
    | zero => exact absurd HA.out (by simp [impl_SortAccepted.l0])
    | succ k1 =>
      have H := HA.out
      clear HA
      simp only [impl_SortAccepted.l0] at H
      by_cases c2 : x11_1 < (l0.length : Int)
      · rw [if_pos c2] at H
        have c2b0 : decide (x11_1 < (l0.length : Int)) = true := decide_eq_true c2
        clear c2
        by_cases c3 : 0 ≤ x11_1
        · rw [if_pos c3] at H
          have c3b0 : decide (0 ≤ x11_1) = true := decide_eq_true c3
          clear c3
          by_cases c4 : x11_1 < (l0.length : Int)
          · rw [if_pos c4] at H
            have c4b0 : decide (x11_1 < (l0.length : Int)) = true := decide_eq_true c4
            clear c4
            by_cases c5 : x3_1.length < 2513169434916
            · rw [if_pos c5] at H
              have LMc5 := Aside0.mk c5
              clear c5
              obtain ⟨y107, hy107⟩ : ∃ y_ : List (S75), y_ = (x3_1 ++ [(⟨(rd_T26 l0 x11_1).f0, (rd_T26 l0 x11_1).f1, (rd_T26 l0 x11_1).f2, (rd_T26 l0 x11_1).f3, (rd_T26 l0 x11_1).f4⟩ : S75)]) := ⟨_, rfl⟩
              replace H : (impl_SortAccepted.l0 k1 y107 l0 (l0.length : Int) (wrap64 (x11_1 + 1))) = some r := by first | (rw [hy107]; with_reducible exact H) | (have H2_ := (Option.bind_some _ _).symm.trans H; rw [hy107]; with_reducible exact H2_) | (have H2_ := (Option.bind_some _ _).symm.trans H; with_reducible exact H2_) | with_reducible exact H | (rw [hy107]; exact H) | exact H
              have Ny107 := Aside0.mk hy107
              clear hy107
              have H' := Aside0.mk H
              clear H
              have p105 : 0 ≤ (x11_1 : Int) := of_decide_eq_true (by first | (with_reducible assumption) | assumption)
              have q105 : x11_1 < (l0.length : Int) := of_decide_eq_true (by first | (with_reducible assumption) | assumption)
              obtain ⟨ad105, e105, hx105_0, hx105_1, hx105_2, hx105_3, hx105_4⟩ := at_T26 HR0.out x11_1 p105 q105
              cases e105
              replace hx105_0 := (HB.out.cell (World.block_lt_of_cell? w _ hx105_0)).trans hx105_0
              replace hx105_1 := (HB.out.cell (World.block_lt_of_cell? w _ hx105_1)).trans hx105_1
              replace hx105_2 := (HB.out.cell (World.block_lt_of_cell? w _ hx105_2)).trans hx105_2
              replace hx105_3 := (HB.out.cell (World.block_lt_of_cell? w _ hx105_3)).trans hx105_3
              replace hx105_4 := (HB.out.cell (World.block_lt_of_cell? w _ hx105_4)).trans hx105_4
              replace p105 := eq_true p105
              replace q105 := eq_true q105
              go_wp2_with (first | ((with_reducible refine gate_dst (N := 5) rfl ?_); refine box_event ?hg (N := 5) ?hd (cs := #[.string (⟨#[]⟩ : ByteArray), .int .i64 0, .int .i64 0, .int .i64 0, .string (⟨#[]⟩ : ByteArray)]) (t := 26) ?hr ?_; (case hd => rfl); (case hg => rfl); (case hr => first | (go_simp; done) | (go_simp; rfl)); intro gb106 hg w6 hbox hb; have n0_ := Aside0.mk (Kd.R_below (by (with_reducible repeat (first | apply Kd.R_alloc | apply Kd.R_drewN | apply Kd.R_drew)); exact HO_3.out) hb); have n1_ := Aside0.mk (below_step (by repeat (first | (with_reducible first | exact HB.out | apply below_alloc | apply pw_below_drewN | apply below_drew1) | exact HB.out)) hb); have n2_ := Aside0.mk (hbox); have n3_ := Aside0.mk ((by rw [hg]; exact (below_size (by repeat (first | (with_reducible first | exact HB.out | apply below_alloc | apply pw_below_drewN | apply below_drew1) | exact HB.out))) : w.heap.size ≤ gb106)); have n4_ := Aside0.mk ((by rw [hg]; exact (below_size (by repeat (first | (with_reducible first | exact HB.out | apply below_alloc | apply pw_below_drewN | apply below_drew1) | exact HB.out))) : w.heap.size ≤ gb106)); clear HO_3; clear HB; have HO_3 := n0_; have HB := n1_; have BK106 := n2_; have GW106 := n3_; have GE106 := n4_; clear n0_ n1_ n2_ n3_ n4_; clear hb hbox hg; have hcz7_0 : w6.cell? ⟨gb106, 0, none⟩ = some (.string (⟨#[]⟩ : ByteArray)) := (blk_cell BK106.out 0).trans rfl; have hcz7_1 : w6.cell? ⟨gb106, 1, none⟩ = some (.int .i64 0) := (blk_cell BK106.out 1).trans rfl; have hcz7_2 : w6.cell? ⟨gb106, 2, none⟩ = some (.int .i64 0) := (blk_cell BK106.out 2).trans rfl; have hcz7_3 : w6.cell? ⟨gb106, 3, none⟩ = some (.int .i64 0) := (blk_cell BK106.out 3).trans rfl; have hcz7_4 : w6.cell? ⟨gb106, 4, none⟩ = some (.string (⟨#[]⟩ : ByteArray)) := (blk_cell BK106.out 4).trans rfl; have hfz7_0 := blk_frozen BK106.out 0; have hfz7_1 := blk_frozen BK106.out 1; have hfz7_2 := blk_frozen BK106.out 2; have hfz7_3 := blk_frozen BK106.out 3; have hfz7_4 := blk_frozen BK106.out 4) | ((with_reducible refine gate_builtin (b := .append) (xs := #[.tmp 15, .tmp 17]) rfl ?_); at_builtin; refine Kd.R_append k75 (w0 := w) w.heap.size rfl (.tmp 15) (.tmp 17) 74 75 (.agg #[(.string ⟨#[]⟩), (.int .i64 0), (.int .i64 0), (.int .i64 0), (.string ⟨#[]⟩)]) 56 rfl Try.underlying74 info75 rfl (by decide) (by omega) u3 x3_1 (⟨(rd_T26 l0 x11_1).f0, (rd_T26 l0 x11_1).f1, (rd_T26 l0 x11_1).f2, (rd_T26 l0 x11_1).f3, (rd_T26 l0 x11_1).f4⟩ : S75) [.string ((rd_T26 l0 x11_1).f0), .int .i64 ((rd_T26 l0 x11_1).f1), .int .i64 ((rd_T26 l0 x11_1).f2), .int .i64 ((rd_T26 l0 x11_1).f3), .string ((rd_T26 l0 x11_1).f4)] (fun _ => True) (fun _ => False) rfl (by first | (go_simp; done) | (go_simp; rfl)) ?aP (fun _ hk => hk.elim) ?aF ?aO ?aB ?aS ?aL ?_; (case aP => exact k75_mkM _ _ _ (⟨(rd_T26 l0 x11_1).f0, (rd_T26 l0 x11_1).f1, (rd_T26 l0 x11_1).f2, (rd_T26 l0 x11_1).f3, (rd_T26 l0 x11_1).f4⟩ : S75)); (case aB => exact (by repeat (first | (with_reducible first | exact HB.out | apply below_alloc | apply pw_below_drewN | apply below_drew1 | refine below_set ?_ GE106.out) | exact HB.out))); (case aF => exact (fun _ _ => trivial)); (case aO => exact (by (with_reducible repeat (first | apply Kd.R_alloc | apply Kd.R_drewN | apply Kd.R_drew)); exact Kd.R_mono (Kd.R_far (p := ⟨gb106, 4, none⟩) (Kd.R_far (p := ⟨gb106, 3, none⟩) (Kd.R_far (p := ⟨gb106, 2, none⟩) (Kd.R_far (p := ⟨gb106, 1, none⟩) (Kd.R_far (p := ⟨gb106, 0, none⟩) (Kd.R_types HO_3.out BK106.out (by decide)) (fun _ hk => hk.2) (.string ((rd_T26 l0 x11_1).f0))) (fun _ hk => hk.2) (.int .i64 ((rd_T26 l0 x11_1).f1))) (fun _ hk => hk.2) (.int .i64 ((rd_T26 l0 x11_1).f2))) (fun _ hk => hk.2) (.int .i64 ((rd_T26 l0 x11_1).f3))) (fun _ hk => hk.2) (.string ((rd_T26 l0 x11_1).f4))) (fun _ hk => trivial))); (case aS => exact (below_size (by repeat (first | (with_reducible first | exact HB.out | apply below_alloc | apply pw_below_drewN | apply below_drew1 | refine below_set ?_ GE106.out) | exact HB.out)))); (case aL => have := LMc5.out; omega); intro v108 w8 ho hb hg hat; rw [← Ny107.out] at ho; have n0_ := Aside0.mk (blk_grown (g := gb106) (o := .cells #[.string ((rd_T26 l0 x11_1).f0), .int .i64 ((rd_T26 l0 x11_1).f1), .int .i64 ((rd_T26 l0 x11_1).f2), .int .i64 ((rd_T26 l0 x11_1).f3), .string ((rd_T26 l0 x11_1).f4)] 26 (0, 0)) (by (with_reducible repeat (first | refine blk_drewN ?_ _ | refine blk_drew ?_ | refine blk_alloc ?_ _)); refine blk_put (cs := #[.string ((rd_T26 l0 x11_1).f0), .int .i64 ((rd_T26 l0 x11_1).f1), .int .i64 ((rd_T26 l0 x11_1).f2), .int .i64 ((rd_T26 l0 x11_1).f3), .string (⟨#[]⟩ : ByteArray)]) ?_ 4 _ rfl; (with_reducible repeat (first | refine blk_drewN ?_ _ | refine blk_drew ?_ | refine blk_alloc ?_ _)); refine blk_put (cs := #[.string ((rd_T26 l0 x11_1).f0), .int .i64 ((rd_T26 l0 x11_1).f1), .int .i64 ((rd_T26 l0 x11_1).f2), .int .i64 0, .string (⟨#[]⟩ : ByteArray)]) ?_ 3 _ rfl; (with_reducible repeat (first | refine blk_drewN ?_ _ | refine blk_drew ?_ | refine blk_alloc ?_ _)); refine blk_put (cs := #[.string ((rd_T26 l0 x11_1).f0), .int .i64 ((rd_T26 l0 x11_1).f1), .int .i64 0, .int .i64 0, .string (⟨#[]⟩ : ByteArray)]) ?_ 2 _ rfl; (with_reducible repeat (first | refine blk_drewN ?_ _ | refine blk_drew ?_ | refine blk_alloc ?_ _)); refine blk_put (cs := #[.string ((rd_T26 l0 x11_1).f0), .int .i64 0, .int .i64 0, .int .i64 0, .string (⟨#[]⟩ : ByteArray)]) ?_ 1 _ rfl; (with_reducible repeat (first | refine blk_drewN ?_ _ | refine blk_drew ?_ | refine blk_alloc ?_ _)); refine blk_put (cs := #[.string (⟨#[]⟩ : ByteArray), .int .i64 0, .int .i64 0, .int .i64 0, .string (⟨#[]⟩ : ByteArray)]) ?_ 0 _ rfl; (with_reducible repeat (first | refine blk_drewN ?_ _ | refine blk_drew ?_ | refine blk_alloc ?_ _)); exact BK106.out) hg (Kd.R_ne HO_3.out BK106.out (by decide))); have n1_ := Aside0.mk (hb); have n2_ := Aside0.mk (ho); clear BK106; clear HB; clear HO_3; have BK106 := n0_; have HB := n1_; have HO109 := n2_; clear n0_ n1_ n2_; clear ho hb hg hat))
              go_roundg k1
              case measure => have := HK1.out; omega
              case rel => exact ⟨(y107), (wrap64 (x11_1 + 1)), (by first | rfl | (simp; done) | (rw [prx_ne]; first | done | rfl) | (simp [*]; done)), H', ⟨by have := HK1.out; omega⟩, ⟨by (with_reducible repeat (first | apply Kd.R_alloc | apply Kd.R_drewN | apply Kd.R_drew)); exact HO109.out⟩, ⟨by repeat (first | (with_reducible first | exact HB.out | apply below_alloc | apply pw_below_drewN | apply below_drew1 | refine below_set ?_ GE106.out) | exact HB.out)⟩⟩
            · rw [if_neg c5] at H
              exact absurd H (by simp)
          · rw [if_neg c4] at H
            exact absurd H (by simp)
        · rw [if_neg c3] at H
          exact absurd H (by simp)
      · rw [if_neg c2] at H
        have c2b0 : decide (x11_1 < (l0.length : Int)) = false := decide_eq_false c2
        clear c2
        replace H := Option.bind_eq_some_iff.mp H
        obtain ⟨t110, A90, H⟩ := H
        replace H : (impl_SortAccepted.l1 k1 ([] : List (S26)) t110 (t110.length : Int) 0) = some r := H
        have A9 := Aside0.mk A90
        clear A90
        have H' := Aside0.mk H
        clear H
        obtain ⟨Ao10, co10, eo10⟩ := Kd.R_slice HO_3.out
        subst eo10
        go_wp2_with (first | ((with_reducible refine gate_callee (f := 44) rfl ?_); refine goesL_ (some 21) rfl rfl Try.func44 (by kernel_rfl) rfl #[.slice Ao10 x3_1.length co10] rfl (by (try simp only [List.map_toArray, List.map_cons, List.map_nil]); first | done | rfl | (simp only [List.length_drop, List.length_take]; rfl)) ?_; (with_reducible refine (fiberhelpers_ZzSort.calls _ _ x3_1 t110 _ ?side1 ?side2 A9.out).mono ?_); (case side1 => repeat (first | exact (Kd.R_reads' HO_3.out).2.2 | (with_reducible refine Kd.C_alloc ?_ _) | (with_reducible refine Kd.C_drewN ?_ _) | (with_reducible refine Kd.C_drew ?_))); (case side2 => exact (Kd.R_reads' HO_3.out).2.1); rintro e w11 ⟨v111, rfl, ho0, hb⟩; refine ⟨_, rfl, ?_⟩; have n0_ := Aside0.mk (Kd.R_elder' (by (with_reducible repeat (first | apply Kd.R_alloc | apply Kd.R_drewN | apply Kd.R_drew)); exact HO_3.out) (Kd.R_base ho0) hb); have n1_ := Aside0.mk (Kd.R_lower (Kd.R_new' ho0 (Kd.R_lt (by (with_reducible repeat (first | apply Kd.R_alloc | apply Kd.R_drewN | apply Kd.R_drew)); exact HO_3.out))) (below_size (by repeat (first | (with_reducible first | exact HB.out | apply below_alloc | apply pw_below_drewN | apply below_drew1) | exact HB.out)))); have n2_ := Aside0.mk (below_step (by repeat (first | (with_reducible first | exact HB.out | apply below_alloc | apply pw_below_drewN | apply below_drew1) | exact HB.out)) hb); clear HO_3; clear HB; have HO_3 := n0_; have HO112 := n1_; have HB := n2_; clear n0_ n1_ n2_; (try clear hb); (try clear hb2); (try clear hk); (try clear hi); (try clear ho0); obtain ⟨Ao12, co12, eo12⟩ := Kd.R_slice HO112.out; subst eo12))
        go_loopg [6, 23] k1 (fun kq v6 v23 w' => ∃ (x6_2 : List (S26)) (x23_2 : Int), v23 = .int .i64 x23_2 ∧ Aside0 (impl_SortAccepted.l1 kq x6_2 t110 (t110.length : Int) x23_2 = some r) ∧ Aside0 (kq ≤ k1) ∧ Aside0 (Kd.R k26 26 w' w.heap.size (fun _ => True) v6 x6_2) ∧ Aside0 (Kd.R k75 75 w' w.heap.size (fun _ => True) (.slice Ao12 t110.length co12) t110) ∧ Aside0 (Below w.heap.size w w'))
        case atStart => exact ⟨(([] : List (S26))), (0), (by first | rfl | (simp; done) | (rw [prx_ne]; first | done | rfl) | (simp [*]; done)), H', ⟨Nat.le_refl _⟩, ⟨by first | exact Kd.R_nil _ _ _ _ _ | exact Kd.N_nil _ _ _ _ _ | exact Kd.V_nil _ _ _ _ _ | exact Kd.Q_nil _ _ _ _ _ | exact Kd.S_nil _ _ _ _ _⟩, ⟨by (with_reducible repeat (first | apply Kd.R_alloc | apply Kd.R_drewN | apply Kd.R_drew)); exact Kd.R_mono HO112.out (fun _ hk => trivial)⟩, ⟨by repeat (first | (with_reducible first | exact HB.out | apply below_alloc | apply pw_below_drewN | apply below_drew1) | exact HB.out)⟩⟩
        case round =>
          clear H'
          try clear c1
          try clear p1
          try clear q1
          try clear hx1
          try clear c2
          try clear c2b0
          try clear p2
          try clear c3
          try clear c3b0
          try clear c4
          try clear c4b0
          try clear c5
          try clear p6
          try clear p10
          try clear q10
          try clear hx10
          try clear hcz7_0
          try clear hcz7_1
          try clear hcz7_2
          try clear hcz7_3
          try clear hcz7_4
          try clear hfz7_0
          try clear hfz7_1
          try clear hfz7_2
          try clear hfz7_3
          try clear hfz7_4
          try clear hx105_0
          try clear hx105_1
          try clear hx105_2
          try clear hx105_3
          try clear hx105_4
          try clear p105
          try clear q105
          obtain ⟨x6_2, x23_2, rfl, HA, HK2, HO_6, HO_21, HB⟩ := hrel
          cases gk with
          | zero => exact absurd HA.out (by simp [impl_SortAccepted.l1])
          | succ k2 =>
            have H := HA.out
            clear HA
            simp only [impl_SortAccepted.l1] at H
            by_cases c13 : x23_2 < (t110.length : Int)
            · rw [if_pos c13] at H
              have c13b0 : decide (x23_2 < (t110.length : Int)) = true := decide_eq_true c13
              clear c13
              by_cases c14 : 0 ≤ x23_2
              · rw [if_pos c14] at H
                have c14b0 : decide (0 ≤ x23_2) = true := decide_eq_true c14
                clear c14
                by_cases c15 : x23_2 < (t110.length : Int)
                · rw [if_pos c15] at H
                  have c15b0 : decide (x23_2 < (t110.length : Int)) = true := decide_eq_true c15
                  clear c15
                  by_cases c16 : x6_2.length < 2513169434916
                  · rw [if_pos c16] at H
                    have LMc16 := Aside0.mk c16
                    clear c16
                    obtain ⟨y115, hy115⟩ : ∃ y_ : List (S26), y_ = (x6_2 ++ [(⟨(rd_T75 t110 x23_2).f0, (rd_T75 t110 x23_2).f1, (rd_T75 t110 x23_2).f2, (rd_T75 t110 x23_2).f3, (rd_T75 t110 x23_2).f4⟩ : S26)]) := ⟨_, rfl⟩
                    replace H : (impl_SortAccepted.l1 k2 y115 t110 (t110.length : Int) (wrap64 (x23_2 + 1))) = some r := by first | (rw [hy115]; with_reducible exact H) | (have H2_ := (Option.bind_some _ _).symm.trans H; rw [hy115]; with_reducible exact H2_) | (have H2_ := (Option.bind_some _ _).symm.trans H; with_reducible exact H2_) | with_reducible exact H | (rw [hy115]; exact H) | exact H
                    have Ny115 := Aside0.mk hy115
                    clear hy115
                    have H' := Aside0.mk H
                    clear H
                    have p113 : 0 ≤ (x23_2 : Int) := of_decide_eq_true (by first | (with_reducible assumption) | assumption)
                    have q113 : x23_2 < (t110.length : Int) := of_decide_eq_true (by first | (with_reducible assumption) | assumption)
                    obtain ⟨ad113, e113, hx113_0, hx113_1, hx113_2, hx113_3, hx113_4⟩ := at_T75 (Kd.R_reads' HO_21.out).2.2 x23_2 p113 q113
                    cases e113
                    replace p113 := eq_true p113
                    replace q113 := eq_true q113
                    go_wp2_with (first | ((with_reducible refine gate_dst (N := 8) rfl ?_); refine box_event ?hg (N := 8) ?hd (cs := #[.string (⟨#[]⟩ : ByteArray), .int .i64 0, .int .i64 0, .int .i64 0, .string (⟨#[]⟩ : ByteArray)]) (t := 75) ?hr ?_; (case hd => rfl); (case hg => rfl); (case hr => first | (go_simp; done) | (go_simp; rfl)); intro gb114 hg w17 hbox hb; have n0_ := Aside0.mk (Kd.R_below (by (with_reducible repeat (first | apply Kd.R_alloc | apply Kd.R_drewN | apply Kd.R_drew)); exact HO_6.out) hb); have n1_ := Aside0.mk (Kd.R_below (Kd.R_elderB (by (with_reducible repeat (first | apply Kd.R_alloc | apply Kd.R_drewN | apply Kd.R_drew)); exact HO_21.out) gb114 (Nat.le_of_eq hg.symm)) hb); have n2_ := Aside0.mk (below_step (by repeat (first | (with_reducible first | exact HB.out | apply below_alloc | apply pw_below_drewN | apply below_drew1) | exact HB.out)) hb); have n3_ := Aside0.mk (hbox); have n4_ := Aside0.mk ((by rw [hg]; exact (below_size (by repeat (first | (with_reducible first | exact HB.out | apply below_alloc | apply pw_below_drewN | apply below_drew1) | exact HB.out))) : w.heap.size ≤ gb114)); have n5_ := Aside0.mk ((by rw [hg]; exact (below_size (by repeat (first | (with_reducible first | exact HB.out | apply below_alloc | apply pw_below_drewN | apply below_drew1) | exact HB.out))) : w.heap.size ≤ gb114)); clear HO_6; clear HO_21; clear HB; have HO_6 := n0_; have HO_21 := n1_; have HB := n2_; have BK114 := n3_; have GW114 := n4_; have GE114 := n5_; clear n0_ n1_ n2_ n3_ n4_ n5_; clear hb hbox hg; have hcz18_0 : w17.cell? ⟨gb114, 0, none⟩ = some (.string (⟨#[]⟩ : ByteArray)) := (blk_cell BK114.out 0).trans rfl; have hcz18_1 : w17.cell? ⟨gb114, 1, none⟩ = some (.int .i64 0) := (blk_cell BK114.out 1).trans rfl; have hcz18_2 : w17.cell? ⟨gb114, 2, none⟩ = some (.int .i64 0) := (blk_cell BK114.out 2).trans rfl; have hcz18_3 : w17.cell? ⟨gb114, 3, none⟩ = some (.int .i64 0) := (blk_cell BK114.out 3).trans rfl; have hcz18_4 : w17.cell? ⟨gb114, 4, none⟩ = some (.string (⟨#[]⟩ : ByteArray)) := (blk_cell BK114.out 4).trans rfl; have hfz18_0 := blk_frozen BK114.out 0; have hfz18_1 := blk_frozen BK114.out 1; have hfz18_2 := blk_frozen BK114.out 2; have hfz18_3 := blk_frozen BK114.out 3; have hfz18_4 := blk_frozen BK114.out 4) | ((with_reducible refine gate_builtin (b := .append) (xs := #[.tmp 27, .tmp 29]) rfl ?_); at_builtin; refine Kd.R_append k26 (w0 := w) w.heap.size rfl (.tmp 27) (.tmp 29) 22 26 (.agg #[(.string ⟨#[]⟩), (.int .i64 0), (.int .i64 0), (.int .i64 0), (.string ⟨#[]⟩)]) 56 rfl Try.underlying22 info26 rfl (by decide) (by omega) u6 x6_2 (⟨(rd_T75 t110 x23_2).f0, (rd_T75 t110 x23_2).f1, (rd_T75 t110 x23_2).f2, (rd_T75 t110 x23_2).f3, (rd_T75 t110 x23_2).f4⟩ : S26) [.string ((rd_T75 t110 x23_2).f0), .int .i64 ((rd_T75 t110 x23_2).f1), .int .i64 ((rd_T75 t110 x23_2).f2), .int .i64 ((rd_T75 t110 x23_2).f3), .string ((rd_T75 t110 x23_2).f4)] (fun _ => True) (fun _ => False) rfl (by first | (go_simp; done) | (go_simp; rfl)) ?aP (fun _ hk => hk.elim) ?aF ?aO ?aB ?aS ?aL ?_; (case aP => exact k26_mkM _ _ _ (⟨(rd_T75 t110 x23_2).f0, (rd_T75 t110 x23_2).f1, (rd_T75 t110 x23_2).f2, (rd_T75 t110 x23_2).f3, (rd_T75 t110 x23_2).f4⟩ : S26)); (case aB => exact (by repeat (first | (with_reducible first | exact HB.out | apply below_alloc | apply pw_below_drewN | apply below_drew1 | refine below_set ?_ GE114.out) | exact HB.out))); (case aF => exact (fun _ _ => trivial)); (case aO => exact (by (with_reducible repeat (first | apply Kd.R_alloc | apply Kd.R_drewN | apply Kd.R_drew)); exact Kd.R_mono (Kd.R_far (p := ⟨gb114, 4, none⟩) (Kd.R_far (p := ⟨gb114, 3, none⟩) (Kd.R_far (p := ⟨gb114, 2, none⟩) (Kd.R_far (p := ⟨gb114, 1, none⟩) (Kd.R_far (p := ⟨gb114, 0, none⟩) (Kd.R_types HO_6.out BK114.out (by decide)) (fun _ hk => hk.2) (.string ((rd_T75 t110 x23_2).f0))) (fun _ hk => hk.2) (.int .i64 ((rd_T75 t110 x23_2).f1))) (fun _ hk => hk.2) (.int .i64 ((rd_T75 t110 x23_2).f2))) (fun _ hk => hk.2) (.int .i64 ((rd_T75 t110 x23_2).f3))) (fun _ hk => hk.2) (.string ((rd_T75 t110 x23_2).f4))) (fun _ hk => trivial))); (case aS => exact (below_size (by repeat (first | (with_reducible first | exact HB.out | apply below_alloc | apply pw_below_drewN | apply below_drew1 | refine below_set ?_ GE114.out) | exact HB.out)))); (case aL => have := LMc16.out; omega); intro v116 w19 ho hb hg hat; rw [← Ny115.out] at ho; have n0_ := Aside0.mk (Kd.R_over' (by (with_reducible repeat (first | apply Kd.R_alloc | apply Kd.R_drewN | apply Kd.R_drew)); exact (Kd.R_mono (Kd.R_far (p := ⟨gb114, 4, none⟩) (Kd.R_far (p := ⟨gb114, 3, none⟩) (Kd.R_far (p := ⟨gb114, 2, none⟩) (Kd.R_far (p := ⟨gb114, 1, none⟩) (Kd.R_far (p := ⟨gb114, 0, none⟩) (Kd.R_mono HO_21.out (fun k_ hk => (⟨hk, hk.2⟩ : _ ∧ k_ ≠ gb114))) (fun _ hk => hk.2) (.string ((rd_T75 t110 x23_2).f0))) (fun _ hk => hk.2) (.int .i64 ((rd_T75 t110 x23_2).f1))) (fun _ hk => hk.2) (.int .i64 ((rd_T75 t110 x23_2).f2))) (fun _ hk => hk.2) (.int .i64 ((rd_T75 t110 x23_2).f3))) (fun _ hk => hk.2) (.string ((rd_T75 t110 x23_2).f4))) (fun _ h_ => h_.1))) (Kd.R_typed (by (with_reducible repeat (first | apply Kd.R_alloc | apply Kd.R_drewN | apply Kd.R_drew)); exact (Kd.R_mono (Kd.R_far (p := ⟨gb114, 4, none⟩) (Kd.R_far (p := ⟨gb114, 3, none⟩) (Kd.R_far (p := ⟨gb114, 2, none⟩) (Kd.R_far (p := ⟨gb114, 1, none⟩) (Kd.R_far (p := ⟨gb114, 0, none⟩) (Kd.R_types HO_6.out BK114.out (by decide)) (fun _ hk => hk.2) (.string ((rd_T75 t110 x23_2).f0))) (fun _ hk => hk.2) (.int .i64 ((rd_T75 t110 x23_2).f1))) (fun _ hk => hk.2) (.int .i64 ((rd_T75 t110 x23_2).f2))) (fun _ hk => hk.2) (.int .i64 ((rd_T75 t110 x23_2).f3))) (fun _ hk => hk.2) (.string ((rd_T75 t110 x23_2).f4))) (fun _ h_ => h_.1)))) (by decide) hg); have n1_ := Aside0.mk (blk_grown (g := gb114) (o := .cells #[.string ((rd_T75 t110 x23_2).f0), .int .i64 ((rd_T75 t110 x23_2).f1), .int .i64 ((rd_T75 t110 x23_2).f2), .int .i64 ((rd_T75 t110 x23_2).f3), .string ((rd_T75 t110 x23_2).f4)] 75 (0, 0)) (by (with_reducible repeat (first | refine blk_drewN ?_ _ | refine blk_drew ?_ | refine blk_alloc ?_ _)); refine blk_put (cs := #[.string ((rd_T75 t110 x23_2).f0), .int .i64 ((rd_T75 t110 x23_2).f1), .int .i64 ((rd_T75 t110 x23_2).f2), .int .i64 ((rd_T75 t110 x23_2).f3), .string (⟨#[]⟩ : ByteArray)]) ?_ 4 _ rfl; (with_reducible repeat (first | refine blk_drewN ?_ _ | refine blk_drew ?_ | refine blk_alloc ?_ _)); refine blk_put (cs := #[.string ((rd_T75 t110 x23_2).f0), .int .i64 ((rd_T75 t110 x23_2).f1), .int .i64 ((rd_T75 t110 x23_2).f2), .int .i64 0, .string (⟨#[]⟩ : ByteArray)]) ?_ 3 _ rfl; (with_reducible repeat (first | refine blk_drewN ?_ _ | refine blk_drew ?_ | refine blk_alloc ?_ _)); refine blk_put (cs := #[.string ((rd_T75 t110 x23_2).f0), .int .i64 ((rd_T75 t110 x23_2).f1), .int .i64 0, .int .i64 0, .string (⟨#[]⟩ : ByteArray)]) ?_ 2 _ rfl; (with_reducible repeat (first | refine blk_drewN ?_ _ | refine blk_drew ?_ | refine blk_alloc ?_ _)); refine blk_put (cs := #[.string ((rd_T75 t110 x23_2).f0), .int .i64 0, .int .i64 0, .int .i64 0, .string (⟨#[]⟩ : ByteArray)]) ?_ 1 _ rfl; (with_reducible repeat (first | refine blk_drewN ?_ _ | refine blk_drew ?_ | refine blk_alloc ?_ _)); refine blk_put (cs := #[.string (⟨#[]⟩ : ByteArray), .int .i64 0, .int .i64 0, .int .i64 0, .string (⟨#[]⟩ : ByteArray)]) ?_ 0 _ rfl; (with_reducible repeat (first | refine blk_drewN ?_ _ | refine blk_drew ?_ | refine blk_alloc ?_ _)); exact BK114.out) hg (Kd.R_ne HO_6.out BK114.out (by decide))); have n2_ := Aside0.mk (hb); have n3_ := Aside0.mk (ho); clear HO_21; clear BK114; clear HB; clear HO_6; have HO_21 := n0_; have BK114 := n1_; have HB := n2_; have HO117 := n3_; clear n0_ n1_ n2_ n3_; clear ho hb hg hat))
                    go_roundg k2
                    case measure => have := HK1.out; have := HK2.out; omega
                    case rel => exact ⟨(y115), (wrap64 (x23_2 + 1)), (by first | rfl | (simp; done) | (rw [prx_ne]; first | done | rfl) | (simp [*]; done)), H', ⟨by have := HK1.out; have := HK2.out; omega⟩, ⟨by (with_reducible repeat (first | apply Kd.R_alloc | apply Kd.R_drewN | apply Kd.R_drew)); exact HO117.out⟩, ⟨by (with_reducible repeat (first | apply Kd.R_alloc | apply Kd.R_drewN | apply Kd.R_drew)); exact Kd.R_mono HO_21.out (fun _ hk => trivial)⟩, ⟨by repeat (first | (with_reducible first | exact HB.out | apply below_alloc | apply pw_below_drewN | apply below_drew1 | refine below_set ?_ GE114.out) | exact HB.out)⟩⟩
                  · rw [if_neg c16] at H
                    exact absurd H (by simp)
                · rw [if_neg c15] at H
                  exact absurd H (by simp)
              · rw [if_neg c14] at H
                exact absurd H (by simp)
            · rw [if_neg c13] at H
              have c13b0 : decide (x23_2 < (t110.length : Int)) = false := decide_eq_false c13
              clear c13
              obtain rfl := Option.some.inj H
              go_wp2
              go_ret
              exact ⟨_, by first | rfl | (simp [errW_none, errW_some] <;> rfl) | (simp [*, errW_none, errW_some] <;> rfl), by (with_reducible repeat (first | apply Kd.R_alloc | apply Kd.R_drewN | apply Kd.R_drew)); exact HO_6.out, by repeat (first | (with_reducible first | exact HB.out | apply below_alloc | apply pw_below_drewN | apply below_drew1) | exact HB.out)⟩

end Go.Proofs.Ytkbmababljcabaa.QA
