/- Printed by wip/pr.py (a program of this repo over the print program of the kit). Not trusted: Lean checks it. -/
import Derived.Test.YtkbmababljcabaaQA0
namespace Go.Proofs.Ytkbmababljcabaa.QA
open Go.Proofs.Ytkbmababljcabaa.Given
open Go.Proofs.Ytkbmababljcabaa.PrX
open Go.RowKit Go.Proofs.YtkbmababljcabaaW.PrintWords Go.Proofs.YtkbmababljcabaaW.PrintLast Go.Proofs.YtkbmababljcabaaW.PrintMore
attribute [local go_sem] max2_int min2_int max_two min_two max_three min_three max_four min_four   -- for this text's walks alone
set_option linter.unusedVariables false
set_option linter.unusedSimpArgs false

/-! ### laws_given: function 28 -/
def laws_given.l0 : Nat → List Int → ByteArray → List (S47) → Int → Int → Option (ByteArray)
  | 0, _, _, _, _, _ => none
  | k + 1, x1, x5, x8, x9, x10 => if x10 < x9 then (if 0 ≤ x10 then (if x10 < (x8.length : Int) then (if 1 + ((rd_T47 x8 x10).f0).size ≤ 9223372036854775807 then (if ((⟨#[59]⟩ : ByteArray) ++ ((rd_T47 x8 x10).f0)).size + 1 ≤ 9223372036854775807 then (if x5.size + (((⟨#[59]⟩ : ByteArray) ++ ((rd_T47 x8 x10).f0)) ++ (⟨#[61]⟩ : ByteArray)).size ≤ 9223372036854775807 then (if x10 < (x1.length : Int) then (if (Int.tmod (rd x1 x10) 2) = 1 then (if 1 + ((rd_T47 x8 x10).f1).size ≤ 9223372036854775807 then (if ((⟨#[34]⟩ : ByteArray) ++ ((rd_T47 x8 x10).f1)).size + 1 ≤ 9223372036854775807 then (if (x5 ++ (((⟨#[59]⟩ : ByteArray) ++ ((rd_T47 x8 x10).f0)) ++ (⟨#[61]⟩ : ByteArray))).size + (((⟨#[34]⟩ : ByteArray) ++ ((rd_T47 x8 x10).f1)) ++ (⟨#[34]⟩ : ByteArray)).size ≤ 9223372036854775807 then (laws_given.l0 k x1 ((x5 ++ (((⟨#[59]⟩ : ByteArray) ++ ((rd_T47 x8 x10).f0)) ++ (⟨#[61]⟩ : ByteArray))) ++ (((⟨#[34]⟩ : ByteArray) ++ ((rd_T47 x8 x10).f1)) ++ (⟨#[34]⟩ : ByteArray))) x8 x9 (wrap64 (x10 + 1))) else (none)) else (none)) else (none)) else (if (x5 ++ (((⟨#[59]⟩ : ByteArray) ++ ((rd_T47 x8 x10).f0)) ++ (⟨#[61]⟩ : ByteArray))).size + ((rd_T47 x8 x10).f1).size ≤ 9223372036854775807 then (laws_given.l0 k x1 ((x5 ++ (((⟨#[59]⟩ : ByteArray) ++ ((rd_T47 x8 x10).f0)) ++ (⟨#[61]⟩ : ByteArray))) ++ ((rd_T47 x8 x10).f1)) x8 x9 (wrap64 (x10 + 1))) else (none))) else (if (x5 ++ (((⟨#[59]⟩ : ByteArray) ++ ((rd_T47 x8 x10).f0)) ++ (⟨#[61]⟩ : ByteArray))).size + ((rd_T47 x8 x10).f1).size ≤ 9223372036854775807 then (laws_given.l0 k x1 ((x5 ++ (((⟨#[59]⟩ : ByteArray) ++ ((rd_T47 x8 x10).f0)) ++ (⟨#[61]⟩ : ByteArray))) ++ ((rd_T47 x8 x10).f1)) x8 x9 (wrap64 (x10 + 1))) else (none))) else (none)) else (none)) else (none)) else (none)) else (none)) else (some x5)
def laws_given.f (k : Nat) (l0 : List (S47)) (l1 : List Int) : Option (ByteArray) := laws_given.l0 k l1 (⟨#[]⟩ : ByteArray) l0 (l0.length : Int) 0
theorem laws_given.mono_l : ∀ k, (∀ y0 y1 y2 y3 y4, LeO (laws_given.l0 k y0 y1 y2 y3 y4) (laws_given.l0 (k + 1) y0 y1 y2 y3 y4))
  | 0 => fun _ _ _ _ _ r h => by simp [laws_given.l0] at h
  | k + 1 => by
    have ih0 := laws_given.mono_l k
    · intro y0 y1 y2 y3 y4
      unfold laws_given.l0
      repeat' first
      | (with_reducible exact ih0 _ _ _ _ _)
      | (with_reducible exact LeO.refl _)
      | (with_reducible exact LeO.none _)
      | (with_reducible refine LeO.ite ?_ ?_)
      | (with_reducible refine LeO.bind ?_ (fun _ => ?_))
      | exact ih0 _ _ _ _ _
      | exact LeO.none _
      | refine LeO.ite ?_ ?_
      | refine LeO.bind ?_ (fun _ => ?_)
theorem laws_given.mono : ∀ a0 a1 k, LeO (laws_given.f k a0 a1) (laws_given.f (k + 1) a0 a1) := by
  intro a0 a1 k
  have ih0 := laws_given.mono_l k
  unfold laws_given.f
  repeat' first
      | (with_reducible exact ih0 _ _ _ _ _)
      | (with_reducible exact LeO.refl _)
      | (with_reducible exact LeO.none _)
      | (with_reducible refine LeO.ite ?_ ?_)
      | (with_reducible refine LeO.bind ?_ (fun _ => ?_))
      | exact ih0 _ _ _ _ _
      | exact LeO.none _
      | refine LeO.ite ?_ ?_
      | refine LeO.bind ?_ (fun _ => ?_)
set_option maxHeartbeats 8000000 in
set_option maxRecDepth 100000 in
theorem laws_given.calls (k : Nat) (A0 : Option Addr) (c0 : Nat) (l0 : List (S47)) (A1 : Option Addr) (c1 : Nat) (l1 : List Int) (r : ByteArray) (w : World) (hr0 : Kd.C k47 w A0 l0.length l0) (hc0 : l0.length ≤ c0) (hr1 : Kd.C (Kd.int .u8) w A1 l1.length l1) (hc1 : l1.length ≤ c1) (h : laws_given.f k l0 l1 = some r) :
    Calls Try.prog 28 #[.slice A0 l0.length c0, .slice A1 l1.length c1] w fun e w' => e = .returned (.string r) ∧ Below w.heap.size w w' := by
  have hu47 := Try.underlying47
  have HR0 := Aside0.mk hr0
  have HC0 := Aside0.mk hc0
  clear hr0 hc0
  have HR1 := Aside0.mk hr1
  have HC1 := Aside0.mk hc1
  clear hr1 hc1
  have HB := Aside0.mk (Below.refl w.heap.size w)
  have H : (laws_given.l0 k l1 (⟨#[]⟩ : ByteArray) l0 (l0.length : Int) 0) = some r := h
  clear h
  have H' := Aside0.mk H
  clear H
  go_enter Try.func28, Try.ntmps28
  go_wp2
  go_loopg [5, 10] k (fun kq v5 v10 w' => ∃ (x5_1 : ByteArray) (x10_1 : Int), v5 = .string x5_1 ∧ v10 = .int .i64 x10_1 ∧ Aside0 (laws_given.l0 kq l1 x5_1 l0 (l0.length : Int) x10_1 = some r) ∧ Aside0 (kq ≤ k) ∧ Aside0 (Below w.heap.size w w'))
  case atStart => exact ⟨((⟨#[]⟩ : ByteArray)), (0), (by first | rfl | (simp; done) | (rw [prx_ne]; first | done | rfl) | (simp [*]; done)), (by first | rfl | (simp; done) | (rw [prx_ne]; first | done | rfl) | (simp [*]; done)), H', ⟨Nat.le_refl _⟩, ⟨by repeat (first | (with_reducible first | exact HB.out | apply below_alloc | apply pw_below_drewN | apply below_drew1) | exact HB.out)⟩⟩
  case round =>
    clear H'
    try clear c1
    try clear c2
    try clear p2
    obtain ⟨x5_1, x10_1, rfl, rfl, HA, HK1, HB⟩ := hrel
    cases gk with
    | zero => exact absurd HA.out (by simp [laws_given.l0])
    | succ k1 =>
      have H := HA.out
      clear HA
      simp only [laws_given.l0] at H
      by_cases c3 : x10_1 < (l0.length : Int)
      · rw [if_pos c3] at H
        have c3b0 : decide (x10_1 < (l0.length : Int)) = true := decide_eq_true c3
        clear c3
        by_cases c4 : 0 ≤ x10_1
        · rw [if_pos c4] at H
          have c4b0 : decide (0 ≤ x10_1) = true := decide_eq_true c4
          clear c4
          by_cases c5 : x10_1 < (l0.length : Int)
          · rw [if_pos c5] at H
            have c5b0 : decide (x10_1 < (l0.length : Int)) = true := decide_eq_true c5
            clear c5
            by_cases c6 : 1 + ((rd_T47 l0 x10_1).f0).size ≤ 9223372036854775807
            · rw [if_pos c6] at H
              have c6b0 := eq_true c6
              have c6b1 : decide (1 + ((rd_T47 l0 x10_1).f0).size ≤ 9223372036854775807) = true := decide_eq_true c6
              try have c6b2 : (9223372036854775807 < 1 + ((rd_T47 l0 x10_1).f0).size) = False := eq_false (Nat.not_lt.2 c6)
              try (have c6b3 := c6; simp only [ByteArray.size_append, prx_sz, List.length_cons, List.length_nil] at c6b3)
              by_cases c7 : ((⟨#[59]⟩ : ByteArray) ++ ((rd_T47 l0 x10_1).f0)).size + 1 ≤ 9223372036854775807
              · rw [if_pos c7] at H
                have c7b0 := eq_true c7
                have c7b1 : decide (((⟨#[59]⟩ : ByteArray) ++ ((rd_T47 l0 x10_1).f0)).size + 1 ≤ 9223372036854775807) = true := decide_eq_true c7
                try have c7b2 : (9223372036854775807 < ((⟨#[59]⟩ : ByteArray) ++ ((rd_T47 l0 x10_1).f0)).size + 1) = False := eq_false (Nat.not_lt.2 c7)
                try (have c7b3 := c7; simp only [ByteArray.size_append, prx_sz, List.length_cons, List.length_nil] at c7b3)
                by_cases c8 : x5_1.size + (((⟨#[59]⟩ : ByteArray) ++ ((rd_T47 l0 x10_1).f0)) ++ (⟨#[61]⟩ : ByteArray)).size ≤ 9223372036854775807
                · rw [if_pos c8] at H
                  have c8b0 := eq_true c8
                  have c8b1 : decide (x5_1.size + (((⟨#[59]⟩ : ByteArray) ++ ((rd_T47 l0 x10_1).f0)) ++ (⟨#[61]⟩ : ByteArray)).size ≤ 9223372036854775807) = true := decide_eq_true c8
                  try have c8b2 : (9223372036854775807 < x5_1.size + (((⟨#[59]⟩ : ByteArray) ++ ((rd_T47 l0 x10_1).f0)) ++ (⟨#[61]⟩ : ByteArray)).size) = False := eq_false (Nat.not_lt.2 c8)
                  try (have c8b3 := c8; simp only [ByteArray.size_append, prx_sz, List.length_cons, List.length_nil] at c8b3)
                  by_cases c9 : x10_1 < (l1.length : Int)
                  · rw [if_pos c9] at H
                    have c9b0 : decide (x10_1 < (l1.length : Int)) = true := decide_eq_true c9
                    clear c9
                    by_cases c10 : (Int.tmod (rd l1 x10_1) 2) = 1
                    · rw [if_pos c10] at H
                      have c10b0 : ((Int.tmod (rd l1 x10_1) 2) == 1) = true := beq_iff_eq.mpr c10
                      have c10b1 : ((Int.tmod (rd l1 x10_1) 2) != 1) = false := bne_eq_false_iff_eq.mpr c10
                      clear c10
                      by_cases c11 : 1 + ((rd_T47 l0 x10_1).f1).size ≤ 9223372036854775807
                      · rw [if_pos c11] at H
                        have c11b0 := eq_true c11
                        have c11b1 : decide (1 + ((rd_T47 l0 x10_1).f1).size ≤ 9223372036854775807) = true := decide_eq_true c11
                        try have c11b2 : (9223372036854775807 < 1 + ((rd_T47 l0 x10_1).f1).size) = False := eq_false (Nat.not_lt.2 c11)
                        try (have c11b3 := c11; simp only [ByteArray.size_append, prx_sz, List.length_cons, List.length_nil] at c11b3)
                        by_cases c12 : ((⟨#[34]⟩ : ByteArray) ++ ((rd_T47 l0 x10_1).f1)).size + 1 ≤ 9223372036854775807
                        · rw [if_pos c12] at H
                          have c12b0 := eq_true c12
                          have c12b1 : decide (((⟨#[34]⟩ : ByteArray) ++ ((rd_T47 l0 x10_1).f1)).size + 1 ≤ 9223372036854775807) = true := decide_eq_true c12
                          try have c12b2 : (9223372036854775807 < ((⟨#[34]⟩ : ByteArray) ++ ((rd_T47 l0 x10_1).f1)).size + 1) = False := eq_false (Nat.not_lt.2 c12)
                          try (have c12b3 := c12; simp only [ByteArray.size_append, prx_sz, List.length_cons, List.length_nil] at c12b3)
                          by_cases c13 : (x5_1 ++ (((⟨#[59]⟩ : ByteArray) ++ ((rd_T47 l0 x10_1).f0)) ++ (⟨#[61]⟩ : ByteArray))).size + (((⟨#[34]⟩ : ByteArray) ++ ((rd_T47 l0 x10_1).f1)) ++ (⟨#[34]⟩ : ByteArray)).size ≤ 9223372036854775807
                          · rw [if_pos c13] at H
                            have c13b0 := eq_true c13
                            have c13b1 : decide ((x5_1 ++ (((⟨#[59]⟩ : ByteArray) ++ ((rd_T47 l0 x10_1).f0)) ++ (⟨#[61]⟩ : ByteArray))).size + (((⟨#[34]⟩ : ByteArray) ++ ((rd_T47 l0 x10_1).f1)) ++ (⟨#[34]⟩ : ByteArray)).size ≤ 9223372036854775807) = true := decide_eq_true c13
                            try have c13b2 : (9223372036854775807 < (x5_1 ++ (((⟨#[59]⟩ : ByteArray) ++ ((rd_T47 l0 x10_1).f0)) ++ (⟨#[61]⟩ : ByteArray))).size + (((⟨#[34]⟩ : ByteArray) ++ ((rd_T47 l0 x10_1).f1)) ++ (⟨#[34]⟩ : ByteArray)).size) = False := eq_false (Nat.not_lt.2 c13)
                            try (have c13b3 := c13; simp only [ByteArray.size_append, prx_sz, List.length_cons, List.length_nil] at c13b3)
                            have H' := Aside0.mk H
                            clear H
                            have p278 : 0 ≤ (x10_1 : Int) := of_decide_eq_true (by first | (with_reducible assumption) | assumption)
                            have q278 : x10_1 < (l0.length : Int) := of_decide_eq_true (by first | (with_reducible assumption) | assumption)
                            obtain ⟨ad278, e278, hx278_0, hx278_1⟩ := at_T47 HR0.out x10_1 p278 q278
                            cases e278
                            replace hx278_0 := (HB.out.cell (World.block_lt_of_cell? w _ hx278_0)).trans hx278_0
                            replace hx278_1 := (HB.out.cell (World.block_lt_of_cell? w _ hx278_1)).trans hx278_1
                            replace p278 := eq_true p278
                            replace q278 := eq_true q278
                            go_wp2_with (first | ((with_reducible refine gate_dst (N := 7) rfl ?_); refine box_event ?hg (N := 7) ?hd (cs := #[.string (⟨#[]⟩ : ByteArray), .string (⟨#[]⟩ : ByteArray)]) (t := 47) ?hr ?_; (case hd => rfl); (case hg => rfl); (case hr => first | (go_simp; done) | (go_simp; rfl)); intro gb279 hg w14 hbox hb; have n0_ := Aside0.mk (below_step (by repeat (first | (with_reducible first | exact HB.out | apply below_alloc | apply pw_below_drewN | apply below_drew1) | exact HB.out)) hb); have n1_ := Aside0.mk (hbox); have n2_ := Aside0.mk ((by rw [hg]; exact (below_size (by repeat (first | (with_reducible first | exact HB.out | apply below_alloc | apply pw_below_drewN | apply below_drew1) | exact HB.out))) : w.heap.size ≤ gb279)); have n3_ := Aside0.mk ((by rw [hg]; exact (below_size (by repeat (first | (with_reducible first | exact HB.out | apply below_alloc | apply pw_below_drewN | apply below_drew1) | exact HB.out))) : w.heap.size ≤ gb279)); clear HB; have HB := n0_; have BK279 := n1_; have GW279 := n2_; have GE279 := n3_; clear n0_ n1_ n2_ n3_; clear hb hbox hg; have hcz15_0 : w14.cell? ⟨gb279, 0, none⟩ = some (.string (⟨#[]⟩ : ByteArray)) := (blk_cell BK279.out 0).trans rfl; have hcz15_1 : w14.cell? ⟨gb279, 1, none⟩ = some (.string (⟨#[]⟩ : ByteArray)) := (blk_cell BK279.out 1).trans rfl; have hfz15_0 := blk_frozen BK279.out 0; have hfz15_1 := blk_frozen BK279.out 1; have p280 : 0 ≤ (x10_1 : Int) := of_decide_eq_true (by first | (with_reducible assumption) | assumption); have q280 : x10_1 < (l1.length : Int) := of_decide_eq_true (by first | (with_reducible assumption) | assumption); obtain ⟨ad280, e280, hx280_0⟩ := Kd.at_int HR1.out x10_1 p280 q280; cases e280; have hn280_0 : ad280.block ≠ gb279 := Nat.ne_of_lt (Nat.lt_of_lt_of_le (by have := World.block_lt_of_cell? _ _ hx280_0; first | rwa [add_block] at this | exact this) GW279.out); have hn280_1 : ad280.block ≠ gb279 := Nat.ne_of_lt (Nat.lt_of_lt_of_le (by have := World.block_lt_of_cell? _ _ hx280_0; first | rwa [add_block] at this | exact this) GW279.out); replace hx280_0 := (HB.out.cell (World.block_lt_of_cell? w _ hx280_0)).trans hx280_0; replace hx280_0 := (cell_far (p := ⟨gb279, 0, none⟩) (by first | (rw [add_block]; exact hn280_0) | (show (Addr.add _ _).block ≠ _; rw [add_block]; exact hn280_0) | exact hn280_0) (.string ((rd_T47 l0 x10_1).f0))).trans hx280_0; replace hx280_0 := (cell_far (p := ⟨gb279, 1, none⟩) (by first | (rw [add_block]; exact hn280_1) | (show (Addr.add _ _).block ≠ _; rw [add_block]; exact hn280_1) | exact hn280_1) (.string ((rd_T47 l0 x10_1).f1))).trans hx280_0; clear hn280_0; clear hn280_1; replace p280 := eq_true p280; replace q280 := eq_true q280))
                            go_roundg k1
                            case measure => have := HK1.out; omega
                            case rel => exact ⟨((x5_1 ++ (((⟨#[59]⟩ : ByteArray) ++ ((rd_T47 l0 x10_1).f0)) ++ (⟨#[61]⟩ : ByteArray))) ++ (((⟨#[34]⟩ : ByteArray) ++ ((rd_T47 l0 x10_1).f1)) ++ (⟨#[34]⟩ : ByteArray))), (wrap64 (x10_1 + 1)), (by first | rfl | (simp; done) | (rw [prx_ne]; first | done | rfl) | (simp [*]; done)), (by first | rfl | (simp; done) | (rw [prx_ne]; first | done | rfl) | (simp [*]; done)), H', ⟨by have := HK1.out; omega⟩, ⟨by repeat (first | (with_reducible first | exact HB.out | apply below_alloc | apply pw_below_drewN | apply below_drew1 | refine below_set ?_ GE279.out) | exact HB.out)⟩⟩
                          · rw [if_neg c13] at H
                            exact absurd H (by simp)
                        · rw [if_neg c12] at H
                          exact absurd H (by simp)
                      · rw [if_neg c11] at H
                        exact absurd H (by simp)
                    · rw [if_neg c10] at H
                      have c10b0 : ((Int.tmod (rd l1 x10_1) 2) == 1) = false := beq_eq_false_iff_ne.mpr c10
                      have c10b1 : ((Int.tmod (rd l1 x10_1) 2) != 1) = true := bne_iff_ne.mpr c10
                      by_cases c16 : (x5_1 ++ (((⟨#[59]⟩ : ByteArray) ++ ((rd_T47 l0 x10_1).f0)) ++ (⟨#[61]⟩ : ByteArray))).size + ((rd_T47 l0 x10_1).f1).size ≤ 9223372036854775807
                      · rw [if_pos c16] at H
                        have c16b0 := eq_true c16
                        have c16b1 : decide ((x5_1 ++ (((⟨#[59]⟩ : ByteArray) ++ ((rd_T47 l0 x10_1).f0)) ++ (⟨#[61]⟩ : ByteArray))).size + ((rd_T47 l0 x10_1).f1).size ≤ 9223372036854775807) = true := decide_eq_true c16
                        try have c16b2 : (9223372036854775807 < (x5_1 ++ (((⟨#[59]⟩ : ByteArray) ++ ((rd_T47 l0 x10_1).f0)) ++ (⟨#[61]⟩ : ByteArray))).size + ((rd_T47 l0 x10_1).f1).size) = False := eq_false (Nat.not_lt.2 c16)
                        try (have c16b3 := c16; simp only [ByteArray.size_append, prx_sz, List.length_cons, List.length_nil] at c16b3)
                        have H' := Aside0.mk H
                        clear H
                        have p278 : 0 ≤ (x10_1 : Int) := of_decide_eq_true (by first | (with_reducible assumption) | assumption)
                        have q278 : x10_1 < (l0.length : Int) := of_decide_eq_true (by first | (with_reducible assumption) | assumption)
                        obtain ⟨ad278, e278, hx278_0, hx278_1⟩ := at_T47 HR0.out x10_1 p278 q278
                        cases e278
                        replace hx278_0 := (HB.out.cell (World.block_lt_of_cell? w _ hx278_0)).trans hx278_0
                        replace hx278_1 := (HB.out.cell (World.block_lt_of_cell? w _ hx278_1)).trans hx278_1
                        replace p278 := eq_true p278
                        replace q278 := eq_true q278
                        go_wp2_with (first | ((with_reducible refine gate_dst (N := 7) rfl ?_); refine box_event ?hg (N := 7) ?hd (cs := #[.string (⟨#[]⟩ : ByteArray), .string (⟨#[]⟩ : ByteArray)]) (t := 47) ?hr ?_; (case hd => rfl); (case hg => rfl); (case hr => first | (go_simp; done) | (go_simp; rfl)); intro gb279 hg w17 hbox hb; have n0_ := Aside0.mk (below_step (by repeat (first | (with_reducible first | exact HB.out | apply below_alloc | apply pw_below_drewN | apply below_drew1) | exact HB.out)) hb); have n1_ := Aside0.mk (hbox); have n2_ := Aside0.mk ((by rw [hg]; exact (below_size (by repeat (first | (with_reducible first | exact HB.out | apply below_alloc | apply pw_below_drewN | apply below_drew1) | exact HB.out))) : w.heap.size ≤ gb279)); have n3_ := Aside0.mk ((by rw [hg]; exact (below_size (by repeat (first | (with_reducible first | exact HB.out | apply below_alloc | apply pw_below_drewN | apply below_drew1) | exact HB.out))) : w.heap.size ≤ gb279)); clear HB; have HB := n0_; have BK279 := n1_; have GW279 := n2_; have GE279 := n3_; clear n0_ n1_ n2_ n3_; clear hb hbox hg; have hcz18_0 : w17.cell? ⟨gb279, 0, none⟩ = some (.string (⟨#[]⟩ : ByteArray)) := (blk_cell BK279.out 0).trans rfl; have hcz18_1 : w17.cell? ⟨gb279, 1, none⟩ = some (.string (⟨#[]⟩ : ByteArray)) := (blk_cell BK279.out 1).trans rfl; have hfz18_0 := blk_frozen BK279.out 0; have hfz18_1 := blk_frozen BK279.out 1; have p280 : 0 ≤ (x10_1 : Int) := of_decide_eq_true (by first | (with_reducible assumption) | assumption); have q280 : x10_1 < (l1.length : Int) := of_decide_eq_true (by first | (with_reducible assumption) | assumption); obtain ⟨ad280, e280, hx280_0⟩ := Kd.at_int HR1.out x10_1 p280 q280; cases e280; have hn280_0 : ad280.block ≠ gb279 := Nat.ne_of_lt (Nat.lt_of_lt_of_le (by have := World.block_lt_of_cell? _ _ hx280_0; first | rwa [add_block] at this | exact this) GW279.out); have hn280_1 : ad280.block ≠ gb279 := Nat.ne_of_lt (Nat.lt_of_lt_of_le (by have := World.block_lt_of_cell? _ _ hx280_0; first | rwa [add_block] at this | exact this) GW279.out); replace hx280_0 := (HB.out.cell (World.block_lt_of_cell? w _ hx280_0)).trans hx280_0; replace hx280_0 := (cell_far (p := ⟨gb279, 0, none⟩) (by first | (rw [add_block]; exact hn280_0) | (show (Addr.add _ _).block ≠ _; rw [add_block]; exact hn280_0) | exact hn280_0) (.string ((rd_T47 l0 x10_1).f0))).trans hx280_0; replace hx280_0 := (cell_far (p := ⟨gb279, 1, none⟩) (by first | (rw [add_block]; exact hn280_1) | (show (Addr.add _ _).block ≠ _; rw [add_block]; exact hn280_1) | exact hn280_1) (.string ((rd_T47 l0 x10_1).f1))).trans hx280_0; clear hn280_0; clear hn280_1; replace p280 := eq_true p280; replace q280 := eq_true q280))
                        go_roundg k1
                        case measure => have := HK1.out; omega
                        case rel => exact ⟨((x5_1 ++ (((⟨#[59]⟩ : ByteArray) ++ ((rd_T47 l0 x10_1).f0)) ++ (⟨#[61]⟩ : ByteArray))) ++ ((rd_T47 l0 x10_1).f1)), (wrap64 (x10_1 + 1)), (by first | rfl | (simp; done) | (rw [prx_ne]; first | done | rfl) | (simp [*]; done)), (by first | rfl | (simp; done) | (rw [prx_ne]; first | done | rfl) | (simp [*]; done)), H', ⟨by have := HK1.out; omega⟩, ⟨by repeat (first | (with_reducible first | exact HB.out | apply below_alloc | apply pw_below_drewN | apply below_drew1 | refine below_set ?_ GE279.out) | exact HB.out)⟩⟩
                      · rw [if_neg c16] at H
                        exact absurd H (by simp)
                  · rw [if_neg c9] at H
                    have c9b0 : decide (x10_1 < (l1.length : Int)) = false := decide_eq_false c9
                    clear c9
                    by_cases c19 : (x5_1 ++ (((⟨#[59]⟩ : ByteArray) ++ ((rd_T47 l0 x10_1).f0)) ++ (⟨#[61]⟩ : ByteArray))).size + ((rd_T47 l0 x10_1).f1).size ≤ 9223372036854775807
                    · rw [if_pos c19] at H
                      have c19b0 := eq_true c19
                      have c19b1 : decide ((x5_1 ++ (((⟨#[59]⟩ : ByteArray) ++ ((rd_T47 l0 x10_1).f0)) ++ (⟨#[61]⟩ : ByteArray))).size + ((rd_T47 l0 x10_1).f1).size ≤ 9223372036854775807) = true := decide_eq_true c19
                      try have c19b2 : (9223372036854775807 < (x5_1 ++ (((⟨#[59]⟩ : ByteArray) ++ ((rd_T47 l0 x10_1).f0)) ++ (⟨#[61]⟩ : ByteArray))).size + ((rd_T47 l0 x10_1).f1).size) = False := eq_false (Nat.not_lt.2 c19)
                      try (have c19b3 := c19; simp only [ByteArray.size_append, prx_sz, List.length_cons, List.length_nil] at c19b3)
                      have H' := Aside0.mk H
                      clear H
                      have p278 : 0 ≤ (x10_1 : Int) := of_decide_eq_true (by first | (with_reducible assumption) | assumption)
                      have q278 : x10_1 < (l0.length : Int) := of_decide_eq_true (by first | (with_reducible assumption) | assumption)
                      obtain ⟨ad278, e278, hx278_0, hx278_1⟩ := at_T47 HR0.out x10_1 p278 q278
                      cases e278
                      replace hx278_0 := (HB.out.cell (World.block_lt_of_cell? w _ hx278_0)).trans hx278_0
                      replace hx278_1 := (HB.out.cell (World.block_lt_of_cell? w _ hx278_1)).trans hx278_1
                      replace p278 := eq_true p278
                      replace q278 := eq_true q278
                      go_wp2_with (first | ((with_reducible refine gate_dst (N := 7) rfl ?_); refine box_event ?hg (N := 7) ?hd (cs := #[.string (⟨#[]⟩ : ByteArray), .string (⟨#[]⟩ : ByteArray)]) (t := 47) ?hr ?_; (case hd => rfl); (case hg => rfl); (case hr => first | (go_simp; done) | (go_simp; rfl)); intro gb279 hg w20 hbox hb; have n0_ := Aside0.mk (below_step (by repeat (first | (with_reducible first | exact HB.out | apply below_alloc | apply pw_below_drewN | apply below_drew1) | exact HB.out)) hb); have n1_ := Aside0.mk (hbox); have n2_ := Aside0.mk ((by rw [hg]; exact (below_size (by repeat (first | (with_reducible first | exact HB.out | apply below_alloc | apply pw_below_drewN | apply below_drew1) | exact HB.out))) : w.heap.size ≤ gb279)); have n3_ := Aside0.mk ((by rw [hg]; exact (below_size (by repeat (first | (with_reducible first | exact HB.out | apply below_alloc | apply pw_below_drewN | apply below_drew1) | exact HB.out))) : w.heap.size ≤ gb279)); clear HB; have HB := n0_; have BK279 := n1_; have GW279 := n2_; have GE279 := n3_; clear n0_ n1_ n2_ n3_; clear hb hbox hg; have hcz21_0 : w20.cell? ⟨gb279, 0, none⟩ = some (.string (⟨#[]⟩ : ByteArray)) := (blk_cell BK279.out 0).trans rfl; have hcz21_1 : w20.cell? ⟨gb279, 1, none⟩ = some (.string (⟨#[]⟩ : ByteArray)) := (blk_cell BK279.out 1).trans rfl; have hfz21_0 := blk_frozen BK279.out 0; have hfz21_1 := blk_frozen BK279.out 1))
                      go_roundg k1
                      case measure => have := HK1.out; omega
                      case rel => exact ⟨((x5_1 ++ (((⟨#[59]⟩ : ByteArray) ++ ((rd_T47 l0 x10_1).f0)) ++ (⟨#[61]⟩ : ByteArray))) ++ ((rd_T47 l0 x10_1).f1)), (wrap64 (x10_1 + 1)), (by first | rfl | (simp; done) | (rw [prx_ne]; first | done | rfl) | (simp [*]; done)), (by first | rfl | (simp; done) | (rw [prx_ne]; first | done | rfl) | (simp [*]; done)), H', ⟨by have := HK1.out; omega⟩, ⟨by repeat (first | (with_reducible first | exact HB.out | apply below_alloc | apply pw_below_drewN | apply below_drew1 | refine below_set ?_ GE279.out) | exact HB.out)⟩⟩
                    · rw [if_neg c19] at H
                      exact absurd H (by simp)
                · rw [if_neg c8] at H
                  exact absurd H (by simp)
              · rw [if_neg c7] at H
                exact absurd H (by simp)
            · rw [if_neg c6] at H
              exact absurd H (by simp)
          · rw [if_neg c5] at H
            exact absurd H (by simp)
        · rw [if_neg c4] at H
          exact absurd H (by simp)
      · rw [if_neg c3] at H
        have c3b0 : decide (x10_1 < (l0.length : Int)) = false := decide_eq_false c3
        clear c3
        obtain rfl := Option.some.inj H
        go_wp2
        go_ret
        exact ⟨by first | rfl | (simp [errW_none, errW_some] <;> rfl) | (simp [*, errW_none, errW_some] <;> rfl), by repeat (first | (with_reducible first | exact HB.out | apply below_alloc | apply pw_below_drewN | apply below_drew1) | exact HB.out)⟩

end Go.Proofs.Ytkbmababljcabaa.QA
