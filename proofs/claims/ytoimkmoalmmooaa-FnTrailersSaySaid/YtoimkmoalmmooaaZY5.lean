/- Texts of this claim, one behind the other (merged by wip/prune.py of this repo, without what the proof does not use): QA21, QA8, QA2, QA14, QA22. -/
import Derived.Test.YtoimkmoalmmooaaZY4
set_option linter.unusedVariables false
set_option linter.unusedSimpArgs false
namespace Go.Proofs.Ytoimkmoalmmooaa.QA
open Go.Proofs.Ytoimkmoalmmooaa.Given
open Go.Proofs.Ytoimkmoalmmooaa.PrX
open Go.RowKit Go.Proofs.YtoimkmoalmmooaaW.PrintWords Go.Proofs.YtoimkmoalmmooaaW.PrintLast Go.Proofs.YtoimkmoalmmooaaW.PrintMore
def laws_calm.l0 : Nat → List (S28) → List (S28) → Int → Int → Option (Bool)
  | 0, _, _, _, _ => none
  | k + 1, x0, x5, x6, x7 => if x7 < x6 then (if 0 ≤ x7 then (if x7 < (x5.length : Int) then (if ((rd_T28 x5 x7).f0) < 0 then (some false) else (if ((rd_T28 x5 x7).f0) > 33 then (some false) else ((laws_printed.f k ((rd_T28 x5 x7).f1)).bind fun t371 => (if t371 = true then ((laws_printed.f k ((rd_T28 x5 x7).f2)).bind fun t372 => (if t372 = true then (if (((rd_T28 x5 x7).f1).size : Int) > 100 then (some false) else (if (((rd_T28 x5 x7).f2).size : Int) > 200 then (some false) else (if ((rd_T28 x5 x7).f3) < (-10) then (some false) else (if ((rd_T28 x5 x7).f3) > 1073741824 then (some false) else (if ((rd_T28 x5 x7).f4) < (-10) then (some false) else (if ((rd_T28 x5 x7).f4) > 1073741824 then (some false) else (laws_calm.l0 k x0 x5 x6 (wrap64 (x7 + 1))))))))) else (some false))) else (some false))))) else (none)) else (none)) else (some (decide ((x0.length : Int) ≤ 40)))
def laws_calm.f (k : Nat) (l0 : List (S28)) : Option (Bool) := laws_calm.l0 k l0 l0 (l0.length : Int) 0
set_option maxHeartbeats 8000000 in
set_option maxRecDepth 100000 in
theorem laws_calm.calls (k : Nat) (A0 : Option Addr) (c0 : Nat) (l0 : List (S28)) (r : Bool) (w : World) (hr0 : Kd.C k28 w A0 l0.length l0) (hc0 : l0.length ≤ c0) (h : laws_calm.f k l0 = some r) :
  Calls Try.prog 19 #[.slice A0 l0.length c0] w fun e w' => e = .returned (.bool r) ∧ Below w.heap.size w w' := by
 have hu28 := Try.underlying28
 have HR0 := Aside0.mk hr0
 have HC0 := Aside0.mk hc0
 clear hr0 hc0
 have HB := Aside0.mk (Below.refl w.heap.size w)
 have H : (laws_calm.l0 k l0 l0 (l0.length : Int) 0) = some r := h
 clear h
 have H' := Aside0.mk H
 clear H
 go_enter Try.func19, Try.ntmps19
 go_wp2
 go_loopg [7] k (fun kq v7 w' => ∃ (x7_1 : Int), v7 = .int .i64 x7_1 ∧ Aside0 (laws_calm.l0 kq l0 l0 (l0.length : Int) x7_1 = some r) ∧ Aside0 (kq ≤ k) ∧ Aside0 (Below w.heap.size w w'))
 case atStart => exact ⟨(0), (by first | rfl | (simp; done) | (rw [prx_ne]; first | done | rfl) | (simp [*]; done)), H', ⟨Nat.le_refl _⟩, ⟨by repeat (first | (with_reducible first | exact HB.out | apply below_alloc | apply pw_below_drewN | apply below_drew1) | exact HB.out)⟩⟩
 case round =>
  clear H'
  try clear c1
  obtain ⟨x7_1, rfl, HA, HK1, HB⟩ := hrel
  cases gk with
  | zero => exact absurd HA.out (by simp [laws_calm.l0])
  | succ k1 =>
   have H := HA.out
   clear HA
   simp only [laws_calm.l0] at H
   by_cases c2 : x7_1 < (l0.length : Int)
   ·rw [if_pos c2] at H
    have c2b0 : decide (x7_1 < (l0.length : Int)) = true := decide_eq_true c2
    clear c2
    by_cases c3 : 0 ≤ x7_1
    ·rw [if_pos c3] at H
     have c3b0 : decide (0 ≤ x7_1) = true := decide_eq_true c3
     clear c3
     by_cases c4 : x7_1 < (l0.length : Int)
     ·rw [if_pos c4] at H
      have c4b0 : decide (x7_1 < (l0.length : Int)) = true := decide_eq_true c4
      clear c4
      by_cases c5 : ((rd_T28 l0 x7_1).f0) < 0
      ·rw [if_pos c5] at H
       have c5b0 : decide (((rd_T28 l0 x7_1).f0) < 0) = true := decide_eq_true c5
       clear c5
       obtain rfl := Option.some.inj H
       have p369 : 0 ≤ (x7_1 : Int) := of_decide_eq_true (by first | (with_reducible assumption) | assumption)
       have q369 : x7_1 < (l0.length : Int) := of_decide_eq_true (by first | (with_reducible assumption) | assumption)
       obtain ⟨ad369, e369, hx369_0, hx369_1, hx369_2, hx369_3, hx369_4⟩ := at_T28 HR0.out x7_1 p369 q369
       cases e369
       replace hx369_0 := (HB.out.cell (World.block_lt_of_cell? w _ hx369_0)).trans hx369_0
       replace hx369_1 := (HB.out.cell (World.block_lt_of_cell? w _ hx369_1)).trans hx369_1
       replace hx369_2 := (HB.out.cell (World.block_lt_of_cell? w _ hx369_2)).trans hx369_2
       replace hx369_3 := (HB.out.cell (World.block_lt_of_cell? w _ hx369_3)).trans hx369_3
       replace hx369_4 := (HB.out.cell (World.block_lt_of_cell? w _ hx369_4)).trans hx369_4
       replace p369 := eq_true p369
       replace q369 := eq_true q369
       go_wp2_with (first | ((with_reducible refine gate_dst (N := 4) rfl ?_); (try (refine gate_guard (by rfl) ?_; dsimp only)); refine box_event ?hg (N := 4) ?hd (cs := #[.int .i64 0, .string (⟨#[]⟩ : ByteArray), .string (⟨#[]⟩ : ByteArray), .int .i64 0, .int .i64 0]) (t := 28) ?hr ?_; (case hd => rfl); (case hg => rfl); (case hr => first | (go_simp; done) | (go_simp; rfl)); intro gb370 hg w6 hbox hb; have n0_ := Aside0.mk (below_step (by repeat (first | (with_reducible first | exact HB.out | apply below_alloc | apply pw_below_drewN | apply below_drew1) | exact HB.out)) hb); have n1_ := Aside0.mk (hbox); have n2_ := Aside0.mk ((by rw [hg]; exact (below_size (by repeat (first | (with_reducible first | exact HB.out | apply below_alloc | apply pw_below_drewN | apply below_drew1) | exact HB.out))) : w.heap.size ≤ gb370)); have n3_ := Aside0.mk ((by rw [hg]; exact (below_size (by repeat (first | (with_reducible first | exact HB.out | apply below_alloc | apply pw_below_drewN | apply below_drew1) | exact HB.out))) : w.heap.size ≤ gb370)); clear HB; have HB := n0_; have BK370 := n1_; have GW370 := n2_; have GE370 := n3_; clear n0_ n1_ n2_ n3_; clear hb hbox hg; have hcz7_0 : w6.cell? ⟨gb370, 0, none⟩ = some (.int .i64 0) := (blk_cell BK370.out 0).trans rfl; have hcz7_1 : w6.cell? ⟨gb370, 1, none⟩ = some (.string (⟨#[]⟩ : ByteArray)) := (blk_cell BK370.out 1).trans rfl; have hcz7_2 : w6.cell? ⟨gb370, 2, none⟩ = some (.string (⟨#[]⟩ : ByteArray)) := (blk_cell BK370.out 2).trans rfl; have hcz7_3 : w6.cell? ⟨gb370, 3, none⟩ = some (.int .i64 0) := (blk_cell BK370.out 3).trans rfl; have hcz7_4 : w6.cell? ⟨gb370, 4, none⟩ = some (.int .i64 0) := (blk_cell BK370.out 4).trans rfl; have hfz7_0 := blk_frozen BK370.out 0; have hfz7_1 := blk_frozen BK370.out 1; have hfz7_2 := blk_frozen BK370.out 2; have hfz7_3 := blk_frozen BK370.out 3; have hfz7_4 := blk_frozen BK370.out 4))
       go_ret
       exact ⟨by first | rfl | (simp [errW_none, errW_some] <;> rfl) | (simp [*, errW_none, errW_some] <;> rfl), by repeat (first | (with_reducible first | exact HB.out | apply below_alloc | apply pw_below_drewN | apply below_drew1 | refine below_set ?_ GE370.out) | exact HB.out)⟩
      ·rw [if_neg c5] at H
       have c5b0 : decide (((rd_T28 l0 x7_1).f0) < 0) = false := decide_eq_false c5
       clear c5
       by_cases c8 : ((rd_T28 l0 x7_1).f0) > 33
       ·rw [if_pos c8] at H
        have c8b0 : decide (33 < ((rd_T28 l0 x7_1).f0)) = true := decide_eq_true c8
        clear c8
        obtain rfl := Option.some.inj H
        have p369 : 0 ≤ (x7_1 : Int) := of_decide_eq_true (by first | (with_reducible assumption) | assumption)
        have q369 : x7_1 < (l0.length : Int) := of_decide_eq_true (by first | (with_reducible assumption) | assumption)
        obtain ⟨ad369, e369, hx369_0, hx369_1, hx369_2, hx369_3, hx369_4⟩ := at_T28 HR0.out x7_1 p369 q369
        cases e369
        replace hx369_0 := (HB.out.cell (World.block_lt_of_cell? w _ hx369_0)).trans hx369_0
        replace hx369_1 := (HB.out.cell (World.block_lt_of_cell? w _ hx369_1)).trans hx369_1
        replace hx369_2 := (HB.out.cell (World.block_lt_of_cell? w _ hx369_2)).trans hx369_2
        replace hx369_3 := (HB.out.cell (World.block_lt_of_cell? w _ hx369_3)).trans hx369_3
        replace hx369_4 := (HB.out.cell (World.block_lt_of_cell? w _ hx369_4)).trans hx369_4
        replace p369 := eq_true p369
        replace q369 := eq_true q369
        go_wp2_with (first | ((with_reducible refine gate_dst (N := 4) rfl ?_); (try (refine gate_guard (by rfl) ?_; dsimp only)); refine box_event ?hg (N := 4) ?hd (cs := #[.int .i64 0, .string (⟨#[]⟩ : ByteArray), .string (⟨#[]⟩ : ByteArray), .int .i64 0, .int .i64 0]) (t := 28) ?hr ?_; (case hd => rfl); (case hg => rfl); (case hr => first | (go_simp; done) | (go_simp; rfl)); intro gb370 hg w9 hbox hb; have n0_ := Aside0.mk (below_step (by repeat (first | (with_reducible first | exact HB.out | apply below_alloc | apply pw_below_drewN | apply below_drew1) | exact HB.out)) hb); have n1_ := Aside0.mk (hbox); have n2_ := Aside0.mk ((by rw [hg]; exact (below_size (by repeat (first | (with_reducible first | exact HB.out | apply below_alloc | apply pw_below_drewN | apply below_drew1) | exact HB.out))) : w.heap.size ≤ gb370)); have n3_ := Aside0.mk ((by rw [hg]; exact (below_size (by repeat (first | (with_reducible first | exact HB.out | apply below_alloc | apply pw_below_drewN | apply below_drew1) | exact HB.out))) : w.heap.size ≤ gb370)); clear HB; have HB := n0_; have BK370 := n1_; have GW370 := n2_; have GE370 := n3_; clear n0_ n1_ n2_ n3_; clear hb hbox hg; have hcz10_0 : w9.cell? ⟨gb370, 0, none⟩ = some (.int .i64 0) := (blk_cell BK370.out 0).trans rfl; have hcz10_1 : w9.cell? ⟨gb370, 1, none⟩ = some (.string (⟨#[]⟩ : ByteArray)) := (blk_cell BK370.out 1).trans rfl; have hcz10_2 : w9.cell? ⟨gb370, 2, none⟩ = some (.string (⟨#[]⟩ : ByteArray)) := (blk_cell BK370.out 2).trans rfl; have hcz10_3 : w9.cell? ⟨gb370, 3, none⟩ = some (.int .i64 0) := (blk_cell BK370.out 3).trans rfl; have hcz10_4 : w9.cell? ⟨gb370, 4, none⟩ = some (.int .i64 0) := (blk_cell BK370.out 4).trans rfl; have hfz10_0 := blk_frozen BK370.out 0; have hfz10_1 := blk_frozen BK370.out 1; have hfz10_2 := blk_frozen BK370.out 2; have hfz10_3 := blk_frozen BK370.out 3; have hfz10_4 := blk_frozen BK370.out 4))
        go_ret
        exact ⟨by first | rfl | (simp [errW_none, errW_some] <;> rfl) | (simp [*, errW_none, errW_some] <;> rfl), by repeat (first | (with_reducible first | exact HB.out | apply below_alloc | apply pw_below_drewN | apply below_drew1 | refine below_set ?_ GE370.out) | exact HB.out)⟩
       ·rw [if_neg c8] at H
        have c8b0 : decide (33 < ((rd_T28 l0 x7_1).f0)) = false := decide_eq_false c8
        clear c8
        replace H := Option.bind_eq_some_iff.mp H
        obtain ⟨t371, A110, H⟩ := H
        replace H : (if t371 = true then ((laws_printed.f k1 ((rd_T28 l0 x7_1).f2)).bind fun t372 => (if t372 = true then (if (((rd_T28 l0 x7_1).f1).size : Int) > 100 then (some false) else (if (((rd_T28 l0 x7_1).f2).size : Int) > 200 then (some false) else (if ((rd_T28 l0 x7_1).f3) < (-10) then (some false) else (if ((rd_T28 l0 x7_1).f3) > 1073741824 then (some false) else (if ((rd_T28 l0 x7_1).f4) < (-10) then (some false) else (if ((rd_T28 l0 x7_1).f4) > 1073741824 then (some false) else (laws_calm.l0 k1 l0 l0 (l0.length : Int) (wrap64 (x7_1 + 1))))))))) else (some false))) else (some false)) = some r := H
        have A11 := Aside0.mk A110
        clear A110
        by_cases c12 : t371 = true
        ·subst c12
         have H1 : ((laws_printed.f k1 ((rd_T28 l0 x7_1).f2)).bind fun t372 => (if t372 = true then (if (((rd_T28 l0 x7_1).f1).size : Int) > 100 then (some false) else (if (((rd_T28 l0 x7_1).f2).size : Int) > 200 then (some false) else (if ((rd_T28 l0 x7_1).f3) < (-10) then (some false) else (if ((rd_T28 l0 x7_1).f3) > 1073741824 then (some false) else (if ((rd_T28 l0 x7_1).f4) < (-10) then (some false) else (if ((rd_T28 l0 x7_1).f4) > 1073741824 then (some false) else (laws_calm.l0 k1 l0 l0 (l0.length : Int) (wrap64 (x7_1 + 1))))))))) else (some false))) = some r := by rw [if_pos rfl] at H; exact H
         clear H
         have H := H1
         clear H1
         replace H := Option.bind_eq_some_iff.mp H
         obtain ⟨t372, A130, H⟩ := H
         replace H : (if t372 = true then (if (((rd_T28 l0 x7_1).f1).size : Int) > 100 then (some false) else (if (((rd_T28 l0 x7_1).f2).size : Int) > 200 then (some false) else (if ((rd_T28 l0 x7_1).f3) < (-10) then (some false) else (if ((rd_T28 l0 x7_1).f3) > 1073741824 then (some false) else (if ((rd_T28 l0 x7_1).f4) < (-10) then (some false) else (if ((rd_T28 l0 x7_1).f4) > 1073741824 then (some false) else (laws_calm.l0 k1 l0 l0 (l0.length : Int) (wrap64 (x7_1 + 1))))))))) else (some false)) = some r := H
         have A13 := Aside0.mk A130
         clear A130
         by_cases c14 : t372 = true
         ·subst c14
          have H1 : (if (((rd_T28 l0 x7_1).f1).size : Int) > 100 then (some false) else (if (((rd_T28 l0 x7_1).f2).size : Int) > 200 then (some false) else (if ((rd_T28 l0 x7_1).f3) < (-10) then (some false) else (if ((rd_T28 l0 x7_1).f3) > 1073741824 then (some false) else (if ((rd_T28 l0 x7_1).f4) < (-10) then (some false) else (if ((rd_T28 l0 x7_1).f4) > 1073741824 then (some false) else (laws_calm.l0 k1 l0 l0 (l0.length : Int) (wrap64 (x7_1 + 1))))))))) = some r := by rw [if_pos rfl] at H; exact H
          clear H
          have H := H1
          clear H1
          by_cases c15 : (((rd_T28 l0 x7_1).f1).size : Int) > 100
          ·rw [if_pos c15] at H
           have c15b0 : decide (100 < (((rd_T28 l0 x7_1).f1).size : Int)) = true := decide_eq_true c15
           have c15b1 : decide (100 < ((rd_T28 l0 x7_1).f1).size) = true := decide_eq_true (by omega)
           clear c15
           obtain rfl := Option.some.inj H
           have p369 : 0 ≤ (x7_1 : Int) := of_decide_eq_true (by first | (with_reducible assumption) | assumption)
           have q369 : x7_1 < (l0.length : Int) := of_decide_eq_true (by first | (with_reducible assumption) | assumption)
           obtain ⟨ad369, e369, hx369_0, hx369_1, hx369_2, hx369_3, hx369_4⟩ := at_T28 HR0.out x7_1 p369 q369
           cases e369
           replace hx369_0 := (HB.out.cell (World.block_lt_of_cell? w _ hx369_0)).trans hx369_0
           replace hx369_1 := (HB.out.cell (World.block_lt_of_cell? w _ hx369_1)).trans hx369_1
           replace hx369_2 := (HB.out.cell (World.block_lt_of_cell? w _ hx369_2)).trans hx369_2
           replace hx369_3 := (HB.out.cell (World.block_lt_of_cell? w _ hx369_3)).trans hx369_3
           replace hx369_4 := (HB.out.cell (World.block_lt_of_cell? w _ hx369_4)).trans hx369_4
           replace p369 := eq_true p369
           replace q369 := eq_true q369
           go_wp2_with (first | ((with_reducible refine gate_dst (N := 4) rfl ?_); (try (refine gate_guard (by rfl) ?_; dsimp only)); refine box_event ?hg (N := 4) ?hd (cs := #[.int .i64 0, .string (⟨#[]⟩ : ByteArray), .string (⟨#[]⟩ : ByteArray), .int .i64 0, .int .i64 0]) (t := 28) ?hr ?_; (case hd => rfl); (case hg => rfl); (case hr => first | (go_simp; done) | (go_simp; rfl)); intro gb370 hg w16 hbox hb; have n0_ := Aside0.mk (below_step (by repeat (first | (with_reducible first | exact HB.out | apply below_alloc | apply pw_below_drewN | apply below_drew1) | exact HB.out)) hb); have n1_ := Aside0.mk (hbox); have n2_ := Aside0.mk ((by rw [hg]; exact (below_size (by repeat (first | (with_reducible first | exact HB.out | apply below_alloc | apply pw_below_drewN | apply below_drew1) | exact HB.out))) : w.heap.size ≤ gb370)); have n3_ := Aside0.mk ((by rw [hg]; exact (below_size (by repeat (first | (with_reducible first | exact HB.out | apply below_alloc | apply pw_below_drewN | apply below_drew1) | exact HB.out))) : w.heap.size ≤ gb370)); clear HB; have HB := n0_; have BK370 := n1_; have GW370 := n2_; have GE370 := n3_; clear n0_ n1_ n2_ n3_; clear hb hbox hg; have hcz17_0 : w16.cell? ⟨gb370, 0, none⟩ = some (.int .i64 0) := (blk_cell BK370.out 0).trans rfl; have hcz17_1 : w16.cell? ⟨gb370, 1, none⟩ = some (.string (⟨#[]⟩ : ByteArray)) := (blk_cell BK370.out 1).trans rfl; have hcz17_2 : w16.cell? ⟨gb370, 2, none⟩ = some (.string (⟨#[]⟩ : ByteArray)) := (blk_cell BK370.out 2).trans rfl; have hcz17_3 : w16.cell? ⟨gb370, 3, none⟩ = some (.int .i64 0) := (blk_cell BK370.out 3).trans rfl; have hcz17_4 : w16.cell? ⟨gb370, 4, none⟩ = some (.int .i64 0) := (blk_cell BK370.out 4).trans rfl; have hfz17_0 := blk_frozen BK370.out 0; have hfz17_1 := blk_frozen BK370.out 1; have hfz17_2 := blk_frozen BK370.out 2; have hfz17_3 := blk_frozen BK370.out 3; have hfz17_4 := blk_frozen BK370.out 4) | (go_at_call 21; (with_reducible refine (laws_printed.calls k1 ((rd_T28 l0 x7_1).f1) true _ A11.out).mono ?_); rintro e w' ⟨rfl, ⟨nd, rfl⟩⟩) | (go_at_call 21; (with_reducible refine (laws_printed.calls k1 ((rd_T28 l0 x7_1).f2) true _ A13.out).mono ?_); rintro e w' ⟨rfl, ⟨nd, rfl⟩⟩))
           go_ret
           exact ⟨by first | rfl | (simp [errW_none, errW_some] <;> rfl) | (simp [*, errW_none, errW_some] <;> rfl), by repeat (first | (with_reducible first | exact HB.out | apply below_alloc | apply pw_below_drewN | apply below_drew1 | refine below_set ?_ GE370.out) | exact HB.out)⟩
          ·rw [if_neg c15] at H
           have c15b0 : decide (100 < (((rd_T28 l0 x7_1).f1).size : Int)) = false := decide_eq_false c15
           have c15b1 : decide (100 < ((rd_T28 l0 x7_1).f1).size) = false := decide_eq_false (by omega)
           clear c15
           by_cases c18 : (((rd_T28 l0 x7_1).f2).size : Int) > 200
           ·rw [if_pos c18] at H
            have c18b0 : decide (200 < (((rd_T28 l0 x7_1).f2).size : Int)) = true := decide_eq_true c18
            have c18b1 : decide (200 < ((rd_T28 l0 x7_1).f2).size) = true := decide_eq_true (by omega)
            clear c18
            obtain rfl := Option.some.inj H
            have p369 : 0 ≤ (x7_1 : Int) := of_decide_eq_true (by first | (with_reducible assumption) | assumption)
            have q369 : x7_1 < (l0.length : Int) := of_decide_eq_true (by first | (with_reducible assumption) | assumption)
            obtain ⟨ad369, e369, hx369_0, hx369_1, hx369_2, hx369_3, hx369_4⟩ := at_T28 HR0.out x7_1 p369 q369
            cases e369
            replace hx369_0 := (HB.out.cell (World.block_lt_of_cell? w _ hx369_0)).trans hx369_0
            replace hx369_1 := (HB.out.cell (World.block_lt_of_cell? w _ hx369_1)).trans hx369_1
            replace hx369_2 := (HB.out.cell (World.block_lt_of_cell? w _ hx369_2)).trans hx369_2
            replace hx369_3 := (HB.out.cell (World.block_lt_of_cell? w _ hx369_3)).trans hx369_3
            replace hx369_4 := (HB.out.cell (World.block_lt_of_cell? w _ hx369_4)).trans hx369_4
            replace p369 := eq_true p369
            replace q369 := eq_true q369
            go_wp2_with (first | ((with_reducible refine gate_dst (N := 4) rfl ?_); (try (refine gate_guard (by rfl) ?_; dsimp only)); refine box_event ?hg (N := 4) ?hd (cs := #[.int .i64 0, .string (⟨#[]⟩ : ByteArray), .string (⟨#[]⟩ : ByteArray), .int .i64 0, .int .i64 0]) (t := 28) ?hr ?_; (case hd => rfl); (case hg => rfl); (case hr => first | (go_simp; done) | (go_simp; rfl)); intro gb370 hg w19 hbox hb; have n0_ := Aside0.mk (below_step (by repeat (first | (with_reducible first | exact HB.out | apply below_alloc | apply pw_below_drewN | apply below_drew1) | exact HB.out)) hb); have n1_ := Aside0.mk (hbox); have n2_ := Aside0.mk ((by rw [hg]; exact (below_size (by repeat (first | (with_reducible first | exact HB.out | apply below_alloc | apply pw_below_drewN | apply below_drew1) | exact HB.out))) : w.heap.size ≤ gb370)); have n3_ := Aside0.mk ((by rw [hg]; exact (below_size (by repeat (first | (with_reducible first | exact HB.out | apply below_alloc | apply pw_below_drewN | apply below_drew1) | exact HB.out))) : w.heap.size ≤ gb370)); clear HB; have HB := n0_; have BK370 := n1_; have GW370 := n2_; have GE370 := n3_; clear n0_ n1_ n2_ n3_; clear hb hbox hg; have hcz20_0 : w19.cell? ⟨gb370, 0, none⟩ = some (.int .i64 0) := (blk_cell BK370.out 0).trans rfl; have hcz20_1 : w19.cell? ⟨gb370, 1, none⟩ = some (.string (⟨#[]⟩ : ByteArray)) := (blk_cell BK370.out 1).trans rfl; have hcz20_2 : w19.cell? ⟨gb370, 2, none⟩ = some (.string (⟨#[]⟩ : ByteArray)) := (blk_cell BK370.out 2).trans rfl; have hcz20_3 : w19.cell? ⟨gb370, 3, none⟩ = some (.int .i64 0) := (blk_cell BK370.out 3).trans rfl; have hcz20_4 : w19.cell? ⟨gb370, 4, none⟩ = some (.int .i64 0) := (blk_cell BK370.out 4).trans rfl; have hfz20_0 := blk_frozen BK370.out 0; have hfz20_1 := blk_frozen BK370.out 1; have hfz20_2 := blk_frozen BK370.out 2; have hfz20_3 := blk_frozen BK370.out 3; have hfz20_4 := blk_frozen BK370.out 4) | (go_at_call 21; (with_reducible refine (laws_printed.calls k1 ((rd_T28 l0 x7_1).f1) true _ A11.out).mono ?_); rintro e w' ⟨rfl, ⟨nd, rfl⟩⟩) | (go_at_call 21; (with_reducible refine (laws_printed.calls k1 ((rd_T28 l0 x7_1).f2) true _ A13.out).mono ?_); rintro e w' ⟨rfl, ⟨nd, rfl⟩⟩))
            go_ret
            exact ⟨by first | rfl | (simp [errW_none, errW_some] <;> rfl) | (simp [*, errW_none, errW_some] <;> rfl), by repeat (first | (with_reducible first | exact HB.out | apply below_alloc | apply pw_below_drewN | apply below_drew1 | refine below_set ?_ GE370.out) | exact HB.out)⟩
           ·rw [if_neg c18] at H
            have c18b0 : decide (200 < (((rd_T28 l0 x7_1).f2).size : Int)) = false := decide_eq_false c18
            have c18b1 : decide (200 < ((rd_T28 l0 x7_1).f2).size) = false := decide_eq_false (by omega)
            clear c18
            by_cases c21 : ((rd_T28 l0 x7_1).f3) < (-10)
            ·rw [if_pos c21] at H
             have c21b0 : decide (((rd_T28 l0 x7_1).f3) < (-10)) = true := decide_eq_true c21
             clear c21
             obtain rfl := Option.some.inj H
             have p369 : 0 ≤ (x7_1 : Int) := of_decide_eq_true (by first | (with_reducible assumption) | assumption)
             have q369 : x7_1 < (l0.length : Int) := of_decide_eq_true (by first | (with_reducible assumption) | assumption)
             obtain ⟨ad369, e369, hx369_0, hx369_1, hx369_2, hx369_3, hx369_4⟩ := at_T28 HR0.out x7_1 p369 q369
             cases e369
             replace hx369_0 := (HB.out.cell (World.block_lt_of_cell? w _ hx369_0)).trans hx369_0
             replace hx369_1 := (HB.out.cell (World.block_lt_of_cell? w _ hx369_1)).trans hx369_1
             replace hx369_2 := (HB.out.cell (World.block_lt_of_cell? w _ hx369_2)).trans hx369_2
             replace hx369_3 := (HB.out.cell (World.block_lt_of_cell? w _ hx369_3)).trans hx369_3
             replace hx369_4 := (HB.out.cell (World.block_lt_of_cell? w _ hx369_4)).trans hx369_4
             replace p369 := eq_true p369
             replace q369 := eq_true q369
             go_wp2_with (first | ((with_reducible refine gate_dst (N := 4) rfl ?_); (try (refine gate_guard (by rfl) ?_; dsimp only)); refine box_event ?hg (N := 4) ?hd (cs := #[.int .i64 0, .string (⟨#[]⟩ : ByteArray), .string (⟨#[]⟩ : ByteArray), .int .i64 0, .int .i64 0]) (t := 28) ?hr ?_; (case hd => rfl); (case hg => rfl); (case hr => first | (go_simp; done) | (go_simp; rfl)); intro gb370 hg w22 hbox hb; have n0_ := Aside0.mk (below_step (by repeat (first | (with_reducible first | exact HB.out | apply below_alloc | apply pw_below_drewN | apply below_drew1) | exact HB.out)) hb); have n1_ := Aside0.mk (hbox); have n2_ := Aside0.mk ((by rw [hg]; exact (below_size (by repeat (first | (with_reducible first | exact HB.out | apply below_alloc | apply pw_below_drewN | apply below_drew1) | exact HB.out))) : w.heap.size ≤ gb370)); have n3_ := Aside0.mk ((by rw [hg]; exact (below_size (by repeat (first | (with_reducible first | exact HB.out | apply below_alloc | apply pw_below_drewN | apply below_drew1) | exact HB.out))) : w.heap.size ≤ gb370)); clear HB; have HB := n0_; have BK370 := n1_; have GW370 := n2_; have GE370 := n3_; clear n0_ n1_ n2_ n3_; clear hb hbox hg; have hcz23_0 : w22.cell? ⟨gb370, 0, none⟩ = some (.int .i64 0) := (blk_cell BK370.out 0).trans rfl; have hcz23_1 : w22.cell? ⟨gb370, 1, none⟩ = some (.string (⟨#[]⟩ : ByteArray)) := (blk_cell BK370.out 1).trans rfl; have hcz23_2 : w22.cell? ⟨gb370, 2, none⟩ = some (.string (⟨#[]⟩ : ByteArray)) := (blk_cell BK370.out 2).trans rfl; have hcz23_3 : w22.cell? ⟨gb370, 3, none⟩ = some (.int .i64 0) := (blk_cell BK370.out 3).trans rfl; have hcz23_4 : w22.cell? ⟨gb370, 4, none⟩ = some (.int .i64 0) := (blk_cell BK370.out 4).trans rfl; have hfz23_0 := blk_frozen BK370.out 0; have hfz23_1 := blk_frozen BK370.out 1; have hfz23_2 := blk_frozen BK370.out 2; have hfz23_3 := blk_frozen BK370.out 3; have hfz23_4 := blk_frozen BK370.out 4) | (go_at_call 21; (with_reducible refine (laws_printed.calls k1 ((rd_T28 l0 x7_1).f1) true _ A11.out).mono ?_); rintro e w' ⟨rfl, ⟨nd, rfl⟩⟩) | (go_at_call 21; (with_reducible refine (laws_printed.calls k1 ((rd_T28 l0 x7_1).f2) true _ A13.out).mono ?_); rintro e w' ⟨rfl, ⟨nd, rfl⟩⟩))
             go_ret
             exact ⟨by first | rfl | (simp [errW_none, errW_some] <;> rfl) | (simp [*, errW_none, errW_some] <;> rfl), by repeat (first | (with_reducible first | exact HB.out | apply below_alloc | apply pw_below_drewN | apply below_drew1 | refine below_set ?_ GE370.out) | exact HB.out)⟩
            ·rw [if_neg c21] at H
             have c21b0 : decide (((rd_T28 l0 x7_1).f3) < (-10)) = false := decide_eq_false c21
             clear c21
             by_cases c24 : ((rd_T28 l0 x7_1).f3) > 1073741824
             ·rw [if_pos c24] at H
              have c24b0 : decide (1073741824 < ((rd_T28 l0 x7_1).f3)) = true := decide_eq_true c24
              clear c24
              obtain rfl := Option.some.inj H
              have p369 : 0 ≤ (x7_1 : Int) := of_decide_eq_true (by first | (with_reducible assumption) | assumption)
              have q369 : x7_1 < (l0.length : Int) := of_decide_eq_true (by first | (with_reducible assumption) | assumption)
              obtain ⟨ad369, e369, hx369_0, hx369_1, hx369_2, hx369_3, hx369_4⟩ := at_T28 HR0.out x7_1 p369 q369
              cases e369
              replace hx369_0 := (HB.out.cell (World.block_lt_of_cell? w _ hx369_0)).trans hx369_0
              replace hx369_1 := (HB.out.cell (World.block_lt_of_cell? w _ hx369_1)).trans hx369_1
              replace hx369_2 := (HB.out.cell (World.block_lt_of_cell? w _ hx369_2)).trans hx369_2
              replace hx369_3 := (HB.out.cell (World.block_lt_of_cell? w _ hx369_3)).trans hx369_3
              replace hx369_4 := (HB.out.cell (World.block_lt_of_cell? w _ hx369_4)).trans hx369_4
              replace p369 := eq_true p369
              replace q369 := eq_true q369
              go_wp2_with (first | ((with_reducible refine gate_dst (N := 4) rfl ?_); (try (refine gate_guard (by rfl) ?_; dsimp only)); refine box_event ?hg (N := 4) ?hd (cs := #[.int .i64 0, .string (⟨#[]⟩ : ByteArray), .string (⟨#[]⟩ : ByteArray), .int .i64 0, .int .i64 0]) (t := 28) ?hr ?_; (case hd => rfl); (case hg => rfl); (case hr => first | (go_simp; done) | (go_simp; rfl)); intro gb370 hg w25 hbox hb; have n0_ := Aside0.mk (below_step (by repeat (first | (with_reducible first | exact HB.out | apply below_alloc | apply pw_below_drewN | apply below_drew1) | exact HB.out)) hb); have n1_ := Aside0.mk (hbox); have n2_ := Aside0.mk ((by rw [hg]; exact (below_size (by repeat (first | (with_reducible first | exact HB.out | apply below_alloc | apply pw_below_drewN | apply below_drew1) | exact HB.out))) : w.heap.size ≤ gb370)); have n3_ := Aside0.mk ((by rw [hg]; exact (below_size (by repeat (first | (with_reducible first | exact HB.out | apply below_alloc | apply pw_below_drewN | apply below_drew1) | exact HB.out))) : w.heap.size ≤ gb370)); clear HB; have HB := n0_; have BK370 := n1_; have GW370 := n2_; have GE370 := n3_; clear n0_ n1_ n2_ n3_; clear hb hbox hg; have hcz26_0 : w25.cell? ⟨gb370, 0, none⟩ = some (.int .i64 0) := (blk_cell BK370.out 0).trans rfl; have hcz26_1 : w25.cell? ⟨gb370, 1, none⟩ = some (.string (⟨#[]⟩ : ByteArray)) := (blk_cell BK370.out 1).trans rfl; have hcz26_2 : w25.cell? ⟨gb370, 2, none⟩ = some (.string (⟨#[]⟩ : ByteArray)) := (blk_cell BK370.out 2).trans rfl; have hcz26_3 : w25.cell? ⟨gb370, 3, none⟩ = some (.int .i64 0) := (blk_cell BK370.out 3).trans rfl; have hcz26_4 : w25.cell? ⟨gb370, 4, none⟩ = some (.int .i64 0) := (blk_cell BK370.out 4).trans rfl; have hfz26_0 := blk_frozen BK370.out 0; have hfz26_1 := blk_frozen BK370.out 1; have hfz26_2 := blk_frozen BK370.out 2; have hfz26_3 := blk_frozen BK370.out 3; have hfz26_4 := blk_frozen BK370.out 4) | (go_at_call 21; (with_reducible refine (laws_printed.calls k1 ((rd_T28 l0 x7_1).f1) true _ A11.out).mono ?_); rintro e w' ⟨rfl, ⟨nd, rfl⟩⟩) | (go_at_call 21; (with_reducible refine (laws_printed.calls k1 ((rd_T28 l0 x7_1).f2) true _ A13.out).mono ?_); rintro e w' ⟨rfl, ⟨nd, rfl⟩⟩))
              go_ret
              exact ⟨by first | rfl | (simp [errW_none, errW_some] <;> rfl) | (simp [*, errW_none, errW_some] <;> rfl), by repeat (first | (with_reducible first | exact HB.out | apply below_alloc | apply pw_below_drewN | apply below_drew1 | refine below_set ?_ GE370.out) | exact HB.out)⟩
             ·rw [if_neg c24] at H
              have c24b0 : decide (1073741824 < ((rd_T28 l0 x7_1).f3)) = false := decide_eq_false c24
              clear c24
              by_cases c27 : ((rd_T28 l0 x7_1).f4) < (-10)
              ·rw [if_pos c27] at H
               have c27b0 : decide (((rd_T28 l0 x7_1).f4) < (-10)) = true := decide_eq_true c27
               clear c27
               obtain rfl := Option.some.inj H
               have p369 : 0 ≤ (x7_1 : Int) := of_decide_eq_true (by first | (with_reducible assumption) | assumption)
               have q369 : x7_1 < (l0.length : Int) := of_decide_eq_true (by first | (with_reducible assumption) | assumption)
               obtain ⟨ad369, e369, hx369_0, hx369_1, hx369_2, hx369_3, hx369_4⟩ := at_T28 HR0.out x7_1 p369 q369
               cases e369
               replace hx369_0 := (HB.out.cell (World.block_lt_of_cell? w _ hx369_0)).trans hx369_0
               replace hx369_1 := (HB.out.cell (World.block_lt_of_cell? w _ hx369_1)).trans hx369_1
               replace hx369_2 := (HB.out.cell (World.block_lt_of_cell? w _ hx369_2)).trans hx369_2
               replace hx369_3 := (HB.out.cell (World.block_lt_of_cell? w _ hx369_3)).trans hx369_3
               replace hx369_4 := (HB.out.cell (World.block_lt_of_cell? w _ hx369_4)).trans hx369_4
               replace p369 := eq_true p369
               replace q369 := eq_true q369
               go_wp2_with (first | ((with_reducible refine gate_dst (N := 4) rfl ?_); (try (refine gate_guard (by rfl) ?_; dsimp only)); refine box_event ?hg (N := 4) ?hd (cs := #[.int .i64 0, .string (⟨#[]⟩ : ByteArray), .string (⟨#[]⟩ : ByteArray), .int .i64 0, .int .i64 0]) (t := 28) ?hr ?_; (case hd => rfl); (case hg => rfl); (case hr => first | (go_simp; done) | (go_simp; rfl)); intro gb370 hg w28 hbox hb; have n0_ := Aside0.mk (below_step (by repeat (first | (with_reducible first | exact HB.out | apply below_alloc | apply pw_below_drewN | apply below_drew1) | exact HB.out)) hb); have n1_ := Aside0.mk (hbox); have n2_ := Aside0.mk ((by rw [hg]; exact (below_size (by repeat (first | (with_reducible first | exact HB.out | apply below_alloc | apply pw_below_drewN | apply below_drew1) | exact HB.out))) : w.heap.size ≤ gb370)); have n3_ := Aside0.mk ((by rw [hg]; exact (below_size (by repeat (first | (with_reducible first | exact HB.out | apply below_alloc | apply pw_below_drewN | apply below_drew1) | exact HB.out))) : w.heap.size ≤ gb370)); clear HB; have HB := n0_; have BK370 := n1_; have GW370 := n2_; have GE370 := n3_; clear n0_ n1_ n2_ n3_; clear hb hbox hg; have hcz29_0 : w28.cell? ⟨gb370, 0, none⟩ = some (.int .i64 0) := (blk_cell BK370.out 0).trans rfl; have hcz29_1 : w28.cell? ⟨gb370, 1, none⟩ = some (.string (⟨#[]⟩ : ByteArray)) := (blk_cell BK370.out 1).trans rfl; have hcz29_2 : w28.cell? ⟨gb370, 2, none⟩ = some (.string (⟨#[]⟩ : ByteArray)) := (blk_cell BK370.out 2).trans rfl; have hcz29_3 : w28.cell? ⟨gb370, 3, none⟩ = some (.int .i64 0) := (blk_cell BK370.out 3).trans rfl; have hcz29_4 : w28.cell? ⟨gb370, 4, none⟩ = some (.int .i64 0) := (blk_cell BK370.out 4).trans rfl; have hfz29_0 := blk_frozen BK370.out 0; have hfz29_1 := blk_frozen BK370.out 1; have hfz29_2 := blk_frozen BK370.out 2; have hfz29_3 := blk_frozen BK370.out 3; have hfz29_4 := blk_frozen BK370.out 4) | (go_at_call 21; (with_reducible refine (laws_printed.calls k1 ((rd_T28 l0 x7_1).f1) true _ A11.out).mono ?_); rintro e w' ⟨rfl, ⟨nd, rfl⟩⟩) | (go_at_call 21; (with_reducible refine (laws_printed.calls k1 ((rd_T28 l0 x7_1).f2) true _ A13.out).mono ?_); rintro e w' ⟨rfl, ⟨nd, rfl⟩⟩))
               go_ret
               exact ⟨by first | rfl | (simp [errW_none, errW_some] <;> rfl) | (simp [*, errW_none, errW_some] <;> rfl), by repeat (first | (with_reducible first | exact HB.out | apply below_alloc | apply pw_below_drewN | apply below_drew1 | refine below_set ?_ GE370.out) | exact HB.out)⟩
              ·rw [if_neg c27] at H
               have c27b0 : decide (((rd_T28 l0 x7_1).f4) < (-10)) = false := decide_eq_false c27
               clear c27
               by_cases c30 : ((rd_T28 l0 x7_1).f4) > 1073741824
               ·rw [if_pos c30] at H
                have c30b0 : decide (1073741824 < ((rd_T28 l0 x7_1).f4)) = true := decide_eq_true c30
                clear c30
                obtain rfl := Option.some.inj H
                have p369 : 0 ≤ (x7_1 : Int) := of_decide_eq_true (by first | (with_reducible assumption) | assumption)
                have q369 : x7_1 < (l0.length : Int) := of_decide_eq_true (by first | (with_reducible assumption) | assumption)
                obtain ⟨ad369, e369, hx369_0, hx369_1, hx369_2, hx369_3, hx369_4⟩ := at_T28 HR0.out x7_1 p369 q369
                cases e369
                replace hx369_0 := (HB.out.cell (World.block_lt_of_cell? w _ hx369_0)).trans hx369_0
                replace hx369_1 := (HB.out.cell (World.block_lt_of_cell? w _ hx369_1)).trans hx369_1
                replace hx369_2 := (HB.out.cell (World.block_lt_of_cell? w _ hx369_2)).trans hx369_2
                replace hx369_3 := (HB.out.cell (World.block_lt_of_cell? w _ hx369_3)).trans hx369_3
                replace hx369_4 := (HB.out.cell (World.block_lt_of_cell? w _ hx369_4)).trans hx369_4
                replace p369 := eq_true p369
                replace q369 := eq_true q369
                go_wp2_with (first | ((with_reducible refine gate_dst (N := 4) rfl ?_); (try (refine gate_guard (by rfl) ?_; dsimp only)); refine box_event ?hg (N := 4) ?hd (cs := #[.int .i64 0, .string (⟨#[]⟩ : ByteArray), .string (⟨#[]⟩ : ByteArray), .int .i64 0, .int .i64 0]) (t := 28) ?hr ?_; (case hd => rfl); (case hg => rfl); (case hr => first | (go_simp; done) | (go_simp; rfl)); intro gb370 hg w31 hbox hb; have n0_ := Aside0.mk (below_step (by repeat (first | (with_reducible first | exact HB.out | apply below_alloc | apply pw_below_drewN | apply below_drew1) | exact HB.out)) hb); have n1_ := Aside0.mk (hbox); have n2_ := Aside0.mk ((by rw [hg]; exact (below_size (by repeat (first | (with_reducible first | exact HB.out | apply below_alloc | apply pw_below_drewN | apply below_drew1) | exact HB.out))) : w.heap.size ≤ gb370)); have n3_ := Aside0.mk ((by rw [hg]; exact (below_size (by repeat (first | (with_reducible first | exact HB.out | apply below_alloc | apply pw_below_drewN | apply below_drew1) | exact HB.out))) : w.heap.size ≤ gb370)); clear HB; have HB := n0_; have BK370 := n1_; have GW370 := n2_; have GE370 := n3_; clear n0_ n1_ n2_ n3_; clear hb hbox hg; have hcz32_0 : w31.cell? ⟨gb370, 0, none⟩ = some (.int .i64 0) := (blk_cell BK370.out 0).trans rfl; have hcz32_1 : w31.cell? ⟨gb370, 1, none⟩ = some (.string (⟨#[]⟩ : ByteArray)) := (blk_cell BK370.out 1).trans rfl; have hcz32_2 : w31.cell? ⟨gb370, 2, none⟩ = some (.string (⟨#[]⟩ : ByteArray)) := (blk_cell BK370.out 2).trans rfl; have hcz32_3 : w31.cell? ⟨gb370, 3, none⟩ = some (.int .i64 0) := (blk_cell BK370.out 3).trans rfl; have hcz32_4 : w31.cell? ⟨gb370, 4, none⟩ = some (.int .i64 0) := (blk_cell BK370.out 4).trans rfl; have hfz32_0 := blk_frozen BK370.out 0; have hfz32_1 := blk_frozen BK370.out 1; have hfz32_2 := blk_frozen BK370.out 2; have hfz32_3 := blk_frozen BK370.out 3; have hfz32_4 := blk_frozen BK370.out 4) | (go_at_call 21; (with_reducible refine (laws_printed.calls k1 ((rd_T28 l0 x7_1).f1) true _ A11.out).mono ?_); rintro e w' ⟨rfl, ⟨nd, rfl⟩⟩) | (go_at_call 21; (with_reducible refine (laws_printed.calls k1 ((rd_T28 l0 x7_1).f2) true _ A13.out).mono ?_); rintro e w' ⟨rfl, ⟨nd, rfl⟩⟩))
                go_ret
                exact ⟨by first | rfl | (simp [errW_none, errW_some] <;> rfl) | (simp [*, errW_none, errW_some] <;> rfl), by repeat (first | (with_reducible first | exact HB.out | apply below_alloc | apply pw_below_drewN | apply below_drew1 | refine below_set ?_ GE370.out) | exact HB.out)⟩
               ·rw [if_neg c30] at H
                have c30b0 : decide (1073741824 < ((rd_T28 l0 x7_1).f4)) = false := decide_eq_false c30
                clear c30
                have H' := Aside0.mk H
                clear H
                have p369 : 0 ≤ (x7_1 : Int) := of_decide_eq_true (by first | (with_reducible assumption) | assumption)
                have q369 : x7_1 < (l0.length : Int) := of_decide_eq_true (by first | (with_reducible assumption) | assumption)
                obtain ⟨ad369, e369, hx369_0, hx369_1, hx369_2, hx369_3, hx369_4⟩ := at_T28 HR0.out x7_1 p369 q369
                cases e369
                replace hx369_0 := (HB.out.cell (World.block_lt_of_cell? w _ hx369_0)).trans hx369_0
                replace hx369_1 := (HB.out.cell (World.block_lt_of_cell? w _ hx369_1)).trans hx369_1
                replace hx369_2 := (HB.out.cell (World.block_lt_of_cell? w _ hx369_2)).trans hx369_2
                replace hx369_3 := (HB.out.cell (World.block_lt_of_cell? w _ hx369_3)).trans hx369_3
                replace hx369_4 := (HB.out.cell (World.block_lt_of_cell? w _ hx369_4)).trans hx369_4
                replace p369 := eq_true p369
                replace q369 := eq_true q369
                go_wp2_with (first | ((with_reducible refine gate_dst (N := 4) rfl ?_); (try (refine gate_guard (by rfl) ?_; dsimp only)); refine box_event ?hg (N := 4) ?hd (cs := #[.int .i64 0, .string (⟨#[]⟩ : ByteArray), .string (⟨#[]⟩ : ByteArray), .int .i64 0, .int .i64 0]) (t := 28) ?hr ?_; (case hd => rfl); (case hg => rfl); (case hr => first | (go_simp; done) | (go_simp; rfl)); intro gb370 hg w33 hbox hb; have n0_ := Aside0.mk (below_step (by repeat (first | (with_reducible first | exact HB.out | apply below_alloc | apply pw_below_drewN | apply below_drew1) | exact HB.out)) hb); have n1_ := Aside0.mk (hbox); have n2_ := Aside0.mk ((by rw [hg]; exact (below_size (by repeat (first | (with_reducible first | exact HB.out | apply below_alloc | apply pw_below_drewN | apply below_drew1) | exact HB.out))) : w.heap.size ≤ gb370)); have n3_ := Aside0.mk ((by rw [hg]; exact (below_size (by repeat (first | (with_reducible first | exact HB.out | apply below_alloc | apply pw_below_drewN | apply below_drew1) | exact HB.out))) : w.heap.size ≤ gb370)); clear HB; have HB := n0_; have BK370 := n1_; have GW370 := n2_; have GE370 := n3_; clear n0_ n1_ n2_ n3_; clear hb hbox hg; have hcz34_0 : w33.cell? ⟨gb370, 0, none⟩ = some (.int .i64 0) := (blk_cell BK370.out 0).trans rfl; have hcz34_1 : w33.cell? ⟨gb370, 1, none⟩ = some (.string (⟨#[]⟩ : ByteArray)) := (blk_cell BK370.out 1).trans rfl; have hcz34_2 : w33.cell? ⟨gb370, 2, none⟩ = some (.string (⟨#[]⟩ : ByteArray)) := (blk_cell BK370.out 2).trans rfl; have hcz34_3 : w33.cell? ⟨gb370, 3, none⟩ = some (.int .i64 0) := (blk_cell BK370.out 3).trans rfl; have hcz34_4 : w33.cell? ⟨gb370, 4, none⟩ = some (.int .i64 0) := (blk_cell BK370.out 4).trans rfl; have hfz34_0 := blk_frozen BK370.out 0; have hfz34_1 := blk_frozen BK370.out 1; have hfz34_2 := blk_frozen BK370.out 2; have hfz34_3 := blk_frozen BK370.out 3; have hfz34_4 := blk_frozen BK370.out 4) | (go_at_call 21; (with_reducible refine (laws_printed.calls k1 ((rd_T28 l0 x7_1).f1) true _ A11.out).mono ?_); rintro e w' ⟨rfl, ⟨nd, rfl⟩⟩) | (go_at_call 21; (with_reducible refine (laws_printed.calls k1 ((rd_T28 l0 x7_1).f2) true _ A13.out).mono ?_); rintro e w' ⟨rfl, ⟨nd, rfl⟩⟩))
                go_roundg k1
                case measure => have := HK1.out; omega
                case rel => exact ⟨(wrap64 (x7_1 + 1)), (by first | rfl | (simp; done) | (rw [prx_ne]; first | done | rfl) | (simp [*]; done)), H', ⟨by have := HK1.out; omega⟩, ⟨by repeat (first | (with_reducible first | exact HB.out | apply below_alloc | apply pw_below_drewN | apply below_drew1 | refine below_set ?_ GE370.out) | exact HB.out)⟩⟩
         ·replace c14 := Bool.eq_false_iff.mpr c14
          subst c14
          have H1 : (some false) = some r := by rw [if_neg (show ¬ (false = true) by decide)] at H; exact H
          clear H
          have H := H1
          clear H1
          obtain rfl := Option.some.inj H
          have p369 : 0 ≤ (x7_1 : Int) := of_decide_eq_true (by first | (with_reducible assumption) | assumption)
          have q369 : x7_1 < (l0.length : Int) := of_decide_eq_true (by first | (with_reducible assumption) | assumption)
          obtain ⟨ad369, e369, hx369_0, hx369_1, hx369_2, hx369_3, hx369_4⟩ := at_T28 HR0.out x7_1 p369 q369
          cases e369
          replace hx369_0 := (HB.out.cell (World.block_lt_of_cell? w _ hx369_0)).trans hx369_0
          replace hx369_1 := (HB.out.cell (World.block_lt_of_cell? w _ hx369_1)).trans hx369_1
          replace hx369_2 := (HB.out.cell (World.block_lt_of_cell? w _ hx369_2)).trans hx369_2
          replace hx369_3 := (HB.out.cell (World.block_lt_of_cell? w _ hx369_3)).trans hx369_3
          replace hx369_4 := (HB.out.cell (World.block_lt_of_cell? w _ hx369_4)).trans hx369_4
          replace p369 := eq_true p369
          replace q369 := eq_true q369
          go_wp2_with (first | ((with_reducible refine gate_dst (N := 4) rfl ?_); (try (refine gate_guard (by rfl) ?_; dsimp only)); refine box_event ?hg (N := 4) ?hd (cs := #[.int .i64 0, .string (⟨#[]⟩ : ByteArray), .string (⟨#[]⟩ : ByteArray), .int .i64 0, .int .i64 0]) (t := 28) ?hr ?_; (case hd => rfl); (case hg => rfl); (case hr => first | (go_simp; done) | (go_simp; rfl)); intro gb370 hg w35 hbox hb; have n0_ := Aside0.mk (below_step (by repeat (first | (with_reducible first | exact HB.out | apply below_alloc | apply pw_below_drewN | apply below_drew1) | exact HB.out)) hb); have n1_ := Aside0.mk (hbox); have n2_ := Aside0.mk ((by rw [hg]; exact (below_size (by repeat (first | (with_reducible first | exact HB.out | apply below_alloc | apply pw_below_drewN | apply below_drew1) | exact HB.out))) : w.heap.size ≤ gb370)); have n3_ := Aside0.mk ((by rw [hg]; exact (below_size (by repeat (first | (with_reducible first | exact HB.out | apply below_alloc | apply pw_below_drewN | apply below_drew1) | exact HB.out))) : w.heap.size ≤ gb370)); clear HB; have HB := n0_; have BK370 := n1_; have GW370 := n2_; have GE370 := n3_; clear n0_ n1_ n2_ n3_; clear hb hbox hg; have hcz36_0 : w35.cell? ⟨gb370, 0, none⟩ = some (.int .i64 0) := (blk_cell BK370.out 0).trans rfl; have hcz36_1 : w35.cell? ⟨gb370, 1, none⟩ = some (.string (⟨#[]⟩ : ByteArray)) := (blk_cell BK370.out 1).trans rfl; have hcz36_2 : w35.cell? ⟨gb370, 2, none⟩ = some (.string (⟨#[]⟩ : ByteArray)) := (blk_cell BK370.out 2).trans rfl; have hcz36_3 : w35.cell? ⟨gb370, 3, none⟩ = some (.int .i64 0) := (blk_cell BK370.out 3).trans rfl; have hcz36_4 : w35.cell? ⟨gb370, 4, none⟩ = some (.int .i64 0) := (blk_cell BK370.out 4).trans rfl; have hfz36_0 := blk_frozen BK370.out 0; have hfz36_1 := blk_frozen BK370.out 1; have hfz36_2 := blk_frozen BK370.out 2; have hfz36_3 := blk_frozen BK370.out 3; have hfz36_4 := blk_frozen BK370.out 4) | (go_at_call 21; (with_reducible refine (laws_printed.calls k1 ((rd_T28 l0 x7_1).f1) true _ A11.out).mono ?_); rintro e w' ⟨rfl, ⟨nd, rfl⟩⟩) | (go_at_call 21; (with_reducible refine (laws_printed.calls k1 ((rd_T28 l0 x7_1).f2) false _ A13.out).mono ?_); rintro e w' ⟨rfl, ⟨nd, rfl⟩⟩))
          go_ret
          exact ⟨by first | rfl | (simp [errW_none, errW_some] <;> rfl) | (simp [*, errW_none, errW_some] <;> rfl), by repeat (first | (with_reducible first | exact HB.out | apply below_alloc | apply pw_below_drewN | apply below_drew1 | refine below_set ?_ GE370.out) | exact HB.out)⟩
        ·replace c12 := Bool.eq_false_iff.mpr c12
         subst c12
         have H1 : (some false) = some r := by rw [if_neg (show ¬ (false = true) by decide)] at H; exact H
         clear H
         have H := H1
         clear H1
         obtain rfl := Option.some.inj H
         have p369 : 0 ≤ (x7_1 : Int) := of_decide_eq_true (by first | (with_reducible assumption) | assumption)
         have q369 : x7_1 < (l0.length : Int) := of_decide_eq_true (by first | (with_reducible assumption) | assumption)
         obtain ⟨ad369, e369, hx369_0, hx369_1, hx369_2, hx369_3, hx369_4⟩ := at_T28 HR0.out x7_1 p369 q369
         cases e369
         replace hx369_0 := (HB.out.cell (World.block_lt_of_cell? w _ hx369_0)).trans hx369_0
         replace hx369_1 := (HB.out.cell (World.block_lt_of_cell? w _ hx369_1)).trans hx369_1
         replace hx369_2 := (HB.out.cell (World.block_lt_of_cell? w _ hx369_2)).trans hx369_2
         replace hx369_3 := (HB.out.cell (World.block_lt_of_cell? w _ hx369_3)).trans hx369_3
         replace hx369_4 := (HB.out.cell (World.block_lt_of_cell? w _ hx369_4)).trans hx369_4
         replace p369 := eq_true p369
         replace q369 := eq_true q369
         go_wp2_with (first | ((with_reducible refine gate_dst (N := 4) rfl ?_); (try (refine gate_guard (by rfl) ?_; dsimp only)); refine box_event ?hg (N := 4) ?hd (cs := #[.int .i64 0, .string (⟨#[]⟩ : ByteArray), .string (⟨#[]⟩ : ByteArray), .int .i64 0, .int .i64 0]) (t := 28) ?hr ?_; (case hd => rfl); (case hg => rfl); (case hr => first | (go_simp; done) | (go_simp; rfl)); intro gb370 hg w37 hbox hb; have n0_ := Aside0.mk (below_step (by repeat (first | (with_reducible first | exact HB.out | apply below_alloc | apply pw_below_drewN | apply below_drew1) | exact HB.out)) hb); have n1_ := Aside0.mk (hbox); have n2_ := Aside0.mk ((by rw [hg]; exact (below_size (by repeat (first | (with_reducible first | exact HB.out | apply below_alloc | apply pw_below_drewN | apply below_drew1) | exact HB.out))) : w.heap.size ≤ gb370)); have n3_ := Aside0.mk ((by rw [hg]; exact (below_size (by repeat (first | (with_reducible first | exact HB.out | apply below_alloc | apply pw_below_drewN | apply below_drew1) | exact HB.out))) : w.heap.size ≤ gb370)); clear HB; have HB := n0_; have BK370 := n1_; have GW370 := n2_; have GE370 := n3_; clear n0_ n1_ n2_ n3_; clear hb hbox hg; have hcz38_0 : w37.cell? ⟨gb370, 0, none⟩ = some (.int .i64 0) := (blk_cell BK370.out 0).trans rfl; have hcz38_1 : w37.cell? ⟨gb370, 1, none⟩ = some (.string (⟨#[]⟩ : ByteArray)) := (blk_cell BK370.out 1).trans rfl; have hcz38_2 : w37.cell? ⟨gb370, 2, none⟩ = some (.string (⟨#[]⟩ : ByteArray)) := (blk_cell BK370.out 2).trans rfl; have hcz38_3 : w37.cell? ⟨gb370, 3, none⟩ = some (.int .i64 0) := (blk_cell BK370.out 3).trans rfl; have hcz38_4 : w37.cell? ⟨gb370, 4, none⟩ = some (.int .i64 0) := (blk_cell BK370.out 4).trans rfl; have hfz38_0 := blk_frozen BK370.out 0; have hfz38_1 := blk_frozen BK370.out 1; have hfz38_2 := blk_frozen BK370.out 2; have hfz38_3 := blk_frozen BK370.out 3; have hfz38_4 := blk_frozen BK370.out 4) | (go_at_call 21; (with_reducible refine (laws_printed.calls k1 ((rd_T28 l0 x7_1).f1) false _ A11.out).mono ?_); rintro e w' ⟨rfl, ⟨nd, rfl⟩⟩))
         go_ret
         exact ⟨by first | rfl | (simp [errW_none, errW_some] <;> rfl) | (simp [*, errW_none, errW_some] <;> rfl), by repeat (first | (with_reducible first | exact HB.out | apply below_alloc | apply pw_below_drewN | apply below_drew1 | refine below_set ?_ GE370.out) | exact HB.out)⟩
     ·rw [if_neg c4] at H
      exact absurd H (by simp)
    ·rw [if_neg c3] at H
     exact absurd H (by simp)
   ·rw [if_neg c2] at H
    have c2b0 : decide (x7_1 < (l0.length : Int)) = false := decide_eq_false c2
    clear c2
    obtain rfl := Option.some.inj H
    go_wp2
    go_ret
    exact ⟨by first | rfl | (simp [errW_none, errW_some] <;> rfl) | (simp [*, errW_none, errW_some] <;> rfl), by repeat (first | (with_reducible first | exact HB.out | apply below_alloc | apply pw_below_drewN | apply below_drew1) | exact HB.out)⟩
def bytes_Equal.f (l0 : List Int) (l1 : List Int) : Option (Bool) := some ((strOfNums l0).toList == (strOfNums l1).toList)
set_option maxHeartbeats 8000000 in
set_option maxRecDepth 100000 in
theorem bytes_Equal.calls (A0 : Option Addr) (c0 : Nat) (l0 : List Int) (A1 : Option Addr) (c1 : Nat) (l1 : List Int) (r : Bool) (w : World) (hr0 : Kd.C (Kd.int .u8) w A0 l0.length l0) (hc0 : l0.length ≤ c0) (hr1 : Kd.C (Kd.int .u8) w A1 l1.length l1) (hc1 : l1.length ≤ c1) (h : bytes_Equal.f l0 l1 = some r) :
    Calls Try.prog 99 #[.slice A0 l0.length c0, .slice A1 l1.length c1] w fun e w' => e = .returned (.bool r) ∧ Drawn0 w w' := by
  have HR0 := Aside0.mk hr0
  have HC0 := Aside0.mk hc0
  clear hr0 hc0
  have HR1 := Aside0.mk hr1
  have HC1 := Aside0.mk hc1
  clear hr1 hc1
  have H : (some ((strOfNums l0).toList == (strOfNums l1).toList)) = some r := h
  clear h
  obtain rfl := Option.some.inj H
  have hcv3 := Kd.C_string (P := Try.prog) (A := A0) (c := c0) Try.underlying54 Try.underlying5 Try.underlying9 HR0.out
  have hcv4 := Kd.C_string (P := Try.prog) (A := A1) (c := c1) Try.underlying54 Try.underlying5 Try.underlying9 HR1.out
  go_enter Try.func99, Try.ntmps99
  go_wp2
  go_ret
  exact ⟨by first | rfl | (simp; done) | (rw [prx_ne]; first | done | rfl) | (simp [*]; done), by repeat (first | exact Drawn0.refl _ | apply Drawn0.step)⟩
def impl_pairs.l0 : Nat → List (S34) → List (S96) → Int → Int → Option ((List (S34)))
  | 0, _, _, _, _ => none
  | k + 1, x3, x6, x7, x8 => if x8 < x7 then (if 0 ≤ x8 then (if x8 < (x6.length : Int) then (if x3.length < 4398046511104 then (impl_pairs.l0 k (x3 ++ [(⟨(rd_T96 x6 x8).f0, (rd_T96 x6 x8).f1⟩ : S34)]) x6 x7 (wrap64 (x8 + 1))) else (none)) else (none)) else (none)) else (some x3)
def impl_pairs.f (k : Nat) (l0 : List (S96)) : Option ((List (S34))) := impl_pairs.l0 k ([] : List (S34)) l0 (l0.length : Int) 0
set_option maxHeartbeats 8000000 in
set_option maxRecDepth 100000 in
theorem impl_pairs.calls (k : Nat) (A0 : Option Addr) (c0 : Nat) (l0 : List (S96)) (r : List (S34)) (w : World) (hr0 : Kd.C k96 w A0 l0.length l0) (hc0 : l0.length ≤ c0) (h : impl_pairs.f k l0 = some r) :
    Calls Try.prog 47 #[.slice A0 l0.length c0] w fun e w' => ∃ v0_ : Value, e = .returned (v0_) ∧ Kd.R k34 34 w' w.heap.size (fun _ => True) v0_ r ∧ Below w.heap.size w w' := by
  have hu96 := Try.underlying96
  have HR0 := Aside0.mk hr0
  have HC0 := Aside0.mk hc0
  clear hr0 hc0
  have HB := Aside0.mk (Below.refl w.heap.size w)
  have H : (impl_pairs.l0 k ([] : List (S34)) l0 (l0.length : Int) 0) = some r := h
  clear h
  have H' := Aside0.mk H
  clear H
  go_enter Try.func47, Try.ntmps47
  go_wp2
  go_loopg [3, 8] k (fun kq v3 v8 w' => ∃ (x3_1 : List (S34)) (x8_1 : Int), v8 = .int .i64 x8_1 ∧ Aside0 (impl_pairs.l0 kq x3_1 l0 (l0.length : Int) x8_1 = some r) ∧ Aside0 (kq ≤ k) ∧ Aside0 (Kd.R k34 34 w' w.heap.size (fun _ => True) v3 x3_1) ∧ Aside0 (Below w.heap.size w w'))
  case atStart => exact ⟨(([] : List (S34))), (0), (by first | rfl | (simp; done) | (rw [prx_ne]; first | done | rfl) | (simp [*]; done)), H', ⟨Nat.le_refl _⟩, ⟨by first | exact Kd.R_nil _ _ _ _ _ | exact Kd.N_nil _ _ _ _ _ | exact Kd.V_nil _ _ _ _ _ | exact Kd.Q_nil _ _ _ _ _ | exact Kd.S_nil _ _ _ _ _⟩, ⟨by repeat (first | (with_reducible first | exact HB.out | apply below_alloc | apply pw_below_drewN | apply below_drew1) | exact HB.out)⟩⟩
  case round =>
    clear H'
    obtain ⟨x3_1, x8_1, rfl, HA, HK1, HO_3, HB⟩ := hrel
    cases gk with
    | zero => exact absurd HA.out (by simp [impl_pairs.l0])
    | succ k1 =>
      have H := HA.out
      clear HA
      simp only [impl_pairs.l0] at H
      by_cases c2 : x8_1 < (l0.length : Int)
      · rw [if_pos c2] at H
        have c2b0 : decide (x8_1 < (l0.length : Int)) = true := decide_eq_true c2
        clear c2
        by_cases c3 : 0 ≤ x8_1
        · rw [if_pos c3] at H
          have c3b0 : decide (0 ≤ x8_1) = true := decide_eq_true c3
          clear c3
          by_cases c4 : x8_1 < (l0.length : Int)
          · rw [if_pos c4] at H
            have c4b0 : decide (x8_1 < (l0.length : Int)) = true := decide_eq_true c4
            clear c4
            by_cases c5 : x3_1.length < 4398046511104
            · rw [if_pos c5] at H
              have LMc5 := Aside0.mk c5
              clear c5
              obtain ⟨y259, hy259⟩ : ∃ y_ : List (S34), y_ = (x3_1 ++ [(⟨(rd_T96 l0 x8_1).f0, (rd_T96 l0 x8_1).f1⟩ : S34)]) := ⟨_, rfl⟩
              replace H : (impl_pairs.l0 k1 y259 l0 (l0.length : Int) (wrap64 (x8_1 + 1))) = some r := by first | (rw [hy259]; with_reducible exact H) | (have H2_ := (Option.bind_some _ _).symm.trans H; rw [hy259]; with_reducible exact H2_) | (have H2_ := (Option.bind_some _ _).symm.trans H; with_reducible exact H2_) | with_reducible exact H | (rw [hy259]; exact H) | exact H
              have Ny259 := Aside0.mk hy259
              clear hy259
              have H' := Aside0.mk H
              clear H
              have p257 : 0 ≤ (x8_1 : Int) := of_decide_eq_true (by first | (with_reducible assumption) | assumption)
              have q257 : x8_1 < (l0.length : Int) := of_decide_eq_true (by first | (with_reducible assumption) | assumption)
              obtain ⟨ad257, e257, hx257_0, hx257_1⟩ := at_T96 HR0.out x8_1 p257 q257
              cases e257
              replace hx257_0 := (HB.out.cell (World.block_lt_of_cell? w _ hx257_0)).trans hx257_0
              replace hx257_1 := (HB.out.cell (World.block_lt_of_cell? w _ hx257_1)).trans hx257_1
              replace p257 := eq_true p257
              replace q257 := eq_true q257
              go_wp2_with (first | ((with_reducible refine gate_dst (N := 5) rfl ?_); refine box_event ?hg (N := 5) ?hd (cs := #[.string (⟨#[]⟩ : ByteArray), .string (⟨#[]⟩ : ByteArray)]) (t := 96) ?hr ?_; (case hd => rfl); (case hg => rfl); (case hr => first | (go_simp; done) | (go_simp; rfl)); intro gb258 hg w6 hbox hb; have n0_ := Aside0.mk (Kd.R_below (by (with_reducible repeat (first | apply Kd.R_alloc | apply Kd.R_drewN | apply Kd.R_drew)); exact HO_3.out) hb); have n1_ := Aside0.mk (below_step (by repeat (first | (with_reducible first | exact HB.out | apply below_alloc | apply pw_below_drewN | apply below_drew1) | exact HB.out)) hb); have n2_ := Aside0.mk (hbox); have n3_ := Aside0.mk ((by rw [hg]; exact (below_size (by repeat (first | (with_reducible first | exact HB.out | apply below_alloc | apply pw_below_drewN | apply below_drew1) | exact HB.out))) : w.heap.size ≤ gb258)); have n4_ := Aside0.mk ((by rw [hg]; exact (below_size (by repeat (first | (with_reducible first | exact HB.out | apply below_alloc | apply pw_below_drewN | apply below_drew1) | exact HB.out))) : w.heap.size ≤ gb258)); clear HO_3; clear HB; have HO_3 := n0_; have HB := n1_; have BK258 := n2_; have GW258 := n3_; have GE258 := n4_; clear n0_ n1_ n2_ n3_ n4_; clear hb hbox hg; have hcz7_0 : w6.cell? ⟨gb258, 0, none⟩ = some (.string (⟨#[]⟩ : ByteArray)) := (blk_cell BK258.out 0).trans rfl; have hcz7_1 : w6.cell? ⟨gb258, 1, none⟩ = some (.string (⟨#[]⟩ : ByteArray)) := (blk_cell BK258.out 1).trans rfl; have hfz7_0 := blk_frozen BK258.out 0; have hfz7_1 := blk_frozen BK258.out 1) | ((with_reducible refine gate_builtin (b := .append) (xs := #[.tmp 12, .tmp 14]) rfl ?_); at_builtin; refine Kd.R_append k34 (w0 := w) w.heap.size rfl (.tmp 12) (.tmp 14) 30 34 (.agg #[(.string ⟨#[]⟩), (.string ⟨#[]⟩)]) 32 rfl Try.underlying30 info34 rfl (by decide) (by omega) u3 x3_1 (⟨(rd_T96 l0 x8_1).f0, (rd_T96 l0 x8_1).f1⟩ : S34) [.string ((rd_T96 l0 x8_1).f0), .string ((rd_T96 l0 x8_1).f1)] (fun _ => True) (fun _ => False) rfl (by first | (go_simp; done) | (go_simp; rfl)) ?aP (fun _ hk => hk.elim) ?aF ?aO ?aB ?aS ?aL ?_; (case aP => exact k34_mkM _ _ _ (⟨(rd_T96 l0 x8_1).f0, (rd_T96 l0 x8_1).f1⟩ : S34)); (case aB => exact (by repeat (first | (with_reducible first | exact HB.out | apply below_alloc | apply pw_below_drewN | apply below_drew1 | refine below_set ?_ GE258.out) | exact HB.out))); (case aF => exact (fun _ _ => trivial)); (case aO => exact (by (with_reducible repeat (first | apply Kd.R_alloc | apply Kd.R_drewN | apply Kd.R_drew)); exact Kd.R_mono (Kd.R_far (p := ⟨gb258, 1, none⟩) (Kd.R_far (p := ⟨gb258, 0, none⟩) (Kd.R_types HO_3.out BK258.out (by decide)) (fun _ hk => hk.2) (.string ((rd_T96 l0 x8_1).f0))) (fun _ hk => hk.2) (.string ((rd_T96 l0 x8_1).f1))) (fun _ hk => trivial))); (case aS => exact (below_size (by repeat (first | (with_reducible first | exact HB.out | apply below_alloc | apply pw_below_drewN | apply below_drew1 | refine below_set ?_ GE258.out) | exact HB.out)))); (case aL => have := LMc5.out; omega); intro v260 w8 ho hb hg hat; rw [← Ny259.out] at ho; have n0_ := Aside0.mk (blk_grown (g := gb258) (o := .cells #[.string ((rd_T96 l0 x8_1).f0), .string ((rd_T96 l0 x8_1).f1)] 96 (0, 0)) (by (with_reducible repeat (first | refine blk_drewN ?_ _ | refine blk_drew ?_ | refine blk_alloc ?_ _)); refine blk_put (cs := #[.string ((rd_T96 l0 x8_1).f0), .string (⟨#[]⟩ : ByteArray)]) ?_ 1 _ rfl; (with_reducible repeat (first | refine blk_drewN ?_ _ | refine blk_drew ?_ | refine blk_alloc ?_ _)); refine blk_put (cs := #[.string (⟨#[]⟩ : ByteArray), .string (⟨#[]⟩ : ByteArray)]) ?_ 0 _ rfl; (with_reducible repeat (first | refine blk_drewN ?_ _ | refine blk_drew ?_ | refine blk_alloc ?_ _)); exact BK258.out) hg (Kd.R_ne HO_3.out BK258.out (by decide))); have n1_ := Aside0.mk (hb); have n2_ := Aside0.mk (ho); clear BK258; clear HB; clear HO_3; have BK258 := n0_; have HB := n1_; have HO261 := n2_; clear n0_ n1_ n2_; clear ho hb hg hat))
              go_roundg k1
              case measure => have := HK1.out; omega
              case rel => exact ⟨(y259), (wrap64 (x8_1 + 1)), (by first | rfl | (simp; done) | (rw [prx_ne]; first | done | rfl) | (simp [*]; done)), H', ⟨by have := HK1.out; omega⟩, ⟨by (with_reducible repeat (first | apply Kd.R_alloc | apply Kd.R_drewN | apply Kd.R_drew)); exact HO261.out⟩, ⟨by repeat (first | (with_reducible first | exact HB.out | apply below_alloc | apply pw_below_drewN | apply below_drew1 | refine below_set ?_ GE258.out) | exact HB.out)⟩⟩
            · rw [if_neg c5] at H
              exact absurd H (by simp)
          · rw [if_neg c4] at H
            exact absurd H (by simp)
        · rw [if_neg c3] at H
          exact absurd H (by simp)
      · rw [if_neg c2] at H
        have c2b0 : decide (x8_1 < (l0.length : Int)) = false := decide_eq_false c2
        clear c2
        obtain rfl := Option.some.inj H
        go_wp2
        go_ret
        exact ⟨_, by first | rfl | (simp [errW_none, errW_some] <;> rfl) | (simp [*, errW_none, errW_some] <;> rfl), by (with_reducible repeat (first | apply Kd.R_alloc | apply Kd.R_drewN | apply Kd.R_drew)); exact HO_3.out, by repeat (first | (with_reducible first | exact HB.out | apply below_alloc | apply pw_below_drewN | apply below_drew1) | exact HB.out)⟩
def hertzutils_CaseInsensitiveCompare.l0 : Nat → List Int → List Int → Int → Option (Bool)
  | 0, _, _, _ => none
  | k + 1, x0, x1, x5 => if x5 < (x0.length : Int) then (if 0 ≤ x5 then (if x5 < (x1.length : Int) then (if (Go.bits .or .u8 (rd x0 x5) 32) = (Go.bits .or .u8 (rd x1 x5) 32) then (hertzutils_CaseInsensitiveCompare.l0 k x0 x1 (wrap64 (x5 + 1))) else (some false)) else (none)) else (none)) else (some true)
def hertzutils_CaseInsensitiveCompare.f (k : Nat) (l0 : List Int) (l1 : List Int) : Option (Bool) := if (l0.length : Int) = (l1.length : Int) then (hertzutils_CaseInsensitiveCompare.l0 k l0 l1 0) else (some false)
set_option maxHeartbeats 8000000 in
set_option maxRecDepth 100000 in
theorem hertzutils_CaseInsensitiveCompare.calls (k : Nat) (A0 : Option Addr) (c0 : Nat) (l0 : List Int) (A1 : Option Addr) (c1 : Nat) (l1 : List Int) (r : Bool) (w : World) (hr0 : Kd.C (Kd.int .u8) w A0 l0.length l0) (hc0 : l0.length ≤ c0) (hr1 : Kd.C (Kd.int .u8) w A1 l1.length l1) (hc1 : l1.length ≤ c1) (h : hertzutils_CaseInsensitiveCompare.f k l0 l1 = some r) :
    Calls Try.prog 80 #[.slice A0 l0.length c0, .slice A1 l1.length c1] w fun e w' => e = .returned (.bool r) ∧ Drawn0 w w' := by
  have HR0 := Aside0.mk hr0
  have HC0 := Aside0.mk hc0
  clear hr0 hc0
  have HR1 := Aside0.mk hr1
  have HC1 := Aside0.mk hc1
  clear hr1 hc1
  have H : (if (l0.length : Int) = (l1.length : Int) then (hertzutils_CaseInsensitiveCompare.l0 k l0 l1 0) else (some false)) = some r := h
  clear h
  by_cases c3 : (l0.length : Int) = (l1.length : Int)
  · rw [if_pos c3] at H
    have c3b0 : ((l0.length : Int) == (l1.length : Int)) = true := beq_iff_eq.mpr c3
    have c3b1 : ((l0.length : Int) != (l1.length : Int)) = false := bne_eq_false_iff_eq.mpr c3
    have c3b2 : (l0.length == l1.length) = true := by first | simpa using c3 | (simp at c3 ⊢; omega)
    clear c3
    have H' := Aside0.mk H
    clear H
    go_enter Try.func80, Try.ntmps80
    go_wp2
    repeat (go_quiet (fail); try go_wp2)
    go_loopg [5] k (fun kq v5 w' => ∃ (x5_1 : Int), v5 = .int .i64 x5_1 ∧ Aside0 (hertzutils_CaseInsensitiveCompare.l0 kq l0 l1 x5_1 = some r) ∧ Aside0 (kq ≤ k) ∧ Drawn0 w w')
    case atStart => exact ⟨(0), (by first | rfl | (simp; done) | (rw [prx_ne]; first | done | rfl) | (simp [*]; done)), H', ⟨Nat.le_refl _⟩, by repeat (first | exact Drawn0.refl _ | apply Drawn0.step)⟩
    case round =>
      clear H'
      try clear c1
      try clear p2
      try clear c3
      try clear c3b0
      try clear c3b1
      try clear c3b2
      obtain ⟨x5_1, rfl, HA, HK1, ⟨m1, rfl⟩⟩ := hrel
      cases gk with
      | zero => exact absurd HA.out (by simp [hertzutils_CaseInsensitiveCompare.l0])
      | succ k1 =>
        have H := HA.out
        clear HA
        simp only [hertzutils_CaseInsensitiveCompare.l0] at H
        by_cases c4 : x5_1 < (l0.length : Int)
        · rw [if_pos c4] at H
          have c4b0 : decide (x5_1 < (l0.length : Int)) = true := decide_eq_true c4
          clear c4
          by_cases c5 : 0 ≤ x5_1
          · rw [if_pos c5] at H
            have c5b0 : decide (0 ≤ x5_1) = true := decide_eq_true c5
            clear c5
            by_cases c6 : x5_1 < (l1.length : Int)
            · rw [if_pos c6] at H
              have c6b0 : decide (x5_1 < (l1.length : Int)) = true := decide_eq_true c6
              clear c6
              by_cases c7 : (Go.bits .or .u8 (rd l0 x5_1) 32) = (Go.bits .or .u8 (rd l1 x5_1) 32)
              · rw [if_pos c7] at H
                have c7b0 : ((Go.bits .or .u8 (rd l0 x5_1) 32) == (Go.bits .or .u8 (rd l1 x5_1) 32)) = true := beq_iff_eq.mpr c7
                have c7b1 : ((Go.bits .or .u8 (rd l0 x5_1) 32) != (Go.bits .or .u8 (rd l1 x5_1) 32)) = false := bne_eq_false_iff_eq.mpr c7
                clear c7
                have H' := Aside0.mk H
                clear H
                have p101 : 0 ≤ (x5_1 : Int) := of_decide_eq_true (by first | (with_reducible assumption) | assumption)
                have q101 : x5_1 < (l0.length : Int) := of_decide_eq_true (by first | (with_reducible assumption) | assumption)
                obtain ⟨ad101, e101, hx101_0⟩ := Kd.at_int HR0.out x5_1 p101 q101
                cases e101
                replace p101 := eq_true p101
                replace q101 := eq_true q101
                have p102 : 0 ≤ (x5_1 : Int) := of_decide_eq_true (by first | (with_reducible assumption) | assumption)
                have q102 : x5_1 < (l1.length : Int) := of_decide_eq_true (by first | (with_reducible assumption) | assumption)
                obtain ⟨ad102, e102, hx102_0⟩ := Kd.at_int HR1.out x5_1 p102 q102
                cases e102
                replace p102 := eq_true p102
                replace q102 := eq_true q102
                go_wp2
                repeat (go_quiet (fail); try go_wp2)
                go_roundg k1
                case measure => have := HK1.out; omega
                case rel => exact ⟨(wrap64 (x5_1 + 1)), (by first | rfl | (simp; done) | (rw [prx_ne]; first | done | rfl) | (simp [*]; done)), H', ⟨by have := HK1.out; omega⟩, by repeat (first | exact Drawn0.refl _ | apply Drawn0.step)⟩
              · rw [if_neg c7] at H
                have c7b0 : ((Go.bits .or .u8 (rd l0 x5_1) 32) == (Go.bits .or .u8 (rd l1 x5_1) 32)) = false := beq_eq_false_iff_ne.mpr c7
                have c7b1 : ((Go.bits .or .u8 (rd l0 x5_1) 32) != (Go.bits .or .u8 (rd l1 x5_1) 32)) = true := bne_iff_ne.mpr c7
                obtain rfl := Option.some.inj H
                have p101 : 0 ≤ (x5_1 : Int) := of_decide_eq_true (by first | (with_reducible assumption) | assumption)
                have q101 : x5_1 < (l0.length : Int) := of_decide_eq_true (by first | (with_reducible assumption) | assumption)
                obtain ⟨ad101, e101, hx101_0⟩ := Kd.at_int HR0.out x5_1 p101 q101
                cases e101
                replace p101 := eq_true p101
                replace q101 := eq_true q101
                have p102 : 0 ≤ (x5_1 : Int) := of_decide_eq_true (by first | (with_reducible assumption) | assumption)
                have q102 : x5_1 < (l1.length : Int) := of_decide_eq_true (by first | (with_reducible assumption) | assumption)
                obtain ⟨ad102, e102, hx102_0⟩ := Kd.at_int HR1.out x5_1 p102 q102
                cases e102
                replace p102 := eq_true p102
                replace q102 := eq_true q102
                go_wp2
                repeat (go_quiet (fail); try go_wp2)
                go_ret
                exact ⟨by first | rfl | (simp; done) | (rw [prx_ne]; first | done | rfl) | (simp [*]; done), by repeat (first | exact Drawn0.refl _ | apply Drawn0.step)⟩
            · rw [if_neg c6] at H
              exact absurd H (by simp)
          · rw [if_neg c5] at H
            exact absurd H (by simp)
        · rw [if_neg c4] at H
          have c4b0 : decide (x5_1 < (l0.length : Int)) = false := decide_eq_false c4
          clear c4
          obtain rfl := Option.some.inj H
          go_wp2
          repeat (go_quiet (fail); try go_wp2)
          go_ret
          exact ⟨by first | rfl | (simp; done) | (rw [prx_ne]; first | done | rfl) | (simp [*]; done), by repeat (first | exact Drawn0.refl _ | apply Drawn0.step)⟩
  · rw [if_neg c3] at H
    have c3b0 : ((l0.length : Int) == (l1.length : Int)) = false := beq_eq_false_iff_ne.mpr c3
    have c3b1 : ((l0.length : Int) != (l1.length : Int)) = true := bne_iff_ne.mpr c3
    have c3b2 : (l0.length == l1.length) = false := by first | simpa using c3 | (simp at c3 ⊢; omega)
    obtain rfl := Option.some.inj H
    go_enter Try.func80, Try.ntmps80
    go_wp2
    repeat (go_quiet (fail); try go_wp2)
    go_ret
    exact ⟨by first | rfl | (simp; done) | (rw [prx_ne]; first | done | rfl) | (simp [*]; done), by repeat (first | exact Drawn0.refl _ | apply Drawn0.step)⟩
def laws_samePairs.l0 : Nat → List (S34) → List (S34) → Int → Int → Option (Bool)
  | 0, _, _, _, _ => none
  | k + 1, x0, x1, x12, x13 => if x13 < x12 then (if 0 ≤ x13 then (if x13 < (x0.length : Int) then (if x13 < (x1.length : Int) then (if (!((((rd_T34 x0 x13).f0).toList) == (((rd_T34 x1 x13).f0).toList)) || (!((((rd_T34 x0 x13).f1).toList) == (((rd_T34 x1 x13).f1).toList)))) = true then (some false) else (laws_samePairs.l0 k x0 x1 x12 (wrap64 (x13 + 1)))) else (none)) else (none)) else (none)) else (some true)
def laws_samePairs.f (k : Nat) (l0 : List (S34)) (l1 : List (S34)) : Option (Bool) := if (l0.length : Int) = (l1.length : Int) then (laws_samePairs.l0 k l0 l1 (l0.length : Int) 0) else (some false)
def laws_sameTexts.l0 : Nat → List ByteArray → List ByteArray → Int → Int → Option (Bool)
  | 0, _, _, _, _ => none
  | k + 1, x0, x1, x12, x13 => if x13 < x12 then (if 0 ≤ x13 then (if x13 < (x0.length : Int) then (if x13 < (x1.length : Int) then (if (rdOf ByteArray.empty x0 x13).toList = (rdOf ByteArray.empty x1 x13).toList then (laws_sameTexts.l0 k x0 x1 x12 (wrap64 (x13 + 1))) else (some false)) else (none)) else (none)) else (none)) else (some true)
def laws_sameTexts.f (k : Nat) (l0 : List ByteArray) (l1 : List ByteArray) : Option (Bool) := if (l0.length : Int) = (l1.length : Int) then (laws_sameTexts.l0 k l0 l1 (l0.length : Int) 0) else (some false)
set_option maxHeartbeats 8000000 in
set_option maxRecDepth 100000 in
theorem laws_sameTexts.calls (k : Nat) (A0 : Option Addr) (c0 : Nat) (l0 : List ByteArray) (A1 : Option Addr) (c1 : Nat) (l1 : List ByteArray) (r : Bool) (w : World) (hr0 : Kd.C Kd.string w A0 l0.length l0) (hc0 : l0.length ≤ c0) (hr1 : Kd.C Kd.string w A1 l1.length l1) (hc1 : l1.length ≤ c1) (h : laws_sameTexts.f k l0 l1 = some r) :
    Calls Try.prog 54 #[.slice A0 l0.length c0, .slice A1 l1.length c1] w fun e w' => e = .returned (.bool r) ∧ Drawn0 w w' := by
  have HR0 := Aside0.mk hr0
  have HC0 := Aside0.mk hc0
  clear hr0 hc0
  have HR1 := Aside0.mk hr1
  have HC1 := Aside0.mk hc1
  clear hr1 hc1
  have H : (if (l0.length : Int) = (l1.length : Int) then (laws_sameTexts.l0 k l0 l1 (l0.length : Int) 0) else (some false)) = some r := h
  clear h
  by_cases c3 : (l0.length : Int) = (l1.length : Int)
  · rw [if_pos c3] at H
    have c3b0 : ((l0.length : Int) == (l1.length : Int)) = true := beq_iff_eq.mpr c3
    have c3b1 : ((l0.length : Int) != (l1.length : Int)) = false := bne_eq_false_iff_eq.mpr c3
    have c3b2 : (l0.length == l1.length) = true := by first | simpa using c3 | (simp at c3 ⊢; omega)
    clear c3
    have H' := Aside0.mk H
    clear H
    go_enter Try.func54, Try.ntmps54
    go_wp2
    repeat (go_quiet (fail); try go_wp2)
    go_loopg [13] k (fun kq v13 w' => ∃ (x13_1 : Int), v13 = .int .i64 x13_1 ∧ Aside0 (laws_sameTexts.l0 kq l0 l1 (l0.length : Int) x13_1 = some r) ∧ Aside0 (kq ≤ k) ∧ Drawn0 w w')
    case atStart => exact ⟨(0), (by first | rfl | (simp; done) | (rw [prx_ne]; first | done | rfl) | (simp [*]; done)), H', ⟨Nat.le_refl _⟩, by repeat (first | exact Drawn0.refl _ | apply Drawn0.step)⟩
    case round =>
      clear H'
      try clear c1
      try clear p2
      try clear c3
      try clear c3b0
      try clear c3b1
      try clear c3b2
      obtain ⟨x13_1, rfl, HA, HK1, ⟨m1, rfl⟩⟩ := hrel
      cases gk with
      | zero => exact absurd HA.out (by simp [laws_sameTexts.l0])
      | succ k1 =>
        have H := HA.out
        clear HA
        simp only [laws_sameTexts.l0] at H
        by_cases c4 : x13_1 < (l0.length : Int)
        · rw [if_pos c4] at H
          have c4b0 : decide (x13_1 < (l0.length : Int)) = true := decide_eq_true c4
          clear c4
          by_cases c5 : 0 ≤ x13_1
          · rw [if_pos c5] at H
            have c5b0 : decide (0 ≤ x13_1) = true := decide_eq_true c5
            clear c5
            by_cases c6 : x13_1 < (l0.length : Int)
            · rw [if_pos c6] at H
              have c6b0 : decide (x13_1 < (l0.length : Int)) = true := decide_eq_true c6
              clear c6
              by_cases c7 : x13_1 < (l1.length : Int)
              · rw [if_pos c7] at H
                have c7b0 : decide (x13_1 < (l1.length : Int)) = true := decide_eq_true c7
                clear c7
                by_cases c8 : (rdOf ByteArray.empty l0 x13_1).toList = (rdOf ByteArray.empty l1 x13_1).toList
                · rw [if_pos c8] at H
                  have c8b0 : ((rdOf ByteArray.empty l0 x13_1).toList == (rdOf ByteArray.empty l1 x13_1).toList) = true := beq_iff_eq.mpr c8
                  have c8b1 : ((rdOf ByteArray.empty l0 x13_1).toList != (rdOf ByteArray.empty l1 x13_1).toList) = false := bne_eq_false_iff_eq.mpr c8
                  clear c8
                  have H' := Aside0.mk H
                  clear H
                  have p373 : 0 ≤ (x13_1 : Int) := of_decide_eq_true (by first | (with_reducible assumption) | assumption)
                  have q373 : x13_1 < (l0.length : Int) := of_decide_eq_true (by first | (with_reducible assumption) | assumption)
                  obtain ⟨ad373, e373, hx373_0⟩ := Kd.at_string HR0.out x13_1 p373 q373
                  cases e373
                  replace p373 := eq_true p373
                  replace q373 := eq_true q373
                  have p374 : 0 ≤ (x13_1 : Int) := of_decide_eq_true (by first | (with_reducible assumption) | assumption)
                  have q374 : x13_1 < (l1.length : Int) := of_decide_eq_true (by first | (with_reducible assumption) | assumption)
                  obtain ⟨ad374, e374, hx374_0⟩ := Kd.at_string HR1.out x13_1 p374 q374
                  cases e374
                  replace p374 := eq_true p374
                  replace q374 := eq_true q374
                  go_wp2
                  repeat (go_quiet (fail); try go_wp2)
                  go_roundg k1
                  case measure => have := HK1.out; omega
                  case rel => exact ⟨(wrap64 (x13_1 + 1)), (by first | rfl | (simp; done) | (rw [prx_ne]; first | done | rfl) | (simp [*]; done)), H', ⟨by have := HK1.out; omega⟩, by repeat (first | exact Drawn0.refl _ | apply Drawn0.step)⟩
                · rw [if_neg c8] at H
                  have c8b0 : ((rdOf ByteArray.empty l0 x13_1).toList == (rdOf ByteArray.empty l1 x13_1).toList) = false := beq_eq_false_iff_ne.mpr c8
                  have c8b1 : ((rdOf ByteArray.empty l0 x13_1).toList != (rdOf ByteArray.empty l1 x13_1).toList) = true := bne_iff_ne.mpr c8
                  obtain rfl := Option.some.inj H
                  have p373 : 0 ≤ (x13_1 : Int) := of_decide_eq_true (by first | (with_reducible assumption) | assumption)
                  have q373 : x13_1 < (l0.length : Int) := of_decide_eq_true (by first | (with_reducible assumption) | assumption)
                  obtain ⟨ad373, e373, hx373_0⟩ := Kd.at_string HR0.out x13_1 p373 q373
                  cases e373
                  replace p373 := eq_true p373
                  replace q373 := eq_true q373
                  have p374 : 0 ≤ (x13_1 : Int) := of_decide_eq_true (by first | (with_reducible assumption) | assumption)
                  have q374 : x13_1 < (l1.length : Int) := of_decide_eq_true (by first | (with_reducible assumption) | assumption)
                  obtain ⟨ad374, e374, hx374_0⟩ := Kd.at_string HR1.out x13_1 p374 q374
                  cases e374
                  replace p374 := eq_true p374
                  replace q374 := eq_true q374
                  go_wp2
                  repeat (go_quiet (fail); try go_wp2)
                  go_ret
                  exact ⟨by first | rfl | (simp; done) | (rw [prx_ne]; first | done | rfl) | (simp [*]; done), by repeat (first | exact Drawn0.refl _ | apply Drawn0.step)⟩
              · rw [if_neg c7] at H
                exact absurd H (by simp)
            · rw [if_neg c6] at H
              exact absurd H (by simp)
          · rw [if_neg c5] at H
            exact absurd H (by simp)
        · rw [if_neg c4] at H
          have c4b0 : decide (x13_1 < (l0.length : Int)) = false := decide_eq_false c4
          clear c4
          obtain rfl := Option.some.inj H
          go_wp2
          repeat (go_quiet (fail); try go_wp2)
          go_ret
          exact ⟨by first | rfl | (simp; done) | (rw [prx_ne]; first | done | rfl) | (simp [*]; done), by repeat (first | exact Drawn0.refl _ | apply Drawn0.step)⟩
  · rw [if_neg c3] at H
    have c3b0 : ((l0.length : Int) == (l1.length : Int)) = false := beq_eq_false_iff_ne.mpr c3
    have c3b1 : ((l0.length : Int) != (l1.length : Int)) = true := bne_iff_ne.mpr c3
    have c3b2 : (l0.length == l1.length) = false := by first | simpa using c3 | (simp at c3 ⊢; omega)
    obtain rfl := Option.some.inj H
    go_enter Try.func54, Try.ntmps54
    go_wp2
    repeat (go_quiet (fail); try go_wp2)
    go_ret
    exact ⟨by first | rfl | (simp; done) | (rw [prx_ne]; first | done | rfl) | (simp [*]; done), by repeat (first | exact Drawn0.refl _ | apply Drawn0.step)⟩
end Go.Proofs.Ytoimkmoalmmooaa.QA
