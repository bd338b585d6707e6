/- Printed by wip/pr.py (a program of this repo over the print program of the kit). Not trusted: Lean checks it. -/
import Derived.Test.YtjnnadpecendpaaQA0
import Derived.Test.YtjnnadpecendpaaGLow
namespace Go.Proofs.Ytjnnadpecendpaa.QA
open Go.Proofs.Ytjnnadpecendpaa.Given
open Go.Proofs.Ytjnnadpecendpaa.PrX
open Go.RowKit Go.Proofs.YtjnnadpecendpaaW.PrintWords Go.Proofs.YtjnnadpecendpaaW.PrintLast Go.Proofs.YtjnnadpecendpaaW.PrintMore
attribute [local go_sem] max2_int min2_int max_two min_two max_three min_three max_four min_four   -- for this text's walks alone
set_option linter.unusedVariables false
set_option linter.unusedSimpArgs false

-- given: function 14 (laws_low)

/-! ### laws_forbidden: function 13 -/
def laws_forbidden.f (a0 : ByteArray) : Option (Bool) := (laws_low.f a0).bind fun t231 => (if t231.toList = ([99, 111, 110, 116, 101, 110, 116, 45, 108, 101, 110, 103, 116, 104] : List UInt8) then (some true) else (if t231.toList = ([116, 114, 97, 110, 115, 102, 101, 114, 45, 101, 110, 99, 111, 100, 105, 110, 103] : List UInt8) then (some true) else (if t231.toList = ([104, 111, 115, 116] : List UInt8) then (some true) else (if t231.toList = ([116, 114, 97, 105, 108, 101, 114] : List UInt8) then (some true) else (if t231.toList = ([99, 111, 110, 116, 101, 110, 116, 45, 116, 121, 112, 101] : List UInt8) then (some true) else (if t231.toList = ([99, 111, 110, 116, 101, 110, 116, 45, 101, 110, 99, 111, 100, 105, 110, 103] : List UInt8) then (some true) else (if t231.toList = ([99, 111, 110, 116, 101, 110, 116, 45, 114, 97, 110, 103, 101] : List UInt8) then (some true) else (if t231.toList = ([97, 117, 116, 104, 111, 114, 105, 122, 97, 116, 105, 111, 110] : List UInt8) then (some true) else (some false)))))))))
set_option maxHeartbeats 8000000 in
set_option maxRecDepth 100000 in
theorem laws_forbidden.calls (a0 : ByteArray) (r : Bool) (w : World) (h : laws_forbidden.f a0 = some r) :
    Calls Try.prog 13 #[.string a0] w fun e w' => e = .returned (.bool r) ∧ Below w.heap.size w w' := by
  have HB := Aside0.mk (Below.refl w.heap.size w)
  have H : ((laws_low.f a0).bind fun t231 => (if t231.toList = ([99, 111, 110, 116, 101, 110, 116, 45, 108, 101, 110, 103, 116, 104] : List UInt8) then (some true) else (if t231.toList = ([116, 114, 97, 110, 115, 102, 101, 114, 45, 101, 110, 99, 111, 100, 105, 110, 103] : List UInt8) then (some true) else (if t231.toList = ([104, 111, 115, 116] : List UInt8) then (some true) else (if t231.toList = ([116, 114, 97, 105, 108, 101, 114] : List UInt8) then (some true) else (if t231.toList = ([99, 111, 110, 116, 101, 110, 116, 45, 116, 121, 112, 101] : List UInt8) then (some true) else (if t231.toList = ([99, 111, 110, 116, 101, 110, 116, 45, 101, 110, 99, 111, 100, 105, 110, 103] : List UInt8) then (some true) else (if t231.toList = ([99, 111, 110, 116, 101, 110, 116, 45, 114, 97, 110, 103, 101] : List UInt8) then (some true) else (if t231.toList = ([97, 117, 116, 104, 111, 114, 105, 122, 97, 116, 105, 111, 110] : List UInt8) then (some true) else (some false)))))))))) = some r := h
  clear h
  replace H := Option.bind_eq_some_iff.mp H
  obtain ⟨t231, A20, H⟩ := H
  replace H : (if t231.toList = ([99, 111, 110, 116, 101, 110, 116, 45, 108, 101, 110, 103, 116, 104] : List UInt8) then (some true) else (if t231.toList = ([116, 114, 97, 110, 115, 102, 101, 114, 45, 101, 110, 99, 111, 100, 105, 110, 103] : List UInt8) then (some true) else (if t231.toList = ([104, 111, 115, 116] : List UInt8) then (some true) else (if t231.toList = ([116, 114, 97, 105, 108, 101, 114] : List UInt8) then (some true) else (if t231.toList = ([99, 111, 110, 116, 101, 110, 116, 45, 116, 121, 112, 101] : List UInt8) then (some true) else (if t231.toList = ([99, 111, 110, 116, 101, 110, 116, 45, 101, 110, 99, 111, 100, 105, 110, 103] : List UInt8) then (some true) else (if t231.toList = ([99, 111, 110, 116, 101, 110, 116, 45, 114, 97, 110, 103, 101] : List UInt8) then (some true) else (if t231.toList = ([97, 117, 116, 104, 111, 114, 105, 122, 97, 116, 105, 111, 110] : List UInt8) then (some true) else (some false))))))))) = some r := H
  have A2 := Aside0.mk A20
  clear A20
  by_cases c3 : t231.toList = ([99, 111, 110, 116, 101, 110, 116, 45, 108, 101, 110, 103, 116, 104] : List UInt8)
  · rw [if_pos c3] at H
    have c3b0 : (t231.toList == ([99, 111, 110, 116, 101, 110, 116, 45, 108, 101, 110, 103, 116, 104] : List UInt8)) = true := beq_iff_eq.mpr c3
    have c3b1 : (t231.toList != ([99, 111, 110, 116, 101, 110, 116, 45, 108, 101, 110, 103, 116, 104] : List UInt8)) = false := bne_eq_false_iff_eq.mpr c3
    clear c3
    obtain rfl := Option.some.inj H
    go_enter Try.func13, Try.ntmps13
    go_wp2_with (first | ((with_reducible refine gate_callee (f := 14) rfl ?_); refine goesL_ (some 4) rfl rfl Try.func14 (by kernel_rfl) rfl #[.string a0] rfl (by (try simp only [List.map_toArray, List.map_cons, List.map_nil]); first | done | rfl | (simp only [List.length_drop, List.length_take]; rfl)) ?_; (with_reducible refine (laws_low.calls a0 t231 _ A2.out).mono ?_); rintro e w4 ⟨rfl, hb⟩; refine ⟨_, rfl, ?_⟩; have n0_ := Aside0.mk (below_step (by repeat (first | (with_reducible first | exact HB.out | apply below_alloc | apply pw_below_drewN | apply below_drew1) | exact HB.out)) hb); clear HB; have HB := n0_; clear n0_; (try clear hb); (try clear hb2); (try clear hk); (try clear hi)))
    go_ret
    exact ⟨by first | rfl | (simp [errW_none, errW_some] <;> rfl) | (simp [*, errW_none, errW_some] <;> rfl), by repeat (first | (with_reducible first | exact HB.out | apply below_alloc | apply pw_below_drewN | apply below_drew1) | exact HB.out)⟩
  · rw [if_neg c3] at H
    have c3b0 : (t231.toList == ([99, 111, 110, 116, 101, 110, 116, 45, 108, 101, 110, 103, 116, 104] : List UInt8)) = false := beq_eq_false_iff_ne.mpr c3
    have c3b1 : (t231.toList != ([99, 111, 110, 116, 101, 110, 116, 45, 108, 101, 110, 103, 116, 104] : List UInt8)) = true := bne_iff_ne.mpr c3
    by_cases c5 : t231.toList = ([116, 114, 97, 110, 115, 102, 101, 114, 45, 101, 110, 99, 111, 100, 105, 110, 103] : List UInt8)
    · rw [if_pos c5] at H
      have c5b0 : (t231.toList == ([116, 114, 97, 110, 115, 102, 101, 114, 45, 101, 110, 99, 111, 100, 105, 110, 103] : List UInt8)) = true := beq_iff_eq.mpr c5
      have c5b1 : (t231.toList != ([116, 114, 97, 110, 115, 102, 101, 114, 45, 101, 110, 99, 111, 100, 105, 110, 103] : List UInt8)) = false := bne_eq_false_iff_eq.mpr c5
      clear c5
      obtain rfl := Option.some.inj H
      go_enter Try.func13, Try.ntmps13
      go_wp2_with (first | ((with_reducible refine gate_callee (f := 14) rfl ?_); refine goesL_ (some 4) rfl rfl Try.func14 (by kernel_rfl) rfl #[.string a0] rfl (by (try simp only [List.map_toArray, List.map_cons, List.map_nil]); first | done | rfl | (simp only [List.length_drop, List.length_take]; rfl)) ?_; (with_reducible refine (laws_low.calls a0 t231 _ A2.out).mono ?_); rintro e w6 ⟨rfl, hb⟩; refine ⟨_, rfl, ?_⟩; have n0_ := Aside0.mk (below_step (by repeat (first | (with_reducible first | exact HB.out | apply below_alloc | apply pw_below_drewN | apply below_drew1) | exact HB.out)) hb); clear HB; have HB := n0_; clear n0_; (try clear hb); (try clear hb2); (try clear hk); (try clear hi)))
      go_ret
      exact ⟨by first | rfl | (simp [errW_none, errW_some] <;> rfl) | (simp [*, errW_none, errW_some] <;> rfl), by repeat (first | (with_reducible first | exact HB.out | apply below_alloc | apply pw_below_drewN | apply below_drew1) | exact HB.out)⟩
    · rw [if_neg c5] at H
      have c5b0 : (t231.toList == ([116, 114, 97, 110, 115, 102, 101, 114, 45, 101, 110, 99, 111, 100, 105, 110, 103] : List UInt8)) = false := beq_eq_false_iff_ne.mpr c5
      have c5b1 : (t231.toList != ([116, 114, 97, 110, 115, 102, 101, 114, 45, 101, 110, 99, 111, 100, 105, 110, 103] : List UInt8)) = true := bne_iff_ne.mpr c5
      by_cases c7 : t231.toList = ([104, 111, 115, 116] : List UInt8)
      · rw [if_pos c7] at H
        have c7b0 : (t231.toList == ([104, 111, 115, 116] : List UInt8)) = true := beq_iff_eq.mpr c7
        have c7b1 : (t231.toList != ([104, 111, 115, 116] : List UInt8)) = false := bne_eq_false_iff_eq.mpr c7
        clear c7
        obtain rfl := Option.some.inj H
        go_enter Try.func13, Try.ntmps13
        go_wp2_with (first | ((with_reducible refine gate_callee (f := 14) rfl ?_); refine goesL_ (some 4) rfl rfl Try.func14 (by kernel_rfl) rfl #[.string a0] rfl (by (try simp only [List.map_toArray, List.map_cons, List.map_nil]); first | done | rfl | (simp only [List.length_drop, List.length_take]; rfl)) ?_; (with_reducible refine (laws_low.calls a0 t231 _ A2.out).mono ?_); rintro e w8 ⟨rfl, hb⟩; refine ⟨_, rfl, ?_⟩; have n0_ := Aside0.mk (below_step (by repeat (first | (with_reducible first | exact HB.out | apply below_alloc | apply pw_below_drewN | apply below_drew1) | exact HB.out)) hb); clear HB; have HB := n0_; clear n0_; (try clear hb); (try clear hb2); (try clear hk); (try clear hi)))
        go_ret
        exact ⟨by first | rfl | (simp [errW_none, errW_some] <;> rfl) | (simp [*, errW_none, errW_some] <;> rfl), by repeat (first | (with_reducible first | exact HB.out | apply below_alloc | apply pw_below_drewN | apply below_drew1) | exact HB.out)⟩
      · rw [if_neg c7] at H
        have c7b0 : (t231.toList == ([104, 111, 115, 116] : List UInt8)) = false := beq_eq_false_iff_ne.mpr c7
        have c7b1 : (t231.toList != ([104, 111, 115, 116] : List UInt8)) = true := bne_iff_ne.mpr c7
        by_cases c9 : t231.toList = ([116, 114, 97, 105, 108, 101, 114] : List UInt8)
        · rw [if_pos c9] at H
          have c9b0 : (t231.toList == ([116, 114, 97, 105, 108, 101, 114] : List UInt8)) = true := beq_iff_eq.mpr c9
          have c9b1 : (t231.toList != ([116, 114, 97, 105, 108, 101, 114] : List UInt8)) = false := bne_eq_false_iff_eq.mpr c9
          clear c9
          obtain rfl := Option.some.inj H
          go_enter Try.func13, Try.ntmps13
          go_wp2_with (first | ((with_reducible refine gate_callee (f := 14) rfl ?_); refine goesL_ (some 4) rfl rfl Try.func14 (by kernel_rfl) rfl #[.string a0] rfl (by (try simp only [List.map_toArray, List.map_cons, List.map_nil]); first | done | rfl | (simp only [List.length_drop, List.length_take]; rfl)) ?_; (with_reducible refine (laws_low.calls a0 t231 _ A2.out).mono ?_); rintro e w10 ⟨rfl, hb⟩; refine ⟨_, rfl, ?_⟩; have n0_ := Aside0.mk (below_step (by repeat (first | (with_reducible first | exact HB.out | apply below_alloc | apply pw_below_drewN | apply below_drew1) | exact HB.out)) hb); clear HB; have HB := n0_; clear n0_; (try clear hb); (try clear hb2); (try clear hk); (try clear hi)))
          go_ret
          exact ⟨by first | rfl | (simp [errW_none, errW_some] <;> rfl) | (simp [*, errW_none, errW_some] <;> rfl), by repeat (first | (with_reducible first | exact HB.out | apply below_alloc | apply pw_below_drewN | apply below_drew1) | exact HB.out)⟩
        · rw [if_neg c9] at H
          have c9b0 : (t231.toList == ([116, 114, 97, 105, 108, 101, 114] : List UInt8)) = false := beq_eq_false_iff_ne.mpr c9
          have c9b1 : (t231.toList != ([116, 114, 97, 105, 108, 101, 114] : List UInt8)) = true := bne_iff_ne.mpr c9
          by_cases c11 : t231.toList = ([99, 111, 110, 116, 101, 110, 116, 45, 116, 121, 112, 101] : List UInt8)
          · rw [if_pos c11] at H
            have c11b0 : (t231.toList == ([99, 111, 110, 116, 101, 110, 116, 45, 116, 121, 112, 101] : List UInt8)) = true := beq_iff_eq.mpr c11
            have c11b1 : (t231.toList != ([99, 111, 110, 116, 101, 110, 116, 45, 116, 121, 112, 101] : List UInt8)) = false := bne_eq_false_iff_eq.mpr c11
            clear c11
            obtain rfl := Option.some.inj H
            go_enter Try.func13, Try.ntmps13
            go_wp2_with (first | ((with_reducible refine gate_callee (f := 14) rfl ?_); refine goesL_ (some 4) rfl rfl Try.func14 (by kernel_rfl) rfl #[.string a0] rfl (by (try simp only [List.map_toArray, List.map_cons, List.map_nil]); first | done | rfl | (simp only [List.length_drop, List.length_take]; rfl)) ?_; (with_reducible refine (laws_low.calls a0 t231 _ A2.out).mono ?_); rintro e w12 ⟨rfl, hb⟩; refine ⟨_, rfl, ?_⟩; have n0_ := Aside0.mk (below_step (by repeat (first | (with_reducible first | exact HB.out | apply below_alloc | apply pw_below_drewN | apply below_drew1) | exact HB.out)) hb); clear HB; have HB := n0_; clear n0_; (try clear hb); (try clear hb2); (try clear hk); (try clear hi)))
            go_ret
            exact ⟨by first | rfl | (simp [errW_none, errW_some] <;> rfl) | (simp [*, errW_none, errW_some] <;> rfl), by repeat (first | (with_reducible first | exact HB.out | apply below_alloc | apply pw_below_drewN | apply below_drew1) | exact HB.out)⟩
          · rw [if_neg c11] at H
            have c11b0 : (t231.toList == ([99, 111, 110, 116, 101, 110, 116, 45, 116, 121, 112, 101] : List UInt8)) = false := beq_eq_false_iff_ne.mpr c11
            have c11b1 : (t231.toList != ([99, 111, 110, 116, 101, 110, 116, 45, 116, 121, 112, 101] : List UInt8)) = true := bne_iff_ne.mpr c11
            by_cases c13 : t231.toList = ([99, 111, 110, 116, 101, 110, 116, 45, 101, 110, 99, 111, 100, 105, 110, 103] : List UInt8)
            · rw [if_pos c13] at H
              have c13b0 : (t231.toList == ([99, 111, 110, 116, 101, 110, 116, 45, 101, 110, 99, 111, 100, 105, 110, 103] : List UInt8)) = true := beq_iff_eq.mpr c13
              have c13b1 : (t231.toList != ([99, 111, 110, 116, 101, 110, 116, 45, 101, 110, 99, 111, 100, 105, 110, 103] : List UInt8)) = false := bne_eq_false_iff_eq.mpr c13
              clear c13
              obtain rfl := Option.some.inj H
              go_enter Try.func13, Try.ntmps13
              go_wp2_with (first | ((with_reducible refine gate_callee (f := 14) rfl ?_); refine goesL_ (some 4) rfl rfl Try.func14 (by kernel_rfl) rfl #[.string a0] rfl (by (try simp only [List.map_toArray, List.map_cons, List.map_nil]); first | done | rfl | (simp only [List.length_drop, List.length_take]; rfl)) ?_; (with_reducible refine (laws_low.calls a0 t231 _ A2.out).mono ?_); rintro e w14 ⟨rfl, hb⟩; refine ⟨_, rfl, ?_⟩; have n0_ := Aside0.mk (below_step (by repeat (first | (with_reducible first | exact HB.out | apply below_alloc | apply pw_below_drewN | apply below_drew1) | exact HB.out)) hb); clear HB; have HB := n0_; clear n0_; (try clear hb); (try clear hb2); (try clear hk); (try clear hi)))
              go_ret
              exact ⟨by first | rfl | (simp [errW_none, errW_some] <;> rfl) | (simp [*, errW_none, errW_some] <;> rfl), by repeat (first | (with_reducible first | exact HB.out | apply below_alloc | apply pw_below_drewN | apply below_drew1) | exact HB.out)⟩
            · rw [if_neg c13] at H
              have c13b0 : (t231.toList == ([99, 111, 110, 116, 101, 110, 116, 45, 101, 110, 99, 111, 100, 105, 110, 103] : List UInt8)) = false := beq_eq_false_iff_ne.mpr c13
              have c13b1 : (t231.toList != ([99, 111, 110, 116, 101, 110, 116, 45, 101, 110, 99, 111, 100, 105, 110, 103] : List UInt8)) = true := bne_iff_ne.mpr c13
              by_cases c15 : t231.toList = ([99, 111, 110, 116, 101, 110, 116, 45, 114, 97, 110, 103, 101] : List UInt8)
              · rw [if_pos c15] at H
                have c15b0 : (t231.toList == ([99, 111, 110, 116, 101, 110, 116, 45, 114, 97, 110, 103, 101] : List UInt8)) = true := beq_iff_eq.mpr c15
                have c15b1 : (t231.toList != ([99, 111, 110, 116, 101, 110, 116, 45, 114, 97, 110, 103, 101] : List UInt8)) = false := bne_eq_false_iff_eq.mpr c15
                clear c15
                obtain rfl := Option.some.inj H
                go_enter Try.func13, Try.ntmps13
                go_wp2_with (first | ((with_reducible refine gate_callee (f := 14) rfl ?_); refine goesL_ (some 4) rfl rfl Try.func14 (by kernel_rfl) rfl #[.string a0] rfl (by (try simp only [List.map_toArray, List.map_cons, List.map_nil]); first | done | rfl | (simp only [List.length_drop, List.length_take]; rfl)) ?_; (with_reducible refine (laws_low.calls a0 t231 _ A2.out).mono ?_); rintro e w16 ⟨rfl, hb⟩; refine ⟨_, rfl, ?_⟩; have n0_ := Aside0.mk (below_step (by repeat (first | (with_reducible first | exact HB.out | apply below_alloc | apply pw_below_drewN | apply below_drew1) | exact HB.out)) hb); clear HB; have HB := n0_; clear n0_; (try clear hb); (try clear hb2); (try clear hk); (try clear hi)))
                go_ret
                exact ⟨by first | rfl | (simp [errW_none, errW_some] <;> rfl) | (simp [*, errW_none, errW_some] <;> rfl), by repeat (first | (with_reducible first | exact HB.out | apply below_alloc | apply pw_below_drewN | apply below_drew1) | exact HB.out)⟩
              · rw [if_neg c15] at H
                have c15b0 : (t231.toList == ([99, 111, 110, 116, 101, 110, 116, 45, 114, 97, 110, 103, 101] : List UInt8)) = false := beq_eq_false_iff_ne.mpr c15
                have c15b1 : (t231.toList != ([99, 111, 110, 116, 101, 110, 116, 45, 114, 97, 110, 103, 101] : List UInt8)) = true := bne_iff_ne.mpr c15
                by_cases c17 : t231.toList = ([97, 117, 116, 104, 111, 114, 105, 122, 97, 116, 105, 111, 110] : List UInt8)
                · rw [if_pos c17] at H
                  have c17b0 : (t231.toList == ([97, 117, 116, 104, 111, 114, 105, 122, 97, 116, 105, 111, 110] : List UInt8)) = true := beq_iff_eq.mpr c17
                  have c17b1 : (t231.toList != ([97, 117, 116, 104, 111, 114, 105, 122, 97, 116, 105, 111, 110] : List UInt8)) = false := bne_eq_false_iff_eq.mpr c17
                  clear c17
                  obtain rfl := Option.some.inj H
                  go_enter Try.func13, Try.ntmps13
                  go_wp2_with (first | ((with_reducible refine gate_callee (f := 14) rfl ?_); refine goesL_ (some 4) rfl rfl Try.func14 (by kernel_rfl) rfl #[.string a0] rfl (by (try simp only [List.map_toArray, List.map_cons, List.map_nil]); first | done | rfl | (simp only [List.length_drop, List.length_take]; rfl)) ?_; (with_reducible refine (laws_low.calls a0 t231 _ A2.out).mono ?_); rintro e w18 ⟨rfl, hb⟩; refine ⟨_, rfl, ?_⟩; have n0_ := Aside0.mk (below_step (by repeat (first | (with_reducible first | exact HB.out | apply below_alloc | apply pw_below_drewN | apply below_drew1) | exact HB.out)) hb); clear HB; have HB := n0_; clear n0_; (try clear hb); (try clear hb2); (try clear hk); (try clear hi)))
                  go_ret
                  exact ⟨by first | rfl | (simp [errW_none, errW_some] <;> rfl) | (simp [*, errW_none, errW_some] <;> rfl), by repeat (first | (with_reducible first | exact HB.out | apply below_alloc | apply pw_below_drewN | apply below_drew1) | exact HB.out)⟩
                · rw [if_neg c17] at H
                  have c17b0 : (t231.toList == ([97, 117, 116, 104, 111, 114, 105, 122, 97, 116, 105, 111, 110] : List UInt8)) = false := beq_eq_false_iff_ne.mpr c17
                  have c17b1 : (t231.toList != ([97, 117, 116, 104, 111, 114, 105, 122, 97, 116, 105, 111, 110] : List UInt8)) = true := bne_iff_ne.mpr c17
                  obtain rfl := Option.some.inj H
                  go_enter Try.func13, Try.ntmps13
                  go_wp2_with (first | ((with_reducible refine gate_callee (f := 14) rfl ?_); refine goesL_ (some 4) rfl rfl Try.func14 (by kernel_rfl) rfl #[.string a0] rfl (by (try simp only [List.map_toArray, List.map_cons, List.map_nil]); first | done | rfl | (simp only [List.length_drop, List.length_take]; rfl)) ?_; (with_reducible refine (laws_low.calls a0 t231 _ A2.out).mono ?_); rintro e w19 ⟨rfl, hb⟩; refine ⟨_, rfl, ?_⟩; have n0_ := Aside0.mk (below_step (by repeat (first | (with_reducible first | exact HB.out | apply below_alloc | apply pw_below_drewN | apply below_drew1) | exact HB.out)) hb); clear HB; have HB := n0_; clear n0_; (try clear hb); (try clear hb2); (try clear hk); (try clear hi)))
                  go_ret
                  exact ⟨by first | rfl | (simp [errW_none, errW_some] <;> rfl) | (simp [*, errW_none, errW_some] <;> rfl), by repeat (first | (with_reducible first | exact HB.out | apply below_alloc | apply pw_below_drewN | apply below_drew1) | exact HB.out)⟩

end Go.Proofs.Ytjnnadpecendpaa.QA
