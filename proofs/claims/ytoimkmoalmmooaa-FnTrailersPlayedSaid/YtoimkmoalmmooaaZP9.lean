/- Texts of this claim, one behind the other (merged by wip/prune.py of this repo, without what the proof does not use): QA12, GModel. -/
import Derived.Test.YtoimkmoalmmooaaZP2
import Derived.Test.YtoimkmoalmmooaaZP4
import Derived.Test.YtoimkmoalmmooaaZP8
namespace Go.Proofs.Ytoimkmoalmmooaa.QA
open Go.Proofs.Ytoimkmoalmmooaa.Given
open Go.Proofs.Ytoimkmoalmmooaa.PrX
open Go.RowKit Go.Proofs.YtoimkmoalmmooaaW.PrintWords Go.Proofs.YtoimkmoalmmooaaW.PrintLast Go.Proofs.YtoimkmoalmmooaaW.PrintMore
set_option linter.unusedVariables false
set_option linter.unusedSimpArgs false
def laws_forbidden.f (a0 : ByteArray) : Option (Bool) := (laws_low.f a0).bind fun t267 => (if t267.toList = ([99, 111, 110, 116, 101, 110, 116, 45, 108, 101, 110, 103, 116, 104] : List UInt8) then (some true) else (if t267.toList = ([116, 114, 97, 110, 115, 102, 101, 114, 45, 101, 110, 99, 111, 100, 105, 110, 103] : List UInt8) then (some true) else (if t267.toList = ([104, 111, 115, 116] : List UInt8) then (some true) else (if t267.toList = ([116, 114, 97, 105, 108, 101, 114] : List UInt8) then (some true) else (if t267.toList = ([99, 111, 110, 116, 101, 110, 116, 45, 116, 121, 112, 101] : List UInt8) then (some true) else (if t267.toList = ([99, 111, 110, 116, 101, 110, 116, 45, 101, 110, 99, 111, 100, 105, 110, 103] : List UInt8) then (some true) else (if t267.toList = ([99, 111, 110, 116, 101, 110, 116, 45, 114, 97, 110, 103, 101] : List UInt8) then (some true) else (if t267.toList = ([97, 117, 116, 104, 111, 114, 105, 122, 97, 116, 105, 111, 110] : List UInt8) then (some true) else (some false)))))))))
set_option maxHeartbeats 8000000 in
set_option maxRecDepth 100000 in
theorem laws_forbidden.calls (a0 : ByteArray) (r : Bool) (w : World) (h : laws_forbidden.f a0 = some r) :
    Calls Try.prog 11 #[.string a0] w fun e w' => e = .returned (.bool r) ∧ Below w.heap.size w w' := by
  have HB := Aside0.mk (Below.refl w.heap.size w)
  have H : ((laws_low.f a0).bind fun t267 => (if t267.toList = ([99, 111, 110, 116, 101, 110, 116, 45, 108, 101, 110, 103, 116, 104] : List UInt8) then (some true) else (if t267.toList = ([116, 114, 97, 110, 115, 102, 101, 114, 45, 101, 110, 99, 111, 100, 105, 110, 103] : List UInt8) then (some true) else (if t267.toList = ([104, 111, 115, 116] : List UInt8) then (some true) else (if t267.toList = ([116, 114, 97, 105, 108, 101, 114] : List UInt8) then (some true) else (if t267.toList = ([99, 111, 110, 116, 101, 110, 116, 45, 116, 121, 112, 101] : List UInt8) then (some true) else (if t267.toList = ([99, 111, 110, 116, 101, 110, 116, 45, 101, 110, 99, 111, 100, 105, 110, 103] : List UInt8) then (some true) else (if t267.toList = ([99, 111, 110, 116, 101, 110, 116, 45, 114, 97, 110, 103, 101] : List UInt8) then (some true) else (if t267.toList = ([97, 117, 116, 104, 111, 114, 105, 122, 97, 116, 105, 111, 110] : List UInt8) then (some true) else (some false)))))))))) = some r := h
  clear h
  replace H := Option.bind_eq_some_iff.mp H
  obtain ⟨t267, A20, H⟩ := H
  replace H : (if t267.toList = ([99, 111, 110, 116, 101, 110, 116, 45, 108, 101, 110, 103, 116, 104] : List UInt8) then (some true) else (if t267.toList = ([116, 114, 97, 110, 115, 102, 101, 114, 45, 101, 110, 99, 111, 100, 105, 110, 103] : List UInt8) then (some true) else (if t267.toList = ([104, 111, 115, 116] : List UInt8) then (some true) else (if t267.toList = ([116, 114, 97, 105, 108, 101, 114] : List UInt8) then (some true) else (if t267.toList = ([99, 111, 110, 116, 101, 110, 116, 45, 116, 121, 112, 101] : List UInt8) then (some true) else (if t267.toList = ([99, 111, 110, 116, 101, 110, 116, 45, 101, 110, 99, 111, 100, 105, 110, 103] : List UInt8) then (some true) else (if t267.toList = ([99, 111, 110, 116, 101, 110, 116, 45, 114, 97, 110, 103, 101] : List UInt8) then (some true) else (if t267.toList = ([97, 117, 116, 104, 111, 114, 105, 122, 97, 116, 105, 111, 110] : List UInt8) then (some true) else (some false))))))))) = some r := H
  have A2 := Aside0.mk A20
  clear A20
  by_cases c3 : t267.toList = ([99, 111, 110, 116, 101, 110, 116, 45, 108, 101, 110, 103, 116, 104] : List UInt8)
  · rw [if_pos c3] at H
    have c3b0 : (t267.toList == ([99, 111, 110, 116, 101, 110, 116, 45, 108, 101, 110, 103, 116, 104] : List UInt8)) = true := beq_iff_eq.mpr c3
    have c3b1 : (t267.toList != ([99, 111, 110, 116, 101, 110, 116, 45, 108, 101, 110, 103, 116, 104] : List UInt8)) = false := bne_eq_false_iff_eq.mpr c3
    clear c3
    obtain rfl := Option.some.inj H
    go_enter Try.func11, Try.ntmps11
    go_wp2_with (first | ((with_reducible refine gate_callee (f := 15) rfl ?_); refine goesL_ (some 4) rfl rfl Try.func15 (by kernel_rfl) rfl #[.string a0] rfl (by (try simp only [List.map_toArray, List.map_cons, List.map_nil]); first | done | rfl | (simp only [List.length_drop, List.length_take]; rfl)) ?_; (with_reducible refine (laws_low.calls a0 t267 _ A2.out).mono ?_); rintro e w4 ⟨rfl, hb⟩; refine ⟨_, rfl, ?_⟩; have n0_ := Aside0.mk (below_step (by repeat (first | (with_reducible first | exact HB.out | apply below_alloc | apply pw_below_drewN | apply below_drew1) | exact HB.out)) hb); clear HB; have HB := n0_; clear n0_; (try clear hb); (try clear hb2); (try clear hk); (try clear hi)))
    go_ret
    exact ⟨by first | rfl | (simp [errW_none, errW_some] <;> rfl) | (simp [*, errW_none, errW_some] <;> rfl), by repeat (first | (with_reducible first | exact HB.out | apply below_alloc | apply pw_below_drewN | apply below_drew1) | exact HB.out)⟩
  · rw [if_neg c3] at H
    have c3b0 : (t267.toList == ([99, 111, 110, 116, 101, 110, 116, 45, 108, 101, 110, 103, 116, 104] : List UInt8)) = false := beq_eq_false_iff_ne.mpr c3
    have c3b1 : (t267.toList != ([99, 111, 110, 116, 101, 110, 116, 45, 108, 101, 110, 103, 116, 104] : List UInt8)) = true := bne_iff_ne.mpr c3
    by_cases c5 : t267.toList = ([116, 114, 97, 110, 115, 102, 101, 114, 45, 101, 110, 99, 111, 100, 105, 110, 103] : List UInt8)
    · rw [if_pos c5] at H
      have c5b0 : (t267.toList == ([116, 114, 97, 110, 115, 102, 101, 114, 45, 101, 110, 99, 111, 100, 105, 110, 103] : List UInt8)) = true := beq_iff_eq.mpr c5
      have c5b1 : (t267.toList != ([116, 114, 97, 110, 115, 102, 101, 114, 45, 101, 110, 99, 111, 100, 105, 110, 103] : List UInt8)) = false := bne_eq_false_iff_eq.mpr c5
      clear c5
      obtain rfl := Option.some.inj H
      go_enter Try.func11, Try.ntmps11
      go_wp2_with (first | ((with_reducible refine gate_callee (f := 15) rfl ?_); refine goesL_ (some 4) rfl rfl Try.func15 (by kernel_rfl) rfl #[.string a0] rfl (by (try simp only [List.map_toArray, List.map_cons, List.map_nil]); first | done | rfl | (simp only [List.length_drop, List.length_take]; rfl)) ?_; (with_reducible refine (laws_low.calls a0 t267 _ A2.out).mono ?_); rintro e w6 ⟨rfl, hb⟩; refine ⟨_, rfl, ?_⟩; have n0_ := Aside0.mk (below_step (by repeat (first | (with_reducible first | exact HB.out | apply below_alloc | apply pw_below_drewN | apply below_drew1) | exact HB.out)) hb); clear HB; have HB := n0_; clear n0_; (try clear hb); (try clear hb2); (try clear hk); (try clear hi)))
      go_ret
      exact ⟨by first | rfl | (simp [errW_none, errW_some] <;> rfl) | (simp [*, errW_none, errW_some] <;> rfl), by repeat (first | (with_reducible first | exact HB.out | apply below_alloc | apply pw_below_drewN | apply below_drew1) | exact HB.out)⟩
    · rw [if_neg c5] at H
      have c5b0 : (t267.toList == ([116, 114, 97, 110, 115, 102, 101, 114, 45, 101, 110, 99, 111, 100, 105, 110, 103] : List UInt8)) = false := beq_eq_false_iff_ne.mpr c5
      have c5b1 : (t267.toList != ([116, 114, 97, 110, 115, 102, 101, 114, 45, 101, 110, 99, 111, 100, 105, 110, 103] : List UInt8)) = true := bne_iff_ne.mpr c5
      by_cases c7 : t267.toList = ([104, 111, 115, 116] : List UInt8)
      · rw [if_pos c7] at H
        have c7b0 : (t267.toList == ([104, 111, 115, 116] : List UInt8)) = true := beq_iff_eq.mpr c7
        have c7b1 : (t267.toList != ([104, 111, 115, 116] : List UInt8)) = false := bne_eq_false_iff_eq.mpr c7
        clear c7
        obtain rfl := Option.some.inj H
        go_enter Try.func11, Try.ntmps11
        go_wp2_with (first | ((with_reducible refine gate_callee (f := 15) rfl ?_); refine goesL_ (some 4) rfl rfl Try.func15 (by kernel_rfl) rfl #[.string a0] rfl (by (try simp only [List.map_toArray, List.map_cons, List.map_nil]); first | done | rfl | (simp only [List.length_drop, List.length_take]; rfl)) ?_; (with_reducible refine (laws_low.calls a0 t267 _ A2.out).mono ?_); rintro e w8 ⟨rfl, hb⟩; refine ⟨_, rfl, ?_⟩; have n0_ := Aside0.mk (below_step (by repeat (first | (with_reducible first | exact HB.out | apply below_alloc | apply pw_below_drewN | apply below_drew1) | exact HB.out)) hb); clear HB; have HB := n0_; clear n0_; (try clear hb); (try clear hb2); (try clear hk); (try clear hi)))
        go_ret
        exact ⟨by first | rfl | (simp [errW_none, errW_some] <;> rfl) | (simp [*, errW_none, errW_some] <;> rfl), by repeat (first | (with_reducible first | exact HB.out | apply below_alloc | apply pw_below_drewN | apply below_drew1) | exact HB.out)⟩
      · rw [if_neg c7] at H
        have c7b0 : (t267.toList == ([104, 111, 115, 116] : List UInt8)) = false := beq_eq_false_iff_ne.mpr c7
        have c7b1 : (t267.toList != ([104, 111, 115, 116] : List UInt8)) = true := bne_iff_ne.mpr c7
        by_cases c9 : t267.toList = ([116, 114, 97, 105, 108, 101, 114] : List UInt8)
        · rw [if_pos c9] at H
          have c9b0 : (t267.toList == ([116, 114, 97, 105, 108, 101, 114] : List UInt8)) = true := beq_iff_eq.mpr c9
          have c9b1 : (t267.toList != ([116, 114, 97, 105, 108, 101, 114] : List UInt8)) = false := bne_eq_false_iff_eq.mpr c9
          clear c9
          obtain rfl := Option.some.inj H
          go_enter Try.func11, Try.ntmps11
          go_wp2_with (first | ((with_reducible refine gate_callee (f := 15) rfl ?_); refine goesL_ (some 4) rfl rfl Try.func15 (by kernel_rfl) rfl #[.string a0] rfl (by (try simp only [List.map_toArray, List.map_cons, List.map_nil]); first | done | rfl | (simp only [List.length_drop, List.length_take]; rfl)) ?_; (with_reducible refine (laws_low.calls a0 t267 _ A2.out).mono ?_); rintro e w10 ⟨rfl, hb⟩; refine ⟨_, rfl, ?_⟩; have n0_ := Aside0.mk (below_step (by repeat (first | (with_reducible first | exact HB.out | apply below_alloc | apply pw_below_drewN | apply below_drew1) | exact HB.out)) hb); clear HB; have HB := n0_; clear n0_; (try clear hb); (try clear hb2); (try clear hk); (try clear hi)))
          go_ret
          exact ⟨by first | rfl | (simp [errW_none, errW_some] <;> rfl) | (simp [*, errW_none, errW_some] <;> rfl), by repeat (first | (with_reducible first | exact HB.out | apply below_alloc | apply pw_below_drewN | apply below_drew1) | exact HB.out)⟩
        · rw [if_neg c9] at H
          have c9b0 : (t267.toList == ([116, 114, 97, 105, 108, 101, 114] : List UInt8)) = false := beq_eq_false_iff_ne.mpr c9
          have c9b1 : (t267.toList != ([116, 114, 97, 105, 108, 101, 114] : List UInt8)) = true := bne_iff_ne.mpr c9
          by_cases c11 : t267.toList = ([99, 111, 110, 116, 101, 110, 116, 45, 116, 121, 112, 101] : List UInt8)
          · rw [if_pos c11] at H
            have c11b0 : (t267.toList == ([99, 111, 110, 116, 101, 110, 116, 45, 116, 121, 112, 101] : List UInt8)) = true := beq_iff_eq.mpr c11
            have c11b1 : (t267.toList != ([99, 111, 110, 116, 101, 110, 116, 45, 116, 121, 112, 101] : List UInt8)) = false := bne_eq_false_iff_eq.mpr c11
            clear c11
            obtain rfl := Option.some.inj H
            go_enter Try.func11, Try.ntmps11
            go_wp2_with (first | ((with_reducible refine gate_callee (f := 15) rfl ?_); refine goesL_ (some 4) rfl rfl Try.func15 (by kernel_rfl) rfl #[.string a0] rfl (by (try simp only [List.map_toArray, List.map_cons, List.map_nil]); first | done | rfl | (simp only [List.length_drop, List.length_take]; rfl)) ?_; (with_reducible refine (laws_low.calls a0 t267 _ A2.out).mono ?_); rintro e w12 ⟨rfl, hb⟩; refine ⟨_, rfl, ?_⟩; have n0_ := Aside0.mk (below_step (by repeat (first | (with_reducible first | exact HB.out | apply below_alloc | apply pw_below_drewN | apply below_drew1) | exact HB.out)) hb); clear HB; have HB := n0_; clear n0_; (try clear hb); (try clear hb2); (try clear hk); (try clear hi)))
            go_ret
            exact ⟨by first | rfl | (simp [errW_none, errW_some] <;> rfl) | (simp [*, errW_none, errW_some] <;> rfl), by repeat (first | (with_reducible first | exact HB.out | apply below_alloc | apply pw_below_drewN | apply below_drew1) | exact HB.out)⟩
          · rw [if_neg c11] at H
            have c11b0 : (t267.toList == ([99, 111, 110, 116, 101, 110, 116, 45, 116, 121, 112, 101] : List UInt8)) = false := beq_eq_false_iff_ne.mpr c11
            have c11b1 : (t267.toList != ([99, 111, 110, 116, 101, 110, 116, 45, 116, 121, 112, 101] : List UInt8)) = true := bne_iff_ne.mpr c11
            by_cases c13 : t267.toList = ([99, 111, 110, 116, 101, 110, 116, 45, 101, 110, 99, 111, 100, 105, 110, 103] : List UInt8)
            · rw [if_pos c13] at H
              have c13b0 : (t267.toList == ([99, 111, 110, 116, 101, 110, 116, 45, 101, 110, 99, 111, 100, 105, 110, 103] : List UInt8)) = true := beq_iff_eq.mpr c13
              have c13b1 : (t267.toList != ([99, 111, 110, 116, 101, 110, 116, 45, 101, 110, 99, 111, 100, 105, 110, 103] : List UInt8)) = false := bne_eq_false_iff_eq.mpr c13
              clear c13
              obtain rfl := Option.some.inj H
              go_enter Try.func11, Try.ntmps11
              go_wp2_with (first | ((with_reducible refine gate_callee (f := 15) rfl ?_); refine goesL_ (some 4) rfl rfl Try.func15 (by kernel_rfl) rfl #[.string a0] rfl (by (try simp only [List.map_toArray, List.map_cons, List.map_nil]); first | done | rfl | (simp only [List.length_drop, List.length_take]; rfl)) ?_; (with_reducible refine (laws_low.calls a0 t267 _ A2.out).mono ?_); rintro e w14 ⟨rfl, hb⟩; refine ⟨_, rfl, ?_⟩; have n0_ := Aside0.mk (below_step (by repeat (first | (with_reducible first | exact HB.out | apply below_alloc | apply pw_below_drewN | apply below_drew1) | exact HB.out)) hb); clear HB; have HB := n0_; clear n0_; (try clear hb); (try clear hb2); (try clear hk); (try clear hi)))
              go_ret
              exact ⟨by first | rfl | (simp [errW_none, errW_some] <;> rfl) | (simp [*, errW_none, errW_some] <;> rfl), by repeat (first | (with_reducible first | exact HB.out | apply below_alloc | apply pw_below_drewN | apply below_drew1) | exact HB.out)⟩
            · rw [if_neg c13] at H
              have c13b0 : (t267.toList == ([99, 111, 110, 116, 101, 110, 116, 45, 101, 110, 99, 111, 100, 105, 110, 103] : List UInt8)) = false := beq_eq_false_iff_ne.mpr c13
              have c13b1 : (t267.toList != ([99, 111, 110, 116, 101, 110, 116, 45, 101, 110, 99, 111, 100, 105, 110, 103] : List UInt8)) = true := bne_iff_ne.mpr c13
              by_cases c15 : t267.toList = ([99, 111, 110, 116, 101, 110, 116, 45, 114, 97, 110, 103, 101] : List UInt8)
              · rw [if_pos c15] at H
                have c15b0 : (t267.toList == ([99, 111, 110, 116, 101, 110, 116, 45, 114, 97, 110, 103, 101] : List UInt8)) = true := beq_iff_eq.mpr c15
                have c15b1 : (t267.toList != ([99, 111, 110, 116, 101, 110, 116, 45, 114, 97, 110, 103, 101] : List UInt8)) = false := bne_eq_false_iff_eq.mpr c15
                clear c15
                obtain rfl := Option.some.inj H
                go_enter Try.func11, Try.ntmps11
                go_wp2_with (first | ((with_reducible refine gate_callee (f := 15) rfl ?_); refine goesL_ (some 4) rfl rfl Try.func15 (by kernel_rfl) rfl #[.string a0] rfl (by (try simp only [List.map_toArray, List.map_cons, List.map_nil]); first | done | rfl | (simp only [List.length_drop, List.length_take]; rfl)) ?_; (with_reducible refine (laws_low.calls a0 t267 _ A2.out).mono ?_); rintro e w16 ⟨rfl, hb⟩; refine ⟨_, rfl, ?_⟩; have n0_ := Aside0.mk (below_step (by repeat (first | (with_reducible first | exact HB.out | apply below_alloc | apply pw_below_drewN | apply below_drew1) | exact HB.out)) hb); clear HB; have HB := n0_; clear n0_; (try clear hb); (try clear hb2); (try clear hk); (try clear hi)))
                go_ret
                exact ⟨by first | rfl | (simp [errW_none, errW_some] <;> rfl) | (simp [*, errW_none, errW_some] <;> rfl), by repeat (first | (with_reducible first | exact HB.out | apply below_alloc | apply pw_below_drewN | apply below_drew1) | exact HB.out)⟩
              · rw [if_neg c15] at H
                have c15b0 : (t267.toList == ([99, 111, 110, 116, 101, 110, 116, 45, 114, 97, 110, 103, 101] : List UInt8)) = false := beq_eq_false_iff_ne.mpr c15
                have c15b1 : (t267.toList != ([99, 111, 110, 116, 101, 110, 116, 45, 114, 97, 110, 103, 101] : List UInt8)) = true := bne_iff_ne.mpr c15
                by_cases c17 : t267.toList = ([97, 117, 116, 104, 111, 114, 105, 122, 97, 116, 105, 111, 110] : List UInt8)
                · rw [if_pos c17] at H
                  have c17b0 : (t267.toList == ([97, 117, 116, 104, 111, 114, 105, 122, 97, 116, 105, 111, 110] : List UInt8)) = true := beq_iff_eq.mpr c17
                  have c17b1 : (t267.toList != ([97, 117, 116, 104, 111, 114, 105, 122, 97, 116, 105, 111, 110] : List UInt8)) = false := bne_eq_false_iff_eq.mpr c17
                  clear c17
                  obtain rfl := Option.some.inj H
                  go_enter Try.func11, Try.ntmps11
                  go_wp2_with (first | ((with_reducible refine gate_callee (f := 15) rfl ?_); refine goesL_ (some 4) rfl rfl Try.func15 (by kernel_rfl) rfl #[.string a0] rfl (by (try simp only [List.map_toArray, List.map_cons, List.map_nil]); first | done | rfl | (simp only [List.length_drop, List.length_take]; rfl)) ?_; (with_reducible refine (laws_low.calls a0 t267 _ A2.out).mono ?_); rintro e w18 ⟨rfl, hb⟩; refine ⟨_, rfl, ?_⟩; have n0_ := Aside0.mk (below_step (by repeat (first | (with_reducible first | exact HB.out | apply below_alloc | apply pw_below_drewN | apply below_drew1) | exact HB.out)) hb); clear HB; have HB := n0_; clear n0_; (try clear hb); (try clear hb2); (try clear hk); (try clear hi)))
                  go_ret
                  exact ⟨by first | rfl | (simp [errW_none, errW_some] <;> rfl) | (simp [*, errW_none, errW_some] <;> rfl), by repeat (first | (with_reducible first | exact HB.out | apply below_alloc | apply pw_below_drewN | apply below_drew1) | exact HB.out)⟩
                · rw [if_neg c17] at H
                  have c17b0 : (t267.toList == ([97, 117, 116, 104, 111, 114, 105, 122, 97, 116, 105, 111, 110] : List UInt8)) = false := beq_eq_false_iff_ne.mpr c17
                  have c17b1 : (t267.toList != ([97, 117, 116, 104, 111, 114, 105, 122, 97, 116, 105, 111, 110] : List UInt8)) = true := bne_iff_ne.mpr c17
                  obtain rfl := Option.some.inj H
                  go_enter Try.func11, Try.ntmps11
                  go_wp2_with (first | ((with_reducible refine gate_callee (f := 15) rfl ?_); refine goesL_ (some 4) rfl rfl Try.func15 (by kernel_rfl) rfl #[.string a0] rfl (by (try simp only [List.map_toArray, List.map_cons, List.map_nil]); first | done | rfl | (simp only [List.length_drop, List.length_take]; rfl)) ?_; (with_reducible refine (laws_low.calls a0 t267 _ A2.out).mono ?_); rintro e w19 ⟨rfl, hb⟩; refine ⟨_, rfl, ?_⟩; have n0_ := Aside0.mk (below_step (by repeat (first | (with_reducible first | exact HB.out | apply below_alloc | apply pw_below_drewN | apply below_drew1) | exact HB.out)) hb); clear HB; have HB := n0_; clear n0_; (try clear hb); (try clear hb2); (try clear hk); (try clear hi)))
                  go_ret
                  exact ⟨by first | rfl | (simp [errW_none, errW_some] <;> rfl) | (simp [*, errW_none, errW_some] <;> rfl), by repeat (first | (with_reducible first | exact HB.out | apply below_alloc | apply pw_below_drewN | apply below_drew1) | exact HB.out)⟩
end Go.Proofs.Ytoimkmoalmmooaa.QA
set_option linter.unusedVariables false
set_option linter.unusedSimpArgs false
namespace Go.Proofs.Ytoimkmoalmmooaa.Own
open Go.RowKit Go.Proofs.YtoimkmoalmmooaaW.PrintWords Go.Proofs.YtoimkmoalmmooaaW.PrintLast Go.Proofs.YtoimkmoalmmooaaW.PrintMore Go.Proofs.Ytoimkmoalmmooaa.Base Go.Proofs.Ytoimkmoalmmooaa.Gv Go.Proofs.Ytoimkmoalmmooaa.Given Go.Proofs.Ytoimkmoalmmooaa.QA
theorem below_weakenT {B C : Nat} {a b : World} (h : B ≤ C) (k : Below C a b) : Below B a b := ⟨k.os, k.tape, k.output, k.size, fun i hi => k.block i (by omega)⟩
abbrev MPair := S34
def ModelR (w W : World) (hv : Value) (H' : List MPair) (T : ByteArray) (ok : Bool) (e : Ending) (w' : World) : Prop :=
  ∃ v0 A4 n4 c4 A5 n5 c5, e = .returned (.tuple #[v0, .agg #[.string T, .bool false, .int .i64 0, .slice A4 n4 c4, .slice A5 n5 c5], .bool ok]) ∧ Kd.R k34 34 w' w.heap.size (fun _ => True) v0 H' ∧ Below w.heap.size w w' ∧ W.grownBy w' hv.ownBlock
def modelT (H : List MPair) (d : Int) (key v : ByteArray) : List MPair × ByteArray × Bool := match modelP H d key v with
  | none => (H, ⟨#[]⟩, false)
  | some (H', T, _) => (H', T, true)
theorem two_new (W : World) (o1 o2 : Obj) : ((W.alloc o1).alloc o2).heap[W.heap.size]? = some o1 ∧ ((W.alloc o1).alloc o2).heap[W.heap.size + 1]? = some o2 ∧ Below W.heap.size W ((W.alloc o1).alloc o2) := by
  have hb : Below W.heap.size W (W.alloc o1) := (Below.refl _ _).alloc (Nat.le_refl _) _
  have hs : (W.alloc o1).heap.size = W.heap.size + 1 := by simp
  have hb2 : Below (W.alloc o1).heap.size (W.alloc o1) ((W.alloc o1).alloc o2) := (Below.refl _ _).alloc (Nat.le_refl _) _
  refine ⟨(hb2.block _ (by omega)).trans (heap_alloc_new W o1), ?_, hb.trans ⟨hb2.os, hb2.tape, hb2.output, hb2.size, fun i hi => hb2.block i (by omega)⟩⟩
  rw [← hs]
  exact heap_alloc_new _ _
theorem ans_put {W : World} {g : Nat} {o0 o1 o2 o3 o4 : Value} (h : W.heap[g]? = some (.cells #[o0, o1, o2, o3, o4] 32 (0, 0))) (u0 u1 u2 u3 u4 : Value) :
    (((((W.setCell ⟨g, 0, none⟩ u0).setCell ⟨g, 1, none⟩ u1).setCell ⟨g, 2, none⟩ u2).setCell ⟨g, 3, none⟩ u3).setCell ⟨g, 4, none⟩ u4).heap[g]? = some (.cells #[u0, u1, u2, u3, u4] 32 (0, 0)) :=
  heap_setCell_same _ g 4 _ _ _ (heap_setCell_same _ g 3 _ _ _ (heap_setCell_same _ g 2 _ _ _ (heap_setCell_same _ g 1 _ _ _ (heap_setCell_same _ g 0 _ _ _ h))))
theorem ans_below {B : Nat} {W0 W : World} {g : Nat} (hb : Below B W0 W) (hg : B ≤ g) (u0 u1 u2 u3 u4 : Value) : Below B W0 (((((W.setCell ⟨g, 0, none⟩ u0).setCell ⟨g, 1, none⟩ u1).setCell ⟨g, 2, none⟩ u2).setCell ⟨g, 3, none⟩ u3).setCell ⟨g, 4, none⟩ u4) :=
  ((((hb.setCell hg _).setCell hg _).setCell hg _).setCell hg _).setCell hg _
theorem ans_R {W : World} {base g : Nat} {v : Value} {xs : List MPair} {ok : Nat → Prop} (hr : Kd.R k34 34 W base ok v xs) {o0 o1 o2 o3 o4 : Value} (h : W.heap[g]? = some (.cells #[o0, o1, o2, o3, o4] 32 (0, 0))) (u0 u1 u2 u3 u4 : Value) :
    Kd.R k34 34 (((((W.setCell ⟨g, 0, none⟩ u0).setCell ⟨g, 1, none⟩ u1).setCell ⟨g, 2, none⟩ u2).setCell ⟨g, 3, none⟩ u3).setCell ⟨g, 4, none⟩ u4) base ok v xs := by
  have h0 := heap_setCell_same _ g 0 _ _ u0 h
  have h1 := heap_setCell_same _ g 1 _ _ u1 h0
  have h2 := heap_setCell_same _ g 2 _ _ u2 h1
  have h3 := heap_setCell_same _ g 3 _ _ u3 h2
  exact Kd.R_set (Kd.R_set (Kd.R_set (Kd.R_set (Kd.R_set hr h (by decide) 0 u0) h0 (by decide) 1 u1) h1 (by decide) 2 u2) h2 (by decide) 3 u3) h3 (by decide) 4 u4
theorem grown3 {W W2 w9 w10 : World} {row : Option Nat} (h1 : Below W.heap.size W W2) (hg : W2.grownBy w9 row) (h3 : Below W.heap.size w9 w10) : W.grownBy w10 row :=
  ⟨h3.os.trans (hg.os.trans h1.os), h3.tape.trans (hg.tape.trans h1.tape), h3.output.trans (hg.output.trans h1.output), Nat.le_trans h1.size (Nat.le_trans hg.size h3.size), fun k hk hr => (h3.block k hk).trans ((hg.block k (Nat.lt_of_lt_of_le hk h1.size) hr).trans (h1.block k hk))⟩
theorem empty_R (w : World) : Kd.R k34 34 (w.alloc (.cells #[] 34)) w.heap.size (fun _ => True) (.slice (some ⟨w.heap.size, 0, none⟩) 0 0) [] :=
  ⟨fun k hk => trivial, [], World.ownsRow_lit (base := w.heap.size) (e := 34) (size := 2) w #[] 0 (Nat.le_refl _) (by unfold maxLen; omega) (by simp), Reps.none _ _⟩
theorem grown_of_below {w w1 : World} (h : Below w.heap.size w w1) (row : Option Nat) : w.grownBy w1 row := ⟨h.os, h.tape, h.output, h.size, fun k hk _ => h.block k hk⟩
set_option maxHeartbeats 2000000 in
set_option maxRecDepth 100000 in
theorem model_walk (w W : World) (hv : Value) (H : List MPair) (d : Int) (k0 v key : ByteArray) (n m : Int) (hB : Below w.heap.size w W) (hr : Kd.R k34 34 W w.heap.size (fun _ => True) hv H) (hH : H.length ≤ 1000000) (hkey : laws_normal.f k0 = some key) (r : List MPair × ByteArray × Bool) (hrr : modelT H d key v = r) :
  Calls Try.prog 22 #[hv, .agg #[.int .i64 d, .string k0, .string v, .int .i64 n, .int .i64 m]] W fun e w' => ModelR w W hv r.1 r.2.1 r.2.2 e w' := by
 have HRR := Lib.hid hrr
 clear hrr
 obtain ⟨A0, c0, rfl, hc, hC⟩ := Kd.R_reads hr
 have HN := Lib.hid (fun W => laws_normal.calls k0 key W hkey)
 obtain ⟨k, hk⟩ := values_ends H key (by omega)
 obtain ⟨vs, hvs⟩ : ∃ vs, valuesP H key = vs := ⟨_, rfl⟩
 rw [hvs] at hk
 have HV := Lib.hid (fun W2 (h : Kd.C k34 W2 A0 H.length H) => laws_values.calls k A0 c0 H key vs W2 h hc (hk k (Nat.le_refl _)))
 obtain ⟨W2, hW2⟩ : ∃ X, (W.alloc (.cells #[.int .i64 d, .string k0, .string v, .int .i64 n, .int .i64 m] 28)).alloc (.cells #[.string ⟨#[]⟩, .bool false, .int .i64 0, .slice none 0 0, .slice none 0 0] 32) = X := ⟨_, rfl⟩
 have hn := two_new W (.cells #[.int .i64 d, .string k0, .string v, .int .i64 n, .int .i64 m] 28) (.cells #[.string ⟨#[]⟩, .bool false, .int .i64 0, .slice none 0 0, .slice none 0 0] 32)
 rw [hW2] at hn
 obtain ⟨p3, p5, hb2⟩ := hn
 have HW2 := Lib.hid hW2
 have HB := Lib.hid hB
 have HR := Lib.hid hr
 have HC := Lib.hid hC
 have HCC := Lib.hid hc
 have HB2 := Lib.hid hb2
 have HP3 := Lib.hid p3
 have HP5 := Lib.hid p5
 have HVS := Lib.hid hvs
 have y1 := cell_of_row W2 W.heap.size 1 _ _ (0, 0) p3
 simp only [List.getElem?_toArray] at y1
 clear hW2 hB hr hC hc hb2 p3 p5 hk hkey hvs
 go_enter Try.func22, Try.ntmps22
 go_upto_region 1 with (fail)
 rw [HW2.out]
 go_upto_region 4 with (first
  | (go_at_call 12; refine (HN.out _).mono ?_; rintro e w1 ⟨rfl, hb1⟩; have HB3 := Lib.hid (HB2.out.trans (below_weakenT HB2.out.size hb1)); have P3 := Lib.hid ((hb1.block _ (blk_lt HP3.out)).trans HP3.out); have P5 := Lib.hid ((hb1.block _ (blk_lt HP5.out)).trans HP5.out); clear hb1)
  | (go_at_call 30; refine (HV.out _ (Kd.C_below HC.out HB3.out)).mono ?_; rintro e w2 ⟨v0, rfl, hR, hb1⟩; obtain ⟨Av, cv, rfl, hcv, hCv⟩ := Kd.R_reads hR; have HB4 := Lib.hid (HB3.out.trans (below_weakenT HB3.out.size hb1)); have P3' := Lib.hid ((hb1.block _ (blk_lt P3.out)).trans P3.out); have P5' := Lib.hid ((hb1.block _ (blk_lt P5.out)).trans P5.out); have HCV := Lib.hid hCv; have HCVc := Lib.hid hcv; clear hb1 hR hCv hcv))
 obtain ⟨W3, hW3⟩ : ∃ X, w2.alloc (.cells #[.string ⟨#[]⟩, .bool false, .int .i64 0, .slice none 0 0, .slice none 0 0] 32) = X := ⟨_, rfl⟩
 rw [hW3]
 have h9 : Below w2.heap.size w2 W3 := by rw [← hW3]; exact (Below.refl _ _).alloc (Nat.le_refl _) _
 have p9 : W3.heap[w2.heap.size]? = some (.cells #[.string ⟨#[]⟩, .bool false, .int .i64 0, .slice none 0 0, .slice none 0 0] 32 (0, 0)) := by rw [← hW3]; exact heap_alloc_new _ _
 have p3 := (h9.block _ (blk_lt P3'.out)).trans P3'.out
 have p5 := (h9.block _ (blk_lt P5'.out)).trans P5'.out
 have HB5 := Lib.hid (HB4.out.trans (below_weakenT HB4.out.size h9))
 have HCV5 := Lib.hid (Kd.C_below HCV.out h9)
 have q0 := (cell_of_row W3 W.heap.size 0 _ _ (0, 0) p3).trans rfl
 have q2 := (cell_of_row W3 W.heap.size 2 _ _ (0, 0) p3).trans rfl
 have a0 := (cell_of_row W3 (W.heap.size + 1) 0 _ _ (0, 0) p5).trans rfl
 have a1 := (cell_of_row W3 (W.heap.size + 1) 1 _ _ (0, 0) p5).trans rfl
 have a2 := (cell_of_row W3 (W.heap.size + 1) 2 _ _ (0, 0) p5).trans rfl
 have a3 := (cell_of_row W3 (W.heap.size + 1) 3 _ _ (0, 0) p5).trans rfl
 have a4 := (cell_of_row W3 (W.heap.size + 1) 4 _ _ (0, 0) p5).trans rfl
 have f0 := frozen_of_row W3 (W.heap.size + 1) 0 _ _ p5
 have f1 := frozen_of_row W3 (W.heap.size + 1) 1 _ _ p5
 have f2 := frozen_of_row W3 (W.heap.size + 1) 2 _ _ p5
 have f3 := frozen_of_row W3 (W.heap.size + 1) 3 _ _ p5
 have f4 := frozen_of_row W3 (W.heap.size + 1) 4 _ _ p5
 have b0 := (cell_of_row W3 w2.heap.size 0 _ _ (0, 0) p9).trans rfl
 have b1 := (cell_of_row W3 w2.heap.size 1 _ _ (0, 0) p9).trans rfl
 have b2 := (cell_of_row W3 w2.heap.size 2 _ _ (0, 0) p9).trans rfl
 have b3 := (cell_of_row W3 w2.heap.size 3 _ _ (0, 0) p9).trans rfl
 have b4 := (cell_of_row W3 w2.heap.size 4 _ _ (0, 0) p9).trans rfl
 have P3 := Lib.hid p3
 have P5 := Lib.hid p5
 have P9 := Lib.hid p9
 have hs5 : W.heap.size + 1 < w2.heap.size := blk_lt P5'.out
 have hw2 : W3.heap.size = w2.heap.size + 1 := by rw [← hW3]; simp
 have HS := Lib.hid hs5
 have HS2 := Lib.hid hw2
 clear h9 p9 p3 p5 hW3 hs5 hw2
 by_cases d0 : d = 0
 ·subst d0
  by_cases c1 : 1 < vs.length
  ·have c1' : (1 : Int) < (vs.length : Int) := by omega
   go_wp2
   go_region
   have e5 := ans_put (P5.out) (.string ⟨#[]⟩) (.bool false) (.int .i64 0) (.slice none 0 0) (.slice none 0 0)
   have hb5 := (ans_below (HB.out.trans (below_weakenT HB.out.size (HB5.out))) (Nat.le_trans HB.out.size (Nat.le_succ _)) (.string ⟨#[]⟩) (.bool false) (.int .i64 0) (.slice none 0 0) (.slice none 0 0)).drew
   have hb6 := (ans_below (B := W.heap.size) (Below.refl _ W3) (Nat.le_succ _) (.string ⟨#[]⟩) (.bool false) (.int .i64 0) (.slice none 0 0) (.slice none 0 0)).drew
   have hr6 := Kd.R_drew (ans_R (Kd.R_below HR.out (HB5.out)) (P5.out) (.string ⟨#[]⟩) (.bool false) (.int .i64 0) (.slice none 0 0) (.slice none 0 0))
   obtain ⟨w5, hw5⟩ : ∃ X, (((((W3.setCell ⟨W.heap.size + 1, 0, none⟩ (.string ⟨#[]⟩)).setCell ⟨W.heap.size + 1, 1, none⟩ (.bool false)).setCell ⟨W.heap.size + 1, 2, none⟩ (.int .i64 0)).setCell ⟨W.heap.size + 1, 3, none⟩ (.slice none 0 0)).setCell ⟨W.heap.size + 1, 4, none⟩ (.slice none 0 0)) = X := ⟨_, rfl⟩
   rw [hw5] at e5 hb5 hb6 hr6 ⊢
   clear a0 a1 a2 a3 a4 f0 f1 f2 f3 f4 hw5
   have a0 := (cell_of_row w5 (W.heap.size + 1) 0 _ _ (0, 0) e5).trans rfl
   have a1 := (cell_of_row w5 (W.heap.size + 1) 1 _ _ (0, 0) e5).trans rfl
   have a2 := (cell_of_row w5 (W.heap.size + 1) 2 _ _ (0, 0) e5).trans rfl
   have a3 := (cell_of_row w5 (W.heap.size + 1) 3 _ _ (0, 0) e5).trans rfl
   have a4 := (cell_of_row w5 (W.heap.size + 1) 4 _ _ (0, 0) e5).trans rfl
   have E5 := Lib.hid hb5
   have E6 := Lib.hid hb6
   have E7 := Lib.hid hr6
   clear e5 hb5 hb6 hr6
   go_wp2
   refine bodyPost_ret (v := .tuple #[.slice A0 H.length c0, .agg #[.string ⟨#[]⟩, .bool false, .int .i64 0, .slice none 0 0, .slice none 0 0], .bool false]) (by simp [results, Try.results22, go_sem, a0, a1, a2, a3, a4]) rfl ?_
   have hrr := HRR.out
   obtain rfl : r = (H, ⟨#[]⟩, false) := by rw [← hrr]; unfold modelT modelP; rw [if_pos rfl, HVS.out, if_pos c1]
   exact ⟨_, _, _, _, _, _, _, rfl, E7.out, E5.out, grown_of_below ((HB5.out).trans E6.out) _⟩
  ·have c1' : ¬ (1 : Int) < (vs.length : Int) := by omega
   go_wp2
   go_loopw [0, 31] (fun lv iv wr => ∃ (i : Nat), lv = .slice A0 H.length c0 ∧ iv = .int .i64 i ∧ W3 = wr ∧ i ≤ H.length ∧ Hid (∀ p ∈ H.take i, ¬ p.f0 = key)) (fun _ iv _ => H.length - (intOf iv).toNat)
   case atStart => exact ⟨0, rfl, rfl, rfl, by omega, Lib.hid (by simp)⟩
   case round =>
    obtain ⟨i, rfl, rfl, rfl, hi, HNO⟩ := hrel
    by_cases hlt : i < H.length
    ·obtain ⟨p, hp⟩ : ∃ p, H[i] = p := ⟨_, rfl⟩
     have hlt' : decide ((i : Int) < (H.length : Int)) = true := decide_eq_true (by omega)
     obtain ⟨ad, e0, y0, y1⟩ := at_T34 (Kd.C_below HC.out HB5.out) (i : Int) (by omega) (by omega)
     cases e0
     rw [rdPair_nat _ _ hlt, hp] at y0 y1
     simp only [Int.toNat_natCast] at y0 y1
     by_cases hk : p.f0 = key
     ·have hk' : (p.f0.toList == key.toList) = true := by rw [hk]; exact beq_self_eq_true _
      go_wp2_with (first | (
                 at_builtin
                 refine Kd.R_append_rows k34 (w0 := W3) W3.heap.size rfl (.tmp 41) (.tmp 42) 30 34 (.agg #[(.string ⟨#[]⟩), (.string ⟨#[]⟩)]) 32 rfl Try.underlying30 info34 rfl (by decide) (by omega) _ [] H _ _ _ (fun _ => True) (fun _ => False) rfl rfl ?aO ?aR (fun _ _ h => h) (fun _ h => h.elim) ?aF ?aB ?aS ?aL ?_
                 (case aO => exact empty_R W3)
                 (case aR => exact Kd.C_alloc (Kd.C_below HC.out HB5.out) _)
                 (case aF => exact fun _ _ => trivial)
                 (case aB => exact (Below.refl _ _).alloc (Nat.le_refl _) _)
                 (case aS => first | (simp; done) | (simp; omega))
                 (case aL => first | omega | (simp; omega))
                 intro v8 w8 ho8 hb8 hg8 hat8
                 simp only [List.nil_append] at ho8
                 obtain ⟨g, cap, rfl, hgb, hgl, cells, hgc⟩ := Kd.R_form ho8 (by omega)
                 obtain ⟨ce, hcl, hM, hcc, hfr⟩ := Kd.R_elem ho8 z34 (i : Int) (by omega) (by omega)
                 obtain rfl := k34_openM hM
                 have HP := Kd.R_seg ho8 (i : Int) (by omega) (by omega) (seg := [.string v]) (j := 1) hcl hcc (show 2 ≤ 2 from by decide) (x' := (⟨p.f0, v⟩ : MPair)) (by have q_ := k34_mkM w8 W3.heap.size (fun k_ => True ∧ some k_ ≠ (Value.slice (some ⟨g, 0, none⟩) H.length cap).ownBlock) (⟨p.f0, v⟩ : MPair); rw [show (H.getD (i : Int).toNat z34) = p from by rw [List.getD_eq_getElem?_getD, Int.toNat_natCast, List.getElem?_eq_getElem hlt, hp]; rfl]; exact q_) (fun _ hk => hk)
                 have z1 := hcc 1 _ rfl
                 have zf := hfr 1
                 simp only [show k34.sz = 2 from rfl, Int.toNat_natCast] at z1 zf
                 have e3 := (hb8.block _ (blk_lt P3.out)).trans P3.out
                 have e5 := (hb8.block _ (blk_lt P5.out)).trans P5.out
                 have e9 := (hb8.block _ (blk_lt P9.out)).trans P9.out
                 have r2 := (cell_of_row w8 W.heap.size 2 _ _ (0, 0) e3).trans rfl
                 have HPP := Lib.hid HP
                 have HO8 := Lib.hid ho8
                 have HB8 := Lib.hid hb8
                 have HE5 := Lib.hid e5
                 have HE9 := Lib.hid e9
                 have HGB := Lib.hid hgb
                 clear hcl hcc hfr HP ho8 hb8 hg8 hat8 e3 e5 e9 hgl hgc hgb))
      obtain ⟨W9, hW9⟩ : ∃ X, w8.setCell ⟨g, i * 2 + 1, none⟩ (.string v) = X := ⟨_, rfl⟩
      have hp1 : Kd.R k34 34 W9 W3.heap.size (fun _ => True) (.slice (some ⟨g, 0, none⟩) H.length cap) (H.set i ⟨p.f0, v⟩) := by rw [← hW9]; exact HPP.out.1
      have hp2 : w8.grownBy W9 (some g) := by rw [← hW9]; exact HPP.out.2
      have hp3 : Below W3.heap.size W3 W9 := by rw [← hW9]; exact HB8.out.setCell HGB.out _
      have e5 := blk_grown HE5.out hp2 (Kd.R_ne HO8.out HE5.out (by decide))
      have e9 := blk_grown HE9.out hp2 (Kd.R_ne HO8.out HE9.out (by decide))
      have hp4 := HB5.out.trans (below_weakenT HB5.out.size hp3)
      have hp5 := Kd.R_lower hp1 (Nat.le_trans HB.out.size HB5.out.size)
      rw [hW9]
      clear hp1 hp2 hp3 hW9 z1 zf r2 a0 a1 a2 a3 a4 f0 f1 f2 f3 f4 b0 b1 b2 b3 b4
      have a0 := (cell_of_row W9 (W.heap.size + 1) 0 _ _ (0, 0) e5).trans rfl
      have a1 := (cell_of_row W9 (W.heap.size + 1) 1 _ _ (0, 0) e5).trans rfl
      have a2 := (cell_of_row W9 (W.heap.size + 1) 2 _ _ (0, 0) e5).trans rfl
      have a3 := (cell_of_row W9 (W.heap.size + 1) 3 _ _ (0, 0) e5).trans rfl
      have a4 := (cell_of_row W9 (W.heap.size + 1) 4 _ _ (0, 0) e5).trans rfl
      have f0 := frozen_of_row W9 (W.heap.size + 1) 0 _ _ e5
      have f1 := frozen_of_row W9 (W.heap.size + 1) 1 _ _ e5
      have f2 := frozen_of_row W9 (W.heap.size + 1) 2 _ _ e5
      have f3 := frozen_of_row W9 (W.heap.size + 1) 3 _ _ e5
      have f4 := frozen_of_row W9 (W.heap.size + 1) 4 _ _ e5
      have b0 := (cell_of_row W9 w2.heap.size 0 _ _ (0, 0) e9).trans rfl
      have b1 := (cell_of_row W9 w2.heap.size 1 _ _ (0, 0) e9).trans rfl
      have b2 := (cell_of_row W9 w2.heap.size 2 _ _ (0, 0) e9).trans rfl
      have b3 := (cell_of_row W9 w2.heap.size 3 _ _ (0, 0) e9).trans rfl
      have b4 := (cell_of_row W9 w2.heap.size 4 _ _ (0, 0) e9).trans rfl
      have Q5 := Lib.hid e5
      have Q4 := Lib.hid hp4
      have Q6 := Lib.hid hp5
      clear e5 e9 hp4 hp5
      go_region
      have e5 := ans_put (Q5.out) (.string ⟨#[]⟩) (.bool false) (.int .i64 0) (.slice none 0 0) (.slice none 0 0)
      have hb5 := (ans_below (HB.out.trans (below_weakenT HB.out.size Q4.out)) (Nat.le_trans HB.out.size (Nat.le_succ _)) (.string ⟨#[]⟩) (.bool false) (.int .i64 0) (.slice none 0 0) (.slice none 0 0)).drew
      have hb6 := (ans_below (B := W.heap.size) (Below.refl _ W9) (Nat.le_succ _) (.string ⟨#[]⟩) (.bool false) (.int .i64 0) (.slice none 0 0) (.slice none 0 0)).drew
      have hr6 := Kd.R_drew (ans_R (Q6.out) (Q5.out) (.string ⟨#[]⟩) (.bool false) (.int .i64 0) (.slice none 0 0) (.slice none 0 0))
      obtain ⟨w5, hw5⟩ : ∃ X, (((((W9.setCell ⟨W.heap.size + 1, 0, none⟩ (.string ⟨#[]⟩)).setCell ⟨W.heap.size + 1, 1, none⟩ (.bool false)).setCell ⟨W.heap.size + 1, 2, none⟩ (.int .i64 0)).setCell ⟨W.heap.size + 1, 3, none⟩ (.slice none 0 0)).setCell ⟨W.heap.size + 1, 4, none⟩ (.slice none 0 0)) = X := ⟨_, rfl⟩
      rw [hw5] at e5 hb5 hb6 hr6 ⊢
      clear a0 a1 a2 a3 a4 f0 f1 f2 f3 f4 hw5
      have a0 := (cell_of_row w5 (W.heap.size + 1) 0 _ _ (0, 0) e5).trans rfl
      have a1 := (cell_of_row w5 (W.heap.size + 1) 1 _ _ (0, 0) e5).trans rfl
      have a2 := (cell_of_row w5 (W.heap.size + 1) 2 _ _ (0, 0) e5).trans rfl
      have a3 := (cell_of_row w5 (W.heap.size + 1) 3 _ _ (0, 0) e5).trans rfl
      have a4 := (cell_of_row w5 (W.heap.size + 1) 4 _ _ (0, 0) e5).trans rfl
      have E5 := Lib.hid hb5
      have E6 := Lib.hid hb6
      have E7 := Lib.hid hr6
      clear e5 hb5 hb6 hr6
      go_wp2
      refine bodyPost_ret (v := .tuple #[.slice (some ⟨g, 0, none⟩) H.length cap, .agg #[.string ⟨#[]⟩, .bool false, .int .i64 0, .slice none 0 0, .slice none 0 0], .bool true]) (by simp [results, Try.results22, go_sem, a0, a1, a2, a3, a4]) rfl ?_
      have hrr := HRR.out
      obtain rfl : r = (H.set i ⟨p.f0, v⟩, ⟨#[]⟩, true) := by rw [← hrr]; unfold modelT modelP; rw [if_pos rfl, HVS.out, if_neg c1, ← hp, setP_at key v H i hlt HNO.out (by rw [hp]; exact hk)]
      exact ⟨_, _, _, _, _, _, _, rfl, E7.out, E5.out, grown_of_below (Q4.out.trans E6.out) _⟩
     ·have hk' : (p.f0.toList == key.toList) = false := beq_eq_false_iff_ne.mpr (fun e => hk ((toList_eq_iff _ _).1 e))
      go_wp2
      have ht : H.take (i + 1) = H.take i ++ [p] := by rw [List.take_succ_eq_append_getElem hlt, hp]
      exact ⟨⟨i + 1, by first | trivial | rfl, by simp, by first | trivial | rfl, by omega, Lib.hid (by rw [ht]; intro q hq; rcases List.mem_append.1 hq with hq | hq; exact HNO.out q hq; rw [List.mem_singleton] at hq; rw [hq]; exact hk)⟩, by simp [intOf]; omega⟩
    ·obtain rfl : i = H.length := by omega
     have hno := HNO.out
     rw [List.take_of_length_le (Nat.le_refl _)] at hno
     have HNO2 := Lib.hid hno
     have hq_ : ¬ (H.length : Int) < (H.length : Int) := by omega
     clear hno
     go_wp2
     refine start_ (n := 11) (S := fun w' => w'.cell? ⟨W.heap.size, 2, none⟩ = some (.string v) ∧ w'.cell? ⟨w2.heap.size, 0, none⟩ = some (.string ⟨#[]⟩) ∧ w'.cell? ⟨w2.heap.size, 1, none⟩ = some (.bool false) ∧ w'.cell? ⟨w2.heap.size, 2, none⟩ = some (.int .i64 0) ∧ w'.cell? ⟨w2.heap.size, 3, none⟩ = some (.slice none 0 0) ∧ w'.cell? ⟨w2.heap.size, 4, none⟩ = some (.slice none 0 0)) (ds := [9]) #[false,false,false,false,false,false,false,false,false,false,false] (by kernel_rfl) rfl rfl ⟨q2, b0, b1, b2, b3, b4⟩ (fun hHeld => ?_)
     generalize hWd : World.drew W3 = W2_ at hHeld ⊢
     have HBd := Lib.hid (HB5.out.trans (below_weakenT HB5.out.size (by rw [← hWd]; exact below_drew1 (Below.refl _ _) : Below W3.heap.size W3 W2_)))
     have P3d := Lib.hid (show W2_.heap[W.heap.size]? = some _ from by rw [← hWd]; exact P3.out)
     have P5d := Lib.hid (show W2_.heap[W.heap.size + 1]? = some _ from by rw [← hWd]; exact P5.out)
     have P9d := Lib.hid (show W2_.heap[w2.heap.size]? = some _ from by rw [← hWd]; exact P9.out)
     have hH0 := hHeld
     refine pure_ (i := 0) (N := some 53) (v := ?_) (a' := ?_) #[true,false,false,false,false,false,false,false,false,false,false] rfl rfl (by kernel_rfl) (fun _ _ _ h => h) (Or.inl ⟨by rfl, ?_⟩) ?_ ?_
     rotate_left
     ·intro w'
      go_simp
      with_reducible rfl
     rotate_left
     ·simp only [Act.put, List.setIfInBounds_toArray, List.set_cons_zero, List.set_cons_succ, i64_w, i32_w]
      rfl
     refine pure_ (i := 1) (N := some 54) (v := ?_) (a' := ?_) #[true,true,false,false,false,false,false,false,false,false,false] rfl rfl (by kernel_rfl) (fun _ _ _ h => h) (Or.inl ⟨by rfl, ?_⟩) ?_ ?_
     rotate_left
     ·intro w'
      go_simp
      with_reducible rfl
     rotate_left
     ·simp only [Act.put, List.setIfInBounds_toArray, List.set_cons_zero, List.set_cons_succ, i64_w, i32_w]
      rfl
     refine pure_ (i := 2) (N := some 55) (v := ?_) (a' := ?_) #[true,true,true,false,false,false,false,false,false,false,false] rfl rfl (by kernel_rfl) (fun _ _ _ h => h) (Or.inl ⟨by rfl, ?_⟩) ?_ ?_
     rotate_left
     ·intro w'
      go_simp
      with_reducible rfl
     rotate_left
     ·simp only [Act.put, List.setIfInBounds_toArray, List.set_cons_zero, List.set_cons_succ, i64_w, i32_w]
      rfl
     refine take_ (i := 3) (N := some 56) (v := ?_) (a' := ?_) #[true,true,true,true,false,false,false,false,false,false,false] rfl rfl (by kernel_rfl) (fun _ _ _ h => h) (Or.inl ⟨by rfl, ?_⟩) hHeld ?_ ?_
     rotate_left
     ·rintro w' ⟨s0, s1, s2, s3, s4, s5⟩
      go_simp
      with_reducible rfl
     rotate_left
     ·simp only [Act.put, List.setIfInBounds_toArray, List.set_cons_zero, List.set_cons_succ, i64_w, i32_w]
      rfl
     refine pure_ (i := 4) (N := some 57) (v := ?_) (a' := ?_) #[true,true,true,true,true,false,false,false,false,false,false] rfl rfl (by kernel_rfl) (fun _ _ _ h => h) (Or.inl ⟨by rfl, ?_⟩) ?_ ?_
     rotate_left
     ·intro w'
      go_simp
      with_reducible rfl
     rotate_left
     ·simp only [Act.put, List.setIfInBounds_toArray, List.set_cons_zero, List.set_cons_succ, i64_w, i32_w]
      rfl
     refine take_ (i := 7) (N := some 60) (v := ?_) (a' := ?_) #[true,true,true,true,true,false,false,true,false,false,false] rfl rfl (by kernel_rfl) (fun _ _ _ h => h) (Or.inl ⟨by rfl, ?_⟩) hHeld ?_ ?_
     rotate_left
     ·rintro w' ⟨s0, s1, s2, s3, s4, s5⟩
      go_simp
      with_reducible rfl
     rotate_left
     ·simp only [Act.put, List.setIfInBounds_toArray, List.set_cons_zero, List.set_cons_succ, i64_w, i32_w]
      rfl
     refine one_ (i := 5) (N := some 58) #[true,true,true,true,true,true,false,true,false,false,false] rfl rfl (by kernel_rfl) (by decide) (fun K hK => ?_)
     refine value_ (w1 := ?_) (v := ?_) (by rfl) rfl ?_ ?_
     rotate_left 2
     ·go_simp
      constructor
      ·rfl
      ·rfl
     refine hK.out _ _ ⟨(World.cell?_alloc_past _ _ _ (World.block_lt_of_cell? _ _ (hHeld.1))).trans (hHeld.1), (World.cell?_alloc_past _ _ _ (World.block_lt_of_cell? _ _ (hHeld.2.1))).trans (hHeld.2.1), (World.cell?_alloc_past _ _ _ (World.block_lt_of_cell? _ _ (hHeld.2.2.1))).trans (hHeld.2.2.1), (World.cell?_alloc_past _ _ _ (World.block_lt_of_cell? _ _ (hHeld.2.2.2.1))).trans (hHeld.2.2.2.1), (World.cell?_alloc_past _ _ _ (World.block_lt_of_cell? _ _ (hHeld.2.2.2.2.1))).trans (hHeld.2.2.2.2.1), (World.cell?_alloc_past _ _ _ (World.block_lt_of_cell? _ _ (hHeld.2.2.2.2.2))).trans (hHeld.2.2.2.2.2)⟩ (fun hHeld => ?_)
     clear hK K
     refine norm_ (a' := ?_) ?_ ?_
     rotate_left
     ·show Act.put _ (some 58) _ = _
      simp only [Act.put, List.setIfInBounds_toArray, List.set_cons_zero, List.set_cons_succ, i64_w, i32_w]
      rfl
     refine one_ (i := 6) (N := some 59) #[true,true,true,true,true,true,true,true,false,false,false] rfl rfl (by kernel_rfl) (by decide) (fun K hK => ?_)
     refine Kd.R_append_step k34 (w0 := w) w.heap.size (by rfl) (.tmp 53) (.tmp 58) 30 34 (.agg #[(.string ⟨#[]⟩), (.string ⟨#[]⟩)]) 32 rfl Try.underlying30 info34 rfl (by decide) (by omega) (.slice A0 H.length c0) H (⟨key, v⟩ : MPair) [.string key, .string v] (fun _ => True) (fun _ => False) rfl rfl ?aP (fun _ hk => hk.elim) ?aF ?aO ?aB ?aS ?aL ?_
     (case aP => exact k34_mkM _ _ _ (⟨key, v⟩ : MPair))
     (case aF => exact fun _ _ => trivial)
     (case aO => exact Kd.R_below HR.out HBd.out)
     (case aB => exact HB.out.trans (below_weakenT HB.out.size HBd.out))
     (case aS => exact Nat.le_trans HB.out.size HBd.out.size)
     (case aL => omega)
     intro v9 w9 ho9 hb9 hg9 hat9
     have p59 := blk_grown P5d.out hg9 (Kd.R_ne (Kd.R_below HR.out HBd.out) P5d.out (by decide))
     have O9 := Lib.hid ho9
     have B9 := Lib.hid hb9
     have G9 := Lib.hid hg9
     have P59 := Lib.hid p59
     clear ho9 hb9 hat9 p59
     refine hK.out _ _ ⟨(hg9.cell (hH0.1) (Kd.R_ne (Kd.R_below HR.out HBd.out) P3d.out (by decide))), (hg9.cell (hH0.2.1) (Kd.R_ne (Kd.R_below HR.out HBd.out) P9d.out (by decide))), (hg9.cell (hH0.2.2.1) (Kd.R_ne (Kd.R_below HR.out HBd.out) P9d.out (by decide))), (hg9.cell (hH0.2.2.2.1) (Kd.R_ne (Kd.R_below HR.out HBd.out) P9d.out (by decide))), (hg9.cell (hH0.2.2.2.2.1) (Kd.R_ne (Kd.R_below HR.out HBd.out) P9d.out (by decide))), (hg9.cell (hH0.2.2.2.2.2) (Kd.R_ne (Kd.R_below HR.out HBd.out) P9d.out (by decide)))⟩ (fun hHeld => ?_)
     clear hK K
     refine norm_ (a' := ?_) ?_ ?_
     rotate_left
     ·show Act.put _ (some 59) _ = _
      simp only [Act.put, List.setIfInBounds_toArray, List.set_cons_zero, List.set_cons_succ, i64_w, i32_w]
      rfl
     refine pure_ (i := 8) (N := some 4) (v := ?_) (a' := ?_) #[true,true,true,true,true,true,true,true,true,false,false] rfl rfl (by kernel_rfl) (fun _ _ _ h => h) (Or.inl ⟨by rfl, ?_⟩) ?_ ?_
     rotate_left
     ·intro w'
      go_simp
      with_reducible rfl
     rotate_left
     ·simp only [Act.put, List.setIfInBounds_toArray, List.set_cons_zero, List.set_cons_succ, i64_w, i32_w]
      rfl
     refine last_ (i := 9) (N := none) #[true,true,true,true,true,true,true,true,true,true,false] rfl rfl (by kernel_rfl) (by decide) (fun K hK => ?_)
     clear a0 a1 a2 a3 a4 f0 f1 f2 f3 f4
     have a0 := (cell_of_row w9 (W.heap.size + 1) 0 _ _ (0, 0) P59.out).trans rfl
     have a1 := (cell_of_row w9 (W.heap.size + 1) 1 _ _ (0, 0) P59.out).trans rfl
     have a2 := (cell_of_row w9 (W.heap.size + 1) 2 _ _ (0, 0) P59.out).trans rfl
     have a3 := (cell_of_row w9 (W.heap.size + 1) 3 _ _ (0, 0) P59.out).trans rfl
     have a4 := (cell_of_row w9 (W.heap.size + 1) 4 _ _ (0, 0) P59.out).trans rfl
     have f0 := frozen_of_row w9 (W.heap.size + 1) 0 _ _ P59.out
     have f1 := frozen_of_row w9 (W.heap.size + 1) 1 _ _ P59.out
     have f2 := frozen_of_row w9 (W.heap.size + 1) 2 _ _ P59.out
     have f3 := frozen_of_row w9 (W.heap.size + 1) 3 _ _ P59.out
     have f4 := frozen_of_row w9 (W.heap.size + 1) 4 _ _ P59.out
     refine skip_ (w1 := ?_) (by rfl) rfl ?_ ?_
     rotate_left
     ·go_simp
      rfl
     refine hK.out _ _ ?_
     clear hK K
     refine pure_ (i := 10) (N := some 6) (v := ?_) (a' := ?_) #[true,true,true,true,true,true,true,true,true,true,true] rfl rfl (by kernel_rfl) (fun _ _ _ h => h) (Or.inl ⟨by rfl, ?_⟩) ?_ ?_
     rotate_left
     ·intro w'
      go_simp
      with_reducible rfl
     rotate_left
     ·simp only [Act.put, List.setIfInBounds_toArray, List.set_cons_zero, List.set_cons_succ, i64_w, i32_w]
      rfl
     refine done_ (by kernel_rfl) ?_
     have e5 := ans_put P59.out (.string ⟨#[]⟩) (.bool false) (.int .i64 0) (.slice none 0 0) (.slice none 0 0)
     have hb5 := ans_below B9.out (Nat.le_trans HB.out.size (Nat.le_succ _)) (.string ⟨#[]⟩) (.bool false) (.int .i64 0) (.slice none 0 0) (.slice none 0 0)
     have hb6 := ans_below (B := W.heap.size) (Below.refl _ w9) (Nat.le_succ _) (.string ⟨#[]⟩) (.bool false) (.int .i64 0) (.slice none 0 0) (.slice none 0 0)
     have hr6 := ans_R O9.out P59.out (.string ⟨#[]⟩) (.bool false) (.int .i64 0) (.slice none 0 0) (.slice none 0 0)
     obtain ⟨w5, hw5⟩ : ∃ X, (((((w9.setCell ⟨W.heap.size + 1, 0, none⟩ (.string ⟨#[]⟩)).setCell ⟨W.heap.size + 1, 1, none⟩ (.bool false)).setCell ⟨W.heap.size + 1, 2, none⟩ (.int .i64 0)).setCell ⟨W.heap.size + 1, 3, none⟩ (.slice none 0 0)).setCell ⟨W.heap.size + 1, 4, none⟩ (.slice none 0 0)) = X := ⟨_, rfl⟩
     rw [hw5] at e5 hb5 hb6 hr6 ⊢
     clear a0 a1 a2 a3 a4 f0 f1 f2 f3 f4 hw5
     have a0 := (cell_of_row w5 (W.heap.size + 1) 0 _ _ (0, 0) e5).trans rfl
     have a1 := (cell_of_row w5 (W.heap.size + 1) 1 _ _ (0, 0) e5).trans rfl
     have a2 := (cell_of_row w5 (W.heap.size + 1) 2 _ _ (0, 0) e5).trans rfl
     have a3 := (cell_of_row w5 (W.heap.size + 1) 3 _ _ (0, 0) e5).trans rfl
     have a4 := (cell_of_row w5 (W.heap.size + 1) 4 _ _ (0, 0) e5).trans rfl
     have E5 := Lib.hid hb5
     have E6 := Lib.hid hb6
     have E7 := Lib.hid hr6
     clear e5 hb5 hb6 hr6
     go_wp2
     refine bodyPost_ret (v := .tuple #[v9, .agg #[.string ⟨#[]⟩, .bool false, .int .i64 0, .slice none 0 0, .slice none 0 0], .bool true]) (by simp [results, Try.results22, go_sem, a0, a1, a2, a3, a4]) rfl ?_
     have hrr := HRR.out
     obtain rfl : r = (H ++ [⟨key, v⟩], ⟨#[]⟩, true) := by rw [← hrr]; unfold modelT modelP; rw [if_pos rfl, HVS.out, if_neg c1, setP_none key v H HNO2.out]
     exact ⟨_, _, _, _, _, _, _, rfl, E7.out, E5.out, grown3 HBd.out G9.out E6.out⟩
 ·by_cases d1 : d = 1
  ·subst d1
   go_wp2
   refine start_ (n := 11) (S := fun w' => w'.cell? ⟨W.heap.size, 2, none⟩ = some (.string v) ∧ w'.cell? ⟨w2.heap.size, 0, none⟩ = some (.string ⟨#[]⟩) ∧ w'.cell? ⟨w2.heap.size, 1, none⟩ = some (.bool false) ∧ w'.cell? ⟨w2.heap.size, 2, none⟩ = some (.int .i64 0) ∧ w'.cell? ⟨w2.heap.size, 3, none⟩ = some (.slice none 0 0) ∧ w'.cell? ⟨w2.heap.size, 4, none⟩ = some (.slice none 0 0)) (ds := [9]) #[false,false,false,false,false,false,false,false,false,false,false] (by kernel_rfl) rfl rfl ⟨q2, b0, b1, b2, b3, b4⟩ (fun hHeld => ?_)
   generalize hWd : World.drew W3 = W2_ at hHeld ⊢
   have HBd := Lib.hid (HB5.out.trans (below_weakenT HB5.out.size (by rw [← hWd]; exact below_drew1 (Below.refl _ _) : Below W3.heap.size W3 W2_)))
   have P3d := Lib.hid (show W2_.heap[W.heap.size]? = some _ from by rw [← hWd]; exact P3.out)
   have P5d := Lib.hid (show W2_.heap[W.heap.size + 1]? = some _ from by rw [← hWd]; exact P5.out)
   have P9d := Lib.hid (show W2_.heap[w2.heap.size]? = some _ from by rw [← hWd]; exact P9.out)
   have hH0 := hHeld
   refine pure_ (i := 0) (N := some 63) (v := ?_) (a' := ?_) #[true,false,false,false,false,false,false,false,false,false,false] rfl rfl (by kernel_rfl) (fun _ _ _ h => h) (Or.inl ⟨by rfl, ?_⟩) ?_ ?_
   rotate_left
   ·intro w'
    go_simp
    with_reducible rfl
   rotate_left
   ·simp only [Act.put, List.setIfInBounds_toArray, List.set_cons_zero, List.set_cons_succ, i64_w, i32_w]
    rfl
   refine pure_ (i := 1) (N := some 64) (v := ?_) (a' := ?_) #[true,true,false,false,false,false,false,false,false,false,false] rfl rfl (by kernel_rfl) (fun _ _ _ h => h) (Or.inl ⟨by rfl, ?_⟩) ?_ ?_
   rotate_left
   ·intro w'
    go_simp
    with_reducible rfl
   rotate_left
   ·simp only [Act.put, List.setIfInBounds_toArray, List.set_cons_zero, List.set_cons_succ, i64_w, i32_w]
    rfl
   refine pure_ (i := 2) (N := some 65) (v := ?_) (a' := ?_) #[true,true,true,false,false,false,false,false,false,false,false] rfl rfl (by kernel_rfl) (fun _ _ _ h => h) (Or.inl ⟨by rfl, ?_⟩) ?_ ?_
   rotate_left
   ·intro w'
    go_simp
    with_reducible rfl
   rotate_left
   ·simp only [Act.put, List.setIfInBounds_toArray, List.set_cons_zero, List.set_cons_succ, i64_w, i32_w]
    rfl
   refine take_ (i := 3) (N := some 66) (v := ?_) (a' := ?_) #[true,true,true,true,false,false,false,false,false,false,false] rfl rfl (by kernel_rfl) (fun _ _ _ h => h) (Or.inl ⟨by rfl, ?_⟩) hHeld ?_ ?_
   rotate_left
   ·rintro w' ⟨s0, s1, s2, s3, s4, s5⟩
    go_simp
    with_reducible rfl
   rotate_left
   ·simp only [Act.put, List.setIfInBounds_toArray, List.set_cons_zero, List.set_cons_succ, i64_w, i32_w]
    rfl
   refine pure_ (i := 4) (N := some 67) (v := ?_) (a' := ?_) #[true,true,true,true,true,false,false,false,false,false,false] rfl rfl (by kernel_rfl) (fun _ _ _ h => h) (Or.inl ⟨by rfl, ?_⟩) ?_ ?_
   rotate_left
   ·intro w'
    go_simp
    with_reducible rfl
   rotate_left
   ·simp only [Act.put, List.setIfInBounds_toArray, List.set_cons_zero, List.set_cons_succ, i64_w, i32_w]
    rfl
   refine take_ (i := 7) (N := some 70) (v := ?_) (a' := ?_) #[true,true,true,true,true,false,false,true,false,false,false] rfl rfl (by kernel_rfl) (fun _ _ _ h => h) (Or.inl ⟨by rfl, ?_⟩) hHeld ?_ ?_
   rotate_left
   ·rintro w' ⟨s0, s1, s2, s3, s4, s5⟩
    go_simp
    with_reducible rfl
   rotate_left
   ·simp only [Act.put, List.setIfInBounds_toArray, List.set_cons_zero, List.set_cons_succ, i64_w, i32_w]
    rfl
   refine one_ (i := 5) (N := some 68) #[true,true,true,true,true,true,false,true,false,false,false] rfl rfl (by kernel_rfl) (by decide) (fun K hK => ?_)
   refine value_ (w1 := ?_) (v := ?_) (by rfl) rfl ?_ ?_
   rotate_left 2
   ·go_simp
    constructor
    ·rfl
    ·rfl
   refine hK.out _ _ ⟨(World.cell?_alloc_past _ _ _ (World.block_lt_of_cell? _ _ (hHeld.1))).trans (hHeld.1), (World.cell?_alloc_past _ _ _ (World.block_lt_of_cell? _ _ (hHeld.2.1))).trans (hHeld.2.1), (World.cell?_alloc_past _ _ _ (World.block_lt_of_cell? _ _ (hHeld.2.2.1))).trans (hHeld.2.2.1), (World.cell?_alloc_past _ _ _ (World.block_lt_of_cell? _ _ (hHeld.2.2.2.1))).trans (hHeld.2.2.2.1), (World.cell?_alloc_past _ _ _ (World.block_lt_of_cell? _ _ (hHeld.2.2.2.2.1))).trans (hHeld.2.2.2.2.1), (World.cell?_alloc_past _ _ _ (World.block_lt_of_cell? _ _ (hHeld.2.2.2.2.2))).trans (hHeld.2.2.2.2.2)⟩ (fun hHeld => ?_)
   clear hK K
   refine norm_ (a' := ?_) ?_ ?_
   rotate_left
   ·show Act.put _ (some 68) _ = _
    simp only [Act.put, List.setIfInBounds_toArray, List.set_cons_zero, List.set_cons_succ, i64_w, i32_w]
    rfl
   refine one_ (i := 6) (N := some 69) #[true,true,true,true,true,true,true,true,false,false,false] rfl rfl (by kernel_rfl) (by decide) (fun K hK => ?_)
   refine Kd.R_append_step k34 (w0 := w) w.heap.size (by rfl) (.tmp 63) (.tmp 68) 30 34 (.agg #[(.string ⟨#[]⟩), (.string ⟨#[]⟩)]) 32 rfl Try.underlying30 info34 rfl (by decide) (by omega) (.slice A0 H.length c0) H (⟨key, v⟩ : MPair) [.string key, .string v] (fun _ => True) (fun _ => False) rfl rfl ?aP (fun _ hk => hk.elim) ?aF ?aO ?aB ?aS ?aL ?_
   (case aP => exact k34_mkM _ _ _ (⟨key, v⟩ : MPair))
   (case aF => exact fun _ _ => trivial)
   (case aO => exact Kd.R_below HR.out HBd.out)
   (case aB => exact HB.out.trans (below_weakenT HB.out.size HBd.out))
   (case aS => exact Nat.le_trans HB.out.size HBd.out.size)
   (case aL => omega)
   intro v9 w9 ho9 hb9 hg9 hat9
   have p59 := blk_grown P5d.out hg9 (Kd.R_ne (Kd.R_below HR.out HBd.out) P5d.out (by decide))
   have O9 := Lib.hid ho9
   have B9 := Lib.hid hb9
   have G9 := Lib.hid hg9
   have P59 := Lib.hid p59
   clear ho9 hb9 hat9 p59
   refine hK.out _ _ ⟨(hg9.cell (hH0.1) (Kd.R_ne (Kd.R_below HR.out HBd.out) P3d.out (by decide))), (hg9.cell (hH0.2.1) (Kd.R_ne (Kd.R_below HR.out HBd.out) P9d.out (by decide))), (hg9.cell (hH0.2.2.1) (Kd.R_ne (Kd.R_below HR.out HBd.out) P9d.out (by decide))), (hg9.cell (hH0.2.2.2.1) (Kd.R_ne (Kd.R_below HR.out HBd.out) P9d.out (by decide))), (hg9.cell (hH0.2.2.2.2.1) (Kd.R_ne (Kd.R_below HR.out HBd.out) P9d.out (by decide))), (hg9.cell (hH0.2.2.2.2.2) (Kd.R_ne (Kd.R_below HR.out HBd.out) P9d.out (by decide)))⟩ (fun hHeld => ?_)
   clear hK K
   refine norm_ (a' := ?_) ?_ ?_
   rotate_left
   ·show Act.put _ (some 69) _ = _
    simp only [Act.put, List.setIfInBounds_toArray, List.set_cons_zero, List.set_cons_succ, i64_w, i32_w]
    rfl
   refine pure_ (i := 8) (N := some 4) (v := ?_) (a' := ?_) #[true,true,true,true,true,true,true,true,true,false,false] rfl rfl (by kernel_rfl) (fun _ _ _ h => h) (Or.inl ⟨by rfl, ?_⟩) ?_ ?_
   rotate_left
   ·intro w'
    go_simp
    with_reducible rfl
   rotate_left
   ·simp only [Act.put, List.setIfInBounds_toArray, List.set_cons_zero, List.set_cons_succ, i64_w, i32_w]
    rfl
   refine last_ (i := 9) (N := none) #[true,true,true,true,true,true,true,true,true,true,false] rfl rfl (by kernel_rfl) (by decide) (fun K hK => ?_)
   clear a0 a1 a2 a3 a4 f0 f1 f2 f3 f4
   have a0 := (cell_of_row w9 (W.heap.size + 1) 0 _ _ (0, 0) P59.out).trans rfl
   have a1 := (cell_of_row w9 (W.heap.size + 1) 1 _ _ (0, 0) P59.out).trans rfl
   have a2 := (cell_of_row w9 (W.heap.size + 1) 2 _ _ (0, 0) P59.out).trans rfl
   have a3 := (cell_of_row w9 (W.heap.size + 1) 3 _ _ (0, 0) P59.out).trans rfl
   have a4 := (cell_of_row w9 (W.heap.size + 1) 4 _ _ (0, 0) P59.out).trans rfl
   have f0 := frozen_of_row w9 (W.heap.size + 1) 0 _ _ P59.out
   have f1 := frozen_of_row w9 (W.heap.size + 1) 1 _ _ P59.out
   have f2 := frozen_of_row w9 (W.heap.size + 1) 2 _ _ P59.out
   have f3 := frozen_of_row w9 (W.heap.size + 1) 3 _ _ P59.out
   have f4 := frozen_of_row w9 (W.heap.size + 1) 4 _ _ P59.out
   refine skip_ (w1 := ?_) (by rfl) rfl ?_ ?_
   rotate_left
   ·go_simp
    rfl
   refine hK.out _ _ ?_
   clear hK K
   refine pure_ (i := 10) (N := some 6) (v := ?_) (a' := ?_) #[true,true,true,true,true,true,true,true,true,true,true] rfl rfl (by kernel_rfl) (fun _ _ _ h => h) (Or.inl ⟨by rfl, ?_⟩) ?_ ?_
   rotate_left
   ·intro w'
    go_simp
    with_reducible rfl
   rotate_left
   ·simp only [Act.put, List.setIfInBounds_toArray, List.set_cons_zero, List.set_cons_succ, i64_w, i32_w]
    rfl
   refine done_ (by kernel_rfl) ?_
   have e5 := ans_put P59.out (.string ⟨#[]⟩) (.bool false) (.int .i64 0) (.slice none 0 0) (.slice none 0 0)
   have hb5 := ans_below B9.out (Nat.le_trans HB.out.size (Nat.le_succ _)) (.string ⟨#[]⟩) (.bool false) (.int .i64 0) (.slice none 0 0) (.slice none 0 0)
   have hb6 := ans_below (B := W.heap.size) (Below.refl _ w9) (Nat.le_succ _) (.string ⟨#[]⟩) (.bool false) (.int .i64 0) (.slice none 0 0) (.slice none 0 0)
   have hr6 := ans_R O9.out P59.out (.string ⟨#[]⟩) (.bool false) (.int .i64 0) (.slice none 0 0) (.slice none 0 0)
   obtain ⟨w5, hw5⟩ : ∃ X, (((((w9.setCell ⟨W.heap.size + 1, 0, none⟩ (.string ⟨#[]⟩)).setCell ⟨W.heap.size + 1, 1, none⟩ (.bool false)).setCell ⟨W.heap.size + 1, 2, none⟩ (.int .i64 0)).setCell ⟨W.heap.size + 1, 3, none⟩ (.slice none 0 0)).setCell ⟨W.heap.size + 1, 4, none⟩ (.slice none 0 0)) = X := ⟨_, rfl⟩
   rw [hw5] at e5 hb5 hb6 hr6 ⊢
   clear a0 a1 a2 a3 a4 f0 f1 f2 f3 f4 hw5
   have a0 := (cell_of_row w5 (W.heap.size + 1) 0 _ _ (0, 0) e5).trans rfl
   have a1 := (cell_of_row w5 (W.heap.size + 1) 1 _ _ (0, 0) e5).trans rfl
   have a2 := (cell_of_row w5 (W.heap.size + 1) 2 _ _ (0, 0) e5).trans rfl
   have a3 := (cell_of_row w5 (W.heap.size + 1) 3 _ _ (0, 0) e5).trans rfl
   have a4 := (cell_of_row w5 (W.heap.size + 1) 4 _ _ (0, 0) e5).trans rfl
   have E5 := Lib.hid hb5
   have E6 := Lib.hid hb6
   have E7 := Lib.hid hr6
   clear e5 hb5 hb6 hr6
   go_wp2
   refine bodyPost_ret (v := .tuple #[v9, .agg #[.string ⟨#[]⟩, .bool false, .int .i64 0, .slice none 0 0, .slice none 0 0], .bool true]) (by simp [results, Try.results22, go_sem, a0, a1, a2, a3, a4]) rfl ?_
   have hrr := HRR.out
   obtain rfl : r = (H ++ [⟨key, v⟩], ⟨#[]⟩, true) := by rw [← hrr]; unfold modelT modelP; rfl
   exact ⟨_, _, _, _, _, _, _, rfl, E7.out, E5.out, grown3 HBd.out G9.out E6.out⟩
  ·by_cases d2 : d = 2
   ·subst d2
    go_wp2
    go_loopw [11, 75] (fun ov iv wr => ∃ (i : Nat), iv = .int .i64 i ∧ i ≤ H.length ∧ Hid (Kd.R k34 34 wr W3.heap.size (fun _ => True) ov (withoutP (H.take i) key)) ∧ Hid (Below W3.heap.size W3 wr)) (fun _ iv _ => H.length - (intOf iv).toNat)
    case atStart => exact ⟨0, rfl, by omega, Lib.hid (Kd.R_nil _ _ _ _ _), Lib.hid (Below.refl _ _)⟩
    case round =>
     obtain ⟨i, rfl, hi, HO, HX⟩ := hrel
     by_cases hlt : i < H.length
     ·obtain ⟨p, hp⟩ : ∃ p, H[i] = p := ⟨_, rfl⟩
      have hlt' : decide ((i : Int) < (H.length : Int)) = true := decide_eq_true (by omega)
      obtain ⟨ad, e0, y0, y1⟩ := at_T34 (Kd.C_below (Kd.C_below HC.out HB5.out) HX.out) (i : Int) (by omega) (by omega)
      cases e0
      rw [rdPair_nat _ _ hlt, hp] at y0 y1
      simp only [Int.toNat_natCast] at y0 y1
      have hle : (withoutP (H.take i) key).length ≤ i := Nat.le_trans (List.length_filter_le _ _) (List.length_take_le _ _)
      by_cases hk : p.f0 = key
      ·have hk' : (p.f0.toList == key.toList) = true := by rw [hk]; exact beq_self_eq_true _
       have ht : withoutP (H.take (i + 1)) key = withoutP (H.take i) key := by
        unfold withoutP
        rw [filter_snoc _ _ _ hlt, hp, if_neg (by simpa using hk), List.append_nil]
       go_wp2
       exact ⟨⟨i + 1, by simp, by omega, Lib.hid (by rw [ht]; exact Kd.R_alloc HO.out _), Lib.hid (HX.out.alloc HX.out.size _)⟩, by simp [intOf]; omega⟩
      ·have hk' : (p.f0.toList == key.toList) = false := beq_eq_false_iff_ne.mpr (fun e => hk ((toList_eq_iff _ _).1 e))
       have ht : withoutP (H.take (i + 1)) key = withoutP (H.take i) key ++ [p] := by
        unfold withoutP
        rw [filter_snoc _ _ _ hlt, hp, if_pos (by simpa using hk)]
       go_wp2_with (first | (
                  at_builtin
                  refine Kd.R_append k34 (w0 := W3) W3.heap.size rfl (.tmp 83) (.tmp 85) 30 34 (.agg #[(.string ⟨#[]⟩), (.string ⟨#[]⟩)]) 32 rfl Try.underlying30 info34 rfl (by decide) (by omega) _ (withoutP (H.take i) key) p [.string p.f0, .string p.f1] (fun _ => True) (fun _ => False) rfl (by first | (go_simp; done) | (go_simp; rfl)) ?aP (fun _ hk => hk.elim) ?aF ?aO ?aB ?aS ?aL ?_
                  (case aP => exact k34_mkM _ _ _ p)
                  (case aF => exact fun _ _ => trivial)
                  (case aO => exact Kd.R_alloc HO.out _)
                  (case aB => exact HX.out.alloc HX.out.size _)
                  (case aS => exact (HX.out.alloc HX.out.size _).size)
                  (case aL => omega)
                  intro v8 w8 ho8 hb8 hg8 hat8
                  have HO8 := Lib.hid ho8
                  have HB8 := Lib.hid hb8
                  clear ho8 hb8 hg8 hat8))
       exact ⟨⟨i + 1, by simp, by omega, Lib.hid (by rw [ht]; exact HO8.out), HB8⟩, by simp [intOf]; omega⟩
     ·obtain rfl : i = H.length := by omega
      have hq_ : ¬ (H.length : Int) < (H.length : Int) := by omega
      have ho := HO.out
      rw [List.take_of_length_le (Nat.le_refl _)] at ho
      have HOO := Lib.hid (Kd.R_lower ho (Nat.le_trans HB.out.size HB5.out.size))
      have e5 := (HX.out.block _ (blk_lt P5.out)).trans P5.out
      have e9 := (HX.out.block _ (blk_lt P9.out)).trans P9.out
      have hp4 := HB5.out.trans (below_weakenT HB5.out.size HX.out)
      clear ho a0 a1 a2 a3 a4 f0 f1 f2 f3 f4 b0 b1 b2 b3 b4
      have a0 := (cell_of_row wr (W.heap.size + 1) 0 _ _ (0, 0) e5).trans rfl
      have a1 := (cell_of_row wr (W.heap.size + 1) 1 _ _ (0, 0) e5).trans rfl
      have a2 := (cell_of_row wr (W.heap.size + 1) 2 _ _ (0, 0) e5).trans rfl
      have a3 := (cell_of_row wr (W.heap.size + 1) 3 _ _ (0, 0) e5).trans rfl
      have a4 := (cell_of_row wr (W.heap.size + 1) 4 _ _ (0, 0) e5).trans rfl
      have f0 := frozen_of_row wr (W.heap.size + 1) 0 _ _ e5
      have f1 := frozen_of_row wr (W.heap.size + 1) 1 _ _ e5
      have f2 := frozen_of_row wr (W.heap.size + 1) 2 _ _ e5
      have f3 := frozen_of_row wr (W.heap.size + 1) 3 _ _ e5
      have f4 := frozen_of_row wr (W.heap.size + 1) 4 _ _ e5
      have b0 := (cell_of_row wr w2.heap.size 0 _ _ (0, 0) e9).trans rfl
      have b1 := (cell_of_row wr w2.heap.size 1 _ _ (0, 0) e9).trans rfl
      have b2 := (cell_of_row wr w2.heap.size 2 _ _ (0, 0) e9).trans rfl
      have b3 := (cell_of_row wr w2.heap.size 3 _ _ (0, 0) e9).trans rfl
      have b4 := (cell_of_row wr w2.heap.size 4 _ _ (0, 0) e9).trans rfl
      have Q5 := Lib.hid e5
      have Q4 := Lib.hid hp4
      clear e5 e9 hp4
      go_wp2
      go_region
      have e5 := ans_put (Q5.out) (.string ⟨#[]⟩) (.bool false) (.int .i64 0) (.slice none 0 0) (.slice none 0 0)
      have hb5 := (ans_below (HB.out.trans (below_weakenT HB.out.size Q4.out)) (Nat.le_trans HB.out.size (Nat.le_succ _)) (.string ⟨#[]⟩) (.bool false) (.int .i64 0) (.slice none 0 0) (.slice none 0 0)).drew
      have hb6 := (ans_below (B := W.heap.size) (Below.refl _ wr) (Nat.le_succ _) (.string ⟨#[]⟩) (.bool false) (.int .i64 0) (.slice none 0 0) (.slice none 0 0)).drew
      have hr6 := Kd.R_drew (ans_R (HOO.out) (Q5.out) (.string ⟨#[]⟩) (.bool false) (.int .i64 0) (.slice none 0 0) (.slice none 0 0))
      obtain ⟨w5, hw5⟩ : ∃ X, (((((wr.setCell ⟨W.heap.size + 1, 0, none⟩ (.string ⟨#[]⟩)).setCell ⟨W.heap.size + 1, 1, none⟩ (.bool false)).setCell ⟨W.heap.size + 1, 2, none⟩ (.int .i64 0)).setCell ⟨W.heap.size + 1, 3, none⟩ (.slice none 0 0)).setCell ⟨W.heap.size + 1, 4, none⟩ (.slice none 0 0)) = X := ⟨_, rfl⟩
      rw [hw5] at e5 hb5 hb6 hr6 ⊢
      clear a0 a1 a2 a3 a4 f0 f1 f2 f3 f4 hw5
      have a0 := (cell_of_row w5 (W.heap.size + 1) 0 _ _ (0, 0) e5).trans rfl
      have a1 := (cell_of_row w5 (W.heap.size + 1) 1 _ _ (0, 0) e5).trans rfl
      have a2 := (cell_of_row w5 (W.heap.size + 1) 2 _ _ (0, 0) e5).trans rfl
      have a3 := (cell_of_row w5 (W.heap.size + 1) 3 _ _ (0, 0) e5).trans rfl
      have a4 := (cell_of_row w5 (W.heap.size + 1) 4 _ _ (0, 0) e5).trans rfl
      have E5 := Lib.hid hb5
      have E6 := Lib.hid hb6
      have E7 := Lib.hid hr6
      clear e5 hb5 hb6 hr6
      go_wp2
      refine bodyPost_ret (v := .tuple #[u11, .agg #[.string ⟨#[]⟩, .bool false, .int .i64 0, .slice none 0 0, .slice none 0 0], .bool true]) (by simp [results, Try.results22, go_sem, a0, a1, a2, a3, a4]) rfl ?_
      have hrr := HRR.out
      obtain rfl : r = (withoutP H key, ⟨#[]⟩, true) := by rw [← hrr]; unfold modelT modelP; rfl
      exact ⟨_, _, _, _, _, _, _, rfl, E7.out, E5.out, grown_of_below (Q4.out.trans E6.out) _⟩
   ·by_cases d3 : d = 3
    ·subst d3
     cases vs with
     | nil =>
      go_wp2
      go_region
      have e5 := ans_put (P5.out) (.string ⟨#[]⟩) (.bool false) (.int .i64 0) (.slice none 0 0) (.slice none 0 0)
      have hb5 := (ans_below (HB.out.trans (below_weakenT HB.out.size (HB5.out))) (Nat.le_trans HB.out.size (Nat.le_succ _)) (.string ⟨#[]⟩) (.bool false) (.int .i64 0) (.slice none 0 0) (.slice none 0 0)).drew
      have hb6 := (ans_below (B := W.heap.size) (Below.refl _ W3) (Nat.le_succ _) (.string ⟨#[]⟩) (.bool false) (.int .i64 0) (.slice none 0 0) (.slice none 0 0)).drew
      have hr6 := Kd.R_drew (ans_R (Kd.R_below HR.out (HB5.out)) (P5.out) (.string ⟨#[]⟩) (.bool false) (.int .i64 0) (.slice none 0 0) (.slice none 0 0))
      obtain ⟨w5, hw5⟩ : ∃ X, (((((W3.setCell ⟨W.heap.size + 1, 0, none⟩ (.string ⟨#[]⟩)).setCell ⟨W.heap.size + 1, 1, none⟩ (.bool false)).setCell ⟨W.heap.size + 1, 2, none⟩ (.int .i64 0)).setCell ⟨W.heap.size + 1, 3, none⟩ (.slice none 0 0)).setCell ⟨W.heap.size + 1, 4, none⟩ (.slice none 0 0)) = X := ⟨_, rfl⟩
      rw [hw5] at e5 hb5 hb6 hr6 ⊢
      clear a0 a1 a2 a3 a4 f0 f1 f2 f3 f4 hw5
      have a0 := (cell_of_row w5 (W.heap.size + 1) 0 _ _ (0, 0) e5).trans rfl
      have a1 := (cell_of_row w5 (W.heap.size + 1) 1 _ _ (0, 0) e5).trans rfl
      have a2 := (cell_of_row w5 (W.heap.size + 1) 2 _ _ (0, 0) e5).trans rfl
      have a3 := (cell_of_row w5 (W.heap.size + 1) 3 _ _ (0, 0) e5).trans rfl
      have a4 := (cell_of_row w5 (W.heap.size + 1) 4 _ _ (0, 0) e5).trans rfl
      have E5 := Lib.hid hb5
      have E6 := Lib.hid hb6
      have E7 := Lib.hid hr6
      clear e5 hb5 hb6 hr6
      go_wp2
      refine bodyPost_ret (v := .tuple #[.slice A0 H.length c0, .agg #[.string ⟨#[]⟩, .bool false, .int .i64 0, .slice none 0 0, .slice none 0 0], .bool true]) (by simp [results, Try.results22, go_sem, a0, a1, a2, a3, a4]) rfl ?_
      have hrr := HRR.out
      obtain rfl : r = (H, ⟨#[]⟩, true) := by rw [← hrr]; unfold modelT modelP; rw [HVS.out]; rfl
      exact ⟨_, _, _, _, _, _, _, rfl, E7.out, E5.out, grown_of_below ((HB5.out).trans E6.out) _⟩
     | cons x t =>
      have hq_ : (0 : Int) < (((x :: t).length : Nat) : Int) := by simp
      obtain ⟨aw, e2, u0⟩ := Kd.at_string HCV5.out 0 (by omega) (by simp)
      cases e2
      have u1 : W3.cell? aw = some (.string x) := by
       have q_ := u0
       rw [show (0 : Int).toNat = 0 from rfl] at q_
       exact (show W3.cell? aw = W3.cell? (aw.add 0) by cases aw; rfl).trans q_
      have g0 := frozen_of_row W3 w2.heap.size 0 _ _ P9.out
      go_wp2
      obtain ⟨W4, hW4⟩ : ∃ X, W3.setCell ⟨w2.heap.size, 0, none⟩ (.string x) = X := ⟨_, rfl⟩
      have e9 := heap_setCell_same W3 w2.heap.size 0 _ _ (.string x) P9.out
      have e5 := (Below.heap_setCell W3 ⟨w2.heap.size, 0, none⟩ (.string x) (W.heap.size + 1) (Nat.ne_of_lt HS.out)).trans P5.out
      have hb4 : Below W.heap.size W (W3.setCell ⟨w2.heap.size, 0, none⟩ (.string x)) := HB5.out.setCell (Nat.le_trans (Nat.le_succ _) (Nat.le_of_lt HS.out)) _
      rw [hW4] at e9 e5 hb4 ⊢
      clear a0 a1 a2 a3 a4 f0 f1 f2 f3 f4 b0 b1 b2 b3 b4 hW4
      have a0 := (cell_of_row W4 (W.heap.size + 1) 0 _ _ (0, 0) e5).trans rfl
      have a1 := (cell_of_row W4 (W.heap.size + 1) 1 _ _ (0, 0) e5).trans rfl
      have a2 := (cell_of_row W4 (W.heap.size + 1) 2 _ _ (0, 0) e5).trans rfl
      have a3 := (cell_of_row W4 (W.heap.size + 1) 3 _ _ (0, 0) e5).trans rfl
      have a4 := (cell_of_row W4 (W.heap.size + 1) 4 _ _ (0, 0) e5).trans rfl
      have f0 := frozen_of_row W4 (W.heap.size + 1) 0 _ _ e5
      have f1 := frozen_of_row W4 (W.heap.size + 1) 1 _ _ e5
      have f2 := frozen_of_row W4 (W.heap.size + 1) 2 _ _ e5
      have f3 := frozen_of_row W4 (W.heap.size + 1) 3 _ _ e5
      have f4 := frozen_of_row W4 (W.heap.size + 1) 4 _ _ e5
      have b0 := (cell_of_row W4 w2.heap.size 0 _ _ (0, 0) e9).trans rfl
      have b1 := (cell_of_row W4 w2.heap.size 1 _ _ (0, 0) e9).trans rfl
      have b2 := (cell_of_row W4 w2.heap.size 2 _ _ (0, 0) e9).trans rfl
      have b3 := (cell_of_row W4 w2.heap.size 3 _ _ (0, 0) e9).trans rfl
      have b4 := (cell_of_row W4 w2.heap.size 4 _ _ (0, 0) e9).trans rfl
      have Q5 := Lib.hid e5
      have Q4 := Lib.hid hb4
      clear e9 e5 hb4
      go_region
      have e5 := ans_put (Q5.out) (.string x) (.bool false) (.int .i64 0) (.slice none 0 0) (.slice none 0 0)
      have hb5 := (ans_below (HB.out.trans (below_weakenT HB.out.size (Q4.out))) (Nat.le_trans HB.out.size (Nat.le_succ _)) (.string x) (.bool false) (.int .i64 0) (.slice none 0 0) (.slice none 0 0)).drew
      have hb6 := (ans_below (B := W.heap.size) (Below.refl _ W4) (Nat.le_succ _) (.string x) (.bool false) (.int .i64 0) (.slice none 0 0) (.slice none 0 0)).drew
      have hr6 := Kd.R_drew (ans_R (Kd.R_below HR.out (Q4.out)) (Q5.out) (.string x) (.bool false) (.int .i64 0) (.slice none 0 0) (.slice none 0 0))
      obtain ⟨w5, hw5⟩ : ∃ X, (((((W4.setCell ⟨W.heap.size + 1, 0, none⟩ (.string x)).setCell ⟨W.heap.size + 1, 1, none⟩ (.bool false)).setCell ⟨W.heap.size + 1, 2, none⟩ (.int .i64 0)).setCell ⟨W.heap.size + 1, 3, none⟩ (.slice none 0 0)).setCell ⟨W.heap.size + 1, 4, none⟩ (.slice none 0 0)) = X := ⟨_, rfl⟩
      rw [hw5] at e5 hb5 hb6 hr6 ⊢
      clear a0 a1 a2 a3 a4 f0 f1 f2 f3 f4 hw5
      have a0 := (cell_of_row w5 (W.heap.size + 1) 0 _ _ (0, 0) e5).trans rfl
      have a1 := (cell_of_row w5 (W.heap.size + 1) 1 _ _ (0, 0) e5).trans rfl
      have a2 := (cell_of_row w5 (W.heap.size + 1) 2 _ _ (0, 0) e5).trans rfl
      have a3 := (cell_of_row w5 (W.heap.size + 1) 3 _ _ (0, 0) e5).trans rfl
      have a4 := (cell_of_row w5 (W.heap.size + 1) 4 _ _ (0, 0) e5).trans rfl
      have E5 := Lib.hid hb5
      have E6 := Lib.hid hb6
      have E7 := Lib.hid hr6
      clear e5 hb5 hb6 hr6
      go_wp2
      refine bodyPost_ret (v := .tuple #[.slice A0 H.length c0, .agg #[.string x, .bool false, .int .i64 0, .slice none 0 0, .slice none 0 0], .bool true]) (by simp [results, Try.results22, go_sem, a0, a1, a2, a3, a4]) rfl ?_
      have hrr := HRR.out
      obtain rfl : r = (H, x, true) := by rw [← hrr]; unfold modelT modelP; rw [HVS.out]; rfl
      exact ⟨_, _, _, _, _, _, _, rfl, E7.out, E5.out, grown_of_below ((Q4.out).trans E6.out) _⟩
    ·by_cases d4 : d = 4
     ·subst d4
      have g3 := frozen_of_row W3 w2.heap.size 3 _ _ P9.out
      go_wp2
      obtain ⟨W4, hW4⟩ : ∃ X, W3.setCell ⟨w2.heap.size, 3, none⟩ (.slice Av vs.length cv) = X := ⟨_, rfl⟩
      have e9 := heap_setCell_same W3 w2.heap.size 3 _ _ (.slice Av vs.length cv) P9.out
      have e5 := (Below.heap_setCell W3 ⟨w2.heap.size, 3, none⟩ (.slice Av vs.length cv) (W.heap.size + 1) (Nat.ne_of_lt HS.out)).trans P5.out
      have hb4 : Below W.heap.size W (W3.setCell ⟨w2.heap.size, 3, none⟩ (.slice Av vs.length cv)) := HB5.out.setCell (Nat.le_trans (Nat.le_succ _) (Nat.le_of_lt HS.out)) _
      rw [hW4] at e9 e5 hb4 ⊢
      clear a0 a1 a2 a3 a4 f0 f1 f2 f3 f4 b0 b1 b2 b3 b4 hW4
      have a0 := (cell_of_row W4 (W.heap.size + 1) 0 _ _ (0, 0) e5).trans rfl
      have a1 := (cell_of_row W4 (W.heap.size + 1) 1 _ _ (0, 0) e5).trans rfl
      have a2 := (cell_of_row W4 (W.heap.size + 1) 2 _ _ (0, 0) e5).trans rfl
      have a3 := (cell_of_row W4 (W.heap.size + 1) 3 _ _ (0, 0) e5).trans rfl
      have a4 := (cell_of_row W4 (W.heap.size + 1) 4 _ _ (0, 0) e5).trans rfl
      have f0 := frozen_of_row W4 (W.heap.size + 1) 0 _ _ e5
      have f1 := frozen_of_row W4 (W.heap.size + 1) 1 _ _ e5
      have f2 := frozen_of_row W4 (W.heap.size + 1) 2 _ _ e5
      have f3 := frozen_of_row W4 (W.heap.size + 1) 3 _ _ e5
      have f4 := frozen_of_row W4 (W.heap.size + 1) 4 _ _ e5
      have b0 := (cell_of_row W4 w2.heap.size 0 _ _ (0, 0) e9).trans rfl
      have b1 := (cell_of_row W4 w2.heap.size 1 _ _ (0, 0) e9).trans rfl
      have b2 := (cell_of_row W4 w2.heap.size 2 _ _ (0, 0) e9).trans rfl
      have b3 := (cell_of_row W4 w2.heap.size 3 _ _ (0, 0) e9).trans rfl
      have b4 := (cell_of_row W4 w2.heap.size 4 _ _ (0, 0) e9).trans rfl
      have Q5 := Lib.hid e5
      have Q4 := Lib.hid hb4
      clear e9 e5 hb4
      go_region
      have e5 := ans_put (Q5.out) (.string ⟨#[]⟩) (.bool false) (.int .i64 0) (.slice Av vs.length cv) (.slice none 0 0)
      have hb5 := (ans_below (HB.out.trans (below_weakenT HB.out.size (Q4.out))) (Nat.le_trans HB.out.size (Nat.le_succ _)) (.string ⟨#[]⟩) (.bool false) (.int .i64 0) (.slice Av vs.length cv) (.slice none 0 0)).drew
      have hb6 := (ans_below (B := W.heap.size) (Below.refl _ W4) (Nat.le_succ _) (.string ⟨#[]⟩) (.bool false) (.int .i64 0) (.slice Av vs.length cv) (.slice none 0 0)).drew
      have hr6 := Kd.R_drew (ans_R (Kd.R_below HR.out (Q4.out)) (Q5.out) (.string ⟨#[]⟩) (.bool false) (.int .i64 0) (.slice Av vs.length cv) (.slice none 0 0))
      obtain ⟨w5, hw5⟩ : ∃ X, (((((W4.setCell ⟨W.heap.size + 1, 0, none⟩ (.string ⟨#[]⟩)).setCell ⟨W.heap.size + 1, 1, none⟩ (.bool false)).setCell ⟨W.heap.size + 1, 2, none⟩ (.int .i64 0)).setCell ⟨W.heap.size + 1, 3, none⟩ (.slice Av vs.length cv)).setCell ⟨W.heap.size + 1, 4, none⟩ (.slice none 0 0)) = X := ⟨_, rfl⟩
      rw [hw5] at e5 hb5 hb6 hr6 ⊢
      clear a0 a1 a2 a3 a4 f0 f1 f2 f3 f4 hw5
      have a0 := (cell_of_row w5 (W.heap.size + 1) 0 _ _ (0, 0) e5).trans rfl
      have a1 := (cell_of_row w5 (W.heap.size + 1) 1 _ _ (0, 0) e5).trans rfl
      have a2 := (cell_of_row w5 (W.heap.size + 1) 2 _ _ (0, 0) e5).trans rfl
      have a3 := (cell_of_row w5 (W.heap.size + 1) 3 _ _ (0, 0) e5).trans rfl
      have a4 := (cell_of_row w5 (W.heap.size + 1) 4 _ _ (0, 0) e5).trans rfl
      have E5 := Lib.hid hb5
      have E6 := Lib.hid hb6
      have E7 := Lib.hid hr6
      clear e5 hb5 hb6 hr6
      go_wp2
      refine bodyPost_ret (v := .tuple #[.slice A0 H.length c0, .agg #[.string ⟨#[]⟩, .bool false, .int .i64 0, .slice Av vs.length cv, .slice none 0 0], .bool true]) (by simp [results, Try.results22, go_sem, a0, a1, a2, a3, a4]) rfl ?_
      have hrr := HRR.out
      obtain rfl : r = (H, ⟨#[]⟩, true) := by rw [← hrr]; unfold modelT modelP; rfl
      exact ⟨_, _, _, _, _, _, _, rfl, E7.out, E5.out, grown_of_below ((Q4.out).trans E6.out) _⟩
     ·go_wp2
      go_region
      have e5 := ans_put (P5.out) (.string ⟨#[]⟩) (.bool false) (.int .i64 0) (.slice none 0 0) (.slice none 0 0)
      have hb5 := (ans_below (HB.out.trans (below_weakenT HB.out.size (HB5.out))) (Nat.le_trans HB.out.size (Nat.le_succ _)) (.string ⟨#[]⟩) (.bool false) (.int .i64 0) (.slice none 0 0) (.slice none 0 0)).drew
      have hb6 := (ans_below (B := W.heap.size) (Below.refl _ W3) (Nat.le_succ _) (.string ⟨#[]⟩) (.bool false) (.int .i64 0) (.slice none 0 0) (.slice none 0 0)).drew
      have hr6 := Kd.R_drew (ans_R (Kd.R_below HR.out (HB5.out)) (P5.out) (.string ⟨#[]⟩) (.bool false) (.int .i64 0) (.slice none 0 0) (.slice none 0 0))
      obtain ⟨w5, hw5⟩ : ∃ X, (((((W3.setCell ⟨W.heap.size + 1, 0, none⟩ (.string ⟨#[]⟩)).setCell ⟨W.heap.size + 1, 1, none⟩ (.bool false)).setCell ⟨W.heap.size + 1, 2, none⟩ (.int .i64 0)).setCell ⟨W.heap.size + 1, 3, none⟩ (.slice none 0 0)).setCell ⟨W.heap.size + 1, 4, none⟩ (.slice none 0 0)) = X := ⟨_, rfl⟩
      rw [hw5] at e5 hb5 hb6 hr6 ⊢
      clear a0 a1 a2 a3 a4 f0 f1 f2 f3 f4 hw5
      have a0 := (cell_of_row w5 (W.heap.size + 1) 0 _ _ (0, 0) e5).trans rfl
      have a1 := (cell_of_row w5 (W.heap.size + 1) 1 _ _ (0, 0) e5).trans rfl
      have a2 := (cell_of_row w5 (W.heap.size + 1) 2 _ _ (0, 0) e5).trans rfl
      have a3 := (cell_of_row w5 (W.heap.size + 1) 3 _ _ (0, 0) e5).trans rfl
      have a4 := (cell_of_row w5 (W.heap.size + 1) 4 _ _ (0, 0) e5).trans rfl
      have E5 := Lib.hid hb5
      have E6 := Lib.hid hb6
      have E7 := Lib.hid hr6
      clear e5 hb5 hb6 hr6
      go_wp2
      refine bodyPost_ret (v := .tuple #[.slice A0 H.length c0, .agg #[.string ⟨#[]⟩, .bool false, .int .i64 0, .slice none 0 0, .slice none 0 0], .bool true]) (by simp [results, Try.results22, go_sem, a0, a1, a2, a3, a4]) rfl ?_
      have hrr := HRR.out
      obtain rfl : r = (H, ⟨#[]⟩, true) := by rw [← hrr]; unfold modelT modelP; rw [if_neg d0, if_neg d1, if_neg d2, if_neg d3, if_neg d4]
      exact ⟨_, _, _, _, _, _, _, rfl, E7.out, E5.out, grown_of_below ((HB5.out).trans E6.out) _⟩
end Go.Proofs.Ytoimkmoalmmooaa.Own
