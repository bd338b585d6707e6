/- Printed by wip/pr.py (a program of this repo over the print program of the kit). Not trusted: Lean checks it. -/
import Derived.Test.YtjnnadpecendpaaQA0
import Derived.Test.YtjnnadpecendpaaQA1
import Derived.Test.YtjnnadpecendpaaQA2
import Derived.Test.YtjnnadpecendpaaQA3
import Derived.Test.YtjnnadpecendpaaQA4
import Derived.Test.YtjnnadpecendpaaGStr
namespace Go.Proofs.Ytjnnadpecendpaa.QA
open Go.Proofs.Ytjnnadpecendpaa.Given
open Go.Proofs.Ytjnnadpecendpaa.PrX
open Go.RowKit Go.Proofs.YtjnnadpecendpaaW.PrintWords Go.Proofs.YtjnnadpecendpaaW.PrintLast Go.Proofs.YtjnnadpecendpaaW.PrintMore
attribute [local go_sem] max2_int min2_int max_two min_two max_three min_three max_four min_four   -- for this text's walks alone
set_option linter.unusedVariables false
set_option linter.unusedSimpArgs false

set_option maxHeartbeats 8000000 in
set_option maxRecDepth 100000 in
theorem hertzproto_IsBadTrailer.calls (k : Nat) (A0 : Option Addr) (c0 : Nat) (l0 : List Int) (r : Bool) (w : World) (hr0 : Kd.C (Kd.int .u8) w A0 l0.length l0) (hc0 : l0.length ≤ c0) (h : hertzproto_IsBadTrailer.f k l0 = some r) :
    Calls Try.prog 33 #[.slice A0 l0.length c0] w fun e w' => e = .returned (.bool r) ∧ Below w.heap.size w w' := by
  have H00_ := Aside0.mk h
  have HR0 := Aside0.mk hr0
  have HC0 := Aside0.mk hc0
  clear hr0 hc0
  have HB := Aside0.mk (Below.refl w.heap.size w)
  have H : (if 0 < (l0.length : Int) then (if (Go.bits .or .u8 (rd l0 0) 32) = 97 then ((hertzstr_StrAuthorization.f).bind fun t104 => ((hertzutils_CaseInsensitiveCompare.f k l0 t104).bind fun t107 => (some t107))) else (if (Go.bits .or .u8 (rd l0 0) 32) = 99 then (if (l0.length : Int) ≥ 12 then (if 8 ≤ (l0.length : Int) then ((hertzstr_StrContentType.f).bind fun t109 => (if 8 ≤ (t109.length : Int) then ((hertzutils_CaseInsensitiveCompare.f k (l0.take 8) (t109.take 8)).bind fun t116 => (hertzproto_IsBadTrailer.j0 k l0 t116)) else (none))) else (none)) else (hertzproto_IsBadTrailer.j0 k l0 false)) else (if (Go.bits .or .u8 (rd l0 0) 32) = 101 then ((hertzstr_StrExpect.f).bind fun t157 => ((hertzutils_CaseInsensitiveCompare.f k l0 t157).bind fun t160 => (some t160))) else (if (Go.bits .or .u8 (rd l0 0) 32) = 104 then ((hertzstr_StrHost.f).bind fun t161 => ((hertzutils_CaseInsensitiveCompare.f k l0 t161).bind fun t164 => (some t164))) else (if (Go.bits .or .u8 (rd l0 0) 32) = 107 then ((hertzstr_StrKeepAlive.f).bind fun t165 => ((hertzutils_CaseInsensitiveCompare.f k l0 t165).bind fun t168 => (some t168))) else (if (Go.bits .or .u8 (rd l0 0) 32) = 109 then ((hertzstr_StrMaxForwards.f).bind fun t169 => ((hertzutils_CaseInsensitiveCompare.f k l0 t169).bind fun t172 => (some t172))) else (if (Go.bits .or .u8 (rd l0 0) 32) = 112 then (if (l0.length : Int) ≥ 16 then (if 6 ≤ (l0.length : Int) then ((hertzstr_StrProxyConnection.f).bind fun t174 => (if 6 ≤ (t174.length : Int) then ((hertzutils_CaseInsensitiveCompare.f k (l0.take 6) (t174.take 6)).bind fun t181 => (hertzproto_IsBadTrailer.j1 k l0 t181)) else (none))) else (none)) else (hertzproto_IsBadTrailer.j1 k l0 false)) else (if (Go.bits .or .u8 (rd l0 0) 32) = 114 then ((hertzstr_StrRange.f).bind fun t209 => ((hertzutils_CaseInsensitiveCompare.f k l0 t209).bind fun t212 => (some t212))) else (if (Go.bits .or .u8 (rd l0 0) 32) = 116 then ((hertzstr_StrTE.f).bind fun t213 => ((hertzutils_CaseInsensitiveCompare.f k l0 t213).bind fun t216 => (if t216 = true then (some true) else ((hertzstr_StrTrailer.f).bind fun t217 => ((hertzutils_CaseInsensitiveCompare.f k l0 t217).bind fun t220 => (if t220 = true then (some true) else ((hertzstr_StrTransferEncoding.f).bind fun t221 => ((hertzutils_CaseInsensitiveCompare.f k l0 t221).bind fun t224 => (some t224))))))))) else (if (Go.bits .or .u8 (rd l0 0) 32) = 119 then ((hertzstr_StrWWWAuthenticate.f).bind fun t225 => ((hertzutils_CaseInsensitiveCompare.f k l0 t225).bind fun t228 => (some t228))) else (some false))))))))))) else (none)) = some r := h
  clear h
  by_cases c2 : 0 < (l0.length : Int)
  · rw [if_pos c2] at H
    have c2b0 : decide (0 < (l0.length : Int)) = true := decide_eq_true c2
    have c2b1 : decide (0 < l0.length) = true := decide_eq_true (by omega)
    clear c2
    by_cases c3 : (Go.bits .or .u8 (rd l0 0) 32) = 97
    · rw [if_pos c3] at H
      have c3b0 : ((Go.bits .or .u8 (rd l0 0) 32) == 97) = true := beq_iff_eq.mpr c3
      have c3b1 : ((Go.bits .or .u8 (rd l0 0) 32) != 97) = false := bne_eq_false_iff_eq.mpr c3
      clear c3
      replace H := Option.bind_eq_some_iff.mp H
      obtain ⟨t104, A40, H⟩ := H
      replace H : ((hertzutils_CaseInsensitiveCompare.f k l0 t104).bind fun t107 => (some t107)) = some r := H
      have A4 := Aside0.mk A40
      clear A40
      replace H := Option.bind_eq_some_iff.mp H
      obtain ⟨t107, A50, H⟩ := H
      replace H : (some t107) = some r := H
      have A5 := Aside0.mk A50
      clear A50
      obtain rfl := Option.some.inj H
      have p103 : 0 ≤ (0 : Int) := (by omega)
      have q103 : 0 < (l0.length : Int) := of_decide_eq_true (by first | (with_reducible assumption) | assumption)
      obtain ⟨ad103, e103, hx103_0⟩ := Kd.at_int HR0.out 0 p103 q103
      cases e103
      have qi103 : (0 < l0.length) = True := eq_true (by omega)
      (try rw [show ((0 : Int)).toNat = 0 from rfl] at hx103_0)
      (try rw [Addr.add_zero'] at hx103_0)
      replace p103 := eq_true p103
      replace q103 := eq_true q103
      go_enter Try.func33, Try.ntmps33
      go_wp2_with (first | ((with_reducible refine gate_callee (f := 53) rfl ?_); refine goesL_ (some 10) rfl rfl Try.func53 (by kernel_rfl) rfl #[] rfl (by (try simp only [List.map_toArray, List.map_cons, List.map_nil]); first | done | rfl | (simp only [List.length_drop, List.length_take]; rfl)) ?_; (with_reducible refine (hertzstr_StrAuthorization.calls  t104 _ A4.out).mono ?_); rintro e w6 ⟨v105, rfl, ho0, hb⟩; refine ⟨_, rfl, ?_⟩; have n0_ := Aside0.mk (MR.R_lower ho0 (below_size (by repeat (first | (with_reducible first | exact HB.out | apply below_alloc | apply pw_below_drewN | apply below_drew1) | exact HB.out)))); have n1_ := Aside0.mk (below_step (by repeat (first | (with_reducible first | exact HB.out | apply below_alloc | apply pw_below_drewN | apply below_drew1) | exact HB.out)) hb); clear HB; have HO106 := n0_; have HB := n1_; clear n0_ n1_; (try clear hb); (try clear hb2); (try clear hk); (try clear hi); (try clear ho0); obtain ⟨Ao7, co7, eo7⟩ := MR.R_slice HO106.out; subst eo7) | ((with_reducible refine gate_callee (f := 52) rfl ?_); refine goesL_ (some 11) rfl rfl Try.func52 (by kernel_rfl) rfl #[.slice (some ad103) l0.length c0, .slice Ao7 t104.length co7] rfl (by (try simp only [List.map_toArray, List.map_cons, List.map_nil]); first | done | rfl | (simp only [List.length_drop, List.length_take]; rfl)) ?_; (with_reducible refine (hertzutils_CaseInsensitiveCompare.calls k _ _ l0 _ _ t104 t107 _ ?side1 ?side2 ?side3 ?side4 A5.out).mono ?_); (case side1 => repeat (first | exact (Kd.C_below HR0.out HB.out) | (with_reducible refine Kd.C_alloc ?_ _) | (with_reducible refine Kd.C_drewN ?_ _) | (with_reducible refine Kd.C_drew ?_))); (case side2 => exact HC0.out); (case side3 => repeat (first | exact (MR.R_reads' HO106.out).2.2 | (with_reducible refine Kd.C_alloc ?_ _) | (with_reducible refine Kd.C_drewN ?_ _) | (with_reducible refine Kd.C_drew ?_))); (case side4 => exact (MR.R_reads' HO106.out).2.1); rintro e w' ⟨rfl, ⟨nd, rfl⟩⟩; refine ⟨_, rfl, ?_⟩))
      go_ret
      exact ⟨by first | rfl | (simp [errW_none, errW_some] <;> rfl) | (simp [*, errW_none, errW_some] <;> rfl), by repeat (first | (with_reducible first | exact HB.out | apply below_alloc | apply pw_below_drewN | apply below_drew1) | exact HB.out)⟩
    · rw [if_neg c3] at H
      have c3b0 : ((Go.bits .or .u8 (rd l0 0) 32) == 97) = false := beq_eq_false_iff_ne.mpr c3
      have c3b1 : ((Go.bits .or .u8 (rd l0 0) 32) != 97) = true := bne_iff_ne.mpr c3
      by_cases c8 : (Go.bits .or .u8 (rd l0 0) 32) = 99
      · exact hertzproto_IsBadTrailer.calls_0 k A0 c0 l0 r w HR0.out HC0.out c8 H00_.out
      · rw [if_neg c8] at H
        have c8b0 : ((Go.bits .or .u8 (rd l0 0) 32) == 99) = false := beq_eq_false_iff_ne.mpr c8
        have c8b1 : ((Go.bits .or .u8 (rd l0 0) 32) != 99) = true := bne_iff_ne.mpr c8
        by_cases c89 : (Go.bits .or .u8 (rd l0 0) 32) = 101
        · rw [if_pos c89] at H
          have c89b0 : ((Go.bits .or .u8 (rd l0 0) 32) == 101) = true := beq_iff_eq.mpr c89
          have c89b1 : ((Go.bits .or .u8 (rd l0 0) 32) != 101) = false := bne_eq_false_iff_eq.mpr c89
          clear c89
          replace H := Option.bind_eq_some_iff.mp H
          obtain ⟨t157, A900, H⟩ := H
          replace H : ((hertzutils_CaseInsensitiveCompare.f k l0 t157).bind fun t160 => (some t160)) = some r := H
          have A90 := Aside0.mk A900
          clear A900
          replace H := Option.bind_eq_some_iff.mp H
          obtain ⟨t160, A910, H⟩ := H
          replace H : (some t160) = some r := H
          have A91 := Aside0.mk A910
          clear A910
          obtain rfl := Option.some.inj H
          have p103 : 0 ≤ (0 : Int) := (by omega)
          have q103 : 0 < (l0.length : Int) := of_decide_eq_true (by first | (with_reducible assumption) | assumption)
          obtain ⟨ad103, e103, hx103_0⟩ := Kd.at_int HR0.out 0 p103 q103
          cases e103
          have qi103 : (0 < l0.length) = True := eq_true (by omega)
          (try rw [show ((0 : Int)).toNat = 0 from rfl] at hx103_0)
          (try rw [Addr.add_zero'] at hx103_0)
          replace p103 := eq_true p103
          replace q103 := eq_true q103
          go_enter Try.func33, Try.ntmps33
          go_wp2_with (first | ((with_reducible refine gate_callee (f := 59) rfl ?_); refine goesL_ (some 56) rfl rfl Try.func59 (by kernel_rfl) rfl #[] rfl (by (try simp only [List.map_toArray, List.map_cons, List.map_nil]); first | done | rfl | (simp only [List.length_drop, List.length_take]; rfl)) ?_; (with_reducible refine (hertzstr_StrExpect.calls  t157 _ A90.out).mono ?_); rintro e w92 ⟨v158, rfl, ho0, hb⟩; refine ⟨_, rfl, ?_⟩; have n0_ := Aside0.mk (MR.R_lower ho0 (below_size (by repeat (first | (with_reducible first | exact HB.out | apply below_alloc | apply pw_below_drewN | apply below_drew1) | exact HB.out)))); have n1_ := Aside0.mk (below_step (by repeat (first | (with_reducible first | exact HB.out | apply below_alloc | apply pw_below_drewN | apply below_drew1) | exact HB.out)) hb); clear HB; have HO159 := n0_; have HB := n1_; clear n0_ n1_; (try clear hb); (try clear hb2); (try clear hk); (try clear hi); (try clear ho0); obtain ⟨Ao93, co93, eo93⟩ := MR.R_slice HO159.out; subst eo93) | ((with_reducible refine gate_callee (f := 52) rfl ?_); refine goesL_ (some 57) rfl rfl Try.func52 (by kernel_rfl) rfl #[.slice (some ad103) l0.length c0, .slice Ao93 t157.length co93] rfl (by (try simp only [List.map_toArray, List.map_cons, List.map_nil]); first | done | rfl | (simp only [List.length_drop, List.length_take]; rfl)) ?_; (with_reducible refine (hertzutils_CaseInsensitiveCompare.calls k _ _ l0 _ _ t157 t160 _ ?side1 ?side2 ?side3 ?side4 A91.out).mono ?_); (case side1 => repeat (first | exact (Kd.C_below HR0.out HB.out) | (with_reducible refine Kd.C_alloc ?_ _) | (with_reducible refine Kd.C_drewN ?_ _) | (with_reducible refine Kd.C_drew ?_))); (case side2 => exact HC0.out); (case side3 => repeat (first | exact (MR.R_reads' HO159.out).2.2 | (with_reducible refine Kd.C_alloc ?_ _) | (with_reducible refine Kd.C_drewN ?_ _) | (with_reducible refine Kd.C_drew ?_))); (case side4 => exact (MR.R_reads' HO159.out).2.1); rintro e w' ⟨rfl, ⟨nd, rfl⟩⟩; refine ⟨_, rfl, ?_⟩))
          go_ret
          exact ⟨by first | rfl | (simp [errW_none, errW_some] <;> rfl) | (simp [*, errW_none, errW_some] <;> rfl), by repeat (first | (with_reducible first | exact HB.out | apply below_alloc | apply pw_below_drewN | apply below_drew1) | exact HB.out)⟩
        · rw [if_neg c89] at H
          have c89b0 : ((Go.bits .or .u8 (rd l0 0) 32) == 101) = false := beq_eq_false_iff_ne.mpr c89
          have c89b1 : ((Go.bits .or .u8 (rd l0 0) 32) != 101) = true := bne_iff_ne.mpr c89
          by_cases c94 : (Go.bits .or .u8 (rd l0 0) 32) = 104
          · rw [if_pos c94] at H
            have c94b0 : ((Go.bits .or .u8 (rd l0 0) 32) == 104) = true := beq_iff_eq.mpr c94
            have c94b1 : ((Go.bits .or .u8 (rd l0 0) 32) != 104) = false := bne_eq_false_iff_eq.mpr c94
            clear c94
            replace H := Option.bind_eq_some_iff.mp H
            obtain ⟨t161, A950, H⟩ := H
            replace H : ((hertzutils_CaseInsensitiveCompare.f k l0 t161).bind fun t164 => (some t164)) = some r := H
            have A95 := Aside0.mk A950
            clear A950
            replace H := Option.bind_eq_some_iff.mp H
            obtain ⟨t164, A960, H⟩ := H
            replace H : (some t164) = some r := H
            have A96 := Aside0.mk A960
            clear A960
            obtain rfl := Option.some.inj H
            have p103 : 0 ≤ (0 : Int) := (by omega)
            have q103 : 0 < (l0.length : Int) := of_decide_eq_true (by first | (with_reducible assumption) | assumption)
            obtain ⟨ad103, e103, hx103_0⟩ := Kd.at_int HR0.out 0 p103 q103
            cases e103
            have qi103 : (0 < l0.length) = True := eq_true (by omega)
            (try rw [show ((0 : Int)).toNat = 0 from rfl] at hx103_0)
            (try rw [Addr.add_zero'] at hx103_0)
            replace p103 := eq_true p103
            replace q103 := eq_true q103
            go_enter Try.func33, Try.ntmps33
            go_wp2_with (first | ((with_reducible refine gate_callee (f := 60) rfl ?_); refine goesL_ (some 61) rfl rfl Try.func60 (by kernel_rfl) rfl #[] rfl (by (try simp only [List.map_toArray, List.map_cons, List.map_nil]); first | done | rfl | (simp only [List.length_drop, List.length_take]; rfl)) ?_; (with_reducible refine (hertzstr_StrHost.calls  t161 _ A95.out).mono ?_); rintro e w97 ⟨v162, rfl, ho0, hb⟩; refine ⟨_, rfl, ?_⟩; have n0_ := Aside0.mk (MR.R_lower ho0 (below_size (by repeat (first | (with_reducible first | exact HB.out | apply below_alloc | apply pw_below_drewN | apply below_drew1) | exact HB.out)))); have n1_ := Aside0.mk (below_step (by repeat (first | (with_reducible first | exact HB.out | apply below_alloc | apply pw_below_drewN | apply below_drew1) | exact HB.out)) hb); clear HB; have HO163 := n0_; have HB := n1_; clear n0_ n1_; (try clear hb); (try clear hb2); (try clear hk); (try clear hi); (try clear ho0); obtain ⟨Ao98, co98, eo98⟩ := MR.R_slice HO163.out; subst eo98) | ((with_reducible refine gate_callee (f := 52) rfl ?_); refine goesL_ (some 62) rfl rfl Try.func52 (by kernel_rfl) rfl #[.slice (some ad103) l0.length c0, .slice Ao98 t161.length co98] rfl (by (try simp only [List.map_toArray, List.map_cons, List.map_nil]); first | done | rfl | (simp only [List.length_drop, List.length_take]; rfl)) ?_; (with_reducible refine (hertzutils_CaseInsensitiveCompare.calls k _ _ l0 _ _ t161 t164 _ ?side1 ?side2 ?side3 ?side4 A96.out).mono ?_); (case side1 => repeat (first | exact (Kd.C_below HR0.out HB.out) | (with_reducible refine Kd.C_alloc ?_ _) | (with_reducible refine Kd.C_drewN ?_ _) | (with_reducible refine Kd.C_drew ?_))); (case side2 => exact HC0.out); (case side3 => repeat (first | exact (MR.R_reads' HO163.out).2.2 | (with_reducible refine Kd.C_alloc ?_ _) | (with_reducible refine Kd.C_drewN ?_ _) | (with_reducible refine Kd.C_drew ?_))); (case side4 => exact (MR.R_reads' HO163.out).2.1); rintro e w' ⟨rfl, ⟨nd, rfl⟩⟩; refine ⟨_, rfl, ?_⟩))
            go_ret
            exact ⟨by first | rfl | (simp [errW_none, errW_some] <;> rfl) | (simp [*, errW_none, errW_some] <;> rfl), by repeat (first | (with_reducible first | exact HB.out | apply below_alloc | apply pw_below_drewN | apply below_drew1) | exact HB.out)⟩
          · rw [if_neg c94] at H
            have c94b0 : ((Go.bits .or .u8 (rd l0 0) 32) == 104) = false := beq_eq_false_iff_ne.mpr c94
            have c94b1 : ((Go.bits .or .u8 (rd l0 0) 32) != 104) = true := bne_iff_ne.mpr c94
            by_cases c99 : (Go.bits .or .u8 (rd l0 0) 32) = 107
            · rw [if_pos c99] at H
              have c99b0 : ((Go.bits .or .u8 (rd l0 0) 32) == 107) = true := beq_iff_eq.mpr c99
              have c99b1 : ((Go.bits .or .u8 (rd l0 0) 32) != 107) = false := bne_eq_false_iff_eq.mpr c99
              clear c99
              replace H := Option.bind_eq_some_iff.mp H
              obtain ⟨t165, A1000, H⟩ := H
              replace H : ((hertzutils_CaseInsensitiveCompare.f k l0 t165).bind fun t168 => (some t168)) = some r := H
              have A100 := Aside0.mk A1000
              clear A1000
              replace H := Option.bind_eq_some_iff.mp H
              obtain ⟨t168, A1010, H⟩ := H
              replace H : (some t168) = some r := H
              have A101 := Aside0.mk A1010
              clear A1010
              obtain rfl := Option.some.inj H
              have p103 : 0 ≤ (0 : Int) := (by omega)
              have q103 : 0 < (l0.length : Int) := of_decide_eq_true (by first | (with_reducible assumption) | assumption)
              obtain ⟨ad103, e103, hx103_0⟩ := Kd.at_int HR0.out 0 p103 q103
              cases e103
              have qi103 : (0 < l0.length) = True := eq_true (by omega)
              (try rw [show ((0 : Int)).toNat = 0 from rfl] at hx103_0)
              (try rw [Addr.add_zero'] at hx103_0)
              replace p103 := eq_true p103
              replace q103 := eq_true q103
              go_enter Try.func33, Try.ntmps33
              go_wp2_with (first | ((with_reducible refine gate_callee (f := 61) rfl ?_); refine goesL_ (some 66) rfl rfl Try.func61 (by kernel_rfl) rfl #[] rfl (by (try simp only [List.map_toArray, List.map_cons, List.map_nil]); first | done | rfl | (simp only [List.length_drop, List.length_take]; rfl)) ?_; (with_reducible refine (hertzstr_StrKeepAlive.calls  t165 _ A100.out).mono ?_); rintro e w102 ⟨v166, rfl, ho0, hb⟩; refine ⟨_, rfl, ?_⟩; have n0_ := Aside0.mk (MR.R_lower ho0 (below_size (by repeat (first | (with_reducible first | exact HB.out | apply below_alloc | apply pw_below_drewN | apply below_drew1) | exact HB.out)))); have n1_ := Aside0.mk (below_step (by repeat (first | (with_reducible first | exact HB.out | apply below_alloc | apply pw_below_drewN | apply below_drew1) | exact HB.out)) hb); clear HB; have HO167 := n0_; have HB := n1_; clear n0_ n1_; (try clear hb); (try clear hb2); (try clear hk); (try clear hi); (try clear ho0); obtain ⟨Ao103, co103, eo103⟩ := MR.R_slice HO167.out; subst eo103) | ((with_reducible refine gate_callee (f := 52) rfl ?_); refine goesL_ (some 67) rfl rfl Try.func52 (by kernel_rfl) rfl #[.slice (some ad103) l0.length c0, .slice Ao103 t165.length co103] rfl (by (try simp only [List.map_toArray, List.map_cons, List.map_nil]); first | done | rfl | (simp only [List.length_drop, List.length_take]; rfl)) ?_; (with_reducible refine (hertzutils_CaseInsensitiveCompare.calls k _ _ l0 _ _ t165 t168 _ ?side1 ?side2 ?side3 ?side4 A101.out).mono ?_); (case side1 => repeat (first | exact (Kd.C_below HR0.out HB.out) | (with_reducible refine Kd.C_alloc ?_ _) | (with_reducible refine Kd.C_drewN ?_ _) | (with_reducible refine Kd.C_drew ?_))); (case side2 => exact HC0.out); (case side3 => repeat (first | exact (MR.R_reads' HO167.out).2.2 | (with_reducible refine Kd.C_alloc ?_ _) | (with_reducible refine Kd.C_drewN ?_ _) | (with_reducible refine Kd.C_drew ?_))); (case side4 => exact (MR.R_reads' HO167.out).2.1); rintro e w' ⟨rfl, ⟨nd, rfl⟩⟩; refine ⟨_, rfl, ?_⟩))
              go_ret
              exact ⟨by first | rfl | (simp [errW_none, errW_some] <;> rfl) | (simp [*, errW_none, errW_some] <;> rfl), by repeat (first | (with_reducible first | exact HB.out | apply below_alloc | apply pw_below_drewN | apply below_drew1) | exact HB.out)⟩
            · rw [if_neg c99] at H
              have c99b0 : ((Go.bits .or .u8 (rd l0 0) 32) == 107) = false := beq_eq_false_iff_ne.mpr c99
              have c99b1 : ((Go.bits .or .u8 (rd l0 0) 32) != 107) = true := bne_iff_ne.mpr c99
              by_cases c104 : (Go.bits .or .u8 (rd l0 0) 32) = 109
              · rw [if_pos c104] at H
                have c104b0 : ((Go.bits .or .u8 (rd l0 0) 32) == 109) = true := beq_iff_eq.mpr c104
                have c104b1 : ((Go.bits .or .u8 (rd l0 0) 32) != 109) = false := bne_eq_false_iff_eq.mpr c104
                clear c104
                replace H := Option.bind_eq_some_iff.mp H
                obtain ⟨t169, A1050, H⟩ := H
                replace H : ((hertzutils_CaseInsensitiveCompare.f k l0 t169).bind fun t172 => (some t172)) = some r := H
                have A105 := Aside0.mk A1050
                clear A1050
                replace H := Option.bind_eq_some_iff.mp H
                obtain ⟨t172, A1060, H⟩ := H
                replace H : (some t172) = some r := H
                have A106 := Aside0.mk A1060
                clear A1060
                obtain rfl := Option.some.inj H
                have p103 : 0 ≤ (0 : Int) := (by omega)
                have q103 : 0 < (l0.length : Int) := of_decide_eq_true (by first | (with_reducible assumption) | assumption)
                obtain ⟨ad103, e103, hx103_0⟩ := Kd.at_int HR0.out 0 p103 q103
                cases e103
                have qi103 : (0 < l0.length) = True := eq_true (by omega)
                (try rw [show ((0 : Int)).toNat = 0 from rfl] at hx103_0)
                (try rw [Addr.add_zero'] at hx103_0)
                replace p103 := eq_true p103
                replace q103 := eq_true q103
                go_enter Try.func33, Try.ntmps33
                go_wp2_with (first | ((with_reducible refine gate_callee (f := 62) rfl ?_); refine goesL_ (some 71) rfl rfl Try.func62 (by kernel_rfl) rfl #[] rfl (by (try simp only [List.map_toArray, List.map_cons, List.map_nil]); first | done | rfl | (simp only [List.length_drop, List.length_take]; rfl)) ?_; (with_reducible refine (hertzstr_StrMaxForwards.calls  t169 _ A105.out).mono ?_); rintro e w107 ⟨v170, rfl, ho0, hb⟩; refine ⟨_, rfl, ?_⟩; have n0_ := Aside0.mk (MR.R_lower ho0 (below_size (by repeat (first | (with_reducible first | exact HB.out | apply below_alloc | apply pw_below_drewN | apply below_drew1) | exact HB.out)))); have n1_ := Aside0.mk (below_step (by repeat (first | (with_reducible first | exact HB.out | apply below_alloc | apply pw_below_drewN | apply below_drew1) | exact HB.out)) hb); clear HB; have HO171 := n0_; have HB := n1_; clear n0_ n1_; (try clear hb); (try clear hb2); (try clear hk); (try clear hi); (try clear ho0); obtain ⟨Ao108, co108, eo108⟩ := MR.R_slice HO171.out; subst eo108) | ((with_reducible refine gate_callee (f := 52) rfl ?_); refine goesL_ (some 72) rfl rfl Try.func52 (by kernel_rfl) rfl #[.slice (some ad103) l0.length c0, .slice Ao108 t169.length co108] rfl (by (try simp only [List.map_toArray, List.map_cons, List.map_nil]); first | done | rfl | (simp only [List.length_drop, List.length_take]; rfl)) ?_; (with_reducible refine (hertzutils_CaseInsensitiveCompare.calls k _ _ l0 _ _ t169 t172 _ ?side1 ?side2 ?side3 ?side4 A106.out).mono ?_); (case side1 => repeat (first | exact (Kd.C_below HR0.out HB.out) | (with_reducible refine Kd.C_alloc ?_ _) | (with_reducible refine Kd.C_drewN ?_ _) | (with_reducible refine Kd.C_drew ?_))); (case side2 => exact HC0.out); (case side3 => repeat (first | exact (MR.R_reads' HO171.out).2.2 | (with_reducible refine Kd.C_alloc ?_ _) | (with_reducible refine Kd.C_drewN ?_ _) | (with_reducible refine Kd.C_drew ?_))); (case side4 => exact (MR.R_reads' HO171.out).2.1); rintro e w' ⟨rfl, ⟨nd, rfl⟩⟩; refine ⟨_, rfl, ?_⟩))
                go_ret
                exact ⟨by first | rfl | (simp [errW_none, errW_some] <;> rfl) | (simp [*, errW_none, errW_some] <;> rfl), by repeat (first | (with_reducible first | exact HB.out | apply below_alloc | apply pw_below_drewN | apply below_drew1) | exact HB.out)⟩
              · rw [if_neg c104] at H
                have c104b0 : ((Go.bits .or .u8 (rd l0 0) 32) == 109) = false := beq_eq_false_iff_ne.mpr c104
                have c104b1 : ((Go.bits .or .u8 (rd l0 0) 32) != 109) = true := bne_iff_ne.mpr c104
                by_cases c109 : (Go.bits .or .u8 (rd l0 0) 32) = 112
                · exact hertzproto_IsBadTrailer.calls_1 k A0 c0 l0 r w HR0.out HC0.out c109 H00_.out
                · rw [if_neg c109] at H
                  have c109b0 : ((Go.bits .or .u8 (rd l0 0) 32) == 112) = false := beq_eq_false_iff_ne.mpr c109
                  have c109b1 : ((Go.bits .or .u8 (rd l0 0) 32) != 112) = true := bne_iff_ne.mpr c109
                  by_cases c164 : (Go.bits .or .u8 (rd l0 0) 32) = 114
                  · rw [if_pos c164] at H
                    have c164b0 : ((Go.bits .or .u8 (rd l0 0) 32) == 114) = true := beq_iff_eq.mpr c164
                    have c164b1 : ((Go.bits .or .u8 (rd l0 0) 32) != 114) = false := bne_eq_false_iff_eq.mpr c164
                    clear c164
                    replace H := Option.bind_eq_some_iff.mp H
                    obtain ⟨t209, A1650, H⟩ := H
                    replace H : ((hertzutils_CaseInsensitiveCompare.f k l0 t209).bind fun t212 => (some t212)) = some r := H
                    have A165 := Aside0.mk A1650
                    clear A1650
                    replace H := Option.bind_eq_some_iff.mp H
                    obtain ⟨t212, A1660, H⟩ := H
                    replace H : (some t212) = some r := H
                    have A166 := Aside0.mk A1660
                    clear A1660
                    obtain rfl := Option.some.inj H
                    have p103 : 0 ≤ (0 : Int) := (by omega)
                    have q103 : 0 < (l0.length : Int) := of_decide_eq_true (by first | (with_reducible assumption) | assumption)
                    obtain ⟨ad103, e103, hx103_0⟩ := Kd.at_int HR0.out 0 p103 q103
                    cases e103
                    have qi103 : (0 < l0.length) = True := eq_true (by omega)
                    (try rw [show ((0 : Int)).toNat = 0 from rfl] at hx103_0)
                    (try rw [Addr.add_zero'] at hx103_0)
                    replace p103 := eq_true p103
                    replace q103 := eq_true q103
                    go_enter Try.func33, Try.ntmps33
                    go_wp2_with (first | ((with_reducible refine gate_callee (f := 66) rfl ?_); refine goesL_ (some 107) rfl rfl Try.func66 (by kernel_rfl) rfl #[] rfl (by (try simp only [List.map_toArray, List.map_cons, List.map_nil]); first | done | rfl | (simp only [List.length_drop, List.length_take]; rfl)) ?_; (with_reducible refine (hertzstr_StrRange.calls  t209 _ A165.out).mono ?_); rintro e w167 ⟨v210, rfl, ho0, hb⟩; refine ⟨_, rfl, ?_⟩; have n0_ := Aside0.mk (MR.R_lower ho0 (below_size (by repeat (first | (with_reducible first | exact HB.out | apply below_alloc | apply pw_below_drewN | apply below_drew1) | exact HB.out)))); have n1_ := Aside0.mk (below_step (by repeat (first | (with_reducible first | exact HB.out | apply below_alloc | apply pw_below_drewN | apply below_drew1) | exact HB.out)) hb); clear HB; have HO211 := n0_; have HB := n1_; clear n0_ n1_; (try clear hb); (try clear hb2); (try clear hk); (try clear hi); (try clear ho0); obtain ⟨Ao168, co168, eo168⟩ := MR.R_slice HO211.out; subst eo168) | ((with_reducible refine gate_callee (f := 52) rfl ?_); refine goesL_ (some 108) rfl rfl Try.func52 (by kernel_rfl) rfl #[.slice (some ad103) l0.length c0, .slice Ao168 t209.length co168] rfl (by (try simp only [List.map_toArray, List.map_cons, List.map_nil]); first | done | rfl | (simp only [List.length_drop, List.length_take]; rfl)) ?_; (with_reducible refine (hertzutils_CaseInsensitiveCompare.calls k _ _ l0 _ _ t209 t212 _ ?side1 ?side2 ?side3 ?side4 A166.out).mono ?_); (case side1 => repeat (first | exact (Kd.C_below HR0.out HB.out) | (with_reducible refine Kd.C_alloc ?_ _) | (with_reducible refine Kd.C_drewN ?_ _) | (with_reducible refine Kd.C_drew ?_))); (case side2 => exact HC0.out); (case side3 => repeat (first | exact (MR.R_reads' HO211.out).2.2 | (with_reducible refine Kd.C_alloc ?_ _) | (with_reducible refine Kd.C_drewN ?_ _) | (with_reducible refine Kd.C_drew ?_))); (case side4 => exact (MR.R_reads' HO211.out).2.1); rintro e w' ⟨rfl, ⟨nd, rfl⟩⟩; refine ⟨_, rfl, ?_⟩))
                    go_ret
                    exact ⟨by first | rfl | (simp [errW_none, errW_some] <;> rfl) | (simp [*, errW_none, errW_some] <;> rfl), by repeat (first | (with_reducible first | exact HB.out | apply below_alloc | apply pw_below_drewN | apply below_drew1) | exact HB.out)⟩
                  · rw [if_neg c164] at H
                    have c164b0 : ((Go.bits .or .u8 (rd l0 0) 32) == 114) = false := beq_eq_false_iff_ne.mpr c164
                    have c164b1 : ((Go.bits .or .u8 (rd l0 0) 32) != 114) = true := bne_iff_ne.mpr c164
                    by_cases c169 : (Go.bits .or .u8 (rd l0 0) 32) = 116
                    · rw [if_pos c169] at H
                      have c169b0 : ((Go.bits .or .u8 (rd l0 0) 32) == 116) = true := beq_iff_eq.mpr c169
                      have c169b1 : ((Go.bits .or .u8 (rd l0 0) 32) != 116) = false := bne_eq_false_iff_eq.mpr c169
                      clear c169
                      replace H := Option.bind_eq_some_iff.mp H
                      obtain ⟨t213, A1700, H⟩ := H
                      replace H : ((hertzutils_CaseInsensitiveCompare.f k l0 t213).bind fun t216 => (if t216 = true then (some true) else ((hertzstr_StrTrailer.f).bind fun t217 => ((hertzutils_CaseInsensitiveCompare.f k l0 t217).bind fun t220 => (if t220 = true then (some true) else ((hertzstr_StrTransferEncoding.f).bind fun t221 => ((hertzutils_CaseInsensitiveCompare.f k l0 t221).bind fun t224 => (some t224)))))))) = some r := H
                      have A170 := Aside0.mk A1700
                      clear A1700
                      replace H := Option.bind_eq_some_iff.mp H
                      obtain ⟨t216, A1710, H⟩ := H
                      replace H : (if t216 = true then (some true) else ((hertzstr_StrTrailer.f).bind fun t217 => ((hertzutils_CaseInsensitiveCompare.f k l0 t217).bind fun t220 => (if t220 = true then (some true) else ((hertzstr_StrTransferEncoding.f).bind fun t221 => ((hertzutils_CaseInsensitiveCompare.f k l0 t221).bind fun t224 => (some t224))))))) = some r := H
                      have A171 := Aside0.mk A1710
                      clear A1710
                      by_cases c172 : t216 = true
                      · subst c172
                        have H1 : (some true) = some r := by rw [if_pos rfl] at H; exact H
                        clear H
                        have H := H1
                        clear H1
                        obtain rfl := Option.some.inj H
                        have p103 : 0 ≤ (0 : Int) := (by omega)
                        have q103 : 0 < (l0.length : Int) := of_decide_eq_true (by first | (with_reducible assumption) | assumption)
                        obtain ⟨ad103, e103, hx103_0⟩ := Kd.at_int HR0.out 0 p103 q103
                        cases e103
                        have qi103 : (0 < l0.length) = True := eq_true (by omega)
                        (try rw [show ((0 : Int)).toNat = 0 from rfl] at hx103_0)
                        (try rw [Addr.add_zero'] at hx103_0)
                        replace p103 := eq_true p103
                        replace q103 := eq_true q103
                        go_enter Try.func33, Try.ntmps33
                        go_wp2_with (first | ((with_reducible refine gate_callee (f := 67) rfl ?_); refine goesL_ (some 112) rfl rfl Try.func67 (by kernel_rfl) rfl #[] rfl (by (try simp only [List.map_toArray, List.map_cons, List.map_nil]); first | done | rfl | (simp only [List.length_drop, List.length_take]; rfl)) ?_; (with_reducible refine (hertzstr_StrTE.calls  t213 _ A170.out).mono ?_); rintro e w173 ⟨v214, rfl, ho0, hb⟩; refine ⟨_, rfl, ?_⟩; have n0_ := Aside0.mk (MR.R_lower ho0 (below_size (by repeat (first | (with_reducible first | exact HB.out | apply below_alloc | apply pw_below_drewN | apply below_drew1) | exact HB.out)))); have n1_ := Aside0.mk (below_step (by repeat (first | (with_reducible first | exact HB.out | apply below_alloc | apply pw_below_drewN | apply below_drew1) | exact HB.out)) hb); clear HB; have HO215 := n0_; have HB := n1_; clear n0_ n1_; (try clear hb); (try clear hb2); (try clear hk); (try clear hi); (try clear ho0); obtain ⟨Ao174, co174, eo174⟩ := MR.R_slice HO215.out; subst eo174) | ((with_reducible refine gate_callee (f := 52) rfl ?_); refine goesL_ (some 113) rfl rfl Try.func52 (by kernel_rfl) rfl #[.slice (some ad103) l0.length c0, .slice Ao174 t213.length co174] rfl (by (try simp only [List.map_toArray, List.map_cons, List.map_nil]); first | done | rfl | (simp only [List.length_drop, List.length_take]; rfl)) ?_; (with_reducible refine (hertzutils_CaseInsensitiveCompare.calls k _ _ l0 _ _ t213 true _ ?side1 ?side2 ?side3 ?side4 A171.out).mono ?_); (case side1 => repeat (first | exact (Kd.C_below HR0.out HB.out) | (with_reducible refine Kd.C_alloc ?_ _) | (with_reducible refine Kd.C_drewN ?_ _) | (with_reducible refine Kd.C_drew ?_))); (case side2 => exact HC0.out); (case side3 => repeat (first | exact (MR.R_reads' HO215.out).2.2 | (with_reducible refine Kd.C_alloc ?_ _) | (with_reducible refine Kd.C_drewN ?_ _) | (with_reducible refine Kd.C_drew ?_))); (case side4 => exact (MR.R_reads' HO215.out).2.1); rintro e w' ⟨rfl, ⟨nd, rfl⟩⟩; refine ⟨_, rfl, ?_⟩))
                        go_ret
                        exact ⟨by first | rfl | (simp [errW_none, errW_some] <;> rfl) | (simp [*, errW_none, errW_some] <;> rfl), by repeat (first | (with_reducible first | exact HB.out | apply below_alloc | apply pw_below_drewN | apply below_drew1) | exact HB.out)⟩
                      · replace c172 := Bool.eq_false_iff.mpr c172
                        subst c172
                        have H1 : ((hertzstr_StrTrailer.f).bind fun t217 => ((hertzutils_CaseInsensitiveCompare.f k l0 t217).bind fun t220 => (if t220 = true then (some true) else ((hertzstr_StrTransferEncoding.f).bind fun t221 => ((hertzutils_CaseInsensitiveCompare.f k l0 t221).bind fun t224 => (some t224)))))) = some r := by rw [if_neg (show ¬ (false = true) by decide)] at H; exact H
                        clear H
                        have H := H1
                        clear H1
                        replace H := Option.bind_eq_some_iff.mp H
                        obtain ⟨t217, A1750, H⟩ := H
                        replace H : ((hertzutils_CaseInsensitiveCompare.f k l0 t217).bind fun t220 => (if t220 = true then (some true) else ((hertzstr_StrTransferEncoding.f).bind fun t221 => ((hertzutils_CaseInsensitiveCompare.f k l0 t221).bind fun t224 => (some t224))))) = some r := H
                        have A175 := Aside0.mk A1750
                        clear A1750
                        replace H := Option.bind_eq_some_iff.mp H
                        obtain ⟨t220, A1760, H⟩ := H
                        replace H : (if t220 = true then (some true) else ((hertzstr_StrTransferEncoding.f).bind fun t221 => ((hertzutils_CaseInsensitiveCompare.f k l0 t221).bind fun t224 => (some t224)))) = some r := H
                        have A176 := Aside0.mk A1760
                        clear A1760
                        by_cases c177 : t220 = true
                        · subst c177
                          have H1 : (some true) = some r := by rw [if_pos rfl] at H; exact H
                          clear H
                          have H := H1
                          clear H1
                          obtain rfl := Option.some.inj H
                          have p103 : 0 ≤ (0 : Int) := (by omega)
                          have q103 : 0 < (l0.length : Int) := of_decide_eq_true (by first | (with_reducible assumption) | assumption)
                          obtain ⟨ad103, e103, hx103_0⟩ := Kd.at_int HR0.out 0 p103 q103
                          cases e103
                          have qi103 : (0 < l0.length) = True := eq_true (by omega)
                          (try rw [show ((0 : Int)).toNat = 0 from rfl] at hx103_0)
                          (try rw [Addr.add_zero'] at hx103_0)
                          replace p103 := eq_true p103
                          replace q103 := eq_true q103
                          go_enter Try.func33, Try.ntmps33
                          go_wp2_with (first | ((with_reducible refine gate_callee (f := 67) rfl ?_); refine goesL_ (some 112) rfl rfl Try.func67 (by kernel_rfl) rfl #[] rfl (by (try simp only [List.map_toArray, List.map_cons, List.map_nil]); first | done | rfl | (simp only [List.length_drop, List.length_take]; rfl)) ?_; (with_reducible refine (hertzstr_StrTE.calls  t213 _ A170.out).mono ?_); rintro e w178 ⟨v214, rfl, ho0, hb⟩; refine ⟨_, rfl, ?_⟩; have n0_ := Aside0.mk (MR.R_lower ho0 (below_size (by repeat (first | (with_reducible first | exact HB.out | apply below_alloc | apply pw_below_drewN | apply below_drew1) | exact HB.out)))); have n1_ := Aside0.mk (below_step (by repeat (first | (with_reducible first | exact HB.out | apply below_alloc | apply pw_below_drewN | apply below_drew1) | exact HB.out)) hb); clear HB; have HO215 := n0_; have HB := n1_; clear n0_ n1_; (try clear hb); (try clear hb2); (try clear hk); (try clear hi); (try clear ho0); obtain ⟨Ao179, co179, eo179⟩ := MR.R_slice HO215.out; subst eo179) | ((with_reducible refine gate_callee (f := 52) rfl ?_); refine goesL_ (some 113) rfl rfl Try.func52 (by kernel_rfl) rfl #[.slice (some ad103) l0.length c0, .slice Ao179 t213.length co179] rfl (by (try simp only [List.map_toArray, List.map_cons, List.map_nil]); first | done | rfl | (simp only [List.length_drop, List.length_take]; rfl)) ?_; (with_reducible refine (hertzutils_CaseInsensitiveCompare.calls k _ _ l0 _ _ t213 false _ ?side1 ?side2 ?side3 ?side4 A171.out).mono ?_); (case side1 => repeat (first | exact (Kd.C_below HR0.out HB.out) | (with_reducible refine Kd.C_alloc ?_ _) | (with_reducible refine Kd.C_drewN ?_ _) | (with_reducible refine Kd.C_drew ?_))); (case side2 => exact HC0.out); (case side3 => repeat (first | exact (MR.R_reads' HO215.out).2.2 | (with_reducible refine Kd.C_alloc ?_ _) | (with_reducible refine Kd.C_drewN ?_ _) | (with_reducible refine Kd.C_drew ?_))); (case side4 => exact (MR.R_reads' HO215.out).2.1); rintro e w' ⟨rfl, ⟨nd, rfl⟩⟩; refine ⟨_, rfl, ?_⟩) | (go_at_call 68; (with_reducible refine (hertzstr_StrTrailer.calls  t217 _ A175.out).mono ?_); rintro e w180 ⟨v218, rfl, ho0, hb⟩; have n0_ := Aside0.mk (MR.R_elder' (by (with_reducible repeat (first | apply MR.R_alloc | apply MR.R_drewN | apply MR.R_drew)); exact HO215.out) (MR.R_base ho0) hb); have n1_ := Aside0.mk (MR.R_lower (MR.R_new' ho0 (MR.R_lt (by (with_reducible repeat (first | apply MR.R_alloc | apply MR.R_drewN | apply MR.R_drew)); exact HO215.out))) (below_size (by repeat (first | (with_reducible first | exact HB.out | apply below_alloc | apply pw_below_drewN | apply below_drew1) | exact HB.out)))); have n2_ := Aside0.mk (below_step (by repeat (first | (with_reducible first | exact HB.out | apply below_alloc | apply pw_below_drewN | apply below_drew1) | exact HB.out)) hb); clear HO215; clear HB; have HO215 := n0_; have HO219 := n1_; have HB := n2_; clear n0_ n1_ n2_; (try clear hb); (try clear hb2); (try clear hk); (try clear hi); (try clear ho0); obtain ⟨Ao181, co181, eo181⟩ := MR.R_slice HO219.out; subst eo181) | (go_at_call 52; (with_reducible refine (hertzutils_CaseInsensitiveCompare.calls k _ _ l0 _ _ t217 true _ ?side1 ?side2 ?side3 ?side4 A176.out).mono ?_); (case side1 => repeat (first | exact (Kd.C_below HR0.out HB.out) | (with_reducible refine Kd.C_alloc ?_ _) | (with_reducible refine Kd.C_drewN ?_ _) | (with_reducible refine Kd.C_drew ?_))); (case side2 => exact HC0.out); (case side3 => repeat (first | exact (MR.R_reads' HO219.out).2.2 | (with_reducible refine Kd.C_alloc ?_ _) | (with_reducible refine Kd.C_drewN ?_ _) | (with_reducible refine Kd.C_drew ?_))); (case side4 => exact (MR.R_reads' HO219.out).2.1); rintro e w' ⟨rfl, ⟨nd, rfl⟩⟩))
                          go_ret
                          exact ⟨by first | rfl | (simp [errW_none, errW_some] <;> rfl) | (simp [*, errW_none, errW_some] <;> rfl), by repeat (first | (with_reducible first | exact HB.out | apply below_alloc | apply pw_below_drewN | apply below_drew1) | exact HB.out)⟩
                        · replace c177 := Bool.eq_false_iff.mpr c177
                          subst c177
                          have H1 : ((hertzstr_StrTransferEncoding.f).bind fun t221 => ((hertzutils_CaseInsensitiveCompare.f k l0 t221).bind fun t224 => (some t224))) = some r := by rw [if_neg (show ¬ (false = true) by decide)] at H; exact H
                          clear H
                          have H := H1
                          clear H1
                          replace H := Option.bind_eq_some_iff.mp H
                          obtain ⟨t221, A1820, H⟩ := H
                          replace H : ((hertzutils_CaseInsensitiveCompare.f k l0 t221).bind fun t224 => (some t224)) = some r := H
                          have A182 := Aside0.mk A1820
                          clear A1820
                          replace H := Option.bind_eq_some_iff.mp H
                          obtain ⟨t224, A1830, H⟩ := H
                          replace H : (some t224) = some r := H
                          have A183 := Aside0.mk A1830
                          clear A1830
                          obtain rfl := Option.some.inj H
                          have p103 : 0 ≤ (0 : Int) := (by omega)
                          have q103 : 0 < (l0.length : Int) := of_decide_eq_true (by first | (with_reducible assumption) | assumption)
                          obtain ⟨ad103, e103, hx103_0⟩ := Kd.at_int HR0.out 0 p103 q103
                          cases e103
                          have qi103 : (0 < l0.length) = True := eq_true (by omega)
                          (try rw [show ((0 : Int)).toNat = 0 from rfl] at hx103_0)
                          (try rw [Addr.add_zero'] at hx103_0)
                          replace p103 := eq_true p103
                          replace q103 := eq_true q103
                          go_enter Try.func33, Try.ntmps33
                          go_wp2_with (first | ((with_reducible refine gate_callee (f := 67) rfl ?_); refine goesL_ (some 112) rfl rfl Try.func67 (by kernel_rfl) rfl #[] rfl (by (try simp only [List.map_toArray, List.map_cons, List.map_nil]); first | done | rfl | (simp only [List.length_drop, List.length_take]; rfl)) ?_; (with_reducible refine (hertzstr_StrTE.calls  t213 _ A170.out).mono ?_); rintro e w184 ⟨v214, rfl, ho0, hb⟩; refine ⟨_, rfl, ?_⟩; have n0_ := Aside0.mk (MR.R_lower ho0 (below_size (by repeat (first | (with_reducible first | exact HB.out | apply below_alloc | apply pw_below_drewN | apply below_drew1) | exact HB.out)))); have n1_ := Aside0.mk (below_step (by repeat (first | (with_reducible first | exact HB.out | apply below_alloc | apply pw_below_drewN | apply below_drew1) | exact HB.out)) hb); clear HB; have HO215 := n0_; have HB := n1_; clear n0_ n1_; (try clear hb); (try clear hb2); (try clear hk); (try clear hi); (try clear ho0); obtain ⟨Ao185, co185, eo185⟩ := MR.R_slice HO215.out; subst eo185) | ((with_reducible refine gate_callee (f := 52) rfl ?_); refine goesL_ (some 113) rfl rfl Try.func52 (by kernel_rfl) rfl #[.slice (some ad103) l0.length c0, .slice Ao185 t213.length co185] rfl (by (try simp only [List.map_toArray, List.map_cons, List.map_nil]); first | done | rfl | (simp only [List.length_drop, List.length_take]; rfl)) ?_; (with_reducible refine (hertzutils_CaseInsensitiveCompare.calls k _ _ l0 _ _ t213 false _ ?side1 ?side2 ?side3 ?side4 A171.out).mono ?_); (case side1 => repeat (first | exact (Kd.C_below HR0.out HB.out) | (with_reducible refine Kd.C_alloc ?_ _) | (with_reducible refine Kd.C_drewN ?_ _) | (with_reducible refine Kd.C_drew ?_))); (case side2 => exact HC0.out); (case side3 => repeat (first | exact (MR.R_reads' HO215.out).2.2 | (with_reducible refine Kd.C_alloc ?_ _) | (with_reducible refine Kd.C_drewN ?_ _) | (with_reducible refine Kd.C_drew ?_))); (case side4 => exact (MR.R_reads' HO215.out).2.1); rintro e w' ⟨rfl, ⟨nd, rfl⟩⟩; refine ⟨_, rfl, ?_⟩) | (go_at_call 68; (with_reducible refine (hertzstr_StrTrailer.calls  t217 _ A175.out).mono ?_); rintro e w186 ⟨v218, rfl, ho0, hb⟩; have n0_ := Aside0.mk (MR.R_elder' (by (with_reducible repeat (first | apply MR.R_alloc | apply MR.R_drewN | apply MR.R_drew)); exact HO215.out) (MR.R_base ho0) hb); have n1_ := Aside0.mk (MR.R_lower (MR.R_new' ho0 (MR.R_lt (by (with_reducible repeat (first | apply MR.R_alloc | apply MR.R_drewN | apply MR.R_drew)); exact HO215.out))) (below_size (by repeat (first | (with_reducible first | exact HB.out | apply below_alloc | apply pw_below_drewN | apply below_drew1) | exact HB.out)))); have n2_ := Aside0.mk (below_step (by repeat (first | (with_reducible first | exact HB.out | apply below_alloc | apply pw_below_drewN | apply below_drew1) | exact HB.out)) hb); clear HO215; clear HB; have HO215 := n0_; have HO219 := n1_; have HB := n2_; clear n0_ n1_ n2_; (try clear hb); (try clear hb2); (try clear hk); (try clear hi); (try clear ho0); obtain ⟨Ao187, co187, eo187⟩ := MR.R_slice HO219.out; subst eo187) | (go_at_call 52; (with_reducible refine (hertzutils_CaseInsensitiveCompare.calls k _ _ l0 _ _ t217 false _ ?side1 ?side2 ?side3 ?side4 A176.out).mono ?_); (case side1 => repeat (first | exact (Kd.C_below HR0.out HB.out) | (with_reducible refine Kd.C_alloc ?_ _) | (with_reducible refine Kd.C_drewN ?_ _) | (with_reducible refine Kd.C_drew ?_))); (case side2 => exact HC0.out); (case side3 => repeat (first | exact (MR.R_reads' HO219.out).2.2 | (with_reducible refine Kd.C_alloc ?_ _) | (with_reducible refine Kd.C_drewN ?_ _) | (with_reducible refine Kd.C_drew ?_))); (case side4 => exact (MR.R_reads' HO219.out).2.1); rintro e w' ⟨rfl, ⟨nd, rfl⟩⟩) | (go_at_call 69; (with_reducible refine (hertzstr_StrTransferEncoding.calls  t221 _ A182.out).mono ?_); rintro e w188 ⟨v222, rfl, ho0, hb⟩; have n0_ := Aside0.mk (MR.R_elder' (by (with_reducible repeat (first | apply MR.R_alloc | apply MR.R_drewN | apply MR.R_drew)); exact HO215.out) (MR.R_base ho0) hb); have n1_ := Aside0.mk (MR.R_elder' (by (with_reducible repeat (first | apply MR.R_alloc | apply MR.R_drewN | apply MR.R_drew)); exact HO219.out) (MR.R_base ho0) hb); have n2_ := Aside0.mk (MR.R_lower (MR.R_new' (MR.R_new' ho0 (MR.R_lt (by (with_reducible repeat (first | apply MR.R_alloc | apply MR.R_drewN | apply MR.R_drew)); exact HO215.out))) (MR.R_lt (by (with_reducible repeat (first | apply MR.R_alloc | apply MR.R_drewN | apply MR.R_drew)); exact HO219.out))) (below_size (by repeat (first | (with_reducible first | exact HB.out | apply below_alloc | apply pw_below_drewN | apply below_drew1) | exact HB.out)))); have n3_ := Aside0.mk (below_step (by repeat (first | (with_reducible first | exact HB.out | apply below_alloc | apply pw_below_drewN | apply below_drew1) | exact HB.out)) hb); clear HO215; clear HO219; clear HB; have HO215 := n0_; have HO219 := n1_; have HO223 := n2_; have HB := n3_; clear n0_ n1_ n2_ n3_; (try clear hb); (try clear hb2); (try clear hk); (try clear hi); (try clear ho0); obtain ⟨Ao189, co189, eo189⟩ := MR.R_slice HO223.out; subst eo189) | (go_at_call 52; (with_reducible refine (hertzutils_CaseInsensitiveCompare.calls k _ _ l0 _ _ t221 t224 _ ?side1 ?side2 ?side3 ?side4 A183.out).mono ?_); (case side1 => repeat (first | exact (Kd.C_below HR0.out HB.out) | (with_reducible refine Kd.C_alloc ?_ _) | (with_reducible refine Kd.C_drewN ?_ _) | (with_reducible refine Kd.C_drew ?_))); (case side2 => exact HC0.out); (case side3 => repeat (first | exact (MR.R_reads' HO223.out).2.2 | (with_reducible refine Kd.C_alloc ?_ _) | (with_reducible refine Kd.C_drewN ?_ _) | (with_reducible refine Kd.C_drew ?_))); (case side4 => exact (MR.R_reads' HO223.out).2.1); rintro e w' ⟨rfl, ⟨nd, rfl⟩⟩))
                          go_ret
                          exact ⟨by first | rfl | (simp [errW_none, errW_some] <;> rfl) | (simp [*, errW_none, errW_some] <;> rfl), by repeat (first | (with_reducible first | exact HB.out | apply below_alloc | apply pw_below_drewN | apply below_drew1) | exact HB.out)⟩
                    · rw [if_neg c169] at H
                      have c169b0 : ((Go.bits .or .u8 (rd l0 0) 32) == 116) = false := beq_eq_false_iff_ne.mpr c169
                      have c169b1 : ((Go.bits .or .u8 (rd l0 0) 32) != 116) = true := bne_iff_ne.mpr c169
                      by_cases c190 : (Go.bits .or .u8 (rd l0 0) 32) = 119
                      · rw [if_pos c190] at H
                        have c190b0 : ((Go.bits .or .u8 (rd l0 0) 32) == 119) = true := beq_iff_eq.mpr c190
                        have c190b1 : ((Go.bits .or .u8 (rd l0 0) 32) != 119) = false := bne_eq_false_iff_eq.mpr c190
                        clear c190
                        replace H := Option.bind_eq_some_iff.mp H
                        obtain ⟨t225, A1910, H⟩ := H
                        replace H : ((hertzutils_CaseInsensitiveCompare.f k l0 t225).bind fun t228 => (some t228)) = some r := H
                        have A191 := Aside0.mk A1910
                        clear A1910
                        replace H := Option.bind_eq_some_iff.mp H
                        obtain ⟨t228, A1920, H⟩ := H
                        replace H : (some t228) = some r := H
                        have A192 := Aside0.mk A1920
                        clear A1920
                        obtain rfl := Option.some.inj H
                        have p103 : 0 ≤ (0 : Int) := (by omega)
                        have q103 : 0 < (l0.length : Int) := of_decide_eq_true (by first | (with_reducible assumption) | assumption)
                        obtain ⟨ad103, e103, hx103_0⟩ := Kd.at_int HR0.out 0 p103 q103
                        cases e103
                        have qi103 : (0 < l0.length) = True := eq_true (by omega)
                        (try rw [show ((0 : Int)).toNat = 0 from rfl] at hx103_0)
                        (try rw [Addr.add_zero'] at hx103_0)
                        replace p103 := eq_true p103
                        replace q103 := eq_true q103
                        go_enter Try.func33, Try.ntmps33
                        go_wp2_with (first | ((with_reducible refine gate_callee (f := 70) rfl ?_); refine goesL_ (some 127) rfl rfl Try.func70 (by kernel_rfl) rfl #[] rfl (by (try simp only [List.map_toArray, List.map_cons, List.map_nil]); first | done | rfl | (simp only [List.length_drop, List.length_take]; rfl)) ?_; (with_reducible refine (hertzstr_StrWWWAuthenticate.calls  t225 _ A191.out).mono ?_); rintro e w193 ⟨v226, rfl, ho0, hb⟩; refine ⟨_, rfl, ?_⟩; have n0_ := Aside0.mk (MR.R_lower ho0 (below_size (by repeat (first | (with_reducible first | exact HB.out | apply below_alloc | apply pw_below_drewN | apply below_drew1) | exact HB.out)))); have n1_ := Aside0.mk (below_step (by repeat (first | (with_reducible first | exact HB.out | apply below_alloc | apply pw_below_drewN | apply below_drew1) | exact HB.out)) hb); clear HB; have HO227 := n0_; have HB := n1_; clear n0_ n1_; (try clear hb); (try clear hb2); (try clear hk); (try clear hi); (try clear ho0); obtain ⟨Ao194, co194, eo194⟩ := MR.R_slice HO227.out; subst eo194) | ((with_reducible refine gate_callee (f := 52) rfl ?_); refine goesL_ (some 128) rfl rfl Try.func52 (by kernel_rfl) rfl #[.slice (some ad103) l0.length c0, .slice Ao194 t225.length co194] rfl (by (try simp only [List.map_toArray, List.map_cons, List.map_nil]); first | done | rfl | (simp only [List.length_drop, List.length_take]; rfl)) ?_; (with_reducible refine (hertzutils_CaseInsensitiveCompare.calls k _ _ l0 _ _ t225 t228 _ ?side1 ?side2 ?side3 ?side4 A192.out).mono ?_); (case side1 => repeat (first | exact (Kd.C_below HR0.out HB.out) | (with_reducible refine Kd.C_alloc ?_ _) | (with_reducible refine Kd.C_drewN ?_ _) | (with_reducible refine Kd.C_drew ?_))); (case side2 => exact HC0.out); (case side3 => repeat (first | exact (MR.R_reads' HO227.out).2.2 | (with_reducible refine Kd.C_alloc ?_ _) | (with_reducible refine Kd.C_drewN ?_ _) | (with_reducible refine Kd.C_drew ?_))); (case side4 => exact (MR.R_reads' HO227.out).2.1); rintro e w' ⟨rfl, ⟨nd, rfl⟩⟩; refine ⟨_, rfl, ?_⟩))
                        go_ret
                        exact ⟨by first | rfl | (simp [errW_none, errW_some] <;> rfl) | (simp [*, errW_none, errW_some] <;> rfl), by repeat (first | (with_reducible first | exact HB.out | apply below_alloc | apply pw_below_drewN | apply below_drew1) | exact HB.out)⟩
                      · rw [if_neg c190] at H
                        have c190b0 : ((Go.bits .or .u8 (rd l0 0) 32) == 119) = false := beq_eq_false_iff_ne.mpr c190
                        have c190b1 : ((Go.bits .or .u8 (rd l0 0) 32) != 119) = true := bne_iff_ne.mpr c190
                        obtain rfl := Option.some.inj H
                        have p103 : 0 ≤ (0 : Int) := (by omega)
                        have q103 : 0 < (l0.length : Int) := of_decide_eq_true (by first | (with_reducible assumption) | assumption)
                        obtain ⟨ad103, e103, hx103_0⟩ := Kd.at_int HR0.out 0 p103 q103
                        cases e103
                        have qi103 : (0 < l0.length) = True := eq_true (by omega)
                        (try rw [show ((0 : Int)).toNat = 0 from rfl] at hx103_0)
                        (try rw [Addr.add_zero'] at hx103_0)
                        replace p103 := eq_true p103
                        replace q103 := eq_true q103
                        go_enter Try.func33, Try.ntmps33
                        go_wp2
                        go_ret
                        exact ⟨by first | rfl | (simp [errW_none, errW_some] <;> rfl) | (simp [*, errW_none, errW_some] <;> rfl), by repeat (first | (with_reducible first | exact HB.out | apply below_alloc | apply pw_below_drewN | apply below_drew1) | exact HB.out)⟩
  · rw [if_neg c2] at H
    exact absurd H (by simp)

end Go.Proofs.Ytjnnadpecendpaa.QA
