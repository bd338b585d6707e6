/- Texts of this claim, one behind the other (merged by wip/prune.py of this repo, without what the proof does not use): QA6, TMeth1, TAddN, HLine. -/
import Derived.Test.YtoimkmoalmmooaaZY4
import Derived.Test.YtoimkmoalmmooaaZY5
import Derived.Test.YtoimkmoalmmooaaZY9
import Derived.Test.YtoimkmoalmmooaaZY10
import Derived.Test.YtoimkmoalmmooaaZY13
import Derived.Test.YtoimkmoalmmooaaZY14
set_option linter.unusedVariables false
set_option linter.unusedSimpArgs false
namespace Go.Proofs.Ytoimkmoalmmooaa.QA
open Go.Proofs.Ytoimkmoalmmooaa.Given
open Go.Proofs.Ytoimkmoalmmooaa.PrX
open Go.RowKit Go.Proofs.YtoimkmoalmmooaaW.PrintWords Go.Proofs.YtoimkmoalmmooaaW.PrintLast Go.Proofs.YtoimkmoalmmooaaW.PrintMore
set_option maxHeartbeats 8000000 in
set_option maxRecDepth 100000 in
theorem hertzproto_IsBadTrailer.calls (k : Nat) (A0 : Option Addr) (c0 : Nat) (l0 : List Int) (r : Bool) (w : World) (hr0 : Kd.C (Kd.int .u8) w A0 l0.length l0) (hc0 : l0.length ≤ c0) (h : hertzproto_IsBadTrailer.f k l0 = some r) :
  Calls Try.prog 68 #[.slice A0 l0.length c0] w fun e w' => e = .returned (.bool r) ∧ Below w.heap.size w w' := by
 have H00_ := Aside0.mk h
 have HR0 := Aside0.mk hr0
 have HC0 := Aside0.mk hc0
 clear hr0 hc0
 have HB := Aside0.mk (Below.refl w.heap.size w)
 have H : (if 0 < (l0.length : Int) then (if (Go.bits .or .u8 (rd l0 0) 32) = 97 then ((hertzstr_StrAuthorization.f).bind fun t104 => ((hertzutils_CaseInsensitiveCompare.f k l0 t104).bind fun t107 => (some t107))) else (if (Go.bits .or .u8 (rd l0 0) 32) = 99 then (if (l0.length : Int) ≥ 12 then (if 8 ≤ (l0.length : Int) then ((hertzstr_StrContentType.f).bind fun t109 => (if 8 ≤ (t109.length : Int) then ((hertzutils_CaseInsensitiveCompare.f k (l0.take 8) (t109.take 8)).bind fun t116 => (hertzproto_IsBadTrailer.j0 k l0 t116)) else (none))) else (none)) else (hertzproto_IsBadTrailer.j0 k l0 false)) else (if (Go.bits .or .u8 (rd l0 0) 32) = 101 then ((hertzstr_StrExpect.f).bind fun t157 => ((hertzutils_CaseInsensitiveCompare.f k l0 t157).bind fun t160 => (some t160))) else (if (Go.bits .or .u8 (rd l0 0) 32) = 104 then ((hertzstr_StrHost.f).bind fun t161 => ((hertzutils_CaseInsensitiveCompare.f k l0 t161).bind fun t164 => (some t164))) else (if (Go.bits .or .u8 (rd l0 0) 32) = 107 then ((hertzstr_StrKeepAlive.f).bind fun t165 => ((hertzutils_CaseInsensitiveCompare.f k l0 t165).bind fun t168 => (some t168))) else (if (Go.bits .or .u8 (rd l0 0) 32) = 109 then ((hertzstr_StrMaxForwards.f).bind fun t169 => ((hertzutils_CaseInsensitiveCompare.f k l0 t169).bind fun t172 => (some t172))) else (if (Go.bits .or .u8 (rd l0 0) 32) = 112 then (if (l0.length : Int) ≥ 16 then (if 6 ≤ (l0.length : Int) then ((hertzstr_StrProxyConnection.f).bind fun t174 => (if 6 ≤ (t174.length : Int) then ((hertzutils_CaseInsensitiveCompare.f k (l0.take 6) (t174.take 6)).bind fun t181 => (hertzproto_IsBadTrailer.j1 k l0 t181)) else (none))) else (none)) else (hertzproto_IsBadTrailer.j1 k l0 false)) else (if (Go.bits .or .u8 (rd l0 0) 32) = 114 then ((hertzstr_StrRange.f).bind fun t209 => ((hertzutils_CaseInsensitiveCompare.f k l0 t209).bind fun t212 => (some t212))) else (if (Go.bits .or .u8 (rd l0 0) 32) = 116 then ((hertzstr_StrTE.f).bind fun t213 => ((hertzutils_CaseInsensitiveCompare.f k l0 t213).bind fun t216 => (if t216 = true then (some true) else ((hertzstr_StrTrailer.f).bind fun t217 => ((hertzutils_CaseInsensitiveCompare.f k l0 t217).bind fun t220 => (if t220 = true then (some true) else ((hertzstr_StrTransferEncoding.f).bind fun t221 => ((hertzutils_CaseInsensitiveCompare.f k l0 t221).bind fun t224 => (some t224))))))))) else (if (Go.bits .or .u8 (rd l0 0) 32) = 119 then ((hertzstr_StrWWWAuthenticate.f).bind fun t225 => ((hertzutils_CaseInsensitiveCompare.f k l0 t225).bind fun t228 => (some t228))) else (some false))))))))))) else (none)) = some r := h
 clear h
 by_cases c2 : 0 < (l0.length : Int)
 ·rw [if_pos c2] at H
  have c2b0 : decide (0 < (l0.length : Int)) = true := decide_eq_true c2
  have c2b1 : decide (0 < l0.length) = true := decide_eq_true (by omega)
  clear c2
  by_cases c3 : (Go.bits .or .u8 (rd l0 0) 32) = 97
  ·rw [if_pos c3] at H
   have c3b0 : ((Go.bits .or .u8 (rd l0 0) 32) == 97) = true := beq_iff_eq.mpr c3
   have c3b1 : ((Go.bits .or .u8 (rd l0 0) 32) != 97) = false := bne_eq_false_iff_eq.mpr c3
   clear c3
   replace H := Option.bind_eq_some_iff.mp H
   obtain ⟨t104, A40, H⟩ := H
   replace H : ((hertzutils_CaseInsensitiveCompare.f k l0 t104).bind fun t107 => (some t107)) = some r := H
   have A4 := Aside0.mk A40
   clear A40
   replace H := Option.bind_eq_some_iff.mp H
   obtain ⟨t107, A50, H⟩ := H
   replace H : (some t107) = some r := H
   have A5 := Aside0.mk A50
   clear A50
   obtain rfl := Option.some.inj H
   have p103 : 0 ≤ (0 : Int) := (by omega)
   have q103 : 0 < (l0.length : Int) := of_decide_eq_true (by first | (with_reducible assumption) | assumption)
   obtain ⟨ad103, e103, hx103_0⟩ := Kd.at_int HR0.out 0 p103 q103
   cases e103
   have qi103 : (0 < l0.length) = True := eq_true (by omega)
   (try rw [show ((0 : Int)).toNat = 0 from rfl] at hx103_0)
   (try rw [Addr.add_zero'] at hx103_0)
   replace p103 := eq_true p103
   replace q103 := eq_true q103
   go_enter Try.func68, Try.ntmps68
   go_wp2_with (first | ((with_reducible refine gate_callee (f := 81) rfl ?_); refine goesL_ (some 10) rfl rfl Try.func81 (by kernel_rfl) rfl #[] rfl (by (try simp only [List.map_toArray, List.map_cons, List.map_nil]); first | done | rfl | (simp only [List.length_drop, List.length_take]; rfl)) ?_; (with_reducible refine (hertzstr_StrAuthorization.calls  t104 _ A4.out).mono ?_); rintro e w6 ⟨v105, rfl, ho0, hb⟩; refine ⟨_, rfl, ?_⟩; have n0_ := Aside0.mk (MR.R_lower ho0 (below_size (by repeat (first | (with_reducible first | exact HB.out | apply below_alloc | apply pw_below_drewN | apply below_drew1) | exact HB.out)))); have n1_ := Aside0.mk (below_step (by repeat (first | (with_reducible first | exact HB.out | apply below_alloc | apply pw_below_drewN | apply below_drew1) | exact HB.out)) hb); clear HB; have HO106 := n0_; have HB := n1_; clear n0_ n1_; (try clear hb); (try clear hb2); (try clear hk); (try clear hi); (try clear ho0); obtain ⟨Ao7, co7, eo7⟩ := MR.R_slice HO106.out; subst eo7) | ((with_reducible refine gate_callee (f := 80) rfl ?_); refine goesL_ (some 11) rfl rfl Try.func80 (by kernel_rfl) rfl #[.slice (some ad103) l0.length c0, .slice Ao7 t104.length co7] rfl (by (try simp only [List.map_toArray, List.map_cons, List.map_nil]); first | done | rfl | (simp only [List.length_drop, List.length_take]; rfl)) ?_; (with_reducible refine (hertzutils_CaseInsensitiveCompare.calls k _ _ l0 _ _ t104 t107 _ ?side1 ?side2 ?side3 ?side4 A5.out).mono ?_); (case side1 => repeat (first | exact (Kd.C_below HR0.out HB.out) | (with_reducible refine Kd.C_alloc ?_ _) | (with_reducible refine Kd.C_drewN ?_ _) | (with_reducible refine Kd.C_drew ?_))); (case side2 => exact HC0.out); (case side3 => repeat (first | exact (MR.R_reads' HO106.out).2.2 | (with_reducible refine Kd.C_alloc ?_ _) | (with_reducible refine Kd.C_drewN ?_ _) | (with_reducible refine Kd.C_drew ?_))); (case side4 => exact (MR.R_reads' HO106.out).2.1); rintro e w' ⟨rfl, ⟨nd, rfl⟩⟩; refine ⟨_, rfl, ?_⟩))
   go_ret
   exact ⟨by first | rfl | (simp [errW_none, errW_some] <;> rfl) | (simp [*, errW_none, errW_some] <;> rfl), by repeat (first | (with_reducible first | exact HB.out | apply below_alloc | apply pw_below_drewN | apply below_drew1) | exact HB.out)⟩
  ·rw [if_neg c3] at H
   have c3b0 : ((Go.bits .or .u8 (rd l0 0) 32) == 97) = false := beq_eq_false_iff_ne.mpr c3
   have c3b1 : ((Go.bits .or .u8 (rd l0 0) 32) != 97) = true := bne_iff_ne.mpr c3
   by_cases c8 : (Go.bits .or .u8 (rd l0 0) 32) = 99
   ·exact hertzproto_IsBadTrailer.calls_0 k A0 c0 l0 r w HR0.out HC0.out c8 H00_.out
   ·rw [if_neg c8] at H
    have c8b0 : ((Go.bits .or .u8 (rd l0 0) 32) == 99) = false := beq_eq_false_iff_ne.mpr c8
    have c8b1 : ((Go.bits .or .u8 (rd l0 0) 32) != 99) = true := bne_iff_ne.mpr c8
    by_cases c89 : (Go.bits .or .u8 (rd l0 0) 32) = 101
    ·rw [if_pos c89] at H
     have c89b0 : ((Go.bits .or .u8 (rd l0 0) 32) == 101) = true := beq_iff_eq.mpr c89
     have c89b1 : ((Go.bits .or .u8 (rd l0 0) 32) != 101) = false := bne_eq_false_iff_eq.mpr c89
     clear c89
     replace H := Option.bind_eq_some_iff.mp H
     obtain ⟨t157, A900, H⟩ := H
     replace H : ((hertzutils_CaseInsensitiveCompare.f k l0 t157).bind fun t160 => (some t160)) = some r := H
     have A90 := Aside0.mk A900
     clear A900
     replace H := Option.bind_eq_some_iff.mp H
     obtain ⟨t160, A910, H⟩ := H
     replace H : (some t160) = some r := H
     have A91 := Aside0.mk A910
     clear A910
     obtain rfl := Option.some.inj H
     have p103 : 0 ≤ (0 : Int) := (by omega)
     have q103 : 0 < (l0.length : Int) := of_decide_eq_true (by first | (with_reducible assumption) | assumption)
     obtain ⟨ad103, e103, hx103_0⟩ := Kd.at_int HR0.out 0 p103 q103
     cases e103
     have qi103 : (0 < l0.length) = True := eq_true (by omega)
     (try rw [show ((0 : Int)).toNat = 0 from rfl] at hx103_0)
     (try rw [Addr.add_zero'] at hx103_0)
     replace p103 := eq_true p103
     replace q103 := eq_true q103
     go_enter Try.func68, Try.ntmps68
     go_wp2_with (first | ((with_reducible refine gate_callee (f := 87) rfl ?_); refine goesL_ (some 56) rfl rfl Try.func87 (by kernel_rfl) rfl #[] rfl (by (try simp only [List.map_toArray, List.map_cons, List.map_nil]); first | done | rfl | (simp only [List.length_drop, List.length_take]; rfl)) ?_; (with_reducible refine (hertzstr_StrExpect.calls  t157 _ A90.out).mono ?_); rintro e w92 ⟨v158, rfl, ho0, hb⟩; refine ⟨_, rfl, ?_⟩; have n0_ := Aside0.mk (MR.R_lower ho0 (below_size (by repeat (first | (with_reducible first | exact HB.out | apply below_alloc | apply pw_below_drewN | apply below_drew1) | exact HB.out)))); have n1_ := Aside0.mk (below_step (by repeat (first | (with_reducible first | exact HB.out | apply below_alloc | apply pw_below_drewN | apply below_drew1) | exact HB.out)) hb); clear HB; have HO159 := n0_; have HB := n1_; clear n0_ n1_; (try clear hb); (try clear hb2); (try clear hk); (try clear hi); (try clear ho0); obtain ⟨Ao93, co93, eo93⟩ := MR.R_slice HO159.out; subst eo93) | ((with_reducible refine gate_callee (f := 80) rfl ?_); refine goesL_ (some 57) rfl rfl Try.func80 (by kernel_rfl) rfl #[.slice (some ad103) l0.length c0, .slice Ao93 t157.length co93] rfl (by (try simp only [List.map_toArray, List.map_cons, List.map_nil]); first | done | rfl | (simp only [List.length_drop, List.length_take]; rfl)) ?_; (with_reducible refine (hertzutils_CaseInsensitiveCompare.calls k _ _ l0 _ _ t157 t160 _ ?side1 ?side2 ?side3 ?side4 A91.out).mono ?_); (case side1 => repeat (first | exact (Kd.C_below HR0.out HB.out) | (with_reducible refine Kd.C_alloc ?_ _) | (with_reducible refine Kd.C_drewN ?_ _) | (with_reducible refine Kd.C_drew ?_))); (case side2 => exact HC0.out); (case side3 => repeat (first | exact (MR.R_reads' HO159.out).2.2 | (with_reducible refine Kd.C_alloc ?_ _) | (with_reducible refine Kd.C_drewN ?_ _) | (with_reducible refine Kd.C_drew ?_))); (case side4 => exact (MR.R_reads' HO159.out).2.1); rintro e w' ⟨rfl, ⟨nd, rfl⟩⟩; refine ⟨_, rfl, ?_⟩))
     go_ret
     exact ⟨by first | rfl | (simp [errW_none, errW_some] <;> rfl) | (simp [*, errW_none, errW_some] <;> rfl), by repeat (first | (with_reducible first | exact HB.out | apply below_alloc | apply pw_below_drewN | apply below_drew1) | exact HB.out)⟩
    ·rw [if_neg c89] at H
     have c89b0 : ((Go.bits .or .u8 (rd l0 0) 32) == 101) = false := beq_eq_false_iff_ne.mpr c89
     have c89b1 : ((Go.bits .or .u8 (rd l0 0) 32) != 101) = true := bne_iff_ne.mpr c89
     by_cases c94 : (Go.bits .or .u8 (rd l0 0) 32) = 104
     ·rw [if_pos c94] at H
      have c94b0 : ((Go.bits .or .u8 (rd l0 0) 32) == 104) = true := beq_iff_eq.mpr c94
      have c94b1 : ((Go.bits .or .u8 (rd l0 0) 32) != 104) = false := bne_eq_false_iff_eq.mpr c94
      clear c94
      replace H := Option.bind_eq_some_iff.mp H
      obtain ⟨t161, A950, H⟩ := H
      replace H : ((hertzutils_CaseInsensitiveCompare.f k l0 t161).bind fun t164 => (some t164)) = some r := H
      have A95 := Aside0.mk A950
      clear A950
      replace H := Option.bind_eq_some_iff.mp H
      obtain ⟨t164, A960, H⟩ := H
      replace H : (some t164) = some r := H
      have A96 := Aside0.mk A960
      clear A960
      obtain rfl := Option.some.inj H
      have p103 : 0 ≤ (0 : Int) := (by omega)
      have q103 : 0 < (l0.length : Int) := of_decide_eq_true (by first | (with_reducible assumption) | assumption)
      obtain ⟨ad103, e103, hx103_0⟩ := Kd.at_int HR0.out 0 p103 q103
      cases e103
      have qi103 : (0 < l0.length) = True := eq_true (by omega)
      (try rw [show ((0 : Int)).toNat = 0 from rfl] at hx103_0)
      (try rw [Addr.add_zero'] at hx103_0)
      replace p103 := eq_true p103
      replace q103 := eq_true q103
      go_enter Try.func68, Try.ntmps68
      go_wp2_with (first | ((with_reducible refine gate_callee (f := 88) rfl ?_); refine goesL_ (some 61) rfl rfl Try.func88 (by kernel_rfl) rfl #[] rfl (by (try simp only [List.map_toArray, List.map_cons, List.map_nil]); first | done | rfl | (simp only [List.length_drop, List.length_take]; rfl)) ?_; (with_reducible refine (hertzstr_StrHost.calls  t161 _ A95.out).mono ?_); rintro e w97 ⟨v162, rfl, ho0, hb⟩; refine ⟨_, rfl, ?_⟩; have n0_ := Aside0.mk (MR.R_lower ho0 (below_size (by repeat (first | (with_reducible first | exact HB.out | apply below_alloc | apply pw_below_drewN | apply below_drew1) | exact HB.out)))); have n1_ := Aside0.mk (below_step (by repeat (first | (with_reducible first | exact HB.out | apply below_alloc | apply pw_below_drewN | apply below_drew1) | exact HB.out)) hb); clear HB; have HO163 := n0_; have HB := n1_; clear n0_ n1_; (try clear hb); (try clear hb2); (try clear hk); (try clear hi); (try clear ho0); obtain ⟨Ao98, co98, eo98⟩ := MR.R_slice HO163.out; subst eo98) | ((with_reducible refine gate_callee (f := 80) rfl ?_); refine goesL_ (some 62) rfl rfl Try.func80 (by kernel_rfl) rfl #[.slice (some ad103) l0.length c0, .slice Ao98 t161.length co98] rfl (by (try simp only [List.map_toArray, List.map_cons, List.map_nil]); first | done | rfl | (simp only [List.length_drop, List.length_take]; rfl)) ?_; (with_reducible refine (hertzutils_CaseInsensitiveCompare.calls k _ _ l0 _ _ t161 t164 _ ?side1 ?side2 ?side3 ?side4 A96.out).mono ?_); (case side1 => repeat (first | exact (Kd.C_below HR0.out HB.out) | (with_reducible refine Kd.C_alloc ?_ _) | (with_reducible refine Kd.C_drewN ?_ _) | (with_reducible refine Kd.C_drew ?_))); (case side2 => exact HC0.out); (case side3 => repeat (first | exact (MR.R_reads' HO163.out).2.2 | (with_reducible refine Kd.C_alloc ?_ _) | (with_reducible refine Kd.C_drewN ?_ _) | (with_reducible refine Kd.C_drew ?_))); (case side4 => exact (MR.R_reads' HO163.out).2.1); rintro e w' ⟨rfl, ⟨nd, rfl⟩⟩; refine ⟨_, rfl, ?_⟩))
      go_ret
      exact ⟨by first | rfl | (simp [errW_none, errW_some] <;> rfl) | (simp [*, errW_none, errW_some] <;> rfl), by repeat (first | (with_reducible first | exact HB.out | apply below_alloc | apply pw_below_drewN | apply below_drew1) | exact HB.out)⟩
     ·rw [if_neg c94] at H
      have c94b0 : ((Go.bits .or .u8 (rd l0 0) 32) == 104) = false := beq_eq_false_iff_ne.mpr c94
      have c94b1 : ((Go.bits .or .u8 (rd l0 0) 32) != 104) = true := bne_iff_ne.mpr c94
      by_cases c99 : (Go.bits .or .u8 (rd l0 0) 32) = 107
      ·rw [if_pos c99] at H
       have c99b0 : ((Go.bits .or .u8 (rd l0 0) 32) == 107) = true := beq_iff_eq.mpr c99
       have c99b1 : ((Go.bits .or .u8 (rd l0 0) 32) != 107) = false := bne_eq_false_iff_eq.mpr c99
       clear c99
       replace H := Option.bind_eq_some_iff.mp H
       obtain ⟨t165, A1000, H⟩ := H
       replace H : ((hertzutils_CaseInsensitiveCompare.f k l0 t165).bind fun t168 => (some t168)) = some r := H
       have A100 := Aside0.mk A1000
       clear A1000
       replace H := Option.bind_eq_some_iff.mp H
       obtain ⟨t168, A1010, H⟩ := H
       replace H : (some t168) = some r := H
       have A101 := Aside0.mk A1010
       clear A1010
       obtain rfl := Option.some.inj H
       have p103 : 0 ≤ (0 : Int) := (by omega)
       have q103 : 0 < (l0.length : Int) := of_decide_eq_true (by first | (with_reducible assumption) | assumption)
       obtain ⟨ad103, e103, hx103_0⟩ := Kd.at_int HR0.out 0 p103 q103
       cases e103
       have qi103 : (0 < l0.length) = True := eq_true (by omega)
       (try rw [show ((0 : Int)).toNat = 0 from rfl] at hx103_0)
       (try rw [Addr.add_zero'] at hx103_0)
       replace p103 := eq_true p103
       replace q103 := eq_true q103
       go_enter Try.func68, Try.ntmps68
       go_wp2_with (first | ((with_reducible refine gate_callee (f := 89) rfl ?_); refine goesL_ (some 66) rfl rfl Try.func89 (by kernel_rfl) rfl #[] rfl (by (try simp only [List.map_toArray, List.map_cons, List.map_nil]); first | done | rfl | (simp only [List.length_drop, List.length_take]; rfl)) ?_; (with_reducible refine (hertzstr_StrKeepAlive.calls  t165 _ A100.out).mono ?_); rintro e w102 ⟨v166, rfl, ho0, hb⟩; refine ⟨_, rfl, ?_⟩; have n0_ := Aside0.mk (MR.R_lower ho0 (below_size (by repeat (first | (with_reducible first | exact HB.out | apply below_alloc | apply pw_below_drewN | apply below_drew1) | exact HB.out)))); have n1_ := Aside0.mk (below_step (by repeat (first | (with_reducible first | exact HB.out | apply below_alloc | apply pw_below_drewN | apply below_drew1) | exact HB.out)) hb); clear HB; have HO167 := n0_; have HB := n1_; clear n0_ n1_; (try clear hb); (try clear hb2); (try clear hk); (try clear hi); (try clear ho0); obtain ⟨Ao103, co103, eo103⟩ := MR.R_slice HO167.out; subst eo103) | ((with_reducible refine gate_callee (f := 80) rfl ?_); refine goesL_ (some 67) rfl rfl Try.func80 (by kernel_rfl) rfl #[.slice (some ad103) l0.length c0, .slice Ao103 t165.length co103] rfl (by (try simp only [List.map_toArray, List.map_cons, List.map_nil]); first | done | rfl | (simp only [List.length_drop, List.length_take]; rfl)) ?_; (with_reducible refine (hertzutils_CaseInsensitiveCompare.calls k _ _ l0 _ _ t165 t168 _ ?side1 ?side2 ?side3 ?side4 A101.out).mono ?_); (case side1 => repeat (first | exact (Kd.C_below HR0.out HB.out) | (with_reducible refine Kd.C_alloc ?_ _) | (with_reducible refine Kd.C_drewN ?_ _) | (with_reducible refine Kd.C_drew ?_))); (case side2 => exact HC0.out); (case side3 => repeat (first | exact (MR.R_reads' HO167.out).2.2 | (with_reducible refine Kd.C_alloc ?_ _) | (with_reducible refine Kd.C_drewN ?_ _) | (with_reducible refine Kd.C_drew ?_))); (case side4 => exact (MR.R_reads' HO167.out).2.1); rintro e w' ⟨rfl, ⟨nd, rfl⟩⟩; refine ⟨_, rfl, ?_⟩))
       go_ret
       exact ⟨by first | rfl | (simp [errW_none, errW_some] <;> rfl) | (simp [*, errW_none, errW_some] <;> rfl), by repeat (first | (with_reducible first | exact HB.out | apply below_alloc | apply pw_below_drewN | apply below_drew1) | exact HB.out)⟩
      ·rw [if_neg c99] at H
       have c99b0 : ((Go.bits .or .u8 (rd l0 0) 32) == 107) = false := beq_eq_false_iff_ne.mpr c99
       have c99b1 : ((Go.bits .or .u8 (rd l0 0) 32) != 107) = true := bne_iff_ne.mpr c99
       by_cases c104 : (Go.bits .or .u8 (rd l0 0) 32) = 109
       ·rw [if_pos c104] at H
        have c104b0 : ((Go.bits .or .u8 (rd l0 0) 32) == 109) = true := beq_iff_eq.mpr c104
        have c104b1 : ((Go.bits .or .u8 (rd l0 0) 32) != 109) = false := bne_eq_false_iff_eq.mpr c104
        clear c104
        replace H := Option.bind_eq_some_iff.mp H
        obtain ⟨t169, A1050, H⟩ := H
        replace H : ((hertzutils_CaseInsensitiveCompare.f k l0 t169).bind fun t172 => (some t172)) = some r := H
        have A105 := Aside0.mk A1050
        clear A1050
        replace H := Option.bind_eq_some_iff.mp H
        obtain ⟨t172, A1060, H⟩ := H
        replace H : (some t172) = some r := H
        have A106 := Aside0.mk A1060
        clear A1060
        obtain rfl := Option.some.inj H
        have p103 : 0 ≤ (0 : Int) := (by omega)
        have q103 : 0 < (l0.length : Int) := of_decide_eq_true (by first | (with_reducible assumption) | assumption)
        obtain ⟨ad103, e103, hx103_0⟩ := Kd.at_int HR0.out 0 p103 q103
        cases e103
        have qi103 : (0 < l0.length) = True := eq_true (by omega)
        (try rw [show ((0 : Int)).toNat = 0 from rfl] at hx103_0)
        (try rw [Addr.add_zero'] at hx103_0)
        replace p103 := eq_true p103
        replace q103 := eq_true q103
        go_enter Try.func68, Try.ntmps68
        go_wp2_with (first | ((with_reducible refine gate_callee (f := 90) rfl ?_); refine goesL_ (some 71) rfl rfl Try.func90 (by kernel_rfl) rfl #[] rfl (by (try simp only [List.map_toArray, List.map_cons, List.map_nil]); first | done | rfl | (simp only [List.length_drop, List.length_take]; rfl)) ?_; (with_reducible refine (hertzstr_StrMaxForwards.calls  t169 _ A105.out).mono ?_); rintro e w107 ⟨v170, rfl, ho0, hb⟩; refine ⟨_, rfl, ?_⟩; have n0_ := Aside0.mk (MR.R_lower ho0 (below_size (by repeat (first | (with_reducible first | exact HB.out | apply below_alloc | apply pw_below_drewN | apply below_drew1) | exact HB.out)))); have n1_ := Aside0.mk (below_step (by repeat (first | (with_reducible first | exact HB.out | apply below_alloc | apply pw_below_drewN | apply below_drew1) | exact HB.out)) hb); clear HB; have HO171 := n0_; have HB := n1_; clear n0_ n1_; (try clear hb); (try clear hb2); (try clear hk); (try clear hi); (try clear ho0); obtain ⟨Ao108, co108, eo108⟩ := MR.R_slice HO171.out; subst eo108) | ((with_reducible refine gate_callee (f := 80) rfl ?_); refine goesL_ (some 72) rfl rfl Try.func80 (by kernel_rfl) rfl #[.slice (some ad103) l0.length c0, .slice Ao108 t169.length co108] rfl (by (try simp only [List.map_toArray, List.map_cons, List.map_nil]); first | done | rfl | (simp only [List.length_drop, List.length_take]; rfl)) ?_; (with_reducible refine (hertzutils_CaseInsensitiveCompare.calls k _ _ l0 _ _ t169 t172 _ ?side1 ?side2 ?side3 ?side4 A106.out).mono ?_); (case side1 => repeat (first | exact (Kd.C_below HR0.out HB.out) | (with_reducible refine Kd.C_alloc ?_ _) | (with_reducible refine Kd.C_drewN ?_ _) | (with_reducible refine Kd.C_drew ?_))); (case side2 => exact HC0.out); (case side3 => repeat (first | exact (MR.R_reads' HO171.out).2.2 | (with_reducible refine Kd.C_alloc ?_ _) | (with_reducible refine Kd.C_drewN ?_ _) | (with_reducible refine Kd.C_drew ?_))); (case side4 => exact (MR.R_reads' HO171.out).2.1); rintro e w' ⟨rfl, ⟨nd, rfl⟩⟩; refine ⟨_, rfl, ?_⟩))
        go_ret
        exact ⟨by first | rfl | (simp [errW_none, errW_some] <;> rfl) | (simp [*, errW_none, errW_some] <;> rfl), by repeat (first | (with_reducible first | exact HB.out | apply below_alloc | apply pw_below_drewN | apply below_drew1) | exact HB.out)⟩
       ·rw [if_neg c104] at H
        have c104b0 : ((Go.bits .or .u8 (rd l0 0) 32) == 109) = false := beq_eq_false_iff_ne.mpr c104
        have c104b1 : ((Go.bits .or .u8 (rd l0 0) 32) != 109) = true := bne_iff_ne.mpr c104
        by_cases c109 : (Go.bits .or .u8 (rd l0 0) 32) = 112
        ·exact hertzproto_IsBadTrailer.calls_1 k A0 c0 l0 r w HR0.out HC0.out c109 H00_.out
        ·rw [if_neg c109] at H
         have c109b0 : ((Go.bits .or .u8 (rd l0 0) 32) == 112) = false := beq_eq_false_iff_ne.mpr c109
         have c109b1 : ((Go.bits .or .u8 (rd l0 0) 32) != 112) = true := bne_iff_ne.mpr c109
         by_cases c164 : (Go.bits .or .u8 (rd l0 0) 32) = 114
         ·rw [if_pos c164] at H
          have c164b0 : ((Go.bits .or .u8 (rd l0 0) 32) == 114) = true := beq_iff_eq.mpr c164
          have c164b1 : ((Go.bits .or .u8 (rd l0 0) 32) != 114) = false := bne_eq_false_iff_eq.mpr c164
          clear c164
          replace H := Option.bind_eq_some_iff.mp H
          obtain ⟨t209, A1650, H⟩ := H
          replace H : ((hertzutils_CaseInsensitiveCompare.f k l0 t209).bind fun t212 => (some t212)) = some r := H
          have A165 := Aside0.mk A1650
          clear A1650
          replace H := Option.bind_eq_some_iff.mp H
          obtain ⟨t212, A1660, H⟩ := H
          replace H : (some t212) = some r := H
          have A166 := Aside0.mk A1660
          clear A1660
          obtain rfl := Option.some.inj H
          have p103 : 0 ≤ (0 : Int) := (by omega)
          have q103 : 0 < (l0.length : Int) := of_decide_eq_true (by first | (with_reducible assumption) | assumption)
          obtain ⟨ad103, e103, hx103_0⟩ := Kd.at_int HR0.out 0 p103 q103
          cases e103
          have qi103 : (0 < l0.length) = True := eq_true (by omega)
          (try rw [show ((0 : Int)).toNat = 0 from rfl] at hx103_0)
          (try rw [Addr.add_zero'] at hx103_0)
          replace p103 := eq_true p103
          replace q103 := eq_true q103
          go_enter Try.func68, Try.ntmps68
          go_wp2_with (first | ((with_reducible refine gate_callee (f := 94) rfl ?_); refine goesL_ (some 107) rfl rfl Try.func94 (by kernel_rfl) rfl #[] rfl (by (try simp only [List.map_toArray, List.map_cons, List.map_nil]); first | done | rfl | (simp only [List.length_drop, List.length_take]; rfl)) ?_; (with_reducible refine (hertzstr_StrRange.calls  t209 _ A165.out).mono ?_); rintro e w167 ⟨v210, rfl, ho0, hb⟩; refine ⟨_, rfl, ?_⟩; have n0_ := Aside0.mk (MR.R_lower ho0 (below_size (by repeat (first | (with_reducible first | exact HB.out | apply below_alloc | apply pw_below_drewN | apply below_drew1) | exact HB.out)))); have n1_ := Aside0.mk (below_step (by repeat (first | (with_reducible first | exact HB.out | apply below_alloc | apply pw_below_drewN | apply below_drew1) | exact HB.out)) hb); clear HB; have HO211 := n0_; have HB := n1_; clear n0_ n1_; (try clear hb); (try clear hb2); (try clear hk); (try clear hi); (try clear ho0); obtain ⟨Ao168, co168, eo168⟩ := MR.R_slice HO211.out; subst eo168) | ((with_reducible refine gate_callee (f := 80) rfl ?_); refine goesL_ (some 108) rfl rfl Try.func80 (by kernel_rfl) rfl #[.slice (some ad103) l0.length c0, .slice Ao168 t209.length co168] rfl (by (try simp only [List.map_toArray, List.map_cons, List.map_nil]); first | done | rfl | (simp only [List.length_drop, List.length_take]; rfl)) ?_; (with_reducible refine (hertzutils_CaseInsensitiveCompare.calls k _ _ l0 _ _ t209 t212 _ ?side1 ?side2 ?side3 ?side4 A166.out).mono ?_); (case side1 => repeat (first | exact (Kd.C_below HR0.out HB.out) | (with_reducible refine Kd.C_alloc ?_ _) | (with_reducible refine Kd.C_drewN ?_ _) | (with_reducible refine Kd.C_drew ?_))); (case side2 => exact HC0.out); (case side3 => repeat (first | exact (MR.R_reads' HO211.out).2.2 | (with_reducible refine Kd.C_alloc ?_ _) | (with_reducible refine Kd.C_drewN ?_ _) | (with_reducible refine Kd.C_drew ?_))); (case side4 => exact (MR.R_reads' HO211.out).2.1); rintro e w' ⟨rfl, ⟨nd, rfl⟩⟩; refine ⟨_, rfl, ?_⟩))
          go_ret
          exact ⟨by first | rfl | (simp [errW_none, errW_some] <;> rfl) | (simp [*, errW_none, errW_some] <;> rfl), by repeat (first | (with_reducible first | exact HB.out | apply below_alloc | apply pw_below_drewN | apply below_drew1) | exact HB.out)⟩
         ·rw [if_neg c164] at H
          have c164b0 : ((Go.bits .or .u8 (rd l0 0) 32) == 114) = false := beq_eq_false_iff_ne.mpr c164
          have c164b1 : ((Go.bits .or .u8 (rd l0 0) 32) != 114) = true := bne_iff_ne.mpr c164
          by_cases c169 : (Go.bits .or .u8 (rd l0 0) 32) = 116
          ·rw [if_pos c169] at H
           have c169b0 : ((Go.bits .or .u8 (rd l0 0) 32) == 116) = true := beq_iff_eq.mpr c169
           have c169b1 : ((Go.bits .or .u8 (rd l0 0) 32) != 116) = false := bne_eq_false_iff_eq.mpr c169
           clear c169
           replace H := Option.bind_eq_some_iff.mp H
           obtain ⟨t213, A1700, H⟩ := H
           replace H : ((hertzutils_CaseInsensitiveCompare.f k l0 t213).bind fun t216 => (if t216 = true then (some true) else ((hertzstr_StrTrailer.f).bind fun t217 => ((hertzutils_CaseInsensitiveCompare.f k l0 t217).bind fun t220 => (if t220 = true then (some true) else ((hertzstr_StrTransferEncoding.f).bind fun t221 => ((hertzutils_CaseInsensitiveCompare.f k l0 t221).bind fun t224 => (some t224)))))))) = some r := H
           have A170 := Aside0.mk A1700
           clear A1700
           replace H := Option.bind_eq_some_iff.mp H
           obtain ⟨t216, A1710, H⟩ := H
           replace H : (if t216 = true then (some true) else ((hertzstr_StrTrailer.f).bind fun t217 => ((hertzutils_CaseInsensitiveCompare.f k l0 t217).bind fun t220 => (if t220 = true then (some true) else ((hertzstr_StrTransferEncoding.f).bind fun t221 => ((hertzutils_CaseInsensitiveCompare.f k l0 t221).bind fun t224 => (some t224))))))) = some r := H
           have A171 := Aside0.mk A1710
           clear A1710
           by_cases c172 : t216 = true
           ·subst c172
            have H1 : (some true) = some r := by rw [if_pos rfl] at H; exact H
            clear H
            have H := H1
            clear H1
            obtain rfl := Option.some.inj H
            have p103 : 0 ≤ (0 : Int) := (by omega)
            have q103 : 0 < (l0.length : Int) := of_decide_eq_true (by first | (with_reducible assumption) | assumption)
            obtain ⟨ad103, e103, hx103_0⟩ := Kd.at_int HR0.out 0 p103 q103
            cases e103
            have qi103 : (0 < l0.length) = True := eq_true (by omega)
            (try rw [show ((0 : Int)).toNat = 0 from rfl] at hx103_0)
            (try rw [Addr.add_zero'] at hx103_0)
            replace p103 := eq_true p103
            replace q103 := eq_true q103
            go_enter Try.func68, Try.ntmps68
            go_wp2_with (first | ((with_reducible refine gate_callee (f := 95) rfl ?_); refine goesL_ (some 112) rfl rfl Try.func95 (by kernel_rfl) rfl #[] rfl (by (try simp only [List.map_toArray, List.map_cons, List.map_nil]); first | done | rfl | (simp only [List.length_drop, List.length_take]; rfl)) ?_; (with_reducible refine (hertzstr_StrTE.calls  t213 _ A170.out).mono ?_); rintro e w173 ⟨v214, rfl, ho0, hb⟩; refine ⟨_, rfl, ?_⟩; have n0_ := Aside0.mk (MR.R_lower ho0 (below_size (by repeat (first | (with_reducible first | exact HB.out | apply below_alloc | apply pw_below_drewN | apply below_drew1) | exact HB.out)))); have n1_ := Aside0.mk (below_step (by repeat (first | (with_reducible first | exact HB.out | apply below_alloc | apply pw_below_drewN | apply below_drew1) | exact HB.out)) hb); clear HB; have HO215 := n0_; have HB := n1_; clear n0_ n1_; (try clear hb); (try clear hb2); (try clear hk); (try clear hi); (try clear ho0); obtain ⟨Ao174, co174, eo174⟩ := MR.R_slice HO215.out; subst eo174) | ((with_reducible refine gate_callee (f := 80) rfl ?_); refine goesL_ (some 113) rfl rfl Try.func80 (by kernel_rfl) rfl #[.slice (some ad103) l0.length c0, .slice Ao174 t213.length co174] rfl (by (try simp only [List.map_toArray, List.map_cons, List.map_nil]); first | done | rfl | (simp only [List.length_drop, List.length_take]; rfl)) ?_; (with_reducible refine (hertzutils_CaseInsensitiveCompare.calls k _ _ l0 _ _ t213 true _ ?side1 ?side2 ?side3 ?side4 A171.out).mono ?_); (case side1 => repeat (first | exact (Kd.C_below HR0.out HB.out) | (with_reducible refine Kd.C_alloc ?_ _) | (with_reducible refine Kd.C_drewN ?_ _) | (with_reducible refine Kd.C_drew ?_))); (case side2 => exact HC0.out); (case side3 => repeat (first | exact (MR.R_reads' HO215.out).2.2 | (with_reducible refine Kd.C_alloc ?_ _) | (with_reducible refine Kd.C_drewN ?_ _) | (with_reducible refine Kd.C_drew ?_))); (case side4 => exact (MR.R_reads' HO215.out).2.1); rintro e w' ⟨rfl, ⟨nd, rfl⟩⟩; refine ⟨_, rfl, ?_⟩))
            go_ret
            exact ⟨by first | rfl | (simp [errW_none, errW_some] <;> rfl) | (simp [*, errW_none, errW_some] <;> rfl), by repeat (first | (with_reducible first | exact HB.out | apply below_alloc | apply pw_below_drewN | apply below_drew1) | exact HB.out)⟩
           ·replace c172 := Bool.eq_false_iff.mpr c172
            subst c172
            have H1 : ((hertzstr_StrTrailer.f).bind fun t217 => ((hertzutils_CaseInsensitiveCompare.f k l0 t217).bind fun t220 => (if t220 = true then (some true) else ((hertzstr_StrTransferEncoding.f).bind fun t221 => ((hertzutils_CaseInsensitiveCompare.f k l0 t221).bind fun t224 => (some t224)))))) = some r := by rw [if_neg (show ¬ (false = true) by decide)] at H; exact H
            clear H
            have H := H1
            clear H1
            replace H := Option.bind_eq_some_iff.mp H
            obtain ⟨t217, A1750, H⟩ := H
            replace H : ((hertzutils_CaseInsensitiveCompare.f k l0 t217).bind fun t220 => (if t220 = true then (some true) else ((hertzstr_StrTransferEncoding.f).bind fun t221 => ((hertzutils_CaseInsensitiveCompare.f k l0 t221).bind fun t224 => (some t224))))) = some r := H
            have A175 := Aside0.mk A1750
            clear A1750
            replace H := Option.bind_eq_some_iff.mp H
            obtain ⟨t220, A1760, H⟩ := H
            replace H : (if t220 = true then (some true) else ((hertzstr_StrTransferEncoding.f).bind fun t221 => ((hertzutils_CaseInsensitiveCompare.f k l0 t221).bind fun t224 => (some t224)))) = some r := H
            have A176 := Aside0.mk A1760
            clear A1760
            by_cases c177 : t220 = true
            ·subst c177
             have H1 : (some true) = some r := by rw [if_pos rfl] at H; exact H
             clear H
             have H := H1
             clear H1
             obtain rfl := Option.some.inj H
             have p103 : 0 ≤ (0 : Int) := (by omega)
             have q103 : 0 < (l0.length : Int) := of_decide_eq_true (by first | (with_reducible assumption) | assumption)
             obtain ⟨ad103, e103, hx103_0⟩ := Kd.at_int HR0.out 0 p103 q103
             cases e103
             have qi103 : (0 < l0.length) = True := eq_true (by omega)
             (try rw [show ((0 : Int)).toNat = 0 from rfl] at hx103_0)
             (try rw [Addr.add_zero'] at hx103_0)
             replace p103 := eq_true p103
             replace q103 := eq_true q103
             go_enter Try.func68, Try.ntmps68
             go_wp2_with (first | ((with_reducible refine gate_callee (f := 95) rfl ?_); refine goesL_ (some 112) rfl rfl Try.func95 (by kernel_rfl) rfl #[] rfl (by (try simp only [List.map_toArray, List.map_cons, List.map_nil]); first | done | rfl | (simp only [List.length_drop, List.length_take]; rfl)) ?_; (with_reducible refine (hertzstr_StrTE.calls  t213 _ A170.out).mono ?_); rintro e w178 ⟨v214, rfl, ho0, hb⟩; refine ⟨_, rfl, ?_⟩; have n0_ := Aside0.mk (MR.R_lower ho0 (below_size (by repeat (first | (with_reducible first | exact HB.out | apply below_alloc | apply pw_below_drewN | apply below_drew1) | exact HB.out)))); have n1_ := Aside0.mk (below_step (by repeat (first | (with_reducible first | exact HB.out | apply below_alloc | apply pw_below_drewN | apply below_drew1) | exact HB.out)) hb); clear HB; have HO215 := n0_; have HB := n1_; clear n0_ n1_; (try clear hb); (try clear hb2); (try clear hk); (try clear hi); (try clear ho0); obtain ⟨Ao179, co179, eo179⟩ := MR.R_slice HO215.out; subst eo179) | ((with_reducible refine gate_callee (f := 80) rfl ?_); refine goesL_ (some 113) rfl rfl Try.func80 (by kernel_rfl) rfl #[.slice (some ad103) l0.length c0, .slice Ao179 t213.length co179] rfl (by (try simp only [List.map_toArray, List.map_cons, List.map_nil]); first | done | rfl | (simp only [List.length_drop, List.length_take]; rfl)) ?_; (with_reducible refine (hertzutils_CaseInsensitiveCompare.calls k _ _ l0 _ _ t213 false _ ?side1 ?side2 ?side3 ?side4 A171.out).mono ?_); (case side1 => repeat (first | exact (Kd.C_below HR0.out HB.out) | (with_reducible refine Kd.C_alloc ?_ _) | (with_reducible refine Kd.C_drewN ?_ _) | (with_reducible refine Kd.C_drew ?_))); (case side2 => exact HC0.out); (case side3 => repeat (first | exact (MR.R_reads' HO215.out).2.2 | (with_reducible refine Kd.C_alloc ?_ _) | (with_reducible refine Kd.C_drewN ?_ _) | (with_reducible refine Kd.C_drew ?_))); (case side4 => exact (MR.R_reads' HO215.out).2.1); rintro e w' ⟨rfl, ⟨nd, rfl⟩⟩; refine ⟨_, rfl, ?_⟩) | (go_at_call 96; (with_reducible refine (hertzstr_StrTrailer.calls  t217 _ A175.out).mono ?_); rintro e w180 ⟨v218, rfl, ho0, hb⟩; have n0_ := Aside0.mk (MR.R_elder' (by (with_reducible repeat (first | apply MR.R_alloc | apply MR.R_drewN | apply MR.R_drew)); exact HO215.out) (MR.R_base ho0) hb); have n1_ := Aside0.mk (MR.R_lower (MR.R_new' ho0 (MR.R_lt (by (with_reducible repeat (first | apply MR.R_alloc | apply MR.R_drewN | apply MR.R_drew)); exact HO215.out))) (below_size (by repeat (first | (with_reducible first | exact HB.out | apply below_alloc | apply pw_below_drewN | apply below_drew1) | exact HB.out)))); have n2_ := Aside0.mk (below_step (by repeat (first | (with_reducible first | exact HB.out | apply below_alloc | apply pw_below_drewN | apply below_drew1) | exact HB.out)) hb); clear HO215; clear HB; have HO215 := n0_; have HO219 := n1_; have HB := n2_; clear n0_ n1_ n2_; (try clear hb); (try clear hb2); (try clear hk); (try clear hi); (try clear ho0); obtain ⟨Ao181, co181, eo181⟩ := MR.R_slice HO219.out; subst eo181) | (go_at_call 80; (with_reducible refine (hertzutils_CaseInsensitiveCompare.calls k _ _ l0 _ _ t217 true _ ?side1 ?side2 ?side3 ?side4 A176.out).mono ?_); (case side1 => repeat (first | exact (Kd.C_below HR0.out HB.out) | (with_reducible refine Kd.C_alloc ?_ _) | (with_reducible refine Kd.C_drewN ?_ _) | (with_reducible refine Kd.C_drew ?_))); (case side2 => exact HC0.out); (case side3 => repeat (first | exact (MR.R_reads' HO219.out).2.2 | (with_reducible refine Kd.C_alloc ?_ _) | (with_reducible refine Kd.C_drewN ?_ _) | (with_reducible refine Kd.C_drew ?_))); (case side4 => exact (MR.R_reads' HO219.out).2.1); rintro e w' ⟨rfl, ⟨nd, rfl⟩⟩))
             go_ret
             exact ⟨by first | rfl | (simp [errW_none, errW_some] <;> rfl) | (simp [*, errW_none, errW_some] <;> rfl), by repeat (first | (with_reducible first | exact HB.out | apply below_alloc | apply pw_below_drewN | apply below_drew1) | exact HB.out)⟩
            ·replace c177 := Bool.eq_false_iff.mpr c177
             subst c177
             have H1 : ((hertzstr_StrTransferEncoding.f).bind fun t221 => ((hertzutils_CaseInsensitiveCompare.f k l0 t221).bind fun t224 => (some t224))) = some r := by rw [if_neg (show ¬ (false = true) by decide)] at H; exact H
             clear H
             have H := H1
             clear H1
             replace H := Option.bind_eq_some_iff.mp H
             obtain ⟨t221, A1820, H⟩ := H
             replace H : ((hertzutils_CaseInsensitiveCompare.f k l0 t221).bind fun t224 => (some t224)) = some r := H
             have A182 := Aside0.mk A1820
             clear A1820
             replace H := Option.bind_eq_some_iff.mp H
             obtain ⟨t224, A1830, H⟩ := H
             replace H : (some t224) = some r := H
             have A183 := Aside0.mk A1830
             clear A1830
             obtain rfl := Option.some.inj H
             have p103 : 0 ≤ (0 : Int) := (by omega)
             have q103 : 0 < (l0.length : Int) := of_decide_eq_true (by first | (with_reducible assumption) | assumption)
             obtain ⟨ad103, e103, hx103_0⟩ := Kd.at_int HR0.out 0 p103 q103
             cases e103
             have qi103 : (0 < l0.length) = True := eq_true (by omega)
             (try rw [show ((0 : Int)).toNat = 0 from rfl] at hx103_0)
             (try rw [Addr.add_zero'] at hx103_0)
             replace p103 := eq_true p103
             replace q103 := eq_true q103
             go_enter Try.func68, Try.ntmps68
             go_wp2_with (first | ((with_reducible refine gate_callee (f := 95) rfl ?_); refine goesL_ (some 112) rfl rfl Try.func95 (by kernel_rfl) rfl #[] rfl (by (try simp only [List.map_toArray, List.map_cons, List.map_nil]); first | done | rfl | (simp only [List.length_drop, List.length_take]; rfl)) ?_; (with_reducible refine (hertzstr_StrTE.calls  t213 _ A170.out).mono ?_); rintro e w184 ⟨v214, rfl, ho0, hb⟩; refine ⟨_, rfl, ?_⟩; have n0_ := Aside0.mk (MR.R_lower ho0 (below_size (by repeat (first | (with_reducible first | exact HB.out | apply below_alloc | apply pw_below_drewN | apply below_drew1) | exact HB.out)))); have n1_ := Aside0.mk (below_step (by repeat (first | (with_reducible first | exact HB.out | apply below_alloc | apply pw_below_drewN | apply below_drew1) | exact HB.out)) hb); clear HB; have HO215 := n0_; have HB := n1_; clear n0_ n1_; (try clear hb); (try clear hb2); (try clear hk); (try clear hi); (try clear ho0); obtain ⟨Ao185, co185, eo185⟩ := MR.R_slice HO215.out; subst eo185) | ((with_reducible refine gate_callee (f := 80) rfl ?_); refine goesL_ (some 113) rfl rfl Try.func80 (by kernel_rfl) rfl #[.slice (some ad103) l0.length c0, .slice Ao185 t213.length co185] rfl (by (try simp only [List.map_toArray, List.map_cons, List.map_nil]); first | done | rfl | (simp only [List.length_drop, List.length_take]; rfl)) ?_; (with_reducible refine (hertzutils_CaseInsensitiveCompare.calls k _ _ l0 _ _ t213 false _ ?side1 ?side2 ?side3 ?side4 A171.out).mono ?_); (case side1 => repeat (first | exact (Kd.C_below HR0.out HB.out) | (with_reducible refine Kd.C_alloc ?_ _) | (with_reducible refine Kd.C_drewN ?_ _) | (with_reducible refine Kd.C_drew ?_))); (case side2 => exact HC0.out); (case side3 => repeat (first | exact (MR.R_reads' HO215.out).2.2 | (with_reducible refine Kd.C_alloc ?_ _) | (with_reducible refine Kd.C_drewN ?_ _) | (with_reducible refine Kd.C_drew ?_))); (case side4 => exact (MR.R_reads' HO215.out).2.1); rintro e w' ⟨rfl, ⟨nd, rfl⟩⟩; refine ⟨_, rfl, ?_⟩) | (go_at_call 96; (with_reducible refine (hertzstr_StrTrailer.calls  t217 _ A175.out).mono ?_); rintro e w186 ⟨v218, rfl, ho0, hb⟩; have n0_ := Aside0.mk (MR.R_elder' (by (with_reducible repeat (first | apply MR.R_alloc | apply MR.R_drewN | apply MR.R_drew)); exact HO215.out) (MR.R_base ho0) hb); have n1_ := Aside0.mk (MR.R_lower (MR.R_new' ho0 (MR.R_lt (by (with_reducible repeat (first | apply MR.R_alloc | apply MR.R_drewN | apply MR.R_drew)); exact HO215.out))) (below_size (by repeat (first | (with_reducible first | exact HB.out | apply below_alloc | apply pw_below_drewN | apply below_drew1) | exact HB.out)))); have n2_ := Aside0.mk (below_step (by repeat (first | (with_reducible first | exact HB.out | apply below_alloc | apply pw_below_drewN | apply below_drew1) | exact HB.out)) hb); clear HO215; clear HB; have HO215 := n0_; have HO219 := n1_; have HB := n2_; clear n0_ n1_ n2_; (try clear hb); (try clear hb2); (try clear hk); (try clear hi); (try clear ho0); obtain ⟨Ao187, co187, eo187⟩ := MR.R_slice HO219.out; subst eo187) | (go_at_call 80; (with_reducible refine (hertzutils_CaseInsensitiveCompare.calls k _ _ l0 _ _ t217 false _ ?side1 ?side2 ?side3 ?side4 A176.out).mono ?_); (case side1 => repeat (first | exact (Kd.C_below HR0.out HB.out) | (with_reducible refine Kd.C_alloc ?_ _) | (with_reducible refine Kd.C_drewN ?_ _) | (with_reducible refine Kd.C_drew ?_))); (case side2 => exact HC0.out); (case side3 => repeat (first | exact (MR.R_reads' HO219.out).2.2 | (with_reducible refine Kd.C_alloc ?_ _) | (with_reducible refine Kd.C_drewN ?_ _) | (with_reducible refine Kd.C_drew ?_))); (case side4 => exact (MR.R_reads' HO219.out).2.1); rintro e w' ⟨rfl, ⟨nd, rfl⟩⟩) | (go_at_call 97; (with_reducible refine (hertzstr_StrTransferEncoding.calls  t221 _ A182.out).mono ?_); rintro e w188 ⟨v222, rfl, ho0, hb⟩; have n0_ := Aside0.mk (MR.R_elder' (by (with_reducible repeat (first | apply MR.R_alloc | apply MR.R_drewN | apply MR.R_drew)); exact HO215.out) (MR.R_base ho0) hb); have n1_ := Aside0.mk (MR.R_elder' (by (with_reducible repeat (first | apply MR.R_alloc | apply MR.R_drewN | apply MR.R_drew)); exact HO219.out) (MR.R_base ho0) hb); have n2_ := Aside0.mk (MR.R_lower (MR.R_new' (MR.R_new' ho0 (MR.R_lt (by (with_reducible repeat (first | apply MR.R_alloc | apply MR.R_drewN | apply MR.R_drew)); exact HO215.out))) (MR.R_lt (by (with_reducible repeat (first | apply MR.R_alloc | apply MR.R_drewN | apply MR.R_drew)); exact HO219.out))) (below_size (by repeat (first | (with_reducible first | exact HB.out | apply below_alloc | apply pw_below_drewN | apply below_drew1) | exact HB.out)))); have n3_ := Aside0.mk (below_step (by repeat (first | (with_reducible first | exact HB.out | apply below_alloc | apply pw_below_drewN | apply below_drew1) | exact HB.out)) hb); clear HO215; clear HO219; clear HB; have HO215 := n0_; have HO219 := n1_; have HO223 := n2_; have HB := n3_; clear n0_ n1_ n2_ n3_; (try clear hb); (try clear hb2); (try clear hk); (try clear hi); (try clear ho0); obtain ⟨Ao189, co189, eo189⟩ := MR.R_slice HO223.out; subst eo189) | (go_at_call 80; (with_reducible refine (hertzutils_CaseInsensitiveCompare.calls k _ _ l0 _ _ t221 t224 _ ?side1 ?side2 ?side3 ?side4 A183.out).mono ?_); (case side1 => repeat (first | exact (Kd.C_below HR0.out HB.out) | (with_reducible refine Kd.C_alloc ?_ _) | (with_reducible refine Kd.C_drewN ?_ _) | (with_reducible refine Kd.C_drew ?_))); (case side2 => exact HC0.out); (case side3 => repeat (first | exact (MR.R_reads' HO223.out).2.2 | (with_reducible refine Kd.C_alloc ?_ _) | (with_reducible refine Kd.C_drewN ?_ _) | (with_reducible refine Kd.C_drew ?_))); (case side4 => exact (MR.R_reads' HO223.out).2.1); rintro e w' ⟨rfl, ⟨nd, rfl⟩⟩))
             go_ret
             exact ⟨by first | rfl | (simp [errW_none, errW_some] <;> rfl) | (simp [*, errW_none, errW_some] <;> rfl), by repeat (first | (with_reducible first | exact HB.out | apply below_alloc | apply pw_below_drewN | apply below_drew1) | exact HB.out)⟩
          ·rw [if_neg c169] at H
           have c169b0 : ((Go.bits .or .u8 (rd l0 0) 32) == 116) = false := beq_eq_false_iff_ne.mpr c169
           have c169b1 : ((Go.bits .or .u8 (rd l0 0) 32) != 116) = true := bne_iff_ne.mpr c169
           by_cases c190 : (Go.bits .or .u8 (rd l0 0) 32) = 119
           ·rw [if_pos c190] at H
            have c190b0 : ((Go.bits .or .u8 (rd l0 0) 32) == 119) = true := beq_iff_eq.mpr c190
            have c190b1 : ((Go.bits .or .u8 (rd l0 0) 32) != 119) = false := bne_eq_false_iff_eq.mpr c190
            clear c190
            replace H := Option.bind_eq_some_iff.mp H
            obtain ⟨t225, A1910, H⟩ := H
            replace H : ((hertzutils_CaseInsensitiveCompare.f k l0 t225).bind fun t228 => (some t228)) = some r := H
            have A191 := Aside0.mk A1910
            clear A1910
            replace H := Option.bind_eq_some_iff.mp H
            obtain ⟨t228, A1920, H⟩ := H
            replace H : (some t228) = some r := H
            have A192 := Aside0.mk A1920
            clear A1920
            obtain rfl := Option.some.inj H
            have p103 : 0 ≤ (0 : Int) := (by omega)
            have q103 : 0 < (l0.length : Int) := of_decide_eq_true (by first | (with_reducible assumption) | assumption)
            obtain ⟨ad103, e103, hx103_0⟩ := Kd.at_int HR0.out 0 p103 q103
            cases e103
            have qi103 : (0 < l0.length) = True := eq_true (by omega)
            (try rw [show ((0 : Int)).toNat = 0 from rfl] at hx103_0)
            (try rw [Addr.add_zero'] at hx103_0)
            replace p103 := eq_true p103
            replace q103 := eq_true q103
            go_enter Try.func68, Try.ntmps68
            go_wp2_with (first | ((with_reducible refine gate_callee (f := 98) rfl ?_); refine goesL_ (some 127) rfl rfl Try.func98 (by kernel_rfl) rfl #[] rfl (by (try simp only [List.map_toArray, List.map_cons, List.map_nil]); first | done | rfl | (simp only [List.length_drop, List.length_take]; rfl)) ?_; (with_reducible refine (hertzstr_StrWWWAuthenticate.calls  t225 _ A191.out).mono ?_); rintro e w193 ⟨v226, rfl, ho0, hb⟩; refine ⟨_, rfl, ?_⟩; have n0_ := Aside0.mk (MR.R_lower ho0 (below_size (by repeat (first | (with_reducible first | exact HB.out | apply below_alloc | apply pw_below_drewN | apply below_drew1) | exact HB.out)))); have n1_ := Aside0.mk (below_step (by repeat (first | (with_reducible first | exact HB.out | apply below_alloc | apply pw_below_drewN | apply below_drew1) | exact HB.out)) hb); clear HB; have HO227 := n0_; have HB := n1_; clear n0_ n1_; (try clear hb); (try clear hb2); (try clear hk); (try clear hi); (try clear ho0); obtain ⟨Ao194, co194, eo194⟩ := MR.R_slice HO227.out; subst eo194) | ((with_reducible refine gate_callee (f := 80) rfl ?_); refine goesL_ (some 128) rfl rfl Try.func80 (by kernel_rfl) rfl #[.slice (some ad103) l0.length c0, .slice Ao194 t225.length co194] rfl (by (try simp only [List.map_toArray, List.map_cons, List.map_nil]); first | done | rfl | (simp only [List.length_drop, List.length_take]; rfl)) ?_; (with_reducible refine (hertzutils_CaseInsensitiveCompare.calls k _ _ l0 _ _ t225 t228 _ ?side1 ?side2 ?side3 ?side4 A192.out).mono ?_); (case side1 => repeat (first | exact (Kd.C_below HR0.out HB.out) | (with_reducible refine Kd.C_alloc ?_ _) | (with_reducible refine Kd.C_drewN ?_ _) | (with_reducible refine Kd.C_drew ?_))); (case side2 => exact HC0.out); (case side3 => repeat (first | exact (MR.R_reads' HO227.out).2.2 | (with_reducible refine Kd.C_alloc ?_ _) | (with_reducible refine Kd.C_drewN ?_ _) | (with_reducible refine Kd.C_drew ?_))); (case side4 => exact (MR.R_reads' HO227.out).2.1); rintro e w' ⟨rfl, ⟨nd, rfl⟩⟩; refine ⟨_, rfl, ?_⟩))
            go_ret
            exact ⟨by first | rfl | (simp [errW_none, errW_some] <;> rfl) | (simp [*, errW_none, errW_some] <;> rfl), by repeat (first | (with_reducible first | exact HB.out | apply below_alloc | apply pw_below_drewN | apply below_drew1) | exact HB.out)⟩
           ·rw [if_neg c190] at H
            have c190b0 : ((Go.bits .or .u8 (rd l0 0) 32) == 119) = false := beq_eq_false_iff_ne.mpr c190
            have c190b1 : ((Go.bits .or .u8 (rd l0 0) 32) != 119) = true := bne_iff_ne.mpr c190
            obtain rfl := Option.some.inj H
            have p103 : 0 ≤ (0 : Int) := (by omega)
            have q103 : 0 < (l0.length : Int) := of_decide_eq_true (by first | (with_reducible assumption) | assumption)
            obtain ⟨ad103, e103, hx103_0⟩ := Kd.at_int HR0.out 0 p103 q103
            cases e103
            have qi103 : (0 < l0.length) = True := eq_true (by omega)
            (try rw [show ((0 : Int)).toNat = 0 from rfl] at hx103_0)
            (try rw [Addr.add_zero'] at hx103_0)
            replace p103 := eq_true p103
            replace q103 := eq_true q103
            go_enter Try.func68, Try.ntmps68
            go_wp2
            go_ret
            exact ⟨by first | rfl | (simp [errW_none, errW_some] <;> rfl) | (simp [*, errW_none, errW_some] <;> rfl), by repeat (first | (with_reducible first | exact HB.out | apply below_alloc | apply pw_below_drewN | apply below_drew1) | exact HB.out)⟩
 ·rw [if_neg c2] at H
  exact absurd H (by simp)
end Go.Proofs.Ytoimkmoalmmooaa.QA
namespace Go.Proofs.Ytoimkmoalmmooaa.Own
open Go.RowKit Go.Proofs.YtoimkmoalmmooaaW.PrintWords Go.Proofs.YtoimkmoalmmooaaW.PrintLast Go.Proofs.YtoimkmoalmmooaaW.PrintMore Go.Proofs.Ytoimkmoalmmooaa.Base Go.Proofs.Ytoimkmoalmmooaa.Gv Go.Proofs.Ytoimkmoalmmooaa.QA Go.Proofs.Ytoimkmoalmmooaa.Given
def TrC (l : Nat → Nat) (w : World) (q p : Nat) (V : Value) (n : Nat) (S : List Slot) (kv : Value) (kx : List Int) (vv : Value) (vx : List Int) (dn : Bool) : Prop :=
  0 < q ∧ q + 3 < 64 ∧ Cl l w q p 58 #[V, kv, vv, .bool false, .bool dn] ∧ KvS l w (q + 3) V n S ∧ Bf l w (q + 1) kv kx ∧ Bf l w (q + 2) vv vx
def Tz (q : Nat) : Nat → Prop := fun lab => lab = q ∨ lab = q + 1 ∨ lab = q + 2 ∨ lab % 64 = q + 3
def badK (xs : List Int) : Bool := badM (xs.map o32)
theorem isBad_calls (W : World) (A : Option Addr) (c : Nat) (xs : List Int) (hx : ReadsInt W .u8 A xs.length xs) (hc : xs.length ≤ c) (h0 : 0 < xs.length) (hl : xs.length ≤ 140737488351232) :
    Calls Try.prog 68 #[.slice A xs.length c] W fun e w' => e = .returned (.bool (badK xs)) ∧ Below W.heap.size W w' := by
  obtain ⟨k, hk⟩ := bad_ends xs h0 hl
  exact hertzproto_IsBadTrailer.calls k A c xs (badK xs) W (Kd.C_of_reads (d := (0 : Int)) (h1 := fun _ => rfl) hx) hc (hk k (Nat.le_refl _))
theorem KvS.shape {l : Nat → Nat} {w : World} {z n : Nat} {V : Value} {S : List Slot} (h : KvS l w z V n S) : ∃ A c, V = .slice A n c := by
  obtain ⟨_, _, ⟨rfl, _, rfl⟩ | ⟨a0, rfl, _⟩⟩ := h
  · exact ⟨none, 0, rfl⟩
  · exact ⟨_, _, rfl⟩
theorem TrC.keep {l l1 : Nat → Nat} {w w1 : World} {q p n : Nat} {V kv vv : Value} {S : List Slot} {kx vx : List Int} {dn : Bool} {F : Nat → Prop} (h : TrC l w q p V n S kv kx vv vx dn) (s : Stp F l l1 w w1) (hF : ∀ lab, F lab → ¬ Tz q lab) : TrC l1 w1 q p V n S kv kx vv vx dn := by
  obtain ⟨h1, h2, h3, h4, h5, h6⟩ := h
  exact ⟨h1, h2, h3.keep s (fun k => hF _ k (.inl rfl)), h4.keep s (fun lab k e => hF lab k (.inr (.inr (.inr e)))), h5.keep s (fun k => hF _ k (.inr (.inl rfl))), h6.keep s (fun k => hF _ k (.inr (.inr (.inl rfl))))⟩
theorem TrC.c0 {l : Nat → Nat} {w : World} {q p n : Nat} {V kv vv : Value} {S : List Slot} {kx vx : List Int} {dn : Bool} (h : TrC l w q p V n S kv kx vv vx dn) : w.cell? ⟨p, 0, none⟩ = some V ∧ w.frozen? ⟨p, 0, none⟩ = false := ⟨by rw [h.2.2.1.cell]; rfl, h.2.2.1.free 0⟩
theorem TrC.c1 {l : Nat → Nat} {w : World} {q p n : Nat} {V kv vv : Value} {S : List Slot} {kx vx : List Int} {dn : Bool} (h : TrC l w q p V n S kv kx vv vx dn) : w.cell? ⟨p, 1, none⟩ = some kv ∧ w.frozen? ⟨p, 1, none⟩ = false := ⟨by rw [h.2.2.1.cell]; rfl, h.2.2.1.free 1⟩
theorem TrC.c2 {l : Nat → Nat} {w : World} {q p n : Nat} {V kv vv : Value} {S : List Slot} {kx vx : List Int} {dn : Bool} (h : TrC l w q p V n S kv kx vv vx dn) : w.cell? ⟨p, 2, none⟩ = some vv ∧ w.frozen? ⟨p, 2, none⟩ = false := ⟨by rw [h.2.2.1.cell]; rfl, h.2.2.1.free 2⟩
theorem TrC.c4 {l : Nat → Nat} {w : World} {q p n : Nat} {V kv vv : Value} {S : List Slot} {kx vx : List Int} {dn : Bool} (h : TrC l w q p V n S kv kx vv vx dn) : w.cell? ⟨p, 4, none⟩ = some (.bool dn) ∧ w.frozen? ⟨p, 4, none⟩ = false := ⟨by rw [h.2.2.1.cell]; rfl, h.2.2.1.free 4⟩
theorem TrC.list {l l1 : Nat → Nat} {w w1 : World} {q p n n1 : Nat} {V kv vv V1 : Value} {S S1 : List Slot} {kx vx : List Int} {dn : Bool} (h : TrC l w q p V n S kv kx vv vx dn) (st : Stp (Zn (q + 3)) l l1 w w1) (hk : KvS l1 w1 (q + 3) V1 n1 S1) :
    (w1.cell? ⟨p, 0, none⟩ = some V ∧ w1.frozen? ⟨p, 0, none⟩ = false) ∧ TrC l1 (w1.setCell ⟨p, 0, none⟩ V1) q p V1 n1 S1 kv kx vv vx dn ∧ Stp (Tz q) l l1 w (w1.setCell ⟨p, 0, none⟩ V1) := by
  obtain ⟨h1, h2, h3, h4, h5, h6⟩ := h
  have e0 : ¬ Zn (q + 3) q := by unfold Zn; omega
  have e1 : ¬ Zn (q + 3) (q + 1) := by unfold Zn; omega
  have e2 : ¬ Zn (q + 3) (q + 2) := by unfold Zn; omega
  have k3 := h3.keep st e0
  obtain ⟨k4, s4⟩ := k3.set 0 V1
  refine ⟨⟨by rw [k3.cell]; rfl, k3.free 0⟩, ⟨h1, h2, k4, hk.keep s4 (fun lab e => by omega), (h5.keep st e1).keep s4 (by omega), (h6.keep st e2).keep s4 (by omega)⟩, (st.mono (fun x e => .inr (.inr (.inr e)))).trans (s4.mono (fun x e => .inl e))⟩
set_option maxHeartbeats 1000000 in
set_option maxRecDepth 100000 in
theorem tSetB_calls (l : Nat → Nat) (w : World) (q p n : Nat) (V kv vv : Value) (S : List Slot) (kx vx : List Int) (dn : Bool) (h : TrC l w q p V n S kv kx vv vx dn) (hn : n ≤ 1099511627775)
    (A : Option Addr) (c : Nat) (K : List Int) (hK0 : 0 < K.length) (hks : K.length ≤ 140737488351232) (hkc : K.length ≤ c) (hk : Src (Zn (q + 3)) l w A K.length K) (B : Option Addr) (m' c' : Nat) (X : List Int) (hvs : m' ≤ 140737488355328) (hv : Src (Zn (q + 3)) l w B m' X) :
    Calls Try.prog 58 #[.pointer (some ⟨p, 0, none⟩), .slice A K.length c, .slice B m' c', .bool false] w fun e w' => ∃ l1 V1 n1 S1, TrC l1 w' q p V1 n1 S1 kv kx vv vx dn ∧ n1 ≤ n + 1 ∧ Stp (Tz q) l l1 w w' ∧
      (if badK K = true then (∃ u x, e = .returned (.iface u x)) ∧ kvs S1 n1 = kvs S n else e = .returned .nilIface ∧ kvs S1 n1 = setKV K X (kvs S n)) := by
  have HB := Lib.hid (isBad_calls w A c K hk.now hkc hK0 hks)
  have HT := Lib.hid h
  have HSK := Lib.hid hk
  have HSV := Lib.hid hv
  obtain ⟨b, hb⟩ : ∃ b, badK K = b := ⟨_, rfl⟩
  rw [hb] at HB ⊢
  have HKS := Lib.hid hkc
  have HKL := Lib.hid hks
  obtain ⟨A0, c0, rfl⟩ := h.2.2.2.1.shape
  obtain ⟨N, hN⟩ : ∃ N, K.length = N := ⟨_, rfl⟩
  rw [hN] at HB ⊢
  have HN := Lib.hid hN
  clear h hk hv hb hK0 hks hkc hN
  cases b with
  | true =>
    go_enter Try.func58, Try.ntmps58
    go_wp2_with (first
      | (go_at_call 68; refine HB.out.mono ?_; rintro e w1 ⟨rfl, hb1⟩; have B1 := Lib.hid hb1; clear hb1)
      | (go_at_call 69; refine (errNew_calls _ _).mono ?_; rintro e w2 ⟨hb2, u, x, rfl⟩; have B2 := Lib.hid hb2; clear hb2))
    go_ret
    have st1 := Stp.of_below_same B1.out (fun _ => False) l
    have st2 := Stp.of_below_same B2.out (fun _ => False) l
    have st := st1.trans st2
    exact ⟨l, _, n, S, HT.out.keep st (fun _ k => k.elim), by omega, st.mono (fun _ k => k.elim), by first | exact ⟨⟨_, _, rfl⟩, rfl⟩ | (rw [if_pos rfl]; exact ⟨⟨_, _, rfl⟩, rfl⟩)⟩
  | false =>
    go_enter Try.func58, Try.ntmps58
    go_wp2_with (first
      | (go_at_call 68
         refine HB.out.mono ?_
         rintro e w1 ⟨rfl, hb1⟩
         have st1 := Stp.of_below_same hb1 (fun _ => False) l
         have hT1 := HT.out.keep st1 (fun _ k => k.elim)
         obtain ⟨x0, _⟩ := hT1.c0
         have T1 := Lib.hid hT1
         have S1 := Lib.hid st1
         clear hb1 st1 hT1)
      | (go_at_call 73
         have q_ := setArgBytes_calls l w1 (q + 3) n _ S T1.out.2.2.2.1 hn A c K (by have := HKL.out; omega) HKS.out (HSK.out.step (S1.out.mono (fun _ k => k.elim))) B m' c' X hvs (HSV.out.step (S1.out.mono (fun _ k => k.elim)))
         rw [HN.out] at q_
         refine q_.mono ?_
         rintro e w2 ⟨l2, V2, n2, S2, rfl, k1, k2, k3, k4⟩
         obtain ⟨A2, c2, rfl⟩ := k1.shape
         obtain ⟨⟨y0, g0⟩, k5, k6⟩ := T1.out.list k4 k1
         have K5 := Lib.hid k5
         have K6 := Lib.hid k6
         have K2 := Lib.hid k2
         have K3 := Lib.hid k3
         clear k1 k2 k3 k4 k5 k6))
    go_ret
    exact ⟨_, _, _, _, K5.out, K2.out, (S1.out.mono (fun _ k => k.elim)).trans K6.out, by first | exact ⟨rfl, K3.out⟩ | (rw [if_neg (by decide)]; exact ⟨rfl, K3.out⟩)⟩
set_option maxHeartbeats 1000000 in
set_option maxRecDepth 100000 in
theorem tAddB_calls (l : Nat → Nat) (w : World) (q p n : Nat) (V kv vv : Value) (S : List Slot) (kx vx : List Int) (dn : Bool) (h : TrC l w q p V n S kv kx vv vx dn) (hn : n ≤ 1099511627775)
    (A : Option Addr) (c : Nat) (K : List Int) (hK0 : 0 < K.length) (hks : K.length ≤ 140737488351232) (hkc : K.length ≤ c) (hk : Src (Zn (q + 3)) l w A K.length K) (B : Option Addr) (m' c' : Nat) (X : List Int) (hvs : m' ≤ 140737488355328) (hv : Src (Zn (q + 3)) l w B m' X) :
    Calls Try.prog 59 #[.pointer (some ⟨p, 0, none⟩), .slice A K.length c, .slice B m' c', .bool false] w fun e w' => ∃ l1 V1 n1 S1, TrC l1 w' q p V1 n1 S1 kv kx vv vx dn ∧ n1 ≤ n + 1 ∧ Stp (Tz q) l l1 w w' ∧
      (if badK K = true then (∃ u x, e = .returned (.iface u x)) ∧ kvs S1 n1 = kvs S n else e = .returned .nilIface ∧ kvs S1 n1 = kvs S n ++ [⟨K, X, false⟩]) := by
  have HB := Lib.hid (isBad_calls w A c K hk.now hkc hK0 hks)
  have HT := Lib.hid h
  have HSK := Lib.hid hk
  have HSV := Lib.hid hv
  obtain ⟨b, hb⟩ : ∃ b, badK K = b := ⟨_, rfl⟩
  rw [hb] at HB ⊢
  have HKS := Lib.hid hkc
  have HKL := Lib.hid hks
  obtain ⟨A0, c0, rfl⟩ := h.2.2.2.1.shape
  obtain ⟨N, hN⟩ : ∃ N, K.length = N := ⟨_, rfl⟩
  rw [hN] at HB ⊢
  have HN := Lib.hid hN
  clear h hk hv hb hK0 hks hkc hN
  cases b with
  | true =>
    go_enter Try.func59, Try.ntmps59
    go_wp2_with (first
      | (go_at_call 68; refine HB.out.mono ?_; rintro e w1 ⟨rfl, hb1⟩; have B1 := Lib.hid hb1; clear hb1)
      | (go_at_call 69; refine (errNew_calls _ _).mono ?_; rintro e w2 ⟨hb2, u, x, rfl⟩; have B2 := Lib.hid hb2; clear hb2))
    go_ret
    have st1 := Stp.of_below_same B1.out (fun _ => False) l
    have st2 := Stp.of_below_same B2.out (fun _ => False) l
    have st := st1.trans st2
    exact ⟨l, _, n, S, HT.out.keep st (fun _ k => k.elim), by omega, st.mono (fun _ k => k.elim), by first | exact ⟨⟨_, _, rfl⟩, rfl⟩ | (rw [if_pos rfl]; exact ⟨⟨_, _, rfl⟩, rfl⟩)⟩
  | false =>
    go_enter Try.func59, Try.ntmps59
    go_wp2_with (first
      | (go_at_call 68
         refine HB.out.mono ?_
         rintro e w1 ⟨rfl, hb1⟩
         have st1 := Stp.of_below_same hb1 (fun _ => False) l
         have hT1 := HT.out.keep st1 (fun _ k => k.elim)
         obtain ⟨x0, _⟩ := hT1.c0
         have T1 := Lib.hid hT1
         have S1 := Lib.hid st1
         clear hb1 st1 hT1)
      | (go_at_call 74
         have q_ := appendArgBytes_false l w1 (q + 3) n _ S T1.out.2.2.2.1 hn A K.length c K (by have := HKL.out; omega) (HSK.out.step (S1.out.mono (fun _ k => k.elim))) B m' c' X hvs (HSV.out.step (S1.out.mono (fun _ k => k.elim)))
         rw [HN.out] at q_
         refine q_.mono ?_
         rintro e w2 ⟨l2, V2, S2, rfl, k1, k3, k4⟩
         obtain ⟨A2, c2, rfl⟩ := k1.shape
         obtain ⟨⟨y0, g0⟩, k5, k6⟩ := T1.out.list k4 k1
         have K5 := Lib.hid k5
         have K6 := Lib.hid k6
         have K2 := Lib.hid (Nat.le_refl (n + 1))
         have K3 := Lib.hid k3
         clear k1 k3 k4 k5 k6))
    go_ret
    exact ⟨_, _, _, _, K5.out, K2.out, (S1.out.mono (fun _ k => k.elim)).trans K6.out, by first | exact ⟨rfl, K3.out⟩ | (rw [if_neg (by decide)]; exact ⟨rfl, K3.out⟩)⟩
set_option maxHeartbeats 1000000 in
set_option maxRecDepth 100000 in
theorem tUpd_calls (l : Nat → Nat) (w : World) (q p n : Nat) (V kv vv : Value) (S : List Slot) (kx vx : List Int) (dn : Bool) (h : TrC l w q p V n S kv kx vv vx dn) (hn : n ≤ 1099511627775)
    (A : Option Addr) (c : Nat) (K : List Int) (hK0 : 0 < K.length) (hks : K.length ≤ 140737488351232) (hkc : K.length ≤ c) (hk : Src (Zn (q + 3)) l w A K.length K) (B : Option Addr) (m' c' : Nat) (X : List Int) (hvs : m' ≤ 140737488355328) (hv : Src (Zn (q + 3)) l w B m' X) :
    Calls Try.prog 50 #[.pointer (some ⟨p, 0, none⟩), .slice A K.length c, .slice B m' c'] w fun e w' => ∃ l1 V1 n1 S1, TrC l1 w' q p V1 n1 S1 kv kx vv vx dn ∧ n1 ≤ n + 1 ∧ Stp (Tz q) l l1 w w' ∧
      (if badK K = true then (∃ u x, e = .returned (.iface u x)) ∧ kvs S1 n1 = kvs S n else e = .returned .nilIface ∧ kvs S1 n1 = updKV K X (kvs S n)) := by
  have HB := Lib.hid (isBad_calls w A c K hk.now hkc hK0 hks)
  have HT := Lib.hid h
  have HSK := Lib.hid hk
  have HSV := Lib.hid hv
  obtain ⟨b, hb⟩ : ∃ b, badK K = b := ⟨_, rfl⟩
  rw [hb] at HB ⊢
  have HKS := Lib.hid hkc
  have HKL := Lib.hid hks
  obtain ⟨A0, c0, rfl⟩ := h.2.2.2.1.shape
  obtain ⟨N, hN⟩ : ∃ N, K.length = N := ⟨_, rfl⟩
  rw [hN] at HB ⊢
  have HN := Lib.hid hN
  clear h hk hv hb hK0 hks hkc hN
  cases b with
  | true =>
    go_enter Try.func50, Try.ntmps50
    go_wp2_with (first
      | (go_at_call 68; refine HB.out.mono ?_; rintro e w1 ⟨rfl, hb1⟩; have B1 := Lib.hid hb1; clear hb1)
      | (go_at_call 69; refine (errNew_calls _ _).mono ?_; rintro e w2 ⟨hb2, u, x, rfl⟩; have B2 := Lib.hid hb2; clear hb2))
    go_ret
    have st1 := Stp.of_below_same B1.out (fun _ => False) l
    have st2 := Stp.of_below_same B2.out (fun _ => False) l
    have st := st1.trans st2
    exact ⟨l, _, n, S, HT.out.keep st (fun _ k => k.elim), by omega, st.mono (fun _ k => k.elim), by first | exact ⟨⟨_, _, rfl⟩, rfl⟩ | (rw [if_pos rfl]; exact ⟨⟨_, _, rfl⟩, rfl⟩)⟩
  | false =>
    go_enter Try.func50, Try.ntmps50
    go_wp2_with (first
      | (go_at_call 68
         refine HB.out.mono ?_
         rintro e w1 ⟨rfl, hb1⟩
         have st1 := Stp.of_below_same hb1 (fun _ => False) l
         have hT1 := HT.out.keep st1 (fun _ k => k.elim)
         obtain ⟨x0, _⟩ := hT1.c0
         have T1 := Lib.hid hT1
         have S1 := Lib.hid st1
         clear hb1 st1 hT1)
      | (go_at_call 70
         have q_ := updateArgBytes_calls l w1 (q + 3) n _ S T1.out.2.2.2.1 hn A c K (by have := HKL.out; omega) HKS.out (HSK.out.step (S1.out.mono (fun _ k => k.elim))) B m' c' X hvs (HSV.out.step (S1.out.mono (fun _ k => k.elim)))
         rw [HN.out] at q_
         refine q_.mono ?_
         rintro e w2 ⟨l2, V2, S2, rfl, k1, k3, k4⟩
         obtain ⟨A2, c2, rfl⟩ := k1.shape
         obtain ⟨⟨y0, g0⟩, k5, k6⟩ := T1.out.list k4 k1
         have K5 := Lib.hid k5
         have K6 := Lib.hid k6
         have K2 := Lib.hid (Nat.le_succ n)
         have K3 := Lib.hid k3
         clear k1 k3 k4 k5 k6))
    go_ret
    exact ⟨_, _, _, _, K5.out, K2.out, (S1.out.mono (fun _ k => k.elim)).trans K6.out, by first | exact ⟨rfl, K3.out⟩ | (rw [if_neg (by decide)]; exact ⟨rfl, K3.out⟩)⟩
set_option maxHeartbeats 1000000 in
set_option maxRecDepth 100000 in
theorem tAddN_calls (l : Nat → Nat) (w : World) (q p n : Nat) (V kv vv : Value) (S : List Slot) (kx vx : List Int) (dn : Bool) (h : TrC l w q p V n S kv kx vv vx dn) (hn : n ≤ 1099511627775)
    (A : Option Addr) (c : Nat) (K : List Int) (hK0 : 0 < K.length) (hks : K.length ≤ 140737488351232) (hkc : K.length ≤ c) (hk : Src (Zn (q + 3)) l w A K.length K) :
    Calls Try.prog 59 #[.pointer (some ⟨p, 0, none⟩), .slice A K.length c, .slice none 0 0, .bool true] w fun e w' => ∃ l1 V1 n1 S1, TrC l1 w' q p V1 n1 S1 kv kx vv vx dn ∧ n1 ≤ n + 1 ∧ Stp (Tz q) l l1 w w' ∧
      (if badK K = true then (∃ u x, e = .returned (.iface u x)) ∧ kvs S1 n1 = kvs S n else e = .returned .nilIface ∧ kvs S1 n1 = kvs S n ++ [⟨K, [], true⟩]) := by
  have HB := Lib.hid (isBad_calls w A c K hk.now hkc hK0 hks)
  have HT := Lib.hid h
  have HSK := Lib.hid hk
  obtain ⟨b, hb⟩ : ∃ b, badK K = b := ⟨_, rfl⟩
  rw [hb] at HB ⊢
  have HKS := Lib.hid hkc
  have HKL := Lib.hid hks
  obtain ⟨A0, c0, rfl⟩ := h.2.2.2.1.shape
  obtain ⟨N, hN⟩ : ∃ N, K.length = N := ⟨_, rfl⟩
  rw [hN] at HB ⊢
  have HN := Lib.hid hN
  clear h hk hb hK0 hks hkc hN
  cases b with
  | true =>
    go_enter Try.func59, Try.ntmps59
    go_wp2_with (first
      | (go_at_call 68; refine HB.out.mono ?_; rintro e w1 ⟨rfl, hb1⟩; have B1 := Lib.hid hb1; clear hb1)
      | (go_at_call 69; refine (errNew_calls _ _).mono ?_; rintro e w2 ⟨hb2, u, x, rfl⟩; have B2 := Lib.hid hb2; clear hb2))
    go_ret
    have st1 := Stp.of_below_same B1.out (fun _ => False) l
    have st2 := Stp.of_below_same B2.out (fun _ => False) l
    have st := st1.trans st2
    exact ⟨l, _, n, S, HT.out.keep st (fun _ k => k.elim), by omega, st.mono (fun _ k => k.elim), by first | exact ⟨⟨_, _, rfl⟩, rfl⟩ | (rw [if_pos rfl]; exact ⟨⟨_, _, rfl⟩, rfl⟩)⟩
  | false =>
    go_enter Try.func59, Try.ntmps59
    go_wp2_with (first
      | (go_at_call 68
         refine HB.out.mono ?_
         rintro e w1 ⟨rfl, hb1⟩
         have st1 := Stp.of_below_same hb1 (fun _ => False) l
         have hT1 := HT.out.keep st1 (fun _ k => k.elim)
         obtain ⟨x0, _⟩ := hT1.c0
         have T1 := Lib.hid hT1
         have S1 := Lib.hid st1
         clear hb1 st1 hT1)
      | (go_at_call 74
         have q_ := appendArgBytes_true l w1 (q + 3) n _ S T1.out.2.2.2.1 hn A K.length c K (by have := HKL.out; omega) (HSK.out.step (S1.out.mono (fun _ k => k.elim))) none 0 0 []
         rw [HN.out] at q_
         refine q_.mono ?_
         rintro e w2 ⟨l2, V2, S2, rfl, k1, k3, k4⟩
         obtain ⟨A2, c2, rfl⟩ := k1.shape
         obtain ⟨⟨y0, g0⟩, k5, k6⟩ := T1.out.list k4 k1
         have K5 := Lib.hid k5
         have K6 := Lib.hid k6
         have K2 := Lib.hid (Nat.le_refl (n + 1))
         have K3 := Lib.hid k3
         clear k1 k3 k4 k5 k6))
    go_ret
    exact ⟨_, _, _, _, K5.out, K2.out, (S1.out.mono (fun _ k => k.elim)).trans K6.out, by first | exact ⟨rfl, K3.out⟩ | (rw [if_neg (by decide)]; exact ⟨rfl, K3.out⟩)⟩
end Go.Proofs.Ytoimkmoalmmooaa.Own
namespace Go.Proofs.Ytoimkmoalmmooaa.Own
open Go.RowKit Go.Proofs.YtoimkmoalmmooaaW.PrintWords Go.Proofs.YtoimkmoalmmooaaW.PrintLast Go.Proofs.YtoimkmoalmmooaaW.PrintMore Go.Proofs.Ytoimkmoalmmooaa.Base Go.Proofs.Ytoimkmoalmmooaa.Gv Go.Proofs.Ytoimkmoalmmooaa.Given
def fixB (c : Int) : Int := if c = 13 ∨ c = 10 then 32 else c
theorem Bf.setAt {l : Nat → Nat} {w : World} {z g n c : Nat} {xs : List Int} (h : Bf l w z (.slice (some ⟨g, 0, none⟩) n c) xs) (j : Nat) (v : Int) : Bf l (w.setCell ⟨g, j, none⟩ (.int .u8 v)) z (.slice (some ⟨g, 0, none⟩) n c) (xs.set j v) ∧ Stp (· = z) l l w (w.setCell ⟨g, j, none⟩ (.int .u8 v)) := by
  have hn : n = xs.length := h.cut0.1
  subst hn
  have hlg : l g = z := h.2 g rfl
  obtain ⟨h1, h2⟩ := own_store h.1 (j : Int) v
  rw [Int.toNat_natCast] at h1
  refine ⟨⟨by simpa using h1, h.2⟩, ?_⟩
  have := Stp.set (l := l) w ⟨g, j, none⟩ (.int .u8 v)
  rwa [show l (⟨g, j, none⟩ : Addr).block = z from hlg] at this
theorem Bf.cellAt {l : Nat → Nat} {w : World} {z g n c : Nat} {xs : List Int} (h : Bf l w z (.slice (some ⟨g, 0, none⟩) n c) xs) (j : Nat) (hj : j < xs.length) : w.cell? ⟨g, j, none⟩ = some (.int .u8 (xs.getD j 0)) ∧ w.frozen? ⟨g, j, none⟩ = false := by
  have hn : n = xs.length := h.cut0.1
  subst hn
  refine ⟨?_, h.1.frozenAt j⟩
  rw [h.1.cellAt j (by omega)]
  unfold nums
  rw [List.getElem?_map, List.getElem?_eq_getElem hj, List.getD_eq_getElem?_getD, List.getElem?_eq_getElem hj]
  rfl
theorem cut8 (A : Option Addr) (n c k : Nat) (hk : k ≤ n) (W : World) : (Instr.slice 54 (.slice A n c) (some (.int .i64 (k : Int))) none none).run Try.prog W = .ok (.slice (if c = k then A else A.map (·.add k)) (n - k) (c - k)) W := by
  obtain ⟨i0, hi0, hz0, hz1, hz2⟩ := info_parts info8
  have hel : Try.prog.elem 54 = 5 := by simp [Program.elem, Try.underlying54]
  have hu : Try.prog.underlying 54 = some (.slice (Try.prog.elem 54)) := by rw [hel]; exact Try.underlying54
  have hsz : (sizeOf 5).run Try.prog W = .ok 1 W := by simp [sizeOf, typeInfo, hi0, hz1]
  rw [run_slice_l W 54 A n c hu .i64 (k : Int) (by omega) (by omega), hel, hsz]
  simp [Result.andThen, sliced]
set_option maxHeartbeats 1000000 in
set_option maxRecDepth 100000 in
theorem headerValue_calls (l : Nat → Nat) (w : World) (zd : Nat) (V : Value) (xs : List Int) (hV : Bf l w zd V xs) (A : Option Addr) (c : Nat) (ys : List Int) (hs : Src (· = zd) l w A ys.length ys) (hl : xs.length + ys.length ≤ 140737488355328) :
    Calls Try.prog 101 #[V, .slice A ys.length c] w fun e w' => ∃ l1 A1 c1, e = .returned (.slice A1 (xs ++ ys.map fixB).length c1) ∧ Bf l1 w' zd (.slice A1 (xs ++ ys.map fixB).length c1) (xs ++ ys.map fixB) ∧ Stp (· = zd) l l1 w w' := by
  obtain ⟨A0, c0, rfl, _⟩ := hV.slice
  obtain ⟨N0, hN0⟩ : ∃ n, xs.length = n := ⟨_, rfl⟩
  obtain ⟨m, hm⟩ : ∃ n, ys.length = n := ⟨_, rfl⟩
  have hN : (xs ++ ys.map fixB).length = N0 + m := by rw [List.length_append, List.length_map, hN0, hm]
  have HV := Lib.hid hV
  have HS := Lib.hid hs
  have HN0 := Lib.hid hN0
  have HM := Lib.hid hm
  rw [hN, hm, hN0]
  rw [hN0, hm] at hl
  clear hV hs hN0 hm hN
  go_enter Try.func101, Try.ntmps101
  go_wp2_with (
    at_builtin
    refine app_row zd rfl (.tmp 8) (.tmp 9) 54 rfl Try.underlying54 info8 _ xs ys A m c rfl rfl (by have := HV.out; rw [HN0.out] at this; exact this) (by have := HS.out.now; rw [HM.out] at this; exact this) (by rw [HN0.out]; omega) ?_
    intro v1 w1 l1 hB st _
    obtain ⟨A1, c1, rfl, hc1⟩ := hB.slice
    have hlen : (xs ++ ys).length = N0 + m := by rw [List.length_append, HN0.out, HM.out]
    rw [hlen] at hB hc1
    rw [hlen]
    have hsl := fun W : World => cut8 A1 (N0 + m) c1 N0 (by omega) W
    rw [Nat.add_sub_cancel_left] at hsl
    obtain ⟨A3, hA3⟩ : ∃ A3, (if c1 = N0 then A1 else A1.map (·.add N0)) = A3 := ⟨_, rfl⟩
    rw [hA3] at hsl
    have HA3 := Lib.hid hA3
    have HB := Lib.hid hB
    have ST := Lib.hid st
    have HC1 := Lib.hid hc1
    clear hB st hlen hA3 hc1)
  go_loopw [6, 7, 17] (fun _ _ iv wr => ∃ k : Nat, iv = .int .i64 k ∧ k ≤ m ∧ Hid (Bf l1 wr zd (.slice A1 (N0 + m) c1) (xs ++ ((ys.take k).map fixB ++ ys.drop k))) ∧ Hid (Stp (· = zd) l1 l1 w1 wr)) (fun _ _ iv _ => m - (intOf iv).toNat)
  case atStart => exact ⟨0, rfl, by omega, Lib.hid (by simpa using HB.out), Lib.hid (Stp.refl _ _ _)⟩
  case round =>
    obtain ⟨k, rfl, hk, HBk, HSk⟩ := hrel
    by_cases hlt : k < m
    · have q1 : (k : Int) < (m : Int) := by omega
      have hml := HM.out
      have hkl : (xs ++ ((ys.take k).map fixB ++ ys.drop k)).length = N0 + m := by
        rw [List.length_append, List.length_append, List.length_map, List.length_take, List.length_drop, HN0.out]; omega
      obtain ⟨g, rfl⟩ : ∃ g, A1 = some ⟨g, 0, none⟩ := by
        obtain ⟨g, e, _⟩ := HBk.out.byte (fun e => by rw [e] at hkl; simp at hkl; omega)
        exact ⟨g, e⟩
      have e3 : A3 = some ⟨g, N0, none⟩ := by
        rw [← HA3.out, if_neg (by have := HC1.out; omega)]
        simp [Addr.add]
        intro h0; rw [h0]
      subst e3
      obtain ⟨x0, f0⟩ := HBk.out.cellAt (N0 + k) (by omega)
      have hpre : (xs ++ (ys.take k).map fixB).length = N0 + k := by rw [List.length_append, List.length_map, List.length_take, HN0.out]; omega
      have hd : ys.drop k = ys.getD k 0 :: ys.drop (k + 1) := by
        rw [List.drop_eq_getElem_cons (by omega), List.getD_eq_getElem?_getD, List.getElem?_eq_getElem (by omega)]; rfl
      have hget : (xs ++ ((ys.take k).map fixB ++ ys.drop k)).getD (N0 + k) 0 = ys.getD k 0 := by
        rw [← List.append_assoc, List.getD_eq_getElem?_getD, List.getElem?_append_right (by omega), hpre, Nat.sub_self, hd]; rfl
      rw [hget] at x0
      have htk : ys.take (k + 1) = ys.take k ++ [ys.getD k 0] := by
        rw [List.take_add_one, List.getD_eq_getElem?_getD, List.getElem?_eq_getElem (by omega)]; rfl
      obtain ⟨b, hb⟩ : ∃ b, ys.getD k 0 = b := ⟨_, rfl⟩
      rw [hb] at x0 htk hd
      have hnext : xs ++ ((ys.take (k + 1)).map fixB ++ ys.drop (k + 1)) = (xs ++ (ys.take k).map fixB) ++ fixB b :: ys.drop (k + 1) := by rw [htk]; simp
      have hset : (xs ++ ((ys.take k).map fixB ++ ys.drop k)).set (N0 + k) (fixB b) = xs ++ ((ys.take (k + 1)).map fixB ++ ys.drop (k + 1)) := by
        rw [hnext, hd, ← List.append_assoc, List.set_append_right _ _ (by omega), hpre, Nat.sub_self, List.set_cons_zero]
      have hsame : fixB b = b → xs ++ ((ys.take k).map fixB ++ ys.drop k) = xs ++ ((ys.take (k + 1)).map fixB ++ ys.drop (k + 1)) := fun e => by
        rw [hnext, e, hd]; simp
      have HSET := Lib.hid hset
      have HSAME := Lib.hid hsame
      clear hml hkl hpre hd hget htk hb hnext hset hsame
      by_cases h13 : b = 13
      · subst h13
        have hst := HBk.out.setAt (N0 + k) 32
        rw [show (32 : Int) = fixB 13 from rfl, HSET.out] at hst
        have HST := Lib.hid hst
        clear hst
        go_wp2
        go_roundw
        case rel => exact ⟨k + 1, by go_num, by omega, Lib.hid HST.out.1, Lib.hid (HSk.out.trans HST.out.2)⟩
        case measure => simp [intOf]; omega
      · have e13 : (b == 13) = false := beq_eq_false_iff_ne.2 h13
        by_cases h10 : b = 10
        · subst h10
          have hst := HBk.out.setAt (N0 + k) 32
          rw [show (32 : Int) = fixB 10 from rfl, HSET.out] at hst
          have HST := Lib.hid hst
          clear hst
          go_wp2
          go_roundw
          case rel => exact ⟨k + 1, by go_num, by omega, Lib.hid HST.out.1, Lib.hid (HSk.out.trans HST.out.2)⟩
          case measure => simp [intOf]; omega
        · have e10 : (b == 10) = false := beq_eq_false_iff_ne.2 h10
          have hs2 := HBk.out
          rw [HSAME.out (if_neg (by omega))] at hs2
          have HS2 := Lib.hid hs2
          clear hs2 h13 h10
          go_wp2
          go_roundw
          case rel => exact ⟨k + 1, by go_num, by omega, HS2, HSk⟩
          case measure => simp [intOf]; omega
    · obtain rfl : m = k := by omega
      have q1 : ¬ ((m : Int) < (m : Int)) := by omega
      go_wp2
      go_ret
      refine ⟨l1, A1, c1, rfl, ?_, ST.out.trans HSk.out⟩
      have := HBk.out
      rw [List.take_of_length_le (by rw [HM.out]; exact Nat.le_refl _), List.drop_eq_nil_of_le (by rw [HM.out]; exact Nat.le_refl _), List.append_nil] at this
      exact this
def tokH (c : Int) : Bool := decide (48 ≤ c ∧ c ≤ 57) || decide (65 ≤ c ∧ c ≤ 90) || decide (97 ≤ c ∧ c ≤ 122) || decide (c = 33 ∨ c = 35 ∨ c = 36 ∨ c = 37 ∨ c = 38 ∨ c = 39 ∨ c = 42 ∨ c = 43 ∨ c = 45 ∨ c = 46 ∨ c = 94 ∨ c = 95 ∨ c = 96 ∨ c = 124 ∨ c = 126)
def tokV (c : Int) : Int := if tokH c = true then 1 else 0
def lineOf (k v : List Int) : List Int := if k.all tokH = true then k ++ [58, 32] ++ v.map fixB ++ [13, 10] else []
theorem mr_read {w : World} {base n c e : Nat} {ok : Nat → Prop} {A : Option Addr} {xs : List Int} (h : MR.R (Kd.int .u8) e w base ok (.slice A n c) xs) : ReadsInt w .u8 A n xs := by
  obtain ⟨rfl, _, h3⟩ := MR.R_reads' h
  exact Kd.reads_of_C h3
theorem below_stp {w w' : World} (h : Below w.heap.size w w') (F : Nat → Prop) (l : Nat → Nat) : Stp F l l w w' := Stp.of_below_same h F l
set_option maxHeartbeats 4000000 in
set_option maxRecDepth 100000 in
theorem headerLine_calls (l : Nat → Nat) (w : World) (zd : Nat) (V : Value) (xs : List Int) (hV : Bf l w zd V xs) (A : Option Addr) (c : Nat) (ks : List Int) (hr : ∀ x ∈ ks, 0 ≤ x ∧ x ≤ 255) (hk : Src (· = zd) l w A ks.length ks) (B : Option Addr) (d : Nat) (ys : List Int) (hs : Src (· = zd) l w B ys.length ys) (hl : xs.length + (ks.length + ys.length + 4) ≤ 140737488355328) :
    Calls Try.prog 71 #[V, .slice A ks.length c, .slice B ys.length d] w fun e w' => ∃ l1 A1 c1, e = .returned (.slice A1 (xs ++ lineOf ks ys).length c1) ∧ Bf l1 w' zd (.slice A1 (xs ++ lineOf ks ys).length c1) (xs ++ lineOf ks ys) ∧ Stp (· = zd) l l1 w w' := by
  obtain ⟨A0, c0, rfl, _⟩ := hV.slice
  obtain ⟨N0, hN0⟩ : ∃ n, xs.length = n := ⟨_, rfl⟩
  obtain ⟨m, hm⟩ : ∃ n, ks.length = n := ⟨_, rfl⟩
  obtain ⟨m2, hm2⟩ : ∃ n, ys.length = n := ⟨_, rfl⟩
  have HV := Lib.hid hV
  have HS := Lib.hid hs
  have HK := Lib.hid hk
  have HR := Lib.hid hr
  have HN0 := Lib.hid hN0
  have HM := Lib.hid hm
  have HM2 := Lib.hid hm2
  rw [hm, hm2, hN0]
  rw [hN0, hm, hm2] at hl
  have HL := Lib.hid hl
  have hmb : m ≤ 140737488355328 := by omega
  clear hV hs hk hr hN0 hm hm2 hl
  go_enter Try.func71, Try.ntmps71
  go_wp2
  go_loopw [8, 11] (fun _ iv wr => ∃ k : Nat, iv = .int .i64 k ∧ k ≤ m ∧ wr = w ∧ Hid (∀ j : Nat, j < k → tokH (ks.getD j 0) = true)) (fun _ iv _ => m - (intOf iv).toNat)
  case atStart => exact ⟨0, rfl, by omega, rfl, Lib.hid (fun j hj => absurd hj (by omega))⟩
  case round =>
    obtain ⟨k, rfl, hk, rfl, HA⟩ := hrel
    by_cases hlt : k < m
    · have q1 : (k : Int) < (m : Int) := by omega
      obtain ⟨b, hb⟩ : ∃ b, ks.getD k 0 = b := ⟨_, rfl⟩
      have hkr : 0 ≤ b ∧ b ≤ 255 := by
        have := HR.out (ks.getD k 0) (by
          have := HM.out
          rw [List.getD_eq_getElem?_getD, List.getElem?_eq_getElem (by omega)]; exact List.getElem_mem _)
        rwa [hb] at this
      obtain ⟨ad, rfl, hcell⟩ := HK.out.now.2.2 (by have := HM.out; omega)
      have x0 := hcell k (by have := HM.out; omega)
      rw [hb] at x0
      have HB := Lib.hid hb
      clear hcell hb
      by_cases ht : tokH b = true
      · have hv : tokV b = 1 := if_pos ht
        go_wp2_with (refine wpList_index_fn rfl 9 _ _ rfl _ _ .u8 rfl rfl Try.underlying9 hkr.1 hkr.2 tokV ?tb ?_; case tb => decide +kernel)
        go_roundw
        case rel =>
          refine ⟨k + 1, by go_num, by omega, by first | rfl | trivial, Lib.hid (fun j hj => ?_)⟩
          rcases Nat.lt_or_ge j k with h | h
          · exact HA.out j h
          · obtain rfl : j = k := by omega
            rw [HB.out]; exact ht
        case measure => simp [intOf]; omega
      · have hv : tokV b = 0 := if_neg ht
        have hbad : lineOf ks ys = [] := by
          unfold lineOf
          rw [if_neg]
          intro hall
          have := List.all_eq_true.1 hall (ks.getD k 0) (by
            have := HM.out
            rw [List.getD_eq_getElem?_getD, List.getElem?_eq_getElem (by omega)]; exact List.getElem_mem _)
          rw [HB.out] at this
          exact ht this
        have HBAD := Lib.hid hbad
        clear hbad
        go_wp2_with (refine wpList_index_fn rfl 9 _ _ rfl _ _ .u8 rfl rfl Try.underlying9 hkr.1 hkr.2 tokV ?tb ?_; case tb => decide +kernel)
        go_ret
        refine ⟨l, A0, c0, ?_, ?_, Stp.refl _ _ _⟩
        · rw [HBAD.out, List.append_nil, HN0.out]; rfl
        · rw [HBAD.out, List.append_nil]; exact HV.out
    · obtain rfl : m = k := by omega
      have q1 : ¬ ((m : Int) < (m : Int)) := by omega
      have hall : lineOf ks ys = ks ++ [58, 32] ++ ys.map fixB ++ [13, 10] := by
        unfold lineOf
        rw [if_pos]
        rw [List.all_eq_true]
        intro x hx
        obtain ⟨j, hj, rfl⟩ := List.mem_iff_getElem.1 hx
        have := HA.out j (by have := HM.out; omega)
        rwa [List.getD_eq_getElem?_getD, List.getElem?_eq_getElem hj] at this
      have HALL := Lib.hid hall
      clear hall
      go_wp2_with (first
        | (at_builtin
           refine app_row zd rfl (.tmp 20) (.tmp 21) 54 rfl Try.underlying54 info8 _ xs ks A m c rfl rfl (by have := HV.out; rw [HN0.out] at this; exact this) (by have := HK.out.now; rw [HM.out] at this; exact this) (by have := HL.out; rw [HN0.out]; omega) ?_
           intro v1 w1 l1 hB st _
           obtain ⟨A1, c1, rfl, hc1⟩ := hB.slice
           have hlen : (xs ++ ks).length = N0 + m := by rw [List.length_append, HN0.out, HM.out]
           rw [hlen] at hB
           rw [hlen]
           have B1 := Lib.hid hB
           have S1 := Lib.hid st
           clear hB st hlen hc1)
        | (go_at_call 100
           refine (hertzstr_StrColonSpace.calls [58, 32] _ rfl).mono ?_
           rintro e w2 ⟨v2, rfl, ho2, hb2⟩
           obtain ⟨A2, k2, rfl⟩ := MR.R_slice ho2
           have R2 := Lib.hid (mr_read ho2)
           have B2 := Lib.hid (B1.out.keep (below_stp hb2 (fun _ => False) l1) (fun k => k))
           have S2 := Lib.hid (S1.out.trans (below_stp hb2 (· = zd) l1))
           clear ho2 hb2)
        | (at_builtin
           refine app_row zd rfl (.tmp 23) (.tmp 24) 54 rfl Try.underlying54 info8 _ (xs ++ ks) [58, 32] A2 2 k2 rfl rfl B2.out R2.out (by have := HL.out; rw [List.length_append, HN0.out, HM.out]; omega) ?_
           intro v3 w3 l3 hB st _
           obtain ⟨A3, c3, rfl, hc3⟩ := hB.slice
           have hlen : (xs ++ ks ++ [58, 32]).length = N0 + m + 2 := by rw [List.length_append, List.length_append, HN0.out, HM.out]; rfl
           rw [hlen] at hB
           rw [hlen]
           have B3 := Lib.hid hB
           have S3 := Lib.hid (S2.out.trans st)
           clear hB st hlen hc3)
        | (go_at_call 101
           have q_ := headerValue_calls l3 w3 zd _ (xs ++ ks ++ [58, 32]) B3.out B d ys (HS.out.step S3.out) (by have := HL.out; have := HM2.out; rw [List.length_append, List.length_append, HN0.out, HM.out]; simp only [List.length_cons, List.length_nil]; omega)
           rw [HM2.out] at q_
           refine q_.mono ?_
           rintro e w4 ⟨l4, A4, c4, rfl, b4, s4⟩
           have hlen : (xs ++ ks ++ [58, 32] ++ ys.map fixB).length = N0 + m + 2 + m2 := by rw [List.length_append, List.length_append, List.length_append, List.length_map, HN0.out, HM.out, HM2.out]; rfl
           rw [hlen] at b4
           rw [hlen]
           have B4 := Lib.hid b4
           have S4 := Lib.hid (S3.out.trans s4)
           clear q_ b4 s4 hlen)
        | (go_at_call 72
           refine (hertzstr_StrCRLF.calls [13, 10] _ rfl).mono ?_
           rintro e w5 ⟨v5, rfl, ho5, hb5⟩
           obtain ⟨A5, k5, rfl⟩ := MR.R_slice ho5
           have R5 := Lib.hid (mr_read ho5)
           have B5 := Lib.hid (B4.out.keep (below_stp hb5 (fun _ => False) l4) (fun k => k))
           have S5 := Lib.hid (S4.out.trans (below_stp hb5 (· = zd) l4))
           clear ho5 hb5)
        | (at_builtin
           have h5 : (xs ++ ks ++ [58, 32] ++ ys.map fixB).length = N0 + m + 2 + m2 := by rw [List.length_append, List.length_append, List.length_append, List.length_map, HN0.out, HM.out, HM2.out]; rfl
           refine app_row zd rfl (.tmp 29) (.tmp 30) 54 rfl Try.underlying54 info8 _ (xs ++ ks ++ [58, 32] ++ ys.map fixB) [13, 10] A5 2 k5 rfl rfl B5.out R5.out (by have := HL.out; rw [h5]; omega) ?_
           intro v6 w6 l6 hB st _
           obtain ⟨A6, c6, rfl, hc6⟩ := hB.slice
           obtain ⟨N6, hN6⟩ : ∃ N, (xs ++ ks ++ [58, 32] ++ ys.map fixB ++ [13, 10]).length = N := ⟨_, rfl⟩
           rw [hN6] at hB
           rw [hN6]
           have HN6 := Lib.hid hN6
           have B6 := Lib.hid hB
           have S6 := Lib.hid (S5.out.trans st)
           clear hB st hc6 h5 hN6))
      go_ret
      have e : xs ++ ks ++ [58, 32] ++ ys.map fixB ++ [13, 10] = xs ++ lineOf ks ys := by rw [HALL.out]; simp
      refine ⟨_, A6, c6, by rw [← e, HN6.out]; rfl, by rw [← e, HN6.out]; exact B6.out, S6.out⟩
end Go.Proofs.Ytoimkmoalmmooaa.Own
