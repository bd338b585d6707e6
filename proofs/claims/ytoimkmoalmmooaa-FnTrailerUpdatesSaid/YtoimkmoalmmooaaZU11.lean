/- Texts of this claim, one behind the other (merged by wip/prune.py of this repo, without what the proof does not use): QA5, QA6, TMeth1, TAddN. -/
import Derived.Test.YtoimkmoalmmooaaZU4
import Derived.Test.YtoimkmoalmmooaaZU7
import Derived.Test.YtoimkmoalmmooaaZU10
namespace Go.Proofs.Ytoimkmoalmmooaa.QA
open Go.Proofs.Ytoimkmoalmmooaa.Given
open Go.Proofs.Ytoimkmoalmmooaa.PrX
open Go.RowKit Go.Proofs.YtoimkmoalmmooaaW.PrintWords Go.Proofs.YtoimkmoalmmooaaW.PrintLast Go.Proofs.YtoimkmoalmmooaaW.PrintMore
set_option linter.unusedVariables false
set_option linter.unusedSimpArgs false
set_option maxHeartbeats 8000000 in
set_option maxRecDepth 100000 in
theorem hertzproto_IsBadTrailer.calls_1 (k : Nat) (A0 : Option Addr) (c0 : Nat) (l0 : List Int) (r : Bool) (w : World) (hr0 : Kd.C (Kd.int .u8) w A0 l0.length l0) (hc0 : l0.length ≤ c0) (hcase : (Go.bits .or .u8 (rd l0 0) 32) = 112) (h : hertzproto_IsBadTrailer.f k l0 = some r) :
  Calls Try.prog 68 #[.slice A0 l0.length c0] w fun e w' => e = .returned (.bool r) ∧ Below w.heap.size w w' := by
 have HCASE_ := Aside0.mk hcase
 clear hcase
 have HR0 := Aside0.mk hr0
 have HC0 := Aside0.mk hc0
 clear hr0 hc0
 have HB := Aside0.mk (Below.refl w.heap.size w)
 have H : (if 0 < (l0.length : Int) then (if (Go.bits .or .u8 (rd l0 0) 32) = 97 then ((hertzstr_StrAuthorization.f).bind fun t104 => ((hertzutils_CaseInsensitiveCompare.f k l0 t104).bind fun t107 => (some t107))) else (if (Go.bits .or .u8 (rd l0 0) 32) = 99 then (if (l0.length : Int) ≥ 12 then (if 8 ≤ (l0.length : Int) then ((hertzstr_StrContentType.f).bind fun t109 => (if 8 ≤ (t109.length : Int) then ((hertzutils_CaseInsensitiveCompare.f k (l0.take 8) (t109.take 8)).bind fun t116 => (hertzproto_IsBadTrailer.j0 k l0 t116)) else (none))) else (none)) else (hertzproto_IsBadTrailer.j0 k l0 false)) else (if (Go.bits .or .u8 (rd l0 0) 32) = 101 then ((hertzstr_StrExpect.f).bind fun t157 => ((hertzutils_CaseInsensitiveCompare.f k l0 t157).bind fun t160 => (some t160))) else (if (Go.bits .or .u8 (rd l0 0) 32) = 104 then ((hertzstr_StrHost.f).bind fun t161 => ((hertzutils_CaseInsensitiveCompare.f k l0 t161).bind fun t164 => (some t164))) else (if (Go.bits .or .u8 (rd l0 0) 32) = 107 then ((hertzstr_StrKeepAlive.f).bind fun t165 => ((hertzutils_CaseInsensitiveCompare.f k l0 t165).bind fun t168 => (some t168))) else (if (Go.bits .or .u8 (rd l0 0) 32) = 109 then ((hertzstr_StrMaxForwards.f).bind fun t169 => ((hertzutils_CaseInsensitiveCompare.f k l0 t169).bind fun t172 => (some t172))) else (if (Go.bits .or .u8 (rd l0 0) 32) = 112 then (if (l0.length : Int) ≥ 16 then (if 6 ≤ (l0.length : Int) then ((hertzstr_StrProxyConnection.f).bind fun t174 => (if 6 ≤ (t174.length : Int) then ((hertzutils_CaseInsensitiveCompare.f k (l0.take 6) (t174.take 6)).bind fun t181 => (hertzproto_IsBadTrailer.j1 k l0 t181)) else (none))) else (none)) else (hertzproto_IsBadTrailer.j1 k l0 false)) else (if (Go.bits .or .u8 (rd l0 0) 32) = 114 then ((hertzstr_StrRange.f).bind fun t209 => ((hertzutils_CaseInsensitiveCompare.f k l0 t209).bind fun t212 => (some t212))) else (if (Go.bits .or .u8 (rd l0 0) 32) = 116 then ((hertzstr_StrTE.f).bind fun t213 => ((hertzutils_CaseInsensitiveCompare.f k l0 t213).bind fun t216 => (if t216 = true then (some true) else ((hertzstr_StrTrailer.f).bind fun t217 => ((hertzutils_CaseInsensitiveCompare.f k l0 t217).bind fun t220 => (if t220 = true then (some true) else ((hertzstr_StrTransferEncoding.f).bind fun t221 => ((hertzutils_CaseInsensitiveCompare.f k l0 t221).bind fun t224 => (some t224))))))))) else (if (Go.bits .or .u8 (rd l0 0) 32) = 119 then ((hertzstr_StrWWWAuthenticate.f).bind fun t225 => ((hertzutils_CaseInsensitiveCompare.f k l0 t225).bind fun t228 => (some t228))) else (some false))))))))))) else (none)) = some r := h
 clear h
 by_cases c2 : 0 < (l0.length : Int)
 ·rw [if_pos c2] at H
  have c2b0 : decide (0 < (l0.length : Int)) = true := decide_eq_true c2
  have c2b1 : decide (0 < l0.length) = true := decide_eq_true (by omega)
  clear c2
  by_cases c3 : (Go.bits .or .u8 (rd l0 0) 32) = 97
  ·exact absurd (HCASE_.out.symm.trans c3) (by decide)
  ·rw [if_neg c3] at H
   have c3b0 : ((Go.bits .or .u8 (rd l0 0) 32) == 97) = false := beq_eq_false_iff_ne.mpr c3
   have c3b1 : ((Go.bits .or .u8 (rd l0 0) 32) != 97) = true := bne_iff_ne.mpr c3
   by_cases c8 : (Go.bits .or .u8 (rd l0 0) 32) = 99
   ·exact absurd (HCASE_.out.symm.trans c8) (by decide)
   ·rw [if_neg c8] at H
    have c8b0 : ((Go.bits .or .u8 (rd l0 0) 32) == 99) = false := beq_eq_false_iff_ne.mpr c8
    have c8b1 : ((Go.bits .or .u8 (rd l0 0) 32) != 99) = true := bne_iff_ne.mpr c8
    by_cases c89 : (Go.bits .or .u8 (rd l0 0) 32) = 101
    ·exact absurd (HCASE_.out.symm.trans c89) (by decide)
    ·rw [if_neg c89] at H
     have c89b0 : ((Go.bits .or .u8 (rd l0 0) 32) == 101) = false := beq_eq_false_iff_ne.mpr c89
     have c89b1 : ((Go.bits .or .u8 (rd l0 0) 32) != 101) = true := bne_iff_ne.mpr c89
     by_cases c94 : (Go.bits .or .u8 (rd l0 0) 32) = 104
     ·exact absurd (HCASE_.out.symm.trans c94) (by decide)
     ·rw [if_neg c94] at H
      have c94b0 : ((Go.bits .or .u8 (rd l0 0) 32) == 104) = false := beq_eq_false_iff_ne.mpr c94
      have c94b1 : ((Go.bits .or .u8 (rd l0 0) 32) != 104) = true := bne_iff_ne.mpr c94
      by_cases c99 : (Go.bits .or .u8 (rd l0 0) 32) = 107
      ·exact absurd (HCASE_.out.symm.trans c99) (by decide)
      ·rw [if_neg c99] at H
       have c99b0 : ((Go.bits .or .u8 (rd l0 0) 32) == 107) = false := beq_eq_false_iff_ne.mpr c99
       have c99b1 : ((Go.bits .or .u8 (rd l0 0) 32) != 107) = true := bne_iff_ne.mpr c99
       by_cases c104 : (Go.bits .or .u8 (rd l0 0) 32) = 109
       ·exact absurd (HCASE_.out.symm.trans c104) (by decide)
       ·rw [if_neg c104] at H
        have c104b0 : ((Go.bits .or .u8 (rd l0 0) 32) == 109) = false := beq_eq_false_iff_ne.mpr c104
        have c104b1 : ((Go.bits .or .u8 (rd l0 0) 32) != 109) = true := bne_iff_ne.mpr c104
        by_cases c109 : (Go.bits .or .u8 (rd l0 0) 32) = 112
        ·rw [if_pos c109] at H
         have c109b0 : ((Go.bits .or .u8 (rd l0 0) 32) == 112) = true := beq_iff_eq.mpr c109
         have c109b1 : ((Go.bits .or .u8 (rd l0 0) 32) != 112) = false := bne_eq_false_iff_eq.mpr c109
         clear c109
         have HC110 := Aside0.mk H
         clear H
         have p103 : 0 ≤ (0 : Int) := (by omega)
         have q103 : 0 < (l0.length : Int) := of_decide_eq_true (by first | (with_reducible assumption) | assumption)
         obtain ⟨ad103, e103, hx103_0⟩ := Kd.at_int HR0.out 0 p103 q103
         cases e103
         have qi103 : (0 < l0.length) = True := eq_true (by omega)
         (try rw [show ((0 : Int)).toNat = 0 from rfl] at hx103_0)
         (try rw [Addr.add_zero'] at hx103_0)
         replace p103 := eq_true p103
         replace q103 := eq_true q103
         go_enter Try.func68, Try.ntmps68
         go_upto_region 17 with (fail)
         go_cut [84] (fun v84 wc => ∃ (kq : Nat) (x84_109 : Bool), v84 = .bool x84_109 ∧ Aside0 (hertzproto_IsBadTrailer.j1 kq l0 x84_109 = some r) ∧ Aside0 (kq ≤ k) ∧ Aside0 (Below w.heap.size w wc))
         case first =>
          have H := HC110.out
          clear HC110
          by_cases c111 : (l0.length : Int) ≥ 16
          ·rw [if_pos c111] at H
           have c111b0 : decide (16 ≤ (l0.length : Int)) = true := decide_eq_true c111
           have c111b1 : decide (16 ≤ l0.length) = true := decide_eq_true (by omega)
           clear c111
           (first | rw [c111b0] | (simp only [i64_w, i32_w]; rw [c111b0]) | skip)
           by_cases c112 : 6 ≤ (l0.length : Int)
           ·rw [if_pos c112] at H
            have c112b0 := eq_true c112
            have c112b1 : decide (6 ≤ (l0.length : Int)) = true := decide_eq_true c112
            clear c112
            replace H := Option.bind_eq_some_iff.mp H
            obtain ⟨t174, A1130, H⟩ := H
            replace H : (if 6 ≤ (t174.length : Int) then ((hertzutils_CaseInsensitiveCompare.f k (l0.take 6) (t174.take 6)).bind fun t181 => (hertzproto_IsBadTrailer.j1 k l0 t181)) else (none)) = some r := H
            have A113 := Aside0.mk A1130
            clear A1130
            by_cases c114 : 6 ≤ (t174.length : Int)
            ·rw [if_pos c114] at H
             have c114b0 := eq_true c114
             have c114b1 : decide (6 ≤ (t174.length : Int)) = true := decide_eq_true c114
             clear c114
             obtain ⟨y177, hy177⟩ : ∃ y_ : List Int, y_ = (t174.take 6) := ⟨_, rfl⟩
             replace H : ((hertzutils_CaseInsensitiveCompare.f k (l0.take 6) y177).bind fun t181 => (hertzproto_IsBadTrailer.j1 k l0 t181)) = some r := by first | (rw [hy177]; with_reducible exact H) | (have H2_ := (Option.bind_some _ _).symm.trans H; rw [hy177]; with_reducible exact H2_) | (have H2_ := (Option.bind_some _ _).symm.trans H; with_reducible exact H2_) | with_reducible exact H | (rw [hy177]; exact H) | exact H
             have Ny177 := Aside0.mk hy177
             clear hy177
             replace H := Option.bind_eq_some_iff.mp H
             obtain ⟨t181, A1150, H⟩ := H
             replace H : (hertzproto_IsBadTrailer.j1 k l0 t181) = some r := H
             have A115 := Aside0.mk A1150
             clear A1150
             have H' := Aside0.mk H
             clear H
             try go_wp2
             have n0_ := Aside0.mk (below_drew1 HB.out)
             clear HB
             have HB := n0_
             clear n0_
             obtain ⟨i0117, hi0117, _, hsz117, _⟩ := info_parts info5
             obtain ⟨hcut117, hA117, hC117⟩ := print_take_of (P := Try.prog) (Value.int .u8) 0 54 5 .i64 Try.underlying54 hi0117 hsz117 (some ad103) c0 l0 6 (by omega) (of_decide_eq_true (by first | (with_reducible assumption) | assumption)) HC0.out
             have HR173 := Aside0.mk (Kd.C_of_reads (h1 := fun _ => rfl) (hA117 _ (Kd.reads_of_C HR0.out)))
             have HC173 := Aside0.mk hC117
             clear hA117 hC117 hi0117 hsz117
             refine start_ (n := 10) (S := fun w' => True) (ds := []) #[false,false,false,false,false,false,false,false,false,false] (by kernel_rfl) rfl rfl trivial (fun hHeld => ?_); refine with_tabW hertzproto_IsBadTrailer.tab17 hertzproto_IsBadTrailer.bits17 (fun HT_ HW_ => ?_)
             generalize w.drew = w116 at HB HR173 hHeld ⊢
             refine pure_ (i := 0) (N := some 75) (v := ?_) (a' := ?_) #[true,false,false,false,false,false,false,false,false,false] rfl rfl (any_of HT_.out (by kernel_rfl)) (fun _ _ _ h => h) (Or.inl ⟨by rfl, ?_⟩) ?_ ?_
             rotate_left
             ·intro w'
              go_simp
              with_reducible rfl
             rotate_left
             ·simp only [Act.put, List.setIfInBounds_toArray, List.set_cons_zero, List.set_cons_succ, i64_w, i32_w]
              rfl
             refine pure_ (i := 1) (N := some 76) (v := ?_) (a' := ?_) #[true,true,false,false,false,false,false,false,false,false] rfl rfl (any_of HT_.out (by kernel_rfl)) (fun _ _ _ h => h) (Or.inl ⟨by rfl, ?_⟩) ?_ ?_
             rotate_left
             ·intro w'
              go_simp
              with_reducible rfl
             rotate_left
             ·simp only [Act.put, List.setIfInBounds_toArray, List.set_cons_zero, List.set_cons_succ, i64_w, i32_w]
              rfl
             refine pure_ (i := 2) (N := some 77) (v := ?_) (a' := ?_) #[true,true,true,false,false,false,false,false,false,false] rfl rfl (any_of HT_.out (by kernel_rfl)) (fun _ _ _ h => h) (Or.inl ⟨by rfl, ?_⟩) ?_ ?_
             rotate_left
             ·intro w'
              go_simp
              with_reducible rfl
             rotate_left
             ·simp only [Act.put, List.setIfInBounds_toArray, List.set_cons_zero, List.set_cons_succ, i64_w, i32_w]
              rfl
             refine pure_ (i := 3) (N := some 78) (v := ?_) (a' := ?_) #[true,true,true,true,false,false,false,false,false,false] rfl rfl (any_of HT_.out (by kernel_rfl)) (fun _ _ _ h => h) (Or.inl ⟨by rfl, ?_⟩) ?_ ?_
             rotate_left
             ·intro w'
              go_simp
              with_reducible rfl
             rotate_left
             ·simp only [Act.put, List.setIfInBounds_toArray, List.set_cons_zero, List.set_cons_succ, i64_w, i32_w]
              rfl
             refine pure_ (i := 4) (N := some 79) (v := ?_) (a' := ?_) #[true,true,true,true,true,false,false,false,false,false] rfl rfl (any_of HT_.out (by kernel_rfl)) (fun _ _ _ h => h) (Or.inl ⟨by rfl, ?_⟩) ?_ ?_
             rotate_left
             ·intro w'
              go_simp
              with_reducible rfl
             rotate_left
             ·simp only [Act.put, List.setIfInBounds_toArray, List.set_cons_zero, List.set_cons_succ, i64_w, i32_w]
              rfl
             refine pure_ (i := 5) (N := some 80) (v := ?_) (a' := ?_) #[true,true,true,true,true,true,false,false,false,false] rfl rfl (any_of HT_.out (by kernel_rfl)) (fun _ _ _ h => h) (Or.inl ⟨by rfl, ?_⟩) ?_ ?_
             rotate_left
             ·intro w'
              go_simp
              with_reducible rfl
             rotate_left
             ·simp only [Act.put, List.setIfInBounds_toArray, List.set_cons_zero, List.set_cons_succ, i64_w, i32_w]
              rfl
             refine one_ (i := 6) (N := some 81) #[true,true,true,true,true,true,true,false,false,false] rfl rfl (one_of HT_.out (by kernel_rfl)) (by decide) (fun K hK => ?_)
             refine goes_ Try.func91 (by kernel_rfl) rfl #[] (by rfl) rfl rfl (by (try simp only [List.map_toArray, List.map_cons, List.map_nil]); first | done | rfl | (simp only [List.length_drop, List.length_take]; rfl)) ?_
             with_reducible refine (hertzstr_StrProxyConnection.calls  t174 _ A113.out).mono ?_
             rintro e w118 ⟨v175, rfl, ho0, hb⟩
             refine ⟨_, rfl, ?_⟩
             have n0_ := Aside0.mk (MR.R_lower ho0 (below_size (by repeat (first | (with_reducible first | exact HB.out | apply below_alloc | apply pw_below_drewN | apply below_drew1) | exact HB.out))))
             have n1_ := Aside0.mk (below_step (by repeat (first | (with_reducible first | exact HB.out | apply below_alloc | apply pw_below_drewN | apply below_drew1) | exact HB.out)) hb)
             clear HB
             have HO176 := n0_
             have HB := n1_
             clear n0_ n1_
             (try clear hb)
             (try clear hb2)
             (try clear hk)
             (try clear hi)
             (try clear ho0)
             obtain ⟨Ao120, co120, eo120⟩ := MR.R_slice HO176.out
             (first | subst eo120 | (injection eo120 with f1_ f2_ f3_; have f4_ := f1_.symm; have f5_ := f3_.symm; clear f1_ f2_ f3_; subst f4_; subst f5_))
             have q119 : (6 : Int) ≤ ((t174.length : Int) : Int) := of_decide_eq_true (by first | (with_reducible assumption) | assumption)
             obtain ⟨i0119, hi0119, _, hsz119, _⟩ := info_parts info5
             have hroom119 : t174.length ≤ co120 := (MR.R_reads' HO176.out).2.1
             have hC119 : Kd.C (Kd.int .u8) _ Ao120 t174.length t174 := (MR.R_reads' HO176.out).2.2
             have hcut119 := cut_to (P := Try.prog) 54 5 .i64 Try.underlying54 hi0119 Ao120 t174.length co120 6 (by omega) q119 hroom119
             have hr119 := Kd.C_take (m := 6) hC119 (by omega)
             have hy119 : y177.length = (6 : Int).toNat := (by rw [Ny177.out, List.length_take]; omega)
             rw [← Ny177.out] at hr119
             rw [← hy119] at hcut119
             have HR180 := Aside0.mk hr119
             have HC180 := Aside0.mk (show y177.length ≤ co120 from by omega)
             clear hr119 hC119 hroom119 hi0119 hsz119
             have KY119 := Aside0.mk hy119
             clear hy119
             have KL119 := Aside0.mk (show 6 ≤ t174.length from by omega)
             replace q119 := eq_true q119
             refine hK.out _ _ trivial (fun hHeld => ?_)
             clear hK K
             refine norm_ (a' := ?_) ?_ ?_
             rotate_left
             ·show Act.put _ (some 81) _ = _
              simp only [Act.put, List.setIfInBounds_toArray, List.set_cons_zero, List.set_cons_succ, i64_w, i32_w]
              rfl
             refine pure_ (i := 7) (N := some 82) (v := ?_) (a' := ?_) #[true,true,true,true,true,true,true,true,false,false] rfl rfl (any_of HT_.out (by kernel_rfl)) (fun _ _ _ h => h) (Or.inl ⟨by rfl, ?_⟩) ?_ ?_
             rotate_left
             ·intro w'
              go_simp
              with_reducible rfl
             rotate_left
             ·simp only [Act.put, List.setIfInBounds_toArray, List.set_cons_zero, List.set_cons_succ, i64_w, i32_w]
              rfl
             refine one_ (i := 8) (N := some 83) #[true,true,true,true,true,true,true,true,true,false] rfl rfl (one_of HT_.out (by kernel_rfl)) (by decide) (fun K hK => ?_)
             refine goes_ Try.func80 (by kernel_rfl) rfl #[.slice (some ad103) (l0.take 6).length c0, .slice Ao120 y177.length co120] (by rfl) rfl rfl (by (try simp only [List.map_toArray, List.map_cons, List.map_nil]); first | done | (rw [show (l0.take 6).length = 6 from (by rw [List.length_take]; have h_ : (6 : Int) ≤ (l0.length : Int) := of_decide_eq_true (by first | (with_reducible assumption) | assumption); omega)] <;> rfl) | rfl | (simp only [List.length_drop, List.length_take]; rfl)) ?_
             with_reducible refine (hertzutils_CaseInsensitiveCompare.calls k _ _ (l0.take 6) _ _ y177 t181 _ ?side1 ?side2 ?side3 ?side4 A115.out).mono ?_
             (case side1 => repeat (first | exact (Kd.C_below HR173.out HB.out) | (with_reducible refine Kd.C_alloc ?_ _) | (with_reducible refine Kd.C_drewN ?_ _) | (with_reducible refine Kd.C_drew ?_)))
             (case side2 => exact HC173.out)
             (case side3 => repeat (first | exact (by repeat (first | (with_reducible exact HR180.out) | (with_reducible refine Kd.C_alloc ?_ _) | (with_reducible refine Kd.C_drewN ?_ _) | (with_reducible refine Kd.C_drew ?_) | exact HR180.out)) | (with_reducible refine Kd.C_alloc ?_ _) | (with_reducible refine Kd.C_drewN ?_ _) | (with_reducible refine Kd.C_drew ?_)))
             (case side4 => exact HC180.out)
             rintro e w' ⟨rfl, ⟨nd, rfl⟩⟩
             refine ⟨_, rfl, ?_⟩
             refine hK.out _ _ trivial (fun hHeld => ?_)
             clear hK K
             refine norm_ (a' := ?_) ?_ ?_
             rotate_left
             ·show Act.put _ (some 83) _ = _
              simp only [Act.put, List.setIfInBounds_toArray, List.set_cons_zero, List.set_cons_succ, i64_w, i32_w]
              rfl
             refine pure_ (i := 9) (N := some 84) (v := ?_) (a' := ?_) #[true,true,true,true,true,true,true,true,true,true] rfl rfl (any_of HT_.out (by kernel_rfl)) (fun _ _ _ h => h) (Or.inl ⟨by rfl, ?_⟩) ?_ ?_
             rotate_left
             ·intro w'
              go_simp
              with_reducible rfl
             rotate_left
             ·simp only [Act.put, List.setIfInBounds_toArray, List.set_cons_zero, List.set_cons_succ, i64_w, i32_w]
              rfl
             refine done_ (done_of HT_.out (by kernel_rfl)) ?_
             try go_wp2
             go_meet
             case rel => exact ⟨_, (t181), (by first | rfl | (simp; done) | (rw [prx_ne]; first | done | rfl) | (simp [*]; done)), H', ⟨by first | omega | exact Nat.le_refl _⟩, ⟨by repeat (first | (with_reducible first | exact HB.out | apply below_alloc | apply pw_below_drewN | apply below_drew1) | exact HB.out)⟩⟩
            ·rw [if_neg c114] at H
             exact absurd H (by simp)
           ·rw [if_neg c112] at H
            exact absurd H (by simp)
          ·rw [if_neg c111] at H
           have c111b0 : decide (16 ≤ (l0.length : Int)) = false := decide_eq_false c111
           have c111b1 : decide (16 ≤ l0.length) = false := decide_eq_false (by omega)
           clear c111
           (first | rw [c111b0] | (simp only [i64_w, i32_w]; rw [c111b0]) | skip)
           have H' := Aside0.mk H
           clear H
           try go_wp2
           have n0_ := Aside0.mk (below_drew1 HB.out)
           clear HB
           have HB := n0_
           clear n0_
           refine start_ (n := 10) (S := fun w' => True) (ds := []) #[false,false,false,false,false,false,false,false,false,false] (by kernel_rfl) rfl rfl trivial (fun hHeld => ?_); refine with_tabW hertzproto_IsBadTrailer.tab17 hertzproto_IsBadTrailer.bits17 (fun HT_ HW_ => ?_)
           generalize w.drew = w121 at HB hHeld ⊢
           refine pure_ (i := 0) (N := some 75) (v := ?_) (a' := ?_) #[true,false,false,false,false,false,false,false,false,false] rfl rfl (any_of HT_.out (by kernel_rfl)) (fun _ _ _ h => h) (Or.inl ⟨by rfl, ?_⟩) ?_ ?_
           rotate_left
           ·intro w'
            go_simp
            with_reducible rfl
           rotate_left
           ·simp only [Act.put, List.setIfInBounds_toArray, List.set_cons_zero, List.set_cons_succ, i64_w, i32_w]
            rfl
           refine pure_ (i := 1) (N := some 76) (v := ?_) (a' := ?_) #[true,true,false,false,false,false,false,false,false,false] rfl rfl (any_of HT_.out (by kernel_rfl)) (fun _ _ _ h => h) (Or.inl ⟨by rfl, ?_⟩) ?_ ?_
           rotate_left
           ·intro w'
            go_simp
            with_reducible rfl
           rotate_left
           ·simp only [Act.put, List.setIfInBounds_toArray, List.set_cons_zero, List.set_cons_succ, i64_w, i32_w]
            rfl
           refine pure_ (i := 2) (N := some 77) (v := ?_) (a' := ?_) #[true,true,true,false,false,false,false,false,false,false] rfl rfl (any_of HT_.out (by kernel_rfl)) (fun _ _ _ h => h) (Or.inl ⟨by rfl, ?_⟩) ?_ ?_
           rotate_left
           ·intro w'
            go_simp
            with_reducible rfl
           rotate_left
           ·simp only [Act.put, List.setIfInBounds_toArray, List.set_cons_zero, List.set_cons_succ, i64_w, i32_w]
            rfl
           refine pure_ (i := 3) (N := some 78) (v := ?_) (a' := ?_) #[true,true,true,true,false,false,false,false,false,false] rfl rfl (any_of HT_.out (by kernel_rfl)) (fun _ _ _ h => h) (Or.inl ⟨by rfl, ?_⟩) ?_ ?_
           rotate_left
           ·intro w'
            go_simp
            with_reducible rfl
           rotate_left
           ·simp only [Act.put, List.setIfInBounds_toArray, List.set_cons_zero, List.set_cons_succ, i64_w, i32_w]
            rfl
           refine pure_ (i := 4) (N := some 79) (v := undef) (a' := ?_) #[true,true,true,true,true,false,false,false,false,false] rfl rfl (any_of HT_.out (by kernel_rfl)) (fun _ _ _ h => h) (Or.inr ⟨by rfl, rfl⟩) ?_ ?_
           rotate_left
           ·simp only [Act.put, List.setIfInBounds_toArray, List.set_cons_zero, List.set_cons_succ, i64_w, i32_w]
            rfl
           refine pure_ (i := 5) (N := some 80) (v := undef) (a' := ?_) #[true,true,true,true,true,true,false,false,false,false] rfl rfl (any_of HT_.out (by kernel_rfl)) (fun _ _ _ h => h) (Or.inr ⟨by rfl, rfl⟩) ?_ ?_
           rotate_left
           ·simp only [Act.put, List.setIfInBounds_toArray, List.set_cons_zero, List.set_cons_succ, i64_w, i32_w]
            rfl
           refine pure_ (i := 6) (N := some 81) (v := undef) (a' := ?_) #[true,true,true,true,true,true,true,false,false,false] rfl rfl (any_of HT_.out (by kernel_rfl)) (fun _ _ _ h => h) (Or.inr ⟨by rfl, rfl⟩) ?_ ?_
           rotate_left
           ·simp only [Act.put, List.setIfInBounds_toArray, List.set_cons_zero, List.set_cons_succ, i64_w, i32_w]
            rfl
           refine pure_ (i := 7) (N := some 82) (v := undef) (a' := ?_) #[true,true,true,true,true,true,true,true,false,false] rfl rfl (any_of HT_.out (by kernel_rfl)) (fun _ _ _ h => h) (Or.inr ⟨by rfl, rfl⟩) ?_ ?_
           rotate_left
           ·simp only [Act.put, List.setIfInBounds_toArray, List.set_cons_zero, List.set_cons_succ, i64_w, i32_w]
            rfl
           refine pure_ (i := 8) (N := some 83) (v := undef) (a' := ?_) #[true,true,true,true,true,true,true,true,true,false] rfl rfl (any_of HT_.out (by kernel_rfl)) (fun _ _ _ h => h) (Or.inr ⟨by rfl, rfl⟩) ?_ ?_
           rotate_left
           ·simp only [Act.put, List.setIfInBounds_toArray, List.set_cons_zero, List.set_cons_succ, i64_w, i32_w]
            rfl
           refine pure_ (i := 9) (N := some 84) (v := ?_) (a' := ?_) #[true,true,true,true,true,true,true,true,true,true] rfl rfl (any_of HT_.out (by kernel_rfl)) (fun _ _ _ h => h) (Or.inl ⟨by rfl, ?_⟩) ?_ ?_
           rotate_left
           ·intro w'
            go_simp
            with_reducible rfl
           rotate_left
           ·simp only [Act.put, List.setIfInBounds_toArray, List.set_cons_zero, List.set_cons_succ, i64_w, i32_w]
            rfl
           refine done_ (done_of HT_.out (by kernel_rfl)) ?_
           try go_wp2
           go_meet
           case rel => exact ⟨_, (false), (by first | rfl | (simp; done) | (rw [prx_ne]; first | done | rfl) | (simp [*]; done)), H', ⟨by first | omega | exact Nat.le_refl _⟩, ⟨by repeat (first | (with_reducible first | exact HB.out | apply below_alloc | apply pw_below_drewN | apply below_drew1) | exact HB.out)⟩⟩
         case rest =>
          clear HC110
          try clear c1
          try clear p1
          try clear q1
          try clear hx1
          try clear qi1
          try clear c2
          try clear p2
          try clear c3
          try clear c4
          try clear c6
          try clear c7
          try clear c8
          try clear c8b0
          try clear c8b1
          try clear q8
          try clear c9
          try clear c10
          try clear p10
          try clear q10
          try clear hx10
          try clear qi10
          try clear c11
          try clear q11
          try clear c21
          try clear c22
          try clear c24
          try clear c34
          try clear c48
          try clear c66
          try clear c68
          try clear c79
          try clear c80
          try clear c83
          try clear q83
          try clear c85
          try clear c86
          try clear c87
          try clear c88
          try clear c89
          try clear c89b0
          try clear c89b1
          try clear c90
          try clear c91
          try clear c94
          try clear c94b0
          try clear c94b1
          try clear c99
          try clear c99b0
          try clear c99b1
          try clear p103
          try clear q103
          try clear hx103
          try clear qi103
          try clear c104
          try clear c104b0
          try clear c104b1
          try clear c109
          try clear c109b0
          try clear c109b1
          try clear c111
          try clear c111b0
          try clear c111b1
          try clear c112
          try clear c112b0
          try clear c112b1
          try clear c114
          try clear c114b0
          try clear c114b1
          try clear q119
          try clear hx103_0
          try clear p103
          try clear q103
          try clear q119
          try clear q83
          obtain ⟨kq, x84_109, rfl, HA, HJ109, HB⟩ := hcut
          cases kq with
          | zero => exact absurd HA.out (by simp [hertzproto_IsBadTrailer.j1])
          | succ kj109 =>
           have H := HA.out
           clear HA
           simp only [hertzproto_IsBadTrailer.j1] at H
           by_cases c122 : x84_109 = true
           ·subst c122
            have H1 : (if 6 ≤ (l0.length : Int) then ((hertzstr_StrProxyConnection.f).bind fun t183 => (if 6 ≤ (t183.length : Int) then ((hertzutils_CaseInsensitiveCompare.f kj109 (l0.drop 6) (t183.drop 6)).bind fun t190 => (if t190 = true then (some true) else ((hertzstr_StrProxyAuthenticate.f).bind fun t192 => (if 6 ≤ (t192.length : Int) then ((hertzutils_CaseInsensitiveCompare.f kj109 (l0.drop 6) (t192.drop 6)).bind fun t199 => (if t199 = true then (some true) else ((hertzstr_StrProxyAuthorization.f).bind fun t201 => (if 6 ≤ (t201.length : Int) then ((hertzutils_CaseInsensitiveCompare.f kj109 (l0.drop 6) (t201.drop 6)).bind fun t208 => (some t208)) else (none))))) else (none))))) else (none))) else (none)) = some r := by rw [if_pos rfl] at H; exact H
            clear H
            have H := H1
            clear H1
            by_cases c123 : 6 ≤ (l0.length : Int)
            ·rw [if_pos c123] at H
             have c123b0 := eq_true c123
             have c123b1 : decide (6 ≤ (l0.length : Int)) = true := decide_eq_true c123
             clear c123
             replace H := Option.bind_eq_some_iff.mp H
             obtain ⟨t183, A1240, H⟩ := H
             replace H : (if 6 ≤ (t183.length : Int) then ((hertzutils_CaseInsensitiveCompare.f kj109 (l0.drop 6) (t183.drop 6)).bind fun t190 => (if t190 = true then (some true) else ((hertzstr_StrProxyAuthenticate.f).bind fun t192 => (if 6 ≤ (t192.length : Int) then ((hertzutils_CaseInsensitiveCompare.f kj109 (l0.drop 6) (t192.drop 6)).bind fun t199 => (if t199 = true then (some true) else ((hertzstr_StrProxyAuthorization.f).bind fun t201 => (if 6 ≤ (t201.length : Int) then ((hertzutils_CaseInsensitiveCompare.f kj109 (l0.drop 6) (t201.drop 6)).bind fun t208 => (some t208)) else (none))))) else (none))))) else (none)) = some r := H
             have A124 := Aside0.mk A1240
             clear A1240
             by_cases c125 : 6 ≤ (t183.length : Int)
             ·rw [if_pos c125] at H
              have c125b0 := eq_true c125
              have c125b1 : decide (6 ≤ (t183.length : Int)) = true := decide_eq_true c125
              clear c125
              obtain ⟨y186, hy186⟩ : ∃ y_ : List Int, y_ = (t183.drop 6) := ⟨_, rfl⟩
              replace H : ((hertzutils_CaseInsensitiveCompare.f kj109 (l0.drop 6) y186).bind fun t190 => (if t190 = true then (some true) else ((hertzstr_StrProxyAuthenticate.f).bind fun t192 => (if 6 ≤ (t192.length : Int) then ((hertzutils_CaseInsensitiveCompare.f kj109 (l0.drop 6) (t192.drop 6)).bind fun t199 => (if t199 = true then (some true) else ((hertzstr_StrProxyAuthorization.f).bind fun t201 => (if 6 ≤ (t201.length : Int) then ((hertzutils_CaseInsensitiveCompare.f kj109 (l0.drop 6) (t201.drop 6)).bind fun t208 => (some t208)) else (none))))) else (none))))) = some r := by first | (rw [hy186]; with_reducible exact H) | (have H2_ := (Option.bind_some _ _).symm.trans H; rw [hy186]; with_reducible exact H2_) | (have H2_ := (Option.bind_some _ _).symm.trans H; with_reducible exact H2_) | with_reducible exact H | (rw [hy186]; exact H) | exact H
              have Ny186 := Aside0.mk hy186
              clear hy186
              replace H := Option.bind_eq_some_iff.mp H
              obtain ⟨t190, A1260, H⟩ := H
              replace H : (if t190 = true then (some true) else ((hertzstr_StrProxyAuthenticate.f).bind fun t192 => (if 6 ≤ (t192.length : Int) then ((hertzutils_CaseInsensitiveCompare.f kj109 (l0.drop 6) (t192.drop 6)).bind fun t199 => (if t199 = true then (some true) else ((hertzstr_StrProxyAuthorization.f).bind fun t201 => (if 6 ≤ (t201.length : Int) then ((hertzutils_CaseInsensitiveCompare.f kj109 (l0.drop 6) (t201.drop 6)).bind fun t208 => (some t208)) else (none))))) else (none)))) = some r := H
              have A126 := Aside0.mk A1260
              clear A1260
              by_cases c127 : t190 = true
              ·subst c127
               have H1 : (some true) = some r := by rw [if_pos rfl] at H; exact H
               clear H
               have H := H1
               clear H1
               obtain rfl := Option.some.inj H
               try go_wp2
               have n0_ := Aside0.mk (below_drew1 HB.out)
               clear HB
               have HB := n0_
               clear n0_
               obtain ⟨i0129, hi0129, _, hsz129, _⟩ := info_parts info5
               obtain ⟨A129, hcut129, hA129, hC129⟩ := print_drop_of (P := Try.prog) (Value.int .u8) 0 54 5 .i64 Try.underlying54 hi0129 hsz129 (some ad103) c0 l0 6 (by omega) (of_decide_eq_true (by first | (with_reducible assumption) | assumption)) HC0.out
               have HR182 := Aside0.mk (Kd.C_of_reads (h1 := fun _ => rfl) (hA129 _ (Kd.reads_of_C HR0.out)))
               have HC182 := Aside0.mk hC129
               clear hA129 hC129 hi0129 hsz129
               refine start_ (n := 20) (S := fun w' => True) (ds := []) #[false,false,false,false,false,false,false,false,false,false,false,false,false,false,false,false,false,false,false,false] (by kernel_rfl) rfl rfl trivial (fun hHeld => ?_); refine with_tabW hertzproto_IsBadTrailer.tab18 hertzproto_IsBadTrailer.bits18 (fun HT_ HW_ => ?_)
               generalize wc.drew = w128 at HB HR182 hHeld ⊢
               refine pure_ (i := 0) (N := some 85) (v := ?_) (a' := ?_) #[true,false,false,false,false,false,false,false,false,false,false,false,false,false,false,false,false,false,false,false] rfl rfl (any_of HT_.out (by kernel_rfl)) (fun _ _ _ h => h) (Or.inl ⟨by rfl, ?_⟩) ?_ ?_
               rotate_left
               ·intro w'
                go_simp
                with_reducible rfl
               rotate_left
               ·simp only [Act.put, List.setIfInBounds_toArray, List.set_cons_zero, List.set_cons_succ, i64_w, i32_w]
                rfl
               refine pure_ (i := 1) (N := some 86) (v := ?_) (a' := ?_) #[true,true,false,false,false,false,false,false,false,false,false,false,false,false,false,false,false,false,false,false] rfl rfl (any_of HT_.out (by kernel_rfl)) (fun _ _ _ h => h) (Or.inl ⟨by rfl, ?_⟩) ?_ ?_
               rotate_left
               ·intro w'
                go_simp
                with_reducible rfl
               rotate_left
               ·simp only [Act.put, List.setIfInBounds_toArray, List.set_cons_zero, List.set_cons_succ, i64_w, i32_w]
                rfl
               refine one_ (i := 2) (N := some 87) #[true,true,true,false,false,false,false,false,false,false,false,false,false,false,false,false,false,false,false,false] rfl rfl (one_of HT_.out (by kernel_rfl)) (by decide) (fun K hK => ?_)
               refine goes_ Try.func91 (by kernel_rfl) rfl #[] (by rfl) rfl rfl (by (try simp only [List.map_toArray, List.map_cons, List.map_nil]); first | done | rfl | (simp only [List.length_drop, List.length_take]; rfl)) ?_
               with_reducible refine (hertzstr_StrProxyConnection.calls  t183 _ A124.out).mono ?_
               rintro e w130 ⟨v184, rfl, ho0, hb⟩
               refine ⟨_, rfl, ?_⟩
               have n0_ := Aside0.mk (MR.R_lower ho0 (below_size (by repeat (first | (with_reducible first | exact HB.out | apply below_alloc | apply pw_below_drewN | apply below_drew1) | exact HB.out))))
               have n1_ := Aside0.mk (below_step (by repeat (first | (with_reducible first | exact HB.out | apply below_alloc | apply pw_below_drewN | apply below_drew1) | exact HB.out)) hb)
               clear HB
               have HO185 := n0_
               have HB := n1_
               clear n0_ n1_
               (try clear hb)
               (try clear hb2)
               (try clear hk)
               (try clear hi)
               (try clear ho0)
               obtain ⟨Ao132, co132, eo132⟩ := MR.R_slice HO185.out
               (first | subst eo132 | (injection eo132 with f1_ f2_ f3_; have f4_ := f1_.symm; have f5_ := f3_.symm; clear f1_ f2_ f3_; subst f4_; subst f5_))
               have q131 : (6 : Int) ≤ ((t183.length : Int) : Int) := of_decide_eq_true (by first | (with_reducible assumption) | assumption)
               obtain ⟨i0131, hi0131, _, hsz131, _⟩ := info_parts info5
               have hroom131 : t183.length ≤ co132 := (MR.R_reads' HO185.out).2.1
               have hC131 : Kd.C (Kd.int .u8) _ Ao132 t183.length t183 := (MR.R_reads' HO185.out).2.2
               have hcut131 := cut_from (P := Try.prog) 54 5 .i64 Try.underlying54 hi0131 1 hsz131 Ao132 t183.length co132 6 (by omega) q131
               have hr131 := Kd.C_drop (m := (6 : Int).toNat) (c := co132) hC131 (by omega) hroom131
               obtain ⟨A131, hA131⟩ : ∃ A1, A1 = (if co132 = (6 : Int).toNat then Ao132 else (Ao132 : Option Addr).map (·.add ((6 : Int).toNat * 1))) := ⟨_, rfl⟩
               obtain ⟨c131, hc131⟩ : ∃ c1, c1 = co132 - (6 : Int).toNat := ⟨_, rfl⟩
               have hy131 : y186.length = t183.length - (6 : Int).toNat := (by rw [Ny186.out, List.length_drop] <;> omega)
               rw [show (t183).drop (6 : Int).toNat = y186 from Ny186.out.symm] at hr131
               replace hr131 : Kd.C (Kd.int .u8) _ A131 y186.length y186 := (by rw [hA131]; exact hr131)
               rw [← hy131, ← hA131, ← hc131] at hcut131
               have HR189 := Aside0.mk hr131
               have HC189 := Aside0.mk (show y186.length ≤ c131 from by rw [hy131, hc131]; exact Nat.sub_le_sub_right hroom131 _)
               clear hr131 hC131 hroom131 hi0131 hsz131 hc131
               have KY131 := Aside0.mk hy131
               have KA131 := Aside0.mk hA131
               clear hy131 hA131
               have KL131 := Aside0.mk (show 6 ≤ t183.length from by omega)
               replace q131 := eq_true q131
               refine hK.out _ _ trivial (fun hHeld => ?_)
               clear hK K
               refine norm_ (a' := ?_) ?_ ?_
               rotate_left
               ·show Act.put _ (some 87) _ = _
                simp only [Act.put, List.setIfInBounds_toArray, List.set_cons_zero, List.set_cons_succ, i64_w, i32_w]
                rfl
               refine pure_ (i := 3) (N := some 88) (v := ?_) (a' := ?_) #[true,true,true,true,false,false,false,false,false,false,false,false,false,false,false,false,false,false,false,false] rfl rfl (any_of HT_.out (by kernel_rfl)) (fun _ _ _ h => h) (Or.inl ⟨by rfl, ?_⟩) ?_ ?_
               rotate_left
               ·intro w'
                go_simp
                with_reducible rfl
               rotate_left
               ·simp only [Act.put, List.setIfInBounds_toArray, List.set_cons_zero, List.set_cons_succ, i64_w, i32_w]
                rfl
               refine one_ (i := 4) (N := some 89) #[true,true,true,true,true,false,false,false,false,false,false,false,false,false,false,false,false,false,false,false] rfl rfl (one_of HT_.out (by kernel_rfl)) (by decide) (fun K hK => ?_)
               refine goes_ Try.func80 (by kernel_rfl) rfl #[.slice A129 (l0.drop 6).length (c0 - 6), .slice A131 y186.length c131] (by rfl) rfl rfl (by (try simp only [List.map_toArray, List.map_cons, List.map_nil]); first | done | (rw [show (l0.drop 6).length = (l0.length - 6) from List.length_drop] <;> rfl) | rfl | (simp only [List.length_drop, List.length_take]; rfl)) ?_
               with_reducible refine (hertzutils_CaseInsensitiveCompare.calls kj109 _ _ (l0.drop 6) _ _ y186 true _ ?side1 ?side2 ?side3 ?side4 A126.out).mono ?_
               (case side1 => repeat (first | exact (Kd.C_below HR182.out HB.out) | (with_reducible refine Kd.C_alloc ?_ _) | (with_reducible refine Kd.C_drewN ?_ _) | (with_reducible refine Kd.C_drew ?_)))
               (case side2 => exact HC182.out)
               (case side3 => repeat (first | exact (by repeat (first | (with_reducible exact HR189.out) | (with_reducible refine Kd.C_alloc ?_ _) | (with_reducible refine Kd.C_drewN ?_ _) | (with_reducible refine Kd.C_drew ?_) | exact HR189.out)) | (with_reducible refine Kd.C_alloc ?_ _) | (with_reducible refine Kd.C_drewN ?_ _) | (with_reducible refine Kd.C_drew ?_)))
               (case side4 => exact HC189.out)
               rintro e w' ⟨rfl, ⟨nd, rfl⟩⟩
               refine ⟨_, rfl, ?_⟩
               refine hK.out _ _ trivial (fun hHeld => ?_)
               clear hK K
               refine norm_ (a' := ?_) ?_ ?_
               rotate_left
               ·show Act.put _ (some 89) _ = _
                simp only [Act.put, List.setIfInBounds_toArray, List.set_cons_zero, List.set_cons_succ, i64_w, i32_w]
                rfl
               refine pure_ (i := 5) (N := some 90) (v := ?_) (a' := ?_) #[true,true,true,true,true,true,false,false,false,false,false,false,false,false,false,false,false,false,false,false] rfl rfl (any_of HT_.out (by kernel_rfl)) (fun _ _ _ h => h) (Or.inl ⟨by rfl, ?_⟩) ?_ ?_
               rotate_left
               ·intro w'
                go_simp
                with_reducible rfl
               rotate_left
               ·simp only [Act.put, List.setIfInBounds_toArray, List.set_cons_zero, List.set_cons_succ, i64_w, i32_w]
                rfl
               refine pure_ (i := 6) (N := some 91) (v := undef) (a' := ?_) #[true,true,true,true,true,true,true,false,false,false,false,false,false,false,false,false,false,false,false,false] rfl rfl (any_of HT_.out (by kernel_rfl)) (fun _ _ _ h => h) (Or.inr ⟨by rfl, rfl⟩) ?_ ?_
               rotate_left
               ·simp only [Act.put, List.setIfInBounds_toArray, List.set_cons_zero, List.set_cons_succ, i64_w, i32_w]
                rfl
               refine pure_ (i := 7) (N := some 92) (v := undef) (a' := ?_) #[true,true,true,true,true,true,true,true,false,false,false,false,false,false,false,false,false,false,false,false] rfl rfl (any_of HT_.out (by kernel_rfl)) (fun _ _ _ h => h) (Or.inr ⟨by rfl, rfl⟩) ?_ ?_
               rotate_left
               ·simp only [Act.put, List.setIfInBounds_toArray, List.set_cons_zero, List.set_cons_succ, i64_w, i32_w]
                rfl
               refine pure_ (i := 8) (N := some 93) (v := undef) (a' := ?_) #[true,true,true,true,true,true,true,true,true,false,false,false,false,false,false,false,false,false,false,false] rfl rfl (any_of HT_.out (by kernel_rfl)) (fun _ _ _ h => h) (Or.inr ⟨by rfl, rfl⟩) ?_ ?_
               rotate_left
               ·simp only [Act.put, List.setIfInBounds_toArray, List.set_cons_zero, List.set_cons_succ, i64_w, i32_w]
                rfl
               refine pure_ (i := 9) (N := some 94) (v := undef) (a' := ?_) #[true,true,true,true,true,true,true,true,true,true,false,false,false,false,false,false,false,false,false,false] rfl rfl (any_of HT_.out (by kernel_rfl)) (fun _ _ _ h => h) (Or.inr ⟨by rfl, rfl⟩) ?_ ?_
               rotate_left
               ·simp only [Act.put, List.setIfInBounds_toArray, List.set_cons_zero, List.set_cons_succ, i64_w, i32_w]
                rfl
               refine pure_ (i := 10) (N := some 95) (v := undef) (a' := ?_) #[true,true,true,true,true,true,true,true,true,true,true,false,false,false,false,false,false,false,false,false] rfl rfl (any_of HT_.out (by kernel_rfl)) (fun _ _ _ h => h) (Or.inr ⟨by rfl, rfl⟩) ?_ ?_
               rotate_left
               ·simp only [Act.put, List.setIfInBounds_toArray, List.set_cons_zero, List.set_cons_succ, i64_w, i32_w]
                rfl
               refine pure_ (i := 11) (N := some 96) (v := ?_) (a' := ?_) #[true,true,true,true,true,true,true,true,true,true,true,true,false,false,false,false,false,false,false,false] rfl rfl (any_of HT_.out (by kernel_rfl)) (fun _ _ _ h => h) (Or.inl ⟨by rfl, ?_⟩) ?_ ?_
               rotate_left
               ·intro w'
                go_simp
                with_reducible rfl
               rotate_left
               ·simp only [Act.put, List.setIfInBounds_toArray, List.set_cons_zero, List.set_cons_succ, i64_w, i32_w]
                rfl
               refine pure_ (i := 12) (N := some 97) (v := ?_) (a' := ?_) #[true,true,true,true,true,true,true,true,true,true,true,true,true,false,false,false,false,false,false,false] rfl rfl (any_of HT_.out (by kernel_rfl)) (fun _ _ _ h => h) (Or.inl ⟨by rfl, ?_⟩) ?_ ?_
               rotate_left
               ·intro w'
                go_simp
                with_reducible rfl
               rotate_left
               ·simp only [Act.put, List.setIfInBounds_toArray, List.set_cons_zero, List.set_cons_succ, i64_w, i32_w]
                rfl
               refine pure_ (i := 13) (N := some 98) (v := undef) (a' := ?_) #[true,true,true,true,true,true,true,true,true,true,true,true,true,true,false,false,false,false,false,false] rfl rfl (any_of HT_.out (by kernel_rfl)) (fun _ _ _ h => h) (Or.inr ⟨by rfl, rfl⟩) ?_ ?_
               rotate_left
               ·simp only [Act.put, List.setIfInBounds_toArray, List.set_cons_zero, List.set_cons_succ, i64_w, i32_w]
                rfl
               refine pure_ (i := 14) (N := some 99) (v := undef) (a' := ?_) #[true,true,true,true,true,true,true,true,true,true,true,true,true,true,true,false,false,false,false,false] rfl rfl (any_of HT_.out (by kernel_rfl)) (fun _ _ _ h => h) (Or.inr ⟨by rfl, rfl⟩) ?_ ?_
               rotate_left
               ·simp only [Act.put, List.setIfInBounds_toArray, List.set_cons_zero, List.set_cons_succ, i64_w, i32_w]
                rfl
               refine pure_ (i := 15) (N := some 100) (v := undef) (a' := ?_) #[true,true,true,true,true,true,true,true,true,true,true,true,true,true,true,true,false,false,false,false] rfl rfl (any_of HT_.out (by kernel_rfl)) (fun _ _ _ h => h) (Or.inr ⟨by rfl, rfl⟩) ?_ ?_
               rotate_left
               ·simp only [Act.put, List.setIfInBounds_toArray, List.set_cons_zero, List.set_cons_succ, i64_w, i32_w]
                rfl
               refine pure_ (i := 16) (N := some 101) (v := undef) (a' := ?_) #[true,true,true,true,true,true,true,true,true,true,true,true,true,true,true,true,true,false,false,false] rfl rfl (any_of HT_.out (by kernel_rfl)) (fun _ _ _ h => h) (Or.inr ⟨by rfl, rfl⟩) ?_ ?_
               rotate_left
               ·simp only [Act.put, List.setIfInBounds_toArray, List.set_cons_zero, List.set_cons_succ, i64_w, i32_w]
                rfl
               refine pure_ (i := 17) (N := some 102) (v := undef) (a' := ?_) #[true,true,true,true,true,true,true,true,true,true,true,true,true,true,true,true,true,true,false,false] rfl rfl (any_of HT_.out (by kernel_rfl)) (fun _ _ _ h => h) (Or.inr ⟨by rfl, rfl⟩) ?_ ?_
               rotate_left
               ·simp only [Act.put, List.setIfInBounds_toArray, List.set_cons_zero, List.set_cons_succ, i64_w, i32_w]
                rfl
               refine pure_ (i := 18) (N := some 103) (v := ?_) (a' := ?_) #[true,true,true,true,true,true,true,true,true,true,true,true,true,true,true,true,true,true,true,false] rfl rfl (any_of HT_.out (by kernel_rfl)) (fun _ _ _ h => h) (Or.inl ⟨by rfl, ?_⟩) ?_ ?_
               rotate_left
               ·intro w'
                go_simp
                with_reducible rfl
               rotate_left
               ·simp only [Act.put, List.setIfInBounds_toArray, List.set_cons_zero, List.set_cons_succ, i64_w, i32_w]
                rfl
               refine pure_ (i := 19) (N := some 2) (v := ?_) (a' := ?_) #[true,true,true,true,true,true,true,true,true,true,true,true,true,true,true,true,true,true,true,true] rfl rfl (any_of HT_.out (by kernel_rfl)) (fun _ _ _ h => h) (Or.inl ⟨by rfl, ?_⟩) ?_ ?_
               rotate_left
               ·intro w'
                go_simp
                with_reducible rfl
               rotate_left
               ·simp only [Act.put, List.setIfInBounds_toArray, List.set_cons_zero, List.set_cons_succ, i64_w, i32_w]
                rfl
               refine done_ (done_of HT_.out (by kernel_rfl)) ?_
               try go_wp2
               go_ret
               exact ⟨by first | rfl | (simp [errW_none, errW_some] <;> rfl) | (simp [*, errW_none, errW_some] <;> rfl), by repeat (first | (with_reducible first | exact HB.out | apply below_alloc | apply pw_below_drewN | apply below_drew1) | exact HB.out)⟩
              ·replace c127 := Bool.eq_false_iff.mpr c127
               subst c127
               have H1 : ((hertzstr_StrProxyAuthenticate.f).bind fun t192 => (if 6 ≤ (t192.length : Int) then ((hertzutils_CaseInsensitiveCompare.f kj109 (l0.drop 6) (t192.drop 6)).bind fun t199 => (if t199 = true then (some true) else ((hertzstr_StrProxyAuthorization.f).bind fun t201 => (if 6 ≤ (t201.length : Int) then ((hertzutils_CaseInsensitiveCompare.f kj109 (l0.drop 6) (t201.drop 6)).bind fun t208 => (some t208)) else (none))))) else (none))) = some r := by rw [if_neg (show ¬ (false = true) by decide)] at H; exact H
               clear H
               have H := H1
               clear H1
               have c133b0 := eq_true (of_decide_eq_true (by first | (with_reducible assumption) | assumption) : 6 ≤ (l0.length : Int))
               replace H := Option.bind_eq_some_iff.mp H
               obtain ⟨t192, A1340, H⟩ := H
               replace H : (if 6 ≤ (t192.length : Int) then ((hertzutils_CaseInsensitiveCompare.f kj109 (l0.drop 6) (t192.drop 6)).bind fun t199 => (if t199 = true then (some true) else ((hertzstr_StrProxyAuthorization.f).bind fun t201 => (if 6 ≤ (t201.length : Int) then ((hertzutils_CaseInsensitiveCompare.f kj109 (l0.drop 6) (t201.drop 6)).bind fun t208 => (some t208)) else (none))))) else (none)) = some r := H
               have A134 := Aside0.mk A1340
               clear A1340
               by_cases c135 : 6 ≤ (t192.length : Int)
               ·rw [if_pos c135] at H
                have c135b0 := eq_true c135
                have c135b1 : decide (6 ≤ (t192.length : Int)) = true := decide_eq_true c135
                clear c135
                obtain ⟨y195, hy195⟩ : ∃ y_ : List Int, y_ = (t192.drop 6) := ⟨_, rfl⟩
                replace H : ((hertzutils_CaseInsensitiveCompare.f kj109 (l0.drop 6) y195).bind fun t199 => (if t199 = true then (some true) else ((hertzstr_StrProxyAuthorization.f).bind fun t201 => (if 6 ≤ (t201.length : Int) then ((hertzutils_CaseInsensitiveCompare.f kj109 (l0.drop 6) (t201.drop 6)).bind fun t208 => (some t208)) else (none))))) = some r := by first | (rw [hy195]; with_reducible exact H) | (have H2_ := (Option.bind_some _ _).symm.trans H; rw [hy195]; with_reducible exact H2_) | (have H2_ := (Option.bind_some _ _).symm.trans H; with_reducible exact H2_) | with_reducible exact H | (rw [hy195]; exact H) | exact H
                have Ny195 := Aside0.mk hy195
                clear hy195
                replace H := Option.bind_eq_some_iff.mp H
                obtain ⟨t199, A1360, H⟩ := H
                replace H : (if t199 = true then (some true) else ((hertzstr_StrProxyAuthorization.f).bind fun t201 => (if 6 ≤ (t201.length : Int) then ((hertzutils_CaseInsensitiveCompare.f kj109 (l0.drop 6) (t201.drop 6)).bind fun t208 => (some t208)) else (none)))) = some r := H
                have A136 := Aside0.mk A1360
                clear A1360
                by_cases c137 : t199 = true
                ·subst c137
                 have H1 : (some true) = some r := by rw [if_pos rfl] at H; exact H
                 clear H
                 have H := H1
                 clear H1
                 obtain rfl := Option.some.inj H
                 try go_wp2
                 have n0_ := Aside0.mk (below_drew1 HB.out)
                 clear HB
                 have HB := n0_
                 clear n0_
                 obtain ⟨i0139, hi0139, _, hsz139, _⟩ := info_parts info5
                 obtain ⟨A139, hcut139, hA139, hC139⟩ := print_drop_of (P := Try.prog) (Value.int .u8) 0 54 5 .i64 Try.underlying54 hi0139 hsz139 (some ad103) c0 l0 6 (by omega) (of_decide_eq_true (by first | (with_reducible assumption) | assumption)) HC0.out
                 have HR182 := Aside0.mk (Kd.C_of_reads (h1 := fun _ => rfl) (hA139 _ (Kd.reads_of_C HR0.out)))
                 have HC182 := Aside0.mk hC139
                 clear hA139 hC139 hi0139 hsz139
                 refine start_ (n := 20) (S := fun w' => True) (ds := []) #[false,false,false,false,false,false,false,false,false,false,false,false,false,false,false,false,false,false,false,false] (by kernel_rfl) rfl rfl trivial (fun hHeld => ?_); refine with_tabW hertzproto_IsBadTrailer.tab18 hertzproto_IsBadTrailer.bits18 (fun HT_ HW_ => ?_)
                 generalize wc.drew = w138 at HB HR182 hHeld ⊢
                 refine pure_ (i := 0) (N := some 85) (v := ?_) (a' := ?_) #[true,false,false,false,false,false,false,false,false,false,false,false,false,false,false,false,false,false,false,false] rfl rfl (any_of HT_.out (by kernel_rfl)) (fun _ _ _ h => h) (Or.inl ⟨by rfl, ?_⟩) ?_ ?_
                 rotate_left
                 ·intro w'
                  go_simp
                  with_reducible rfl
                 rotate_left
                 ·simp only [Act.put, List.setIfInBounds_toArray, List.set_cons_zero, List.set_cons_succ, i64_w, i32_w]
                  rfl
                 refine pure_ (i := 1) (N := some 86) (v := ?_) (a' := ?_) #[true,true,false,false,false,false,false,false,false,false,false,false,false,false,false,false,false,false,false,false] rfl rfl (any_of HT_.out (by kernel_rfl)) (fun _ _ _ h => h) (Or.inl ⟨by rfl, ?_⟩) ?_ ?_
                 rotate_left
                 ·intro w'
                  go_simp
                  with_reducible rfl
                 rotate_left
                 ·simp only [Act.put, List.setIfInBounds_toArray, List.set_cons_zero, List.set_cons_succ, i64_w, i32_w]
                  rfl
                 refine one_ (i := 2) (N := some 87) #[true,true,true,false,false,false,false,false,false,false,false,false,false,false,false,false,false,false,false,false] rfl rfl (one_of HT_.out (by kernel_rfl)) (by decide) (fun K hK => ?_)
                 refine goes_ Try.func91 (by kernel_rfl) rfl #[] (by rfl) rfl rfl (by (try simp only [List.map_toArray, List.map_cons, List.map_nil]); first | done | rfl | (simp only [List.length_drop, List.length_take]; rfl)) ?_
                 with_reducible refine (hertzstr_StrProxyConnection.calls  t183 _ A124.out).mono ?_
                 rintro e w140 ⟨v184, rfl, ho0, hb⟩
                 refine ⟨_, rfl, ?_⟩
                 have n0_ := Aside0.mk (MR.R_lower ho0 (below_size (by repeat (first | (with_reducible first | exact HB.out | apply below_alloc | apply pw_below_drewN | apply below_drew1) | exact HB.out))))
                 have n1_ := Aside0.mk (below_step (by repeat (first | (with_reducible first | exact HB.out | apply below_alloc | apply pw_below_drewN | apply below_drew1) | exact HB.out)) hb)
                 clear HB
                 have HO185 := n0_
                 have HB := n1_
                 clear n0_ n1_
                 (try clear hb)
                 (try clear hb2)
                 (try clear hk)
                 (try clear hi)
                 (try clear ho0)
                 obtain ⟨Ao142, co142, eo142⟩ := MR.R_slice HO185.out
                 (first | subst eo142 | (injection eo142 with f1_ f2_ f3_; have f4_ := f1_.symm; have f5_ := f3_.symm; clear f1_ f2_ f3_; subst f4_; subst f5_))
                 have q141 : (6 : Int) ≤ ((t183.length : Int) : Int) := of_decide_eq_true (by first | (with_reducible assumption) | assumption)
                 obtain ⟨i0141, hi0141, _, hsz141, _⟩ := info_parts info5
                 have hroom141 : t183.length ≤ co142 := (MR.R_reads' HO185.out).2.1
                 have hC141 : Kd.C (Kd.int .u8) _ Ao142 t183.length t183 := (MR.R_reads' HO185.out).2.2
                 have hcut141 := cut_from (P := Try.prog) 54 5 .i64 Try.underlying54 hi0141 1 hsz141 Ao142 t183.length co142 6 (by omega) q141
                 have hr141 := Kd.C_drop (m := (6 : Int).toNat) (c := co142) hC141 (by omega) hroom141
                 obtain ⟨A141, hA141⟩ : ∃ A1, A1 = (if co142 = (6 : Int).toNat then Ao142 else (Ao142 : Option Addr).map (·.add ((6 : Int).toNat * 1))) := ⟨_, rfl⟩
                 obtain ⟨c141, hc141⟩ : ∃ c1, c1 = co142 - (6 : Int).toNat := ⟨_, rfl⟩
                 have hy141 : y186.length = t183.length - (6 : Int).toNat := (by rw [Ny186.out, List.length_drop] <;> omega)
                 rw [show (t183).drop (6 : Int).toNat = y186 from Ny186.out.symm] at hr141
                 replace hr141 : Kd.C (Kd.int .u8) _ A141 y186.length y186 := (by rw [hA141]; exact hr141)
                 rw [← hy141, ← hA141, ← hc141] at hcut141
                 have HR189 := Aside0.mk hr141
                 have HC189 := Aside0.mk (show y186.length ≤ c141 from by rw [hy141, hc141]; exact Nat.sub_le_sub_right hroom141 _)
                 clear hr141 hC141 hroom141 hi0141 hsz141 hc141
                 have KY141 := Aside0.mk hy141
                 have KA141 := Aside0.mk hA141
                 clear hy141 hA141
                 have KL141 := Aside0.mk (show 6 ≤ t183.length from by omega)
                 replace q141 := eq_true q141
                 refine hK.out _ _ trivial (fun hHeld => ?_)
                 clear hK K
                 refine norm_ (a' := ?_) ?_ ?_
                 rotate_left
                 ·show Act.put _ (some 87) _ = _
                  simp only [Act.put, List.setIfInBounds_toArray, List.set_cons_zero, List.set_cons_succ, i64_w, i32_w]
                  rfl
                 refine pure_ (i := 3) (N := some 88) (v := ?_) (a' := ?_) #[true,true,true,true,false,false,false,false,false,false,false,false,false,false,false,false,false,false,false,false] rfl rfl (any_of HT_.out (by kernel_rfl)) (fun _ _ _ h => h) (Or.inl ⟨by rfl, ?_⟩) ?_ ?_
                 rotate_left
                 ·intro w'
                  go_simp
                  with_reducible rfl
                 rotate_left
                 ·simp only [Act.put, List.setIfInBounds_toArray, List.set_cons_zero, List.set_cons_succ, i64_w, i32_w]
                  rfl
                 refine one_ (i := 4) (N := some 89) #[true,true,true,true,true,false,false,false,false,false,false,false,false,false,false,false,false,false,false,false] rfl rfl (one_of HT_.out (by kernel_rfl)) (by decide) (fun K hK => ?_)
                 refine goes_ Try.func80 (by kernel_rfl) rfl #[.slice A139 (l0.drop 6).length (c0 - 6), .slice A141 y186.length c141] (by rfl) rfl rfl (by (try simp only [List.map_toArray, List.map_cons, List.map_nil]); first | done | (rw [show (l0.drop 6).length = (l0.length - 6) from List.length_drop] <;> rfl) | rfl | (simp only [List.length_drop, List.length_take]; rfl)) ?_
                 with_reducible refine (hertzutils_CaseInsensitiveCompare.calls kj109 _ _ (l0.drop 6) _ _ y186 false _ ?side1 ?side2 ?side3 ?side4 A126.out).mono ?_
                 (case side1 => repeat (first | exact (Kd.C_below HR182.out HB.out) | (with_reducible refine Kd.C_alloc ?_ _) | (with_reducible refine Kd.C_drewN ?_ _) | (with_reducible refine Kd.C_drew ?_)))
                 (case side2 => exact HC182.out)
                 (case side3 => repeat (first | exact (by repeat (first | (with_reducible exact HR189.out) | (with_reducible refine Kd.C_alloc ?_ _) | (with_reducible refine Kd.C_drewN ?_ _) | (with_reducible refine Kd.C_drew ?_) | exact HR189.out)) | (with_reducible refine Kd.C_alloc ?_ _) | (with_reducible refine Kd.C_drewN ?_ _) | (with_reducible refine Kd.C_drew ?_)))
                 (case side4 => exact HC189.out)
                 rintro e w' ⟨rfl, ⟨nd, rfl⟩⟩
                 refine ⟨_, rfl, ?_⟩
                 obtain ⟨i0143, hi0143, _, hsz143, _⟩ := info_parts info5
                 obtain ⟨A143, hcut143, hA143, hC143⟩ := print_drop_of (P := Try.prog) (Value.int .u8) 0 54 5 .i64 Try.underlying54 hi0143 hsz143 (some ad103) c0 l0 6 (by omega) (of_decide_eq_true (by first | (with_reducible assumption) | assumption)) HC0.out
                 have d143_ : A143 = A139 := MR.cut_same (hcut143 w) (hcut139 w)
                 rw [d143_] at hA143
                 clear hcut143 d143_
                 have HR191 := Aside0.mk (Kd.C_of_reads (h1 := fun _ => rfl) (hA143 _ (Kd.reads_of_C HR0.out)))
                 have HC191 := Aside0.mk hC143
                 clear hA143 hC143 hi0143 hsz143
                 refine hK.out _ _ trivial (fun hHeld => ?_)
                 clear hK K
                 refine norm_ (a' := ?_) ?_ ?_
                 rotate_left
                 ·show Act.put _ (some 89) _ = _
                  simp only [Act.put, List.setIfInBounds_toArray, List.set_cons_zero, List.set_cons_succ, i64_w, i32_w]
                  rfl
                 refine pure_ (i := 5) (N := some 90) (v := ?_) (a' := ?_) #[true,true,true,true,true,true,false,false,false,false,false,false,false,false,false,false,false,false,false,false] rfl rfl (any_of HT_.out (by kernel_rfl)) (fun _ _ _ h => h) (Or.inl ⟨by rfl, ?_⟩) ?_ ?_
                 rotate_left
                 ·intro w'
                  go_simp
                  with_reducible rfl
                 rotate_left
                 ·simp only [Act.put, List.setIfInBounds_toArray, List.set_cons_zero, List.set_cons_succ, i64_w, i32_w]
                  rfl
                 refine pure_ (i := 6) (N := some 91) (v := ?_) (a' := ?_) #[true,true,true,true,true,true,true,false,false,false,false,false,false,false,false,false,false,false,false,false] rfl rfl (any_of HT_.out (by kernel_rfl)) (fun _ _ _ h => h) (Or.inl ⟨by rfl, ?_⟩) ?_ ?_
                 rotate_left
                 ·intro w'
                  go_simp
                  with_reducible rfl
                 rotate_left
                 ·simp only [Act.put, List.setIfInBounds_toArray, List.set_cons_zero, List.set_cons_succ, i64_w, i32_w]
                  rfl
                 refine pure_ (i := 7) (N := some 92) (v := ?_) (a' := ?_) #[true,true,true,true,true,true,true,true,false,false,false,false,false,false,false,false,false,false,false,false] rfl rfl (any_of HT_.out (by kernel_rfl)) (fun _ _ _ h => h) (Or.inl ⟨by rfl, ?_⟩) ?_ ?_
                 rotate_left
                 ·intro w'
                  go_simp
                  with_reducible rfl
                 rotate_left
                 ·simp only [Act.put, List.setIfInBounds_toArray, List.set_cons_zero, List.set_cons_succ, i64_w, i32_w]
                  rfl
                 refine one_ (i := 8) (N := some 93) #[true,true,true,true,true,true,true,true,true,false,false,false,false,false,false,false,false,false,false,false] rfl rfl (one_of HT_.out (by kernel_rfl)) (by decide) (fun K hK => ?_)
                 refine goes_ Try.func92 (by kernel_rfl) rfl #[] (by rfl) rfl rfl (by (try simp only [List.map_toArray, List.map_cons, List.map_nil]); first | done | rfl | (simp only [List.length_drop, List.length_take]; rfl)) ?_
                 with_reducible refine (hertzstr_StrProxyAuthenticate.calls  t192 _ A134.out).mono ?_
                 rintro e w144 ⟨v193, rfl, ho0, hb⟩
                 refine ⟨_, rfl, ?_⟩
                 have n0_ := Aside0.mk (MR.R_elder' (by (with_reducible repeat (first | apply MR.R_alloc | apply MR.R_drewN | apply MR.R_drew)); exact HO185.out) (MR.R_base ho0) hb)
                 have n1_ := Aside0.mk (MR.R_lower (MR.R_new' ho0 (MR.R_lt (by (with_reducible repeat (first | apply MR.R_alloc | apply MR.R_drewN | apply MR.R_drew)); exact HO185.out))) (below_size (by repeat (first | (with_reducible first | exact HB.out | apply below_alloc | apply pw_below_drewN | apply below_drew1) | exact HB.out))))
                 have n2_ := Aside0.mk (Kd.C_below (by repeat (first | (with_reducible exact HR189.out) | (with_reducible refine Kd.C_alloc ?_ _) | (with_reducible refine Kd.C_drewN ?_ _) | (with_reducible refine Kd.C_drew ?_) | exact HR189.out)) hb)
                 have n3_ := Aside0.mk (below_step (by repeat (first | (with_reducible first | exact HB.out | apply below_alloc | apply pw_below_drewN | apply below_drew1) | exact HB.out)) hb)
                 clear HO185
                 clear HR189
                 clear HB
                 have HO185 := n0_
                 have HO194 := n1_
                 have HR189 := n2_
                 have HB := n3_
                 clear n0_ n1_ n2_ n3_
                 (try clear hb)
                 (try clear hb2)
                 (try clear hk)
                 (try clear hi)
                 (try clear ho0)
                 obtain ⟨Ao146, co146, eo146⟩ := MR.R_slice HO194.out
                 (first | subst eo146 | (injection eo146 with f1_ f2_ f3_; have f4_ := f1_.symm; have f5_ := f3_.symm; clear f1_ f2_ f3_; subst f4_; subst f5_))
                 have q145 : (6 : Int) ≤ ((t192.length : Int) : Int) := of_decide_eq_true (by first | (with_reducible assumption) | assumption)
                 obtain ⟨i0145, hi0145, _, hsz145, _⟩ := info_parts info5
                 have hroom145 : t192.length ≤ co146 := (MR.R_reads' HO194.out).2.1
                 have hC145 : Kd.C (Kd.int .u8) _ Ao146 t192.length t192 := (MR.R_reads' HO194.out).2.2
                 have hcut145 := cut_from (P := Try.prog) 54 5 .i64 Try.underlying54 hi0145 1 hsz145 Ao146 t192.length co146 6 (by omega) q145
                 have hr145 := Kd.C_drop (m := (6 : Int).toNat) (c := co146) hC145 (by omega) hroom145
                 obtain ⟨A145, hA145⟩ : ∃ A1, A1 = (if co146 = (6 : Int).toNat then Ao146 else (Ao146 : Option Addr).map (·.add ((6 : Int).toNat * 1))) := ⟨_, rfl⟩
                 obtain ⟨c145, hc145⟩ : ∃ c1, c1 = co146 - (6 : Int).toNat := ⟨_, rfl⟩
                 have hy145 : y195.length = t192.length - (6 : Int).toNat := (by rw [Ny195.out, List.length_drop] <;> omega)
                 rw [show (t192).drop (6 : Int).toNat = y195 from Ny195.out.symm] at hr145
                 replace hr145 : Kd.C (Kd.int .u8) _ A145 y195.length y195 := (by rw [hA145]; exact hr145)
                 rw [← hy145, ← hA145, ← hc145] at hcut145
                 have HR198 := Aside0.mk hr145
                 have HC198 := Aside0.mk (show y195.length ≤ c145 from by rw [hy145, hc145]; exact Nat.sub_le_sub_right hroom145 _)
                 clear hr145 hC145 hroom145 hi0145 hsz145 hc145
                 have KY145 := Aside0.mk hy145
                 have KA145 := Aside0.mk hA145
                 clear hy145 hA145
                 have KL145 := Aside0.mk (show 6 ≤ t192.length from by omega)
                 replace q145 := eq_true q145
                 refine hK.out _ _ trivial (fun hHeld => ?_)
                 clear hK K
                 refine norm_ (a' := ?_) ?_ ?_
                 rotate_left
                 ·show Act.put _ (some 93) _ = _
                  simp only [Act.put, List.setIfInBounds_toArray, List.set_cons_zero, List.set_cons_succ, i64_w, i32_w]
                  rfl
                 refine pure_ (i := 9) (N := some 94) (v := ?_) (a' := ?_) #[true,true,true,true,true,true,true,true,true,true,false,false,false,false,false,false,false,false,false,false] rfl rfl (any_of HT_.out (by kernel_rfl)) (fun _ _ _ h => h) (Or.inl ⟨by rfl, ?_⟩) ?_ ?_
                 rotate_left
                 ·intro w'
                  go_simp
                  with_reducible rfl
                 rotate_left
                 ·simp only [Act.put, List.setIfInBounds_toArray, List.set_cons_zero, List.set_cons_succ, i64_w, i32_w]
                  rfl
                 refine one_ (i := 10) (N := some 95) #[true,true,true,true,true,true,true,true,true,true,true,false,false,false,false,false,false,false,false,false] rfl rfl (one_of HT_.out (by kernel_rfl)) (by decide) (fun K hK => ?_)
                 refine goes_ Try.func80 (by kernel_rfl) rfl #[.slice A139 (l0.drop 6).length (c0 - 6), .slice A145 y195.length c145] (by rfl) rfl rfl (by (try simp only [List.map_toArray, List.map_cons, List.map_nil]); first | done | (rw [show (l0.drop 6).length = (l0.length - 6) from List.length_drop] <;> rfl) | rfl | (simp only [List.length_drop, List.length_take]; rfl)) ?_
                 with_reducible refine (hertzutils_CaseInsensitiveCompare.calls kj109 _ _ (l0.drop 6) _ _ y195 true _ ?side1 ?side2 ?side3 ?side4 A136.out).mono ?_
                 (case side1 => repeat (first | exact (Kd.C_below HR191.out HB.out) | (with_reducible refine Kd.C_alloc ?_ _) | (with_reducible refine Kd.C_drewN ?_ _) | (with_reducible refine Kd.C_drew ?_)))
                 (case side2 => exact HC191.out)
                 (case side3 => repeat (first | exact (by repeat (first | (with_reducible exact HR198.out) | (with_reducible refine Kd.C_alloc ?_ _) | (with_reducible refine Kd.C_drewN ?_ _) | (with_reducible refine Kd.C_drew ?_) | exact HR198.out)) | (with_reducible refine Kd.C_alloc ?_ _) | (with_reducible refine Kd.C_drewN ?_ _) | (with_reducible refine Kd.C_drew ?_)))
                 (case side4 => exact HC198.out)
                 rintro e w' ⟨rfl, ⟨nd, rfl⟩⟩
                 refine ⟨_, rfl, ?_⟩
                 refine hK.out _ _ trivial (fun hHeld => ?_)
                 clear hK K
                 refine norm_ (a' := ?_) ?_ ?_
                 rotate_left
                 ·show Act.put _ (some 95) _ = _
                  simp only [Act.put, List.setIfInBounds_toArray, List.set_cons_zero, List.set_cons_succ, i64_w, i32_w]
                  rfl
                 refine pure_ (i := 11) (N := some 96) (v := ?_) (a' := ?_) #[true,true,true,true,true,true,true,true,true,true,true,true,false,false,false,false,false,false,false,false] rfl rfl (any_of HT_.out (by kernel_rfl)) (fun _ _ _ h => h) (Or.inl ⟨by rfl, ?_⟩) ?_ ?_
                 rotate_left
                 ·intro w'
                  go_simp
                  with_reducible rfl
                 rotate_left
                 ·simp only [Act.put, List.setIfInBounds_toArray, List.set_cons_zero, List.set_cons_succ, i64_w, i32_w]
                  rfl
                 refine pure_ (i := 12) (N := some 97) (v := ?_) (a' := ?_) #[true,true,true,true,true,true,true,true,true,true,true,true,true,false,false,false,false,false,false,false] rfl rfl (any_of HT_.out (by kernel_rfl)) (fun _ _ _ h => h) (Or.inl ⟨by rfl, ?_⟩) ?_ ?_
                 rotate_left
                 ·intro w'
                  go_simp
                  with_reducible rfl
                 rotate_left
                 ·simp only [Act.put, List.setIfInBounds_toArray, List.set_cons_zero, List.set_cons_succ, i64_w, i32_w]
                  rfl
                 refine pure_ (i := 13) (N := some 98) (v := undef) (a' := ?_) #[true,true,true,true,true,true,true,true,true,true,true,true,true,true,false,false,false,false,false,false] rfl rfl (any_of HT_.out (by kernel_rfl)) (fun _ _ _ h => h) (Or.inr ⟨by rfl, rfl⟩) ?_ ?_
                 rotate_left
                 ·simp only [Act.put, List.setIfInBounds_toArray, List.set_cons_zero, List.set_cons_succ, i64_w, i32_w]
                  rfl
                 refine pure_ (i := 14) (N := some 99) (v := undef) (a' := ?_) #[true,true,true,true,true,true,true,true,true,true,true,true,true,true,true,false,false,false,false,false] rfl rfl (any_of HT_.out (by kernel_rfl)) (fun _ _ _ h => h) (Or.inr ⟨by rfl, rfl⟩) ?_ ?_
                 rotate_left
                 ·simp only [Act.put, List.setIfInBounds_toArray, List.set_cons_zero, List.set_cons_succ, i64_w, i32_w]
                  rfl
                 refine pure_ (i := 15) (N := some 100) (v := undef) (a' := ?_) #[true,true,true,true,true,true,true,true,true,true,true,true,true,true,true,true,false,false,false,false] rfl rfl (any_of HT_.out (by kernel_rfl)) (fun _ _ _ h => h) (Or.inr ⟨by rfl, rfl⟩) ?_ ?_
                 rotate_left
                 ·simp only [Act.put, List.setIfInBounds_toArray, List.set_cons_zero, List.set_cons_succ, i64_w, i32_w]
                  rfl
                 refine pure_ (i := 16) (N := some 101) (v := undef) (a' := ?_) #[true,true,true,true,true,true,true,true,true,true,true,true,true,true,true,true,true,false,false,false] rfl rfl (any_of HT_.out (by kernel_rfl)) (fun _ _ _ h => h) (Or.inr ⟨by rfl, rfl⟩) ?_ ?_
                 rotate_left
                 ·simp only [Act.put, List.setIfInBounds_toArray, List.set_cons_zero, List.set_cons_succ, i64_w, i32_w]
                  rfl
                 refine pure_ (i := 17) (N := some 102) (v := undef) (a' := ?_) #[true,true,true,true,true,true,true,true,true,true,true,true,true,true,true,true,true,true,false,false] rfl rfl (any_of HT_.out (by kernel_rfl)) (fun _ _ _ h => h) (Or.inr ⟨by rfl, rfl⟩) ?_ ?_
                 rotate_left
                 ·simp only [Act.put, List.setIfInBounds_toArray, List.set_cons_zero, List.set_cons_succ, i64_w, i32_w]
                  rfl
                 refine pure_ (i := 18) (N := some 103) (v := ?_) (a' := ?_) #[true,true,true,true,true,true,true,true,true,true,true,true,true,true,true,true,true,true,true,false] rfl rfl (any_of HT_.out (by kernel_rfl)) (fun _ _ _ h => h) (Or.inl ⟨by rfl, ?_⟩) ?_ ?_
                 rotate_left
                 ·intro w'
                  go_simp
                  with_reducible rfl
                 rotate_left
                 ·simp only [Act.put, List.setIfInBounds_toArray, List.set_cons_zero, List.set_cons_succ, i64_w, i32_w]
                  rfl
                 refine pure_ (i := 19) (N := some 2) (v := ?_) (a' := ?_) #[true,true,true,true,true,true,true,true,true,true,true,true,true,true,true,true,true,true,true,true] rfl rfl (any_of HT_.out (by kernel_rfl)) (fun _ _ _ h => h) (Or.inl ⟨by rfl, ?_⟩) ?_ ?_
                 rotate_left
                 ·intro w'
                  go_simp
                  with_reducible rfl
                 rotate_left
                 ·simp only [Act.put, List.setIfInBounds_toArray, List.set_cons_zero, List.set_cons_succ, i64_w, i32_w]
                  rfl
                 refine done_ (done_of HT_.out (by kernel_rfl)) ?_
                 try go_wp2
                 go_ret
                 exact ⟨by first | rfl | (simp [errW_none, errW_some] <;> rfl) | (simp [*, errW_none, errW_some] <;> rfl), by repeat (first | (with_reducible first | exact HB.out | apply below_alloc | apply pw_below_drewN | apply below_drew1) | exact HB.out)⟩
                ·replace c137 := Bool.eq_false_iff.mpr c137
                 subst c137
                 have H1 : ((hertzstr_StrProxyAuthorization.f).bind fun t201 => (if 6 ≤ (t201.length : Int) then ((hertzutils_CaseInsensitiveCompare.f kj109 (l0.drop 6) (t201.drop 6)).bind fun t208 => (some t208)) else (none))) = some r := by rw [if_neg (show ¬ (false = true) by decide)] at H; exact H
                 clear H
                 have H := H1
                 clear H1
                 have c147b0 := eq_true (of_decide_eq_true (by first | (with_reducible assumption) | assumption) : 6 ≤ (l0.length : Int))
                 replace H := Option.bind_eq_some_iff.mp H
                 obtain ⟨t201, A1480, H⟩ := H
                 replace H : (if 6 ≤ (t201.length : Int) then ((hertzutils_CaseInsensitiveCompare.f kj109 (l0.drop 6) (t201.drop 6)).bind fun t208 => (some t208)) else (none)) = some r := H
                 have A148 := Aside0.mk A1480
                 clear A1480
                 by_cases c149 : 6 ≤ (t201.length : Int)
                 ·rw [if_pos c149] at H
                  have c149b0 := eq_true c149
                  have c149b1 : decide (6 ≤ (t201.length : Int)) = true := decide_eq_true c149
                  clear c149
                  obtain ⟨y204, hy204⟩ : ∃ y_ : List Int, y_ = (t201.drop 6) := ⟨_, rfl⟩
                  replace H : ((hertzutils_CaseInsensitiveCompare.f kj109 (l0.drop 6) y204).bind fun t208 => (some t208)) = some r := by first | (rw [hy204]; with_reducible exact H) | (have H2_ := (Option.bind_some _ _).symm.trans H; rw [hy204]; with_reducible exact H2_) | (have H2_ := (Option.bind_some _ _).symm.trans H; with_reducible exact H2_) | with_reducible exact H | (rw [hy204]; exact H) | exact H
                  have Ny204 := Aside0.mk hy204
                  clear hy204
                  replace H := Option.bind_eq_some_iff.mp H
                  obtain ⟨t208, A1500, H⟩ := H
                  replace H : (some t208) = some r := H
                  have A150 := Aside0.mk A1500
                  clear A1500
                  obtain rfl := Option.some.inj H
                  try go_wp2
                  have n0_ := Aside0.mk (below_drew1 HB.out)
                  clear HB
                  have HB := n0_
                  clear n0_
                  obtain ⟨i0152, hi0152, _, hsz152, _⟩ := info_parts info5
                  obtain ⟨A152, hcut152, hA152, hC152⟩ := print_drop_of (P := Try.prog) (Value.int .u8) 0 54 5 .i64 Try.underlying54 hi0152 hsz152 (some ad103) c0 l0 6 (by omega) (of_decide_eq_true (by first | (with_reducible assumption) | assumption)) HC0.out
                  have HR182 := Aside0.mk (Kd.C_of_reads (h1 := fun _ => rfl) (hA152 _ (Kd.reads_of_C HR0.out)))
                  have HC182 := Aside0.mk hC152
                  clear hA152 hC152 hi0152 hsz152
                  refine start_ (n := 20) (S := fun w' => True) (ds := []) #[false,false,false,false,false,false,false,false,false,false,false,false,false,false,false,false,false,false,false,false] (by kernel_rfl) rfl rfl trivial (fun hHeld => ?_); refine with_tabW hertzproto_IsBadTrailer.tab18 hertzproto_IsBadTrailer.bits18 (fun HT_ HW_ => ?_)
                  generalize wc.drew = w151 at HB HR182 hHeld ⊢
                  refine pure_ (i := 0) (N := some 85) (v := ?_) (a' := ?_) #[true,false,false,false,false,false,false,false,false,false,false,false,false,false,false,false,false,false,false,false] rfl rfl (any_of HT_.out (by kernel_rfl)) (fun _ _ _ h => h) (Or.inl ⟨by rfl, ?_⟩) ?_ ?_
                  rotate_left
                  ·intro w'
                   go_simp
                   with_reducible rfl
                  rotate_left
                  ·simp only [Act.put, List.setIfInBounds_toArray, List.set_cons_zero, List.set_cons_succ, i64_w, i32_w]
                   rfl
                  refine pure_ (i := 1) (N := some 86) (v := ?_) (a' := ?_) #[true,true,false,false,false,false,false,false,false,false,false,false,false,false,false,false,false,false,false,false] rfl rfl (any_of HT_.out (by kernel_rfl)) (fun _ _ _ h => h) (Or.inl ⟨by rfl, ?_⟩) ?_ ?_
                  rotate_left
                  ·intro w'
                   go_simp
                   with_reducible rfl
                  rotate_left
                  ·simp only [Act.put, List.setIfInBounds_toArray, List.set_cons_zero, List.set_cons_succ, i64_w, i32_w]
                   rfl
                  refine one_ (i := 2) (N := some 87) #[true,true,true,false,false,false,false,false,false,false,false,false,false,false,false,false,false,false,false,false] rfl rfl (one_of HT_.out (by kernel_rfl)) (by decide) (fun K hK => ?_)
                  refine goes_ Try.func91 (by kernel_rfl) rfl #[] (by rfl) rfl rfl (by (try simp only [List.map_toArray, List.map_cons, List.map_nil]); first | done | rfl | (simp only [List.length_drop, List.length_take]; rfl)) ?_
                  with_reducible refine (hertzstr_StrProxyConnection.calls  t183 _ A124.out).mono ?_
                  rintro e w153 ⟨v184, rfl, ho0, hb⟩
                  refine ⟨_, rfl, ?_⟩
                  have n0_ := Aside0.mk (MR.R_lower ho0 (below_size (by repeat (first | (with_reducible first | exact HB.out | apply below_alloc | apply pw_below_drewN | apply below_drew1) | exact HB.out))))
                  have n1_ := Aside0.mk (below_step (by repeat (first | (with_reducible first | exact HB.out | apply below_alloc | apply pw_below_drewN | apply below_drew1) | exact HB.out)) hb)
                  clear HB
                  have HO185 := n0_
                  have HB := n1_
                  clear n0_ n1_
                  (try clear hb)
                  (try clear hb2)
                  (try clear hk)
                  (try clear hi)
                  (try clear ho0)
                  obtain ⟨Ao155, co155, eo155⟩ := MR.R_slice HO185.out
                  (first | subst eo155 | (injection eo155 with f1_ f2_ f3_; have f4_ := f1_.symm; have f5_ := f3_.symm; clear f1_ f2_ f3_; subst f4_; subst f5_))
                  have q154 : (6 : Int) ≤ ((t183.length : Int) : Int) := of_decide_eq_true (by first | (with_reducible assumption) | assumption)
                  obtain ⟨i0154, hi0154, _, hsz154, _⟩ := info_parts info5
                  have hroom154 : t183.length ≤ co155 := (MR.R_reads' HO185.out).2.1
                  have hC154 : Kd.C (Kd.int .u8) _ Ao155 t183.length t183 := (MR.R_reads' HO185.out).2.2
                  have hcut154 := cut_from (P := Try.prog) 54 5 .i64 Try.underlying54 hi0154 1 hsz154 Ao155 t183.length co155 6 (by omega) q154
                  have hr154 := Kd.C_drop (m := (6 : Int).toNat) (c := co155) hC154 (by omega) hroom154
                  obtain ⟨A154, hA154⟩ : ∃ A1, A1 = (if co155 = (6 : Int).toNat then Ao155 else (Ao155 : Option Addr).map (·.add ((6 : Int).toNat * 1))) := ⟨_, rfl⟩
                  obtain ⟨c154, hc154⟩ : ∃ c1, c1 = co155 - (6 : Int).toNat := ⟨_, rfl⟩
                  have hy154 : y186.length = t183.length - (6 : Int).toNat := (by rw [Ny186.out, List.length_drop] <;> omega)
                  rw [show (t183).drop (6 : Int).toNat = y186 from Ny186.out.symm] at hr154
                  replace hr154 : Kd.C (Kd.int .u8) _ A154 y186.length y186 := (by rw [hA154]; exact hr154)
                  rw [← hy154, ← hA154, ← hc154] at hcut154
                  have HR189 := Aside0.mk hr154
                  have HC189 := Aside0.mk (show y186.length ≤ c154 from by rw [hy154, hc154]; exact Nat.sub_le_sub_right hroom154 _)
                  clear hr154 hC154 hroom154 hi0154 hsz154 hc154
                  have KY154 := Aside0.mk hy154
                  have KA154 := Aside0.mk hA154
                  clear hy154 hA154
                  have KL154 := Aside0.mk (show 6 ≤ t183.length from by omega)
                  replace q154 := eq_true q154
                  refine hK.out _ _ trivial (fun hHeld => ?_)
                  clear hK K
                  refine norm_ (a' := ?_) ?_ ?_
                  rotate_left
                  ·show Act.put _ (some 87) _ = _
                   simp only [Act.put, List.setIfInBounds_toArray, List.set_cons_zero, List.set_cons_succ, i64_w, i32_w]
                   rfl
                  refine pure_ (i := 3) (N := some 88) (v := ?_) (a' := ?_) #[true,true,true,true,false,false,false,false,false,false,false,false,false,false,false,false,false,false,false,false] rfl rfl (any_of HT_.out (by kernel_rfl)) (fun _ _ _ h => h) (Or.inl ⟨by rfl, ?_⟩) ?_ ?_
                  rotate_left
                  ·intro w'
                   go_simp
                   with_reducible rfl
                  rotate_left
                  ·simp only [Act.put, List.setIfInBounds_toArray, List.set_cons_zero, List.set_cons_succ, i64_w, i32_w]
                   rfl
                  refine one_ (i := 4) (N := some 89) #[true,true,true,true,true,false,false,false,false,false,false,false,false,false,false,false,false,false,false,false] rfl rfl (one_of HT_.out (by kernel_rfl)) (by decide) (fun K hK => ?_)
                  refine goes_ Try.func80 (by kernel_rfl) rfl #[.slice A152 (l0.drop 6).length (c0 - 6), .slice A154 y186.length c154] (by rfl) rfl rfl (by (try simp only [List.map_toArray, List.map_cons, List.map_nil]); first | done | (rw [show (l0.drop 6).length = (l0.length - 6) from List.length_drop] <;> rfl) | rfl | (simp only [List.length_drop, List.length_take]; rfl)) ?_
                  with_reducible refine (hertzutils_CaseInsensitiveCompare.calls kj109 _ _ (l0.drop 6) _ _ y186 false _ ?side1 ?side2 ?side3 ?side4 A126.out).mono ?_
                  (case side1 => repeat (first | exact (Kd.C_below HR182.out HB.out) | (with_reducible refine Kd.C_alloc ?_ _) | (with_reducible refine Kd.C_drewN ?_ _) | (with_reducible refine Kd.C_drew ?_)))
                  (case side2 => exact HC182.out)
                  (case side3 => repeat (first | exact (by repeat (first | (with_reducible exact HR189.out) | (with_reducible refine Kd.C_alloc ?_ _) | (with_reducible refine Kd.C_drewN ?_ _) | (with_reducible refine Kd.C_drew ?_) | exact HR189.out)) | (with_reducible refine Kd.C_alloc ?_ _) | (with_reducible refine Kd.C_drewN ?_ _) | (with_reducible refine Kd.C_drew ?_)))
                  (case side4 => exact HC189.out)
                  rintro e w' ⟨rfl, ⟨nd, rfl⟩⟩
                  refine ⟨_, rfl, ?_⟩
                  obtain ⟨i0156, hi0156, _, hsz156, _⟩ := info_parts info5
                  obtain ⟨A156, hcut156, hA156, hC156⟩ := print_drop_of (P := Try.prog) (Value.int .u8) 0 54 5 .i64 Try.underlying54 hi0156 hsz156 (some ad103) c0 l0 6 (by omega) (of_decide_eq_true (by first | (with_reducible assumption) | assumption)) HC0.out
                  have d156_ : A156 = A152 := MR.cut_same (hcut156 w) (hcut152 w)
                  rw [d156_] at hA156
                  clear hcut156 d156_
                  have HR191 := Aside0.mk (Kd.C_of_reads (h1 := fun _ => rfl) (hA156 _ (Kd.reads_of_C HR0.out)))
                  have HC191 := Aside0.mk hC156
                  clear hA156 hC156 hi0156 hsz156
                  refine hK.out _ _ trivial (fun hHeld => ?_)
                  clear hK K
                  refine norm_ (a' := ?_) ?_ ?_
                  rotate_left
                  ·show Act.put _ (some 89) _ = _
                   simp only [Act.put, List.setIfInBounds_toArray, List.set_cons_zero, List.set_cons_succ, i64_w, i32_w]
                   rfl
                  refine pure_ (i := 5) (N := some 90) (v := ?_) (a' := ?_) #[true,true,true,true,true,true,false,false,false,false,false,false,false,false,false,false,false,false,false,false] rfl rfl (any_of HT_.out (by kernel_rfl)) (fun _ _ _ h => h) (Or.inl ⟨by rfl, ?_⟩) ?_ ?_
                  rotate_left
                  ·intro w'
                   go_simp
                   with_reducible rfl
                  rotate_left
                  ·simp only [Act.put, List.setIfInBounds_toArray, List.set_cons_zero, List.set_cons_succ, i64_w, i32_w]
                   rfl
                  refine pure_ (i := 6) (N := some 91) (v := ?_) (a' := ?_) #[true,true,true,true,true,true,true,false,false,false,false,false,false,false,false,false,false,false,false,false] rfl rfl (any_of HT_.out (by kernel_rfl)) (fun _ _ _ h => h) (Or.inl ⟨by rfl, ?_⟩) ?_ ?_
                  rotate_left
                  ·intro w'
                   go_simp
                   with_reducible rfl
                  rotate_left
                  ·simp only [Act.put, List.setIfInBounds_toArray, List.set_cons_zero, List.set_cons_succ, i64_w, i32_w]
                   rfl
                  refine pure_ (i := 7) (N := some 92) (v := ?_) (a' := ?_) #[true,true,true,true,true,true,true,true,false,false,false,false,false,false,false,false,false,false,false,false] rfl rfl (any_of HT_.out (by kernel_rfl)) (fun _ _ _ h => h) (Or.inl ⟨by rfl, ?_⟩) ?_ ?_
                  rotate_left
                  ·intro w'
                   go_simp
                   with_reducible rfl
                  rotate_left
                  ·simp only [Act.put, List.setIfInBounds_toArray, List.set_cons_zero, List.set_cons_succ, i64_w, i32_w]
                   rfl
                  refine one_ (i := 8) (N := some 93) #[true,true,true,true,true,true,true,true,true,false,false,false,false,false,false,false,false,false,false,false] rfl rfl (one_of HT_.out (by kernel_rfl)) (by decide) (fun K hK => ?_)
                  refine goes_ Try.func92 (by kernel_rfl) rfl #[] (by rfl) rfl rfl (by (try simp only [List.map_toArray, List.map_cons, List.map_nil]); first | done | rfl | (simp only [List.length_drop, List.length_take]; rfl)) ?_
                  with_reducible refine (hertzstr_StrProxyAuthenticate.calls  t192 _ A134.out).mono ?_
                  rintro e w157 ⟨v193, rfl, ho0, hb⟩
                  refine ⟨_, rfl, ?_⟩
                  have n0_ := Aside0.mk (MR.R_elder' (by (with_reducible repeat (first | apply MR.R_alloc | apply MR.R_drewN | apply MR.R_drew)); exact HO185.out) (MR.R_base ho0) hb)
                  have n1_ := Aside0.mk (MR.R_lower (MR.R_new' ho0 (MR.R_lt (by (with_reducible repeat (first | apply MR.R_alloc | apply MR.R_drewN | apply MR.R_drew)); exact HO185.out))) (below_size (by repeat (first | (with_reducible first | exact HB.out | apply below_alloc | apply pw_below_drewN | apply below_drew1) | exact HB.out))))
                  have n2_ := Aside0.mk (Kd.C_below (by repeat (first | (with_reducible exact HR189.out) | (with_reducible refine Kd.C_alloc ?_ _) | (with_reducible refine Kd.C_drewN ?_ _) | (with_reducible refine Kd.C_drew ?_) | exact HR189.out)) hb)
                  have n3_ := Aside0.mk (below_step (by repeat (first | (with_reducible first | exact HB.out | apply below_alloc | apply pw_below_drewN | apply below_drew1) | exact HB.out)) hb)
                  clear HO185
                  clear HR189
                  clear HB
                  have HO185 := n0_
                  have HO194 := n1_
                  have HR189 := n2_
                  have HB := n3_
                  clear n0_ n1_ n2_ n3_
                  (try clear hb)
                  (try clear hb2)
                  (try clear hk)
                  (try clear hi)
                  (try clear ho0)
                  obtain ⟨Ao159, co159, eo159⟩ := MR.R_slice HO194.out
                  (first | subst eo159 | (injection eo159 with f1_ f2_ f3_; have f4_ := f1_.symm; have f5_ := f3_.symm; clear f1_ f2_ f3_; subst f4_; subst f5_))
                  have q158 : (6 : Int) ≤ ((t192.length : Int) : Int) := of_decide_eq_true (by first | (with_reducible assumption) | assumption)
                  obtain ⟨i0158, hi0158, _, hsz158, _⟩ := info_parts info5
                  have hroom158 : t192.length ≤ co159 := (MR.R_reads' HO194.out).2.1
                  have hC158 : Kd.C (Kd.int .u8) _ Ao159 t192.length t192 := (MR.R_reads' HO194.out).2.2
                  have hcut158 := cut_from (P := Try.prog) 54 5 .i64 Try.underlying54 hi0158 1 hsz158 Ao159 t192.length co159 6 (by omega) q158
                  have hr158 := Kd.C_drop (m := (6 : Int).toNat) (c := co159) hC158 (by omega) hroom158
                  obtain ⟨A158, hA158⟩ : ∃ A1, A1 = (if co159 = (6 : Int).toNat then Ao159 else (Ao159 : Option Addr).map (·.add ((6 : Int).toNat * 1))) := ⟨_, rfl⟩
                  obtain ⟨c158, hc158⟩ : ∃ c1, c1 = co159 - (6 : Int).toNat := ⟨_, rfl⟩
                  have hy158 : y195.length = t192.length - (6 : Int).toNat := (by rw [Ny195.out, List.length_drop] <;> omega)
                  rw [show (t192).drop (6 : Int).toNat = y195 from Ny195.out.symm] at hr158
                  replace hr158 : Kd.C (Kd.int .u8) _ A158 y195.length y195 := (by rw [hA158]; exact hr158)
                  rw [← hy158, ← hA158, ← hc158] at hcut158
                  have HR198 := Aside0.mk hr158
                  have HC198 := Aside0.mk (show y195.length ≤ c158 from by rw [hy158, hc158]; exact Nat.sub_le_sub_right hroom158 _)
                  clear hr158 hC158 hroom158 hi0158 hsz158 hc158
                  have KY158 := Aside0.mk hy158
                  have KA158 := Aside0.mk hA158
                  clear hy158 hA158
                  have KL158 := Aside0.mk (show 6 ≤ t192.length from by omega)
                  replace q158 := eq_true q158
                  refine hK.out _ _ trivial (fun hHeld => ?_)
                  clear hK K
                  refine norm_ (a' := ?_) ?_ ?_
                  rotate_left
                  ·show Act.put _ (some 93) _ = _
                   simp only [Act.put, List.setIfInBounds_toArray, List.set_cons_zero, List.set_cons_succ, i64_w, i32_w]
                   rfl
                  refine pure_ (i := 9) (N := some 94) (v := ?_) (a' := ?_) #[true,true,true,true,true,true,true,true,true,true,false,false,false,false,false,false,false,false,false,false] rfl rfl (any_of HT_.out (by kernel_rfl)) (fun _ _ _ h => h) (Or.inl ⟨by rfl, ?_⟩) ?_ ?_
                  rotate_left
                  ·intro w'
                   go_simp
                   with_reducible rfl
                  rotate_left
                  ·simp only [Act.put, List.setIfInBounds_toArray, List.set_cons_zero, List.set_cons_succ, i64_w, i32_w]
                   rfl
                  refine one_ (i := 10) (N := some 95) #[true,true,true,true,true,true,true,true,true,true,true,false,false,false,false,false,false,false,false,false] rfl rfl (one_of HT_.out (by kernel_rfl)) (by decide) (fun K hK => ?_)
                  refine goes_ Try.func80 (by kernel_rfl) rfl #[.slice A152 (l0.drop 6).length (c0 - 6), .slice A158 y195.length c158] (by rfl) rfl rfl (by (try simp only [List.map_toArray, List.map_cons, List.map_nil]); first | done | (rw [show (l0.drop 6).length = (l0.length - 6) from List.length_drop] <;> rfl) | rfl | (simp only [List.length_drop, List.length_take]; rfl)) ?_
                  with_reducible refine (hertzutils_CaseInsensitiveCompare.calls kj109 _ _ (l0.drop 6) _ _ y195 false _ ?side1 ?side2 ?side3 ?side4 A136.out).mono ?_
                  (case side1 => repeat (first | exact (Kd.C_below HR191.out HB.out) | (with_reducible refine Kd.C_alloc ?_ _) | (with_reducible refine Kd.C_drewN ?_ _) | (with_reducible refine Kd.C_drew ?_)))
                  (case side2 => exact HC191.out)
                  (case side3 => repeat (first | exact (by repeat (first | (with_reducible exact HR198.out) | (with_reducible refine Kd.C_alloc ?_ _) | (with_reducible refine Kd.C_drewN ?_ _) | (with_reducible refine Kd.C_drew ?_) | exact HR198.out)) | (with_reducible refine Kd.C_alloc ?_ _) | (with_reducible refine Kd.C_drewN ?_ _) | (with_reducible refine Kd.C_drew ?_)))
                  (case side4 => exact HC198.out)
                  rintro e w' ⟨rfl, ⟨nd, rfl⟩⟩
                  refine ⟨_, rfl, ?_⟩
                  obtain ⟨i0160, hi0160, _, hsz160, _⟩ := info_parts info5
                  obtain ⟨A160, hcut160, hA160, hC160⟩ := print_drop_of (P := Try.prog) (Value.int .u8) 0 54 5 .i64 Try.underlying54 hi0160 hsz160 (some ad103) c0 l0 6 (by omega) (of_decide_eq_true (by first | (with_reducible assumption) | assumption)) HC0.out
                  have d160_ : A160 = A152 := MR.cut_same (hcut160 w) (hcut152 w)
                  rw [d160_] at hA160
                  clear hcut160 d160_
                  have HR200 := Aside0.mk (Kd.C_of_reads (h1 := fun _ => rfl) (hA160 _ (Kd.reads_of_C HR0.out)))
                  have HC200 := Aside0.mk hC160
                  clear hA160 hC160 hi0160 hsz160
                  refine hK.out _ _ trivial (fun hHeld => ?_)
                  clear hK K
                  refine norm_ (a' := ?_) ?_ ?_
                  rotate_left
                  ·show Act.put _ (some 95) _ = _
                   simp only [Act.put, List.setIfInBounds_toArray, List.set_cons_zero, List.set_cons_succ, i64_w, i32_w]
                   rfl
                  refine pure_ (i := 11) (N := some 96) (v := ?_) (a' := ?_) #[true,true,true,true,true,true,true,true,true,true,true,true,false,false,false,false,false,false,false,false] rfl rfl (any_of HT_.out (by kernel_rfl)) (fun _ _ _ h => h) (Or.inl ⟨by rfl, ?_⟩) ?_ ?_
                  rotate_left
                  ·intro w'
                   go_simp
                   with_reducible rfl
                  rotate_left
                  ·simp only [Act.put, List.setIfInBounds_toArray, List.set_cons_zero, List.set_cons_succ, i64_w, i32_w]
                   rfl
                  refine pure_ (i := 12) (N := some 97) (v := ?_) (a' := ?_) #[true,true,true,true,true,true,true,true,true,true,true,true,true,false,false,false,false,false,false,false] rfl rfl (any_of HT_.out (by kernel_rfl)) (fun _ _ _ h => h) (Or.inl ⟨by rfl, ?_⟩) ?_ ?_
                  rotate_left
                  ·intro w'
                   go_simp
                   with_reducible rfl
                  rotate_left
                  ·simp only [Act.put, List.setIfInBounds_toArray, List.set_cons_zero, List.set_cons_succ, i64_w, i32_w]
                   rfl
                  refine pure_ (i := 13) (N := some 98) (v := ?_) (a' := ?_) #[true,true,true,true,true,true,true,true,true,true,true,true,true,true,false,false,false,false,false,false] rfl rfl (any_of HT_.out (by kernel_rfl)) (fun _ _ _ h => h) (Or.inl ⟨by rfl, ?_⟩) ?_ ?_
                  rotate_left
                  ·intro w'
                   go_simp
                   with_reducible rfl
                  rotate_left
                  ·simp only [Act.put, List.setIfInBounds_toArray, List.set_cons_zero, List.set_cons_succ, i64_w, i32_w]
                   rfl
                  refine pure_ (i := 14) (N := some 99) (v := ?_) (a' := ?_) #[true,true,true,true,true,true,true,true,true,true,true,true,true,true,true,false,false,false,false,false] rfl rfl (any_of HT_.out (by kernel_rfl)) (fun _ _ _ h => h) (Or.inl ⟨by rfl, ?_⟩) ?_ ?_
                  rotate_left
                  ·intro w'
                   go_simp
                   with_reducible rfl
                  rotate_left
                  ·simp only [Act.put, List.setIfInBounds_toArray, List.set_cons_zero, List.set_cons_succ, i64_w, i32_w]
                   rfl
                  refine one_ (i := 15) (N := some 100) #[true,true,true,true,true,true,true,true,true,true,true,true,true,true,true,true,false,false,false,false] rfl rfl (one_of HT_.out (by kernel_rfl)) (by decide) (fun K hK => ?_)
                  refine goes_ Try.func93 (by kernel_rfl) rfl #[] (by rfl) rfl rfl (by (try simp only [List.map_toArray, List.map_cons, List.map_nil]); first | done | rfl | (simp only [List.length_drop, List.length_take]; rfl)) ?_
                  with_reducible refine (hertzstr_StrProxyAuthorization.calls  t201 _ A148.out).mono ?_
                  rintro e w161 ⟨v202, rfl, ho0, hb⟩
                  refine ⟨_, rfl, ?_⟩
                  have n0_ := Aside0.mk (MR.R_elder' (by (with_reducible repeat (first | apply MR.R_alloc | apply MR.R_drewN | apply MR.R_drew)); exact HO185.out) (MR.R_base ho0) hb)
                  have n1_ := Aside0.mk (MR.R_elder' (by (with_reducible repeat (first | apply MR.R_alloc | apply MR.R_drewN | apply MR.R_drew)); exact HO194.out) (MR.R_base ho0) hb)
                  have n2_ := Aside0.mk (MR.R_lower (MR.R_new' (MR.R_new' ho0 (MR.R_lt (by (with_reducible repeat (first | apply MR.R_alloc | apply MR.R_drewN | apply MR.R_drew)); exact HO185.out))) (MR.R_lt (by (with_reducible repeat (first | apply MR.R_alloc | apply MR.R_drewN | apply MR.R_drew)); exact HO194.out))) (below_size (by repeat (first | (with_reducible first | exact HB.out | apply below_alloc | apply pw_below_drewN | apply below_drew1) | exact HB.out))))
                  have n3_ := Aside0.mk (Kd.C_below (by repeat (first | (with_reducible exact HR189.out) | (with_reducible refine Kd.C_alloc ?_ _) | (with_reducible refine Kd.C_drewN ?_ _) | (with_reducible refine Kd.C_drew ?_) | exact HR189.out)) hb)
                  have n4_ := Aside0.mk (Kd.C_below (by repeat (first | (with_reducible exact HR198.out) | (with_reducible refine Kd.C_alloc ?_ _) | (with_reducible refine Kd.C_drewN ?_ _) | (with_reducible refine Kd.C_drew ?_) | exact HR198.out)) hb)
                  have n5_ := Aside0.mk (below_step (by repeat (first | (with_reducible first | exact HB.out | apply below_alloc | apply pw_below_drewN | apply below_drew1) | exact HB.out)) hb)
                  clear HO185
                  clear HO194
                  clear HR189
                  clear HR198
                  clear HB
                  have HO185 := n0_
                  have HO194 := n1_
                  have HO203 := n2_
                  have HR189 := n3_
                  have HR198 := n4_
                  have HB := n5_
                  clear n0_ n1_ n2_ n3_ n4_ n5_
                  (try clear hb)
                  (try clear hb2)
                  (try clear hk)
                  (try clear hi)
                  (try clear ho0)
                  obtain ⟨Ao163, co163, eo163⟩ := MR.R_slice HO203.out
                  (first | subst eo163 | (injection eo163 with f1_ f2_ f3_; have f4_ := f1_.symm; have f5_ := f3_.symm; clear f1_ f2_ f3_; subst f4_; subst f5_))
                  have q162 : (6 : Int) ≤ ((t201.length : Int) : Int) := of_decide_eq_true (by first | (with_reducible assumption) | assumption)
                  obtain ⟨i0162, hi0162, _, hsz162, _⟩ := info_parts info5
                  have hroom162 : t201.length ≤ co163 := (MR.R_reads' HO203.out).2.1
                  have hC162 : Kd.C (Kd.int .u8) _ Ao163 t201.length t201 := (MR.R_reads' HO203.out).2.2
                  have hcut162 := cut_from (P := Try.prog) 54 5 .i64 Try.underlying54 hi0162 1 hsz162 Ao163 t201.length co163 6 (by omega) q162
                  have hr162 := Kd.C_drop (m := (6 : Int).toNat) (c := co163) hC162 (by omega) hroom162
                  obtain ⟨A162, hA162⟩ : ∃ A1, A1 = (if co163 = (6 : Int).toNat then Ao163 else (Ao163 : Option Addr).map (·.add ((6 : Int).toNat * 1))) := ⟨_, rfl⟩
                  obtain ⟨c162, hc162⟩ : ∃ c1, c1 = co163 - (6 : Int).toNat := ⟨_, rfl⟩
                  have hy162 : y204.length = t201.length - (6 : Int).toNat := (by rw [Ny204.out, List.length_drop] <;> omega)
                  rw [show (t201).drop (6 : Int).toNat = y204 from Ny204.out.symm] at hr162
                  replace hr162 : Kd.C (Kd.int .u8) _ A162 y204.length y204 := (by rw [hA162]; exact hr162)
                  rw [← hy162, ← hA162, ← hc162] at hcut162
                  have HR207 := Aside0.mk hr162
                  have HC207 := Aside0.mk (show y204.length ≤ c162 from by rw [hy162, hc162]; exact Nat.sub_le_sub_right hroom162 _)
                  clear hr162 hC162 hroom162 hi0162 hsz162 hc162
                  have KY162 := Aside0.mk hy162
                  have KA162 := Aside0.mk hA162
                  clear hy162 hA162
                  have KL162 := Aside0.mk (show 6 ≤ t201.length from by omega)
                  replace q162 := eq_true q162
                  refine hK.out _ _ trivial (fun hHeld => ?_)
                  clear hK K
                  refine norm_ (a' := ?_) ?_ ?_
                  rotate_left
                  ·show Act.put _ (some 100) _ = _
                   simp only [Act.put, List.setIfInBounds_toArray, List.set_cons_zero, List.set_cons_succ, i64_w, i32_w]
                   rfl
                  refine pure_ (i := 16) (N := some 101) (v := ?_) (a' := ?_) #[true,true,true,true,true,true,true,true,true,true,true,true,true,true,true,true,true,false,false,false] rfl rfl (any_of HT_.out (by kernel_rfl)) (fun _ _ _ h => h) (Or.inl ⟨by rfl, ?_⟩) ?_ ?_
                  rotate_left
                  ·intro w'
                   go_simp
                   with_reducible rfl
                  rotate_left
                  ·simp only [Act.put, List.setIfInBounds_toArray, List.set_cons_zero, List.set_cons_succ, i64_w, i32_w]
                   rfl
                  refine one_ (i := 17) (N := some 102) #[true,true,true,true,true,true,true,true,true,true,true,true,true,true,true,true,true,true,false,false] rfl rfl (one_of HT_.out (by kernel_rfl)) (by decide) (fun K hK => ?_)
                  refine goes_ Try.func80 (by kernel_rfl) rfl #[.slice A152 (l0.drop 6).length (c0 - 6), .slice A162 y204.length c162] (by rfl) rfl rfl (by (try simp only [List.map_toArray, List.map_cons, List.map_nil]); first | done | (rw [show (l0.drop 6).length = (l0.length - 6) from List.length_drop] <;> rfl) | rfl | (simp only [List.length_drop, List.length_take]; rfl)) ?_
                  with_reducible refine (hertzutils_CaseInsensitiveCompare.calls kj109 _ _ (l0.drop 6) _ _ y204 t208 _ ?side1 ?side2 ?side3 ?side4 A150.out).mono ?_
                  (case side1 => repeat (first | exact (Kd.C_below HR200.out HB.out) | (with_reducible refine Kd.C_alloc ?_ _) | (with_reducible refine Kd.C_drewN ?_ _) | (with_reducible refine Kd.C_drew ?_)))
                  (case side2 => exact HC200.out)
                  (case side3 => repeat (first | exact (by repeat (first | (with_reducible exact HR207.out) | (with_reducible refine Kd.C_alloc ?_ _) | (with_reducible refine Kd.C_drewN ?_ _) | (with_reducible refine Kd.C_drew ?_) | exact HR207.out)) | (with_reducible refine Kd.C_alloc ?_ _) | (with_reducible refine Kd.C_drewN ?_ _) | (with_reducible refine Kd.C_drew ?_)))
                  (case side4 => exact HC207.out)
                  rintro e w' ⟨rfl, ⟨nd, rfl⟩⟩
                  refine ⟨_, rfl, ?_⟩
                  refine hK.out _ _ trivial (fun hHeld => ?_)
                  clear hK K
                  refine norm_ (a' := ?_) ?_ ?_
                  rotate_left
                  ·show Act.put _ (some 102) _ = _
                   simp only [Act.put, List.setIfInBounds_toArray, List.set_cons_zero, List.set_cons_succ, i64_w, i32_w]
                   rfl
                  refine pure_ (i := 18) (N := some 103) (v := ?_) (a' := ?_) #[true,true,true,true,true,true,true,true,true,true,true,true,true,true,true,true,true,true,true,false] rfl rfl (any_of HT_.out (by kernel_rfl)) (fun _ _ _ h => h) (Or.inl ⟨by rfl, ?_⟩) ?_ ?_
                  rotate_left
                  ·intro w'
                   go_simp
                   with_reducible rfl
                  rotate_left
                  ·simp only [Act.put, List.setIfInBounds_toArray, List.set_cons_zero, List.set_cons_succ, i64_w, i32_w]
                   rfl
                  refine pure_ (i := 19) (N := some 2) (v := ?_) (a' := ?_) #[true,true,true,true,true,true,true,true,true,true,true,true,true,true,true,true,true,true,true,true] rfl rfl (any_of HT_.out (by kernel_rfl)) (fun _ _ _ h => h) (Or.inl ⟨by rfl, ?_⟩) ?_ ?_
                  rotate_left
                  ·intro w'
                   go_simp
                   with_reducible rfl
                  rotate_left
                  ·simp only [Act.put, List.setIfInBounds_toArray, List.set_cons_zero, List.set_cons_succ, i64_w, i32_w]
                   rfl
                  refine done_ (done_of HT_.out (by kernel_rfl)) ?_
                  try go_wp2
                  go_ret
                  exact ⟨by first | rfl | (simp [errW_none, errW_some] <;> rfl) | (simp [*, errW_none, errW_some] <;> rfl), by repeat (first | (with_reducible first | exact HB.out | apply below_alloc | apply pw_below_drewN | apply below_drew1) | exact HB.out)⟩
                 ·rw [if_neg c149] at H
                  exact absurd H (by simp)
               ·rw [if_neg c135] at H
                exact absurd H (by simp)
             ·rw [if_neg c125] at H
              exact absurd H (by simp)
            ·rw [if_neg c123] at H
             exact absurd H (by simp)
           ·replace c122 := Bool.eq_false_iff.mpr c122
            subst c122
            have H1 : (some false) = some r := by rw [if_neg (show ¬ (false = true) by decide)] at H; exact H
            clear H
            have H := H1
            clear H1
            obtain rfl := Option.some.inj H
            go_wp2
            go_ret
            exact ⟨by first | rfl | (simp [errW_none, errW_some] <;> rfl) | (simp [*, errW_none, errW_some] <;> rfl), by repeat (first | (with_reducible first | exact HB.out | apply below_alloc | apply pw_below_drewN | apply below_drew1) | exact HB.out)⟩
        ·exact absurd HCASE_.out c109
 ·rw [if_neg c2] at H
  exact absurd H (by simp)
end Go.Proofs.Ytoimkmoalmmooaa.QA
namespace Go.Proofs.Ytoimkmoalmmooaa.QA
open Go.Proofs.Ytoimkmoalmmooaa.Given
open Go.Proofs.Ytoimkmoalmmooaa.PrX
open Go.RowKit Go.Proofs.YtoimkmoalmmooaaW.PrintWords Go.Proofs.YtoimkmoalmmooaaW.PrintLast Go.Proofs.YtoimkmoalmmooaaW.PrintMore
set_option linter.unusedVariables false
set_option linter.unusedSimpArgs false
set_option maxHeartbeats 8000000 in
set_option maxRecDepth 100000 in
theorem hertzproto_IsBadTrailer.calls (k : Nat) (A0 : Option Addr) (c0 : Nat) (l0 : List Int) (r : Bool) (w : World) (hr0 : Kd.C (Kd.int .u8) w A0 l0.length l0) (hc0 : l0.length ≤ c0) (h : hertzproto_IsBadTrailer.f k l0 = some r) :
  Calls Try.prog 68 #[.slice A0 l0.length c0] w fun e w' => e = .returned (.bool r) ∧ Below w.heap.size w w' := by
 have H00_ := Aside0.mk h
 have HR0 := Aside0.mk hr0
 have HC0 := Aside0.mk hc0
 clear hr0 hc0
 have HB := Aside0.mk (Below.refl w.heap.size w)
 have H : (if 0 < (l0.length : Int) then (if (Go.bits .or .u8 (rd l0 0) 32) = 97 then ((hertzstr_StrAuthorization.f).bind fun t104 => ((hertzutils_CaseInsensitiveCompare.f k l0 t104).bind fun t107 => (some t107))) else (if (Go.bits .or .u8 (rd l0 0) 32) = 99 then (if (l0.length : Int) ≥ 12 then (if 8 ≤ (l0.length : Int) then ((hertzstr_StrContentType.f).bind fun t109 => (if 8 ≤ (t109.length : Int) then ((hertzutils_CaseInsensitiveCompare.f k (l0.take 8) (t109.take 8)).bind fun t116 => (hertzproto_IsBadTrailer.j0 k l0 t116)) else (none))) else (none)) else (hertzproto_IsBadTrailer.j0 k l0 false)) else (if (Go.bits .or .u8 (rd l0 0) 32) = 101 then ((hertzstr_StrExpect.f).bind fun t157 => ((hertzutils_CaseInsensitiveCompare.f k l0 t157).bind fun t160 => (some t160))) else (if (Go.bits .or .u8 (rd l0 0) 32) = 104 then ((hertzstr_StrHost.f).bind fun t161 => ((hertzutils_CaseInsensitiveCompare.f k l0 t161).bind fun t164 => (some t164))) else (if (Go.bits .or .u8 (rd l0 0) 32) = 107 then ((hertzstr_StrKeepAlive.f).bind fun t165 => ((hertzutils_CaseInsensitiveCompare.f k l0 t165).bind fun t168 => (some t168))) else (if (Go.bits .or .u8 (rd l0 0) 32) = 109 then ((hertzstr_StrMaxForwards.f).bind fun t169 => ((hertzutils_CaseInsensitiveCompare.f k l0 t169).bind fun t172 => (some t172))) else (if (Go.bits .or .u8 (rd l0 0) 32) = 112 then (if (l0.length : Int) ≥ 16 then (if 6 ≤ (l0.length : Int) then ((hertzstr_StrProxyConnection.f).bind fun t174 => (if 6 ≤ (t174.length : Int) then ((hertzutils_CaseInsensitiveCompare.f k (l0.take 6) (t174.take 6)).bind fun t181 => (hertzproto_IsBadTrailer.j1 k l0 t181)) else (none))) else (none)) else (hertzproto_IsBadTrailer.j1 k l0 false)) else (if (Go.bits .or .u8 (rd l0 0) 32) = 114 then ((hertzstr_StrRange.f).bind fun t209 => ((hertzutils_CaseInsensitiveCompare.f k l0 t209).bind fun t212 => (some t212))) else (if (Go.bits .or .u8 (rd l0 0) 32) = 116 then ((hertzstr_StrTE.f).bind fun t213 => ((hertzutils_CaseInsensitiveCompare.f k l0 t213).bind fun t216 => (if t216 = true then (some true) else ((hertzstr_StrTrailer.f).bind fun t217 => ((hertzutils_CaseInsensitiveCompare.f k l0 t217).bind fun t220 => (if t220 = true then (some true) else ((hertzstr_StrTransferEncoding.f).bind fun t221 => ((hertzutils_CaseInsensitiveCompare.f k l0 t221).bind fun t224 => (some t224))))))))) else (if (Go.bits .or .u8 (rd l0 0) 32) = 119 then ((hertzstr_StrWWWAuthenticate.f).bind fun t225 => ((hertzutils_CaseInsensitiveCompare.f k l0 t225).bind fun t228 => (some t228))) else (some false))))))))))) else (none)) = some r := h
 clear h
 by_cases c2 : 0 < (l0.length : Int)
 ·rw [if_pos c2] at H
  have c2b0 : decide (0 < (l0.length : Int)) = true := decide_eq_true c2
  have c2b1 : decide (0 < l0.length) = true := decide_eq_true (by omega)
  clear c2
  by_cases c3 : (Go.bits .or .u8 (rd l0 0) 32) = 97
  ·rw [if_pos c3] at H
   have c3b0 : ((Go.bits .or .u8 (rd l0 0) 32) == 97) = true := beq_iff_eq.mpr c3
   have c3b1 : ((Go.bits .or .u8 (rd l0 0) 32) != 97) = false := bne_eq_false_iff_eq.mpr c3
   clear c3
   replace H := Option.bind_eq_some_iff.mp H
   obtain ⟨t104, A40, H⟩ := H
   replace H : ((hertzutils_CaseInsensitiveCompare.f k l0 t104).bind fun t107 => (some t107)) = some r := H
   have A4 := Aside0.mk A40
   clear A40
   replace H := Option.bind_eq_some_iff.mp H
   obtain ⟨t107, A50, H⟩ := H
   replace H : (some t107) = some r := H
   have A5 := Aside0.mk A50
   clear A50
   obtain rfl := Option.some.inj H
   have p103 : 0 ≤ (0 : Int) := (by omega)
   have q103 : 0 < (l0.length : Int) := of_decide_eq_true (by first | (with_reducible assumption) | assumption)
   obtain ⟨ad103, e103, hx103_0⟩ := Kd.at_int HR0.out 0 p103 q103
   cases e103
   have qi103 : (0 < l0.length) = True := eq_true (by omega)
   (try rw [show ((0 : Int)).toNat = 0 from rfl] at hx103_0)
   (try rw [Addr.add_zero'] at hx103_0)
   replace p103 := eq_true p103
   replace q103 := eq_true q103
   go_enter Try.func68, Try.ntmps68
   go_wp2_with (first | ((with_reducible refine gate_callee (f := 81) rfl ?_); refine goesL_ (some 10) rfl rfl Try.func81 (by kernel_rfl) rfl #[] rfl (by (try simp only [List.map_toArray, List.map_cons, List.map_nil]); first | done | rfl | (simp only [List.length_drop, List.length_take]; rfl)) ?_; (with_reducible refine (hertzstr_StrAuthorization.calls  t104 _ A4.out).mono ?_); rintro e w6 ⟨v105, rfl, ho0, hb⟩; refine ⟨_, rfl, ?_⟩; have n0_ := Aside0.mk (MR.R_lower ho0 (below_size (by repeat (first | (with_reducible first | exact HB.out | apply below_alloc | apply pw_below_drewN | apply below_drew1) | exact HB.out)))); have n1_ := Aside0.mk (below_step (by repeat (first | (with_reducible first | exact HB.out | apply below_alloc | apply pw_below_drewN | apply below_drew1) | exact HB.out)) hb); clear HB; have HO106 := n0_; have HB := n1_; clear n0_ n1_; (try clear hb); (try clear hb2); (try clear hk); (try clear hi); (try clear ho0); obtain ⟨Ao7, co7, eo7⟩ := MR.R_slice HO106.out; subst eo7) | ((with_reducible refine gate_callee (f := 80) rfl ?_); refine goesL_ (some 11) rfl rfl Try.func80 (by kernel_rfl) rfl #[.slice (some ad103) l0.length c0, .slice Ao7 t104.length co7] rfl (by (try simp only [List.map_toArray, List.map_cons, List.map_nil]); first | done | rfl | (simp only [List.length_drop, List.length_take]; rfl)) ?_; (with_reducible refine (hertzutils_CaseInsensitiveCompare.calls k _ _ l0 _ _ t104 t107 _ ?side1 ?side2 ?side3 ?side4 A5.out).mono ?_); (case side1 => repeat (first | exact (Kd.C_below HR0.out HB.out) | (with_reducible refine Kd.C_alloc ?_ _) | (with_reducible refine Kd.C_drewN ?_ _) | (with_reducible refine Kd.C_drew ?_))); (case side2 => exact HC0.out); (case side3 => repeat (first | exact (MR.R_reads' HO106.out).2.2 | (with_reducible refine Kd.C_alloc ?_ _) | (with_reducible refine Kd.C_drewN ?_ _) | (with_reducible refine Kd.C_drew ?_))); (case side4 => exact (MR.R_reads' HO106.out).2.1); rintro e w' ⟨rfl, ⟨nd, rfl⟩⟩; refine ⟨_, rfl, ?_⟩))
   go_ret
   exact ⟨by first | rfl | (simp [errW_none, errW_some] <;> rfl) | (simp [*, errW_none, errW_some] <;> rfl), by repeat (first | (with_reducible first | exact HB.out | apply below_alloc | apply pw_below_drewN | apply below_drew1) | exact HB.out)⟩
  ·rw [if_neg c3] at H
   have c3b0 : ((Go.bits .or .u8 (rd l0 0) 32) == 97) = false := beq_eq_false_iff_ne.mpr c3
   have c3b1 : ((Go.bits .or .u8 (rd l0 0) 32) != 97) = true := bne_iff_ne.mpr c3
   by_cases c8 : (Go.bits .or .u8 (rd l0 0) 32) = 99
   ·exact hertzproto_IsBadTrailer.calls_0 k A0 c0 l0 r w HR0.out HC0.out c8 H00_.out
   ·rw [if_neg c8] at H
    have c8b0 : ((Go.bits .or .u8 (rd l0 0) 32) == 99) = false := beq_eq_false_iff_ne.mpr c8
    have c8b1 : ((Go.bits .or .u8 (rd l0 0) 32) != 99) = true := bne_iff_ne.mpr c8
    by_cases c89 : (Go.bits .or .u8 (rd l0 0) 32) = 101
    ·rw [if_pos c89] at H
     have c89b0 : ((Go.bits .or .u8 (rd l0 0) 32) == 101) = true := beq_iff_eq.mpr c89
     have c89b1 : ((Go.bits .or .u8 (rd l0 0) 32) != 101) = false := bne_eq_false_iff_eq.mpr c89
     clear c89
     replace H := Option.bind_eq_some_iff.mp H
     obtain ⟨t157, A900, H⟩ := H
     replace H : ((hertzutils_CaseInsensitiveCompare.f k l0 t157).bind fun t160 => (some t160)) = some r := H
     have A90 := Aside0.mk A900
     clear A900
     replace H := Option.bind_eq_some_iff.mp H
     obtain ⟨t160, A910, H⟩ := H
     replace H : (some t160) = some r := H
     have A91 := Aside0.mk A910
     clear A910
     obtain rfl := Option.some.inj H
     have p103 : 0 ≤ (0 : Int) := (by omega)
     have q103 : 0 < (l0.length : Int) := of_decide_eq_true (by first | (with_reducible assumption) | assumption)
     obtain ⟨ad103, e103, hx103_0⟩ := Kd.at_int HR0.out 0 p103 q103
     cases e103
     have qi103 : (0 < l0.length) = True := eq_true (by omega)
     (try rw [show ((0 : Int)).toNat = 0 from rfl] at hx103_0)
     (try rw [Addr.add_zero'] at hx103_0)
     replace p103 := eq_true p103
     replace q103 := eq_true q103
     go_enter Try.func68, Try.ntmps68
     go_wp2_with (first | ((with_reducible refine gate_callee (f := 87) rfl ?_); refine goesL_ (some 56) rfl rfl Try.func87 (by kernel_rfl) rfl #[] rfl (by (try simp only [List.map_toArray, List.map_cons, List.map_nil]); first | done | rfl | (simp only [List.length_drop, List.length_take]; rfl)) ?_; (with_reducible refine (hertzstr_StrExpect.calls  t157 _ A90.out).mono ?_); rintro e w92 ⟨v158, rfl, ho0, hb⟩; refine ⟨_, rfl, ?_⟩; have n0_ := Aside0.mk (MR.R_lower ho0 (below_size (by repeat (first | (with_reducible first | exact HB.out | apply below_alloc | apply pw_below_drewN | apply below_drew1) | exact HB.out)))); have n1_ := Aside0.mk (below_step (by repeat (first | (with_reducible first | exact HB.out | apply below_alloc | apply pw_below_drewN | apply below_drew1) | exact HB.out)) hb); clear HB; have HO159 := n0_; have HB := n1_; clear n0_ n1_; (try clear hb); (try clear hb2); (try clear hk); (try clear hi); (try clear ho0); obtain ⟨Ao93, co93, eo93⟩ := MR.R_slice HO159.out; subst eo93) | ((with_reducible refine gate_callee (f := 80) rfl ?_); refine goesL_ (some 57) rfl rfl Try.func80 (by kernel_rfl) rfl #[.slice (some ad103) l0.length c0, .slice Ao93 t157.length co93] rfl (by (try simp only [List.map_toArray, List.map_cons, List.map_nil]); first | done | rfl | (simp only [List.length_drop, List.length_take]; rfl)) ?_; (with_reducible refine (hertzutils_CaseInsensitiveCompare.calls k _ _ l0 _ _ t157 t160 _ ?side1 ?side2 ?side3 ?side4 A91.out).mono ?_); (case side1 => repeat (first | exact (Kd.C_below HR0.out HB.out) | (with_reducible refine Kd.C_alloc ?_ _) | (with_reducible refine Kd.C_drewN ?_ _) | (with_reducible refine Kd.C_drew ?_))); (case side2 => exact HC0.out); (case side3 => repeat (first | exact (MR.R_reads' HO159.out).2.2 | (with_reducible refine Kd.C_alloc ?_ _) | (with_reducible refine Kd.C_drewN ?_ _) | (with_reducible refine Kd.C_drew ?_))); (case side4 => exact (MR.R_reads' HO159.out).2.1); rintro e w' ⟨rfl, ⟨nd, rfl⟩⟩; refine ⟨_, rfl, ?_⟩))
     go_ret
     exact ⟨by first | rfl | (simp [errW_none, errW_some] <;> rfl) | (simp [*, errW_none, errW_some] <;> rfl), by repeat (first | (with_reducible first | exact HB.out | apply below_alloc | apply pw_below_drewN | apply below_drew1) | exact HB.out)⟩
    ·rw [if_neg c89] at H
     have c89b0 : ((Go.bits .or .u8 (rd l0 0) 32) == 101) = false := beq_eq_false_iff_ne.mpr c89
     have c89b1 : ((Go.bits .or .u8 (rd l0 0) 32) != 101) = true := bne_iff_ne.mpr c89
     by_cases c94 : (Go.bits .or .u8 (rd l0 0) 32) = 104
     ·rw [if_pos c94] at H
      have c94b0 : ((Go.bits .or .u8 (rd l0 0) 32) == 104) = true := beq_iff_eq.mpr c94
      have c94b1 : ((Go.bits .or .u8 (rd l0 0) 32) != 104) = false := bne_eq_false_iff_eq.mpr c94
      clear c94
      replace H := Option.bind_eq_some_iff.mp H
      obtain ⟨t161, A950, H⟩ := H
      replace H : ((hertzutils_CaseInsensitiveCompare.f k l0 t161).bind fun t164 => (some t164)) = some r := H
      have A95 := Aside0.mk A950
      clear A950
      replace H := Option.bind_eq_some_iff.mp H
      obtain ⟨t164, A960, H⟩ := H
      replace H : (some t164) = some r := H
      have A96 := Aside0.mk A960
      clear A960
      obtain rfl := Option.some.inj H
      have p103 : 0 ≤ (0 : Int) := (by omega)
      have q103 : 0 < (l0.length : Int) := of_decide_eq_true (by first | (with_reducible assumption) | assumption)
      obtain ⟨ad103, e103, hx103_0⟩ := Kd.at_int HR0.out 0 p103 q103
      cases e103
      have qi103 : (0 < l0.length) = True := eq_true (by omega)
      (try rw [show ((0 : Int)).toNat = 0 from rfl] at hx103_0)
      (try rw [Addr.add_zero'] at hx103_0)
      replace p103 := eq_true p103
      replace q103 := eq_true q103
      go_enter Try.func68, Try.ntmps68
      go_wp2_with (first | ((with_reducible refine gate_callee (f := 88) rfl ?_); refine goesL_ (some 61) rfl rfl Try.func88 (by kernel_rfl) rfl #[] rfl (by (try simp only [List.map_toArray, List.map_cons, List.map_nil]); first | done | rfl | (simp only [List.length_drop, List.length_take]; rfl)) ?_; (with_reducible refine (hertzstr_StrHost.calls  t161 _ A95.out).mono ?_); rintro e w97 ⟨v162, rfl, ho0, hb⟩; refine ⟨_, rfl, ?_⟩; have n0_ := Aside0.mk (MR.R_lower ho0 (below_size (by repeat (first | (with_reducible first | exact HB.out | apply below_alloc | apply pw_below_drewN | apply below_drew1) | exact HB.out)))); have n1_ := Aside0.mk (below_step (by repeat (first | (with_reducible first | exact HB.out | apply below_alloc | apply pw_below_drewN | apply below_drew1) | exact HB.out)) hb); clear HB; have HO163 := n0_; have HB := n1_; clear n0_ n1_; (try clear hb); (try clear hb2); (try clear hk); (try clear hi); (try clear ho0); obtain ⟨Ao98, co98, eo98⟩ := MR.R_slice HO163.out; subst eo98) | ((with_reducible refine gate_callee (f := 80) rfl ?_); refine goesL_ (some 62) rfl rfl Try.func80 (by kernel_rfl) rfl #[.slice (some ad103) l0.length c0, .slice Ao98 t161.length co98] rfl (by (try simp only [List.map_toArray, List.map_cons, List.map_nil]); first | done | rfl | (simp only [List.length_drop, List.length_take]; rfl)) ?_; (with_reducible refine (hertzutils_CaseInsensitiveCompare.calls k _ _ l0 _ _ t161 t164 _ ?side1 ?side2 ?side3 ?side4 A96.out).mono ?_); (case side1 => repeat (first | exact (Kd.C_below HR0.out HB.out) | (with_reducible refine Kd.C_alloc ?_ _) | (with_reducible refine Kd.C_drewN ?_ _) | (with_reducible refine Kd.C_drew ?_))); (case side2 => exact HC0.out); (case side3 => repeat (first | exact (MR.R_reads' HO163.out).2.2 | (with_reducible refine Kd.C_alloc ?_ _) | (with_reducible refine Kd.C_drewN ?_ _) | (with_reducible refine Kd.C_drew ?_))); (case side4 => exact (MR.R_reads' HO163.out).2.1); rintro e w' ⟨rfl, ⟨nd, rfl⟩⟩; refine ⟨_, rfl, ?_⟩))
      go_ret
      exact ⟨by first | rfl | (simp [errW_none, errW_some] <;> rfl) | (simp [*, errW_none, errW_some] <;> rfl), by repeat (first | (with_reducible first | exact HB.out | apply below_alloc | apply pw_below_drewN | apply below_drew1) | exact HB.out)⟩
     ·rw [if_neg c94] at H
      have c94b0 : ((Go.bits .or .u8 (rd l0 0) 32) == 104) = false := beq_eq_false_iff_ne.mpr c94
      have c94b1 : ((Go.bits .or .u8 (rd l0 0) 32) != 104) = true := bne_iff_ne.mpr c94
      by_cases c99 : (Go.bits .or .u8 (rd l0 0) 32) = 107
      ·rw [if_pos c99] at H
       have c99b0 : ((Go.bits .or .u8 (rd l0 0) 32) == 107) = true := beq_iff_eq.mpr c99
       have c99b1 : ((Go.bits .or .u8 (rd l0 0) 32) != 107) = false := bne_eq_false_iff_eq.mpr c99
       clear c99
       replace H := Option.bind_eq_some_iff.mp H
       obtain ⟨t165, A1000, H⟩ := H
       replace H : ((hertzutils_CaseInsensitiveCompare.f k l0 t165).bind fun t168 => (some t168)) = some r := H
       have A100 := Aside0.mk A1000
       clear A1000
       replace H := Option.bind_eq_some_iff.mp H
       obtain ⟨t168, A1010, H⟩ := H
       replace H : (some t168) = some r := H
       have A101 := Aside0.mk A1010
       clear A1010
       obtain rfl := Option.some.inj H
       have p103 : 0 ≤ (0 : Int) := (by omega)
       have q103 : 0 < (l0.length : Int) := of_decide_eq_true (by first | (with_reducible assumption) | assumption)
       obtain ⟨ad103, e103, hx103_0⟩ := Kd.at_int HR0.out 0 p103 q103
       cases e103
       have qi103 : (0 < l0.length) = True := eq_true (by omega)
       (try rw [show ((0 : Int)).toNat = 0 from rfl] at hx103_0)
       (try rw [Addr.add_zero'] at hx103_0)
       replace p103 := eq_true p103
       replace q103 := eq_true q103
       go_enter Try.func68, Try.ntmps68
       go_wp2_with (first | ((with_reducible refine gate_callee (f := 89) rfl ?_); refine goesL_ (some 66) rfl rfl Try.func89 (by kernel_rfl) rfl #[] rfl (by (try simp only [List.map_toArray, List.map_cons, List.map_nil]); first | done | rfl | (simp only [List.length_drop, List.length_take]; rfl)) ?_; (with_reducible refine (hertzstr_StrKeepAlive.calls  t165 _ A100.out).mono ?_); rintro e w102 ⟨v166, rfl, ho0, hb⟩; refine ⟨_, rfl, ?_⟩; have n0_ := Aside0.mk (MR.R_lower ho0 (below_size (by repeat (first | (with_reducible first | exact HB.out | apply below_alloc | apply pw_below_drewN | apply below_drew1) | exact HB.out)))); have n1_ := Aside0.mk (below_step (by repeat (first | (with_reducible first | exact HB.out | apply below_alloc | apply pw_below_drewN | apply below_drew1) | exact HB.out)) hb); clear HB; have HO167 := n0_; have HB := n1_; clear n0_ n1_; (try clear hb); (try clear hb2); (try clear hk); (try clear hi); (try clear ho0); obtain ⟨Ao103, co103, eo103⟩ := MR.R_slice HO167.out; subst eo103) | ((with_reducible refine gate_callee (f := 80) rfl ?_); refine goesL_ (some 67) rfl rfl Try.func80 (by kernel_rfl) rfl #[.slice (some ad103) l0.length c0, .slice Ao103 t165.length co103] rfl (by (try simp only [List.map_toArray, List.map_cons, List.map_nil]); first | done | rfl | (simp only [List.length_drop, List.length_take]; rfl)) ?_; (with_reducible refine (hertzutils_CaseInsensitiveCompare.calls k _ _ l0 _ _ t165 t168 _ ?side1 ?side2 ?side3 ?side4 A101.out).mono ?_); (case side1 => repeat (first | exact (Kd.C_below HR0.out HB.out) | (with_reducible refine Kd.C_alloc ?_ _) | (with_reducible refine Kd.C_drewN ?_ _) | (with_reducible refine Kd.C_drew ?_))); (case side2 => exact HC0.out); (case side3 => repeat (first | exact (MR.R_reads' HO167.out).2.2 | (with_reducible refine Kd.C_alloc ?_ _) | (with_reducible refine Kd.C_drewN ?_ _) | (with_reducible refine Kd.C_drew ?_))); (case side4 => exact (MR.R_reads' HO167.out).2.1); rintro e w' ⟨rfl, ⟨nd, rfl⟩⟩; refine ⟨_, rfl, ?_⟩))
       go_ret
       exact ⟨by first | rfl | (simp [errW_none, errW_some] <;> rfl) | (simp [*, errW_none, errW_some] <;> rfl), by repeat (first | (with_reducible first | exact HB.out | apply below_alloc | apply pw_below_drewN | apply below_drew1) | exact HB.out)⟩
      ·rw [if_neg c99] at H
       have c99b0 : ((Go.bits .or .u8 (rd l0 0) 32) == 107) = false := beq_eq_false_iff_ne.mpr c99
       have c99b1 : ((Go.bits .or .u8 (rd l0 0) 32) != 107) = true := bne_iff_ne.mpr c99
       by_cases c104 : (Go.bits .or .u8 (rd l0 0) 32) = 109
       ·rw [if_pos c104] at H
        have c104b0 : ((Go.bits .or .u8 (rd l0 0) 32) == 109) = true := beq_iff_eq.mpr c104
        have c104b1 : ((Go.bits .or .u8 (rd l0 0) 32) != 109) = false := bne_eq_false_iff_eq.mpr c104
        clear c104
        replace H := Option.bind_eq_some_iff.mp H
        obtain ⟨t169, A1050, H⟩ := H
        replace H : ((hertzutils_CaseInsensitiveCompare.f k l0 t169).bind fun t172 => (some t172)) = some r := H
        have A105 := Aside0.mk A1050
        clear A1050
        replace H := Option.bind_eq_some_iff.mp H
        obtain ⟨t172, A1060, H⟩ := H
        replace H : (some t172) = some r := H
        have A106 := Aside0.mk A1060
        clear A1060
        obtain rfl := Option.some.inj H
        have p103 : 0 ≤ (0 : Int) := (by omega)
        have q103 : 0 < (l0.length : Int) := of_decide_eq_true (by first | (with_reducible assumption) | assumption)
        obtain ⟨ad103, e103, hx103_0⟩ := Kd.at_int HR0.out 0 p103 q103
        cases e103
        have qi103 : (0 < l0.length) = True := eq_true (by omega)
        (try rw [show ((0 : Int)).toNat = 0 from rfl] at hx103_0)
        (try rw [Addr.add_zero'] at hx103_0)
        replace p103 := eq_true p103
        replace q103 := eq_true q103
        go_enter Try.func68, Try.ntmps68
        go_wp2_with (first | ((with_reducible refine gate_callee (f := 90) rfl ?_); refine goesL_ (some 71) rfl rfl Try.func90 (by kernel_rfl) rfl #[] rfl (by (try simp only [List.map_toArray, List.map_cons, List.map_nil]); first | done | rfl | (simp only [List.length_drop, List.length_take]; rfl)) ?_; (with_reducible refine (hertzstr_StrMaxForwards.calls  t169 _ A105.out).mono ?_); rintro e w107 ⟨v170, rfl, ho0, hb⟩; refine ⟨_, rfl, ?_⟩; have n0_ := Aside0.mk (MR.R_lower ho0 (below_size (by repeat (first | (with_reducible first | exact HB.out | apply below_alloc | apply pw_below_drewN | apply below_drew1) | exact HB.out)))); have n1_ := Aside0.mk (below_step (by repeat (first | (with_reducible first | exact HB.out | apply below_alloc | apply pw_below_drewN | apply below_drew1) | exact HB.out)) hb); clear HB; have HO171 := n0_; have HB := n1_; clear n0_ n1_; (try clear hb); (try clear hb2); (try clear hk); (try clear hi); (try clear ho0); obtain ⟨Ao108, co108, eo108⟩ := MR.R_slice HO171.out; subst eo108) | ((with_reducible refine gate_callee (f := 80) rfl ?_); refine goesL_ (some 72) rfl rfl Try.func80 (by kernel_rfl) rfl #[.slice (some ad103) l0.length c0, .slice Ao108 t169.length co108] rfl (by (try simp only [List.map_toArray, List.map_cons, List.map_nil]); first | done | rfl | (simp only [List.length_drop, List.length_take]; rfl)) ?_; (with_reducible refine (hertzutils_CaseInsensitiveCompare.calls k _ _ l0 _ _ t169 t172 _ ?side1 ?side2 ?side3 ?side4 A106.out).mono ?_); (case side1 => repeat (first | exact (Kd.C_below HR0.out HB.out) | (with_reducible refine Kd.C_alloc ?_ _) | (with_reducible refine Kd.C_drewN ?_ _) | (with_reducible refine Kd.C_drew ?_))); (case side2 => exact HC0.out); (case side3 => repeat (first | exact (MR.R_reads' HO171.out).2.2 | (with_reducible refine Kd.C_alloc ?_ _) | (with_reducible refine Kd.C_drewN ?_ _) | (with_reducible refine Kd.C_drew ?_))); (case side4 => exact (MR.R_reads' HO171.out).2.1); rintro e w' ⟨rfl, ⟨nd, rfl⟩⟩; refine ⟨_, rfl, ?_⟩))
        go_ret
        exact ⟨by first | rfl | (simp [errW_none, errW_some] <;> rfl) | (simp [*, errW_none, errW_some] <;> rfl), by repeat (first | (with_reducible first | exact HB.out | apply below_alloc | apply pw_below_drewN | apply below_drew1) | exact HB.out)⟩
       ·rw [if_neg c104] at H
        have c104b0 : ((Go.bits .or .u8 (rd l0 0) 32) == 109) = false := beq_eq_false_iff_ne.mpr c104
        have c104b1 : ((Go.bits .or .u8 (rd l0 0) 32) != 109) = true := bne_iff_ne.mpr c104
        by_cases c109 : (Go.bits .or .u8 (rd l0 0) 32) = 112
        ·exact hertzproto_IsBadTrailer.calls_1 k A0 c0 l0 r w HR0.out HC0.out c109 H00_.out
        ·rw [if_neg c109] at H
         have c109b0 : ((Go.bits .or .u8 (rd l0 0) 32) == 112) = false := beq_eq_false_iff_ne.mpr c109
         have c109b1 : ((Go.bits .or .u8 (rd l0 0) 32) != 112) = true := bne_iff_ne.mpr c109
         by_cases c164 : (Go.bits .or .u8 (rd l0 0) 32) = 114
         ·rw [if_pos c164] at H
          have c164b0 : ((Go.bits .or .u8 (rd l0 0) 32) == 114) = true := beq_iff_eq.mpr c164
          have c164b1 : ((Go.bits .or .u8 (rd l0 0) 32) != 114) = false := bne_eq_false_iff_eq.mpr c164
          clear c164
          replace H := Option.bind_eq_some_iff.mp H
          obtain ⟨t209, A1650, H⟩ := H
          replace H : ((hertzutils_CaseInsensitiveCompare.f k l0 t209).bind fun t212 => (some t212)) = some r := H
          have A165 := Aside0.mk A1650
          clear A1650
          replace H := Option.bind_eq_some_iff.mp H
          obtain ⟨t212, A1660, H⟩ := H
          replace H : (some t212) = some r := H
          have A166 := Aside0.mk A1660
          clear A1660
          obtain rfl := Option.some.inj H
          have p103 : 0 ≤ (0 : Int) := (by omega)
          have q103 : 0 < (l0.length : Int) := of_decide_eq_true (by first | (with_reducible assumption) | assumption)
          obtain ⟨ad103, e103, hx103_0⟩ := Kd.at_int HR0.out 0 p103 q103
          cases e103
          have qi103 : (0 < l0.length) = True := eq_true (by omega)
          (try rw [show ((0 : Int)).toNat = 0 from rfl] at hx103_0)
          (try rw [Addr.add_zero'] at hx103_0)
          replace p103 := eq_true p103
          replace q103 := eq_true q103
          go_enter Try.func68, Try.ntmps68
          go_wp2_with (first | ((with_reducible refine gate_callee (f := 94) rfl ?_); refine goesL_ (some 107) rfl rfl Try.func94 (by kernel_rfl) rfl #[] rfl (by (try simp only [List.map_toArray, List.map_cons, List.map_nil]); first | done | rfl | (simp only [List.length_drop, List.length_take]; rfl)) ?_; (with_reducible refine (hertzstr_StrRange.calls  t209 _ A165.out).mono ?_); rintro e w167 ⟨v210, rfl, ho0, hb⟩; refine ⟨_, rfl, ?_⟩; have n0_ := Aside0.mk (MR.R_lower ho0 (below_size (by repeat (first | (with_reducible first | exact HB.out | apply below_alloc | apply pw_below_drewN | apply below_drew1) | exact HB.out)))); have n1_ := Aside0.mk (below_step (by repeat (first | (with_reducible first | exact HB.out | apply below_alloc | apply pw_below_drewN | apply below_drew1) | exact HB.out)) hb); clear HB; have HO211 := n0_; have HB := n1_; clear n0_ n1_; (try clear hb); (try clear hb2); (try clear hk); (try clear hi); (try clear ho0); obtain ⟨Ao168, co168, eo168⟩ := MR.R_slice HO211.out; subst eo168) | ((with_reducible refine gate_callee (f := 80) rfl ?_); refine goesL_ (some 108) rfl rfl Try.func80 (by kernel_rfl) rfl #[.slice (some ad103) l0.length c0, .slice Ao168 t209.length co168] rfl (by (try simp only [List.map_toArray, List.map_cons, List.map_nil]); first | done | rfl | (simp only [List.length_drop, List.length_take]; rfl)) ?_; (with_reducible refine (hertzutils_CaseInsensitiveCompare.calls k _ _ l0 _ _ t209 t212 _ ?side1 ?side2 ?side3 ?side4 A166.out).mono ?_); (case side1 => repeat (first | exact (Kd.C_below HR0.out HB.out) | (with_reducible refine Kd.C_alloc ?_ _) | (with_reducible refine Kd.C_drewN ?_ _) | (with_reducible refine Kd.C_drew ?_))); (case side2 => exact HC0.out); (case side3 => repeat (first | exact (MR.R_reads' HO211.out).2.2 | (with_reducible refine Kd.C_alloc ?_ _) | (with_reducible refine Kd.C_drewN ?_ _) | (with_reducible refine Kd.C_drew ?_))); (case side4 => exact (MR.R_reads' HO211.out).2.1); rintro e w' ⟨rfl, ⟨nd, rfl⟩⟩; refine ⟨_, rfl, ?_⟩))
          go_ret
          exact ⟨by first | rfl | (simp [errW_none, errW_some] <;> rfl) | (simp [*, errW_none, errW_some] <;> rfl), by repeat (first | (with_reducible first | exact HB.out | apply below_alloc | apply pw_below_drewN | apply below_drew1) | exact HB.out)⟩
         ·rw [if_neg c164] at H
          have c164b0 : ((Go.bits .or .u8 (rd l0 0) 32) == 114) = false := beq_eq_false_iff_ne.mpr c164
          have c164b1 : ((Go.bits .or .u8 (rd l0 0) 32) != 114) = true := bne_iff_ne.mpr c164
          by_cases c169 : (Go.bits .or .u8 (rd l0 0) 32) = 116
          ·rw [if_pos c169] at H
           have c169b0 : ((Go.bits .or .u8 (rd l0 0) 32) == 116) = true := beq_iff_eq.mpr c169
           have c169b1 : ((Go.bits .or .u8 (rd l0 0) 32) != 116) = false := bne_eq_false_iff_eq.mpr c169
           clear c169
           replace H := Option.bind_eq_some_iff.mp H
           obtain ⟨t213, A1700, H⟩ := H
           replace H : ((hertzutils_CaseInsensitiveCompare.f k l0 t213).bind fun t216 => (if t216 = true then (some true) else ((hertzstr_StrTrailer.f).bind fun t217 => ((hertzutils_CaseInsensitiveCompare.f k l0 t217).bind fun t220 => (if t220 = true then (some true) else ((hertzstr_StrTransferEncoding.f).bind fun t221 => ((hertzutils_CaseInsensitiveCompare.f k l0 t221).bind fun t224 => (some t224)))))))) = some r := H
           have A170 := Aside0.mk A1700
           clear A1700
           replace H := Option.bind_eq_some_iff.mp H
           obtain ⟨t216, A1710, H⟩ := H
           replace H : (if t216 = true then (some true) else ((hertzstr_StrTrailer.f).bind fun t217 => ((hertzutils_CaseInsensitiveCompare.f k l0 t217).bind fun t220 => (if t220 = true then (some true) else ((hertzstr_StrTransferEncoding.f).bind fun t221 => ((hertzutils_CaseInsensitiveCompare.f k l0 t221).bind fun t224 => (some t224))))))) = some r := H
           have A171 := Aside0.mk A1710
           clear A1710
           by_cases c172 : t216 = true
           ·subst c172
            have H1 : (some true) = some r := by rw [if_pos rfl] at H; exact H
            clear H
            have H := H1
            clear H1
            obtain rfl := Option.some.inj H
            have p103 : 0 ≤ (0 : Int) := (by omega)
            have q103 : 0 < (l0.length : Int) := of_decide_eq_true (by first | (with_reducible assumption) | assumption)
            obtain ⟨ad103, e103, hx103_0⟩ := Kd.at_int HR0.out 0 p103 q103
            cases e103
            have qi103 : (0 < l0.length) = True := eq_true (by omega)
            (try rw [show ((0 : Int)).toNat = 0 from rfl] at hx103_0)
            (try rw [Addr.add_zero'] at hx103_0)
            replace p103 := eq_true p103
            replace q103 := eq_true q103
            go_enter Try.func68, Try.ntmps68
            go_wp2_with (first | ((with_reducible refine gate_callee (f := 95) rfl ?_); refine goesL_ (some 112) rfl rfl Try.func95 (by kernel_rfl) rfl #[] rfl (by (try simp only [List.map_toArray, List.map_cons, List.map_nil]); first | done | rfl | (simp only [List.length_drop, List.length_take]; rfl)) ?_; (with_reducible refine (hertzstr_StrTE.calls  t213 _ A170.out).mono ?_); rintro e w173 ⟨v214, rfl, ho0, hb⟩; refine ⟨_, rfl, ?_⟩; have n0_ := Aside0.mk (MR.R_lower ho0 (below_size (by repeat (first | (with_reducible first | exact HB.out | apply below_alloc | apply pw_below_drewN | apply below_drew1) | exact HB.out)))); have n1_ := Aside0.mk (below_step (by repeat (first | (with_reducible first | exact HB.out | apply below_alloc | apply pw_below_drewN | apply below_drew1) | exact HB.out)) hb); clear HB; have HO215 := n0_; have HB := n1_; clear n0_ n1_; (try clear hb); (try clear hb2); (try clear hk); (try clear hi); (try clear ho0); obtain ⟨Ao174, co174, eo174⟩ := MR.R_slice HO215.out; subst eo174) | ((with_reducible refine gate_callee (f := 80) rfl ?_); refine goesL_ (some 113) rfl rfl Try.func80 (by kernel_rfl) rfl #[.slice (some ad103) l0.length c0, .slice Ao174 t213.length co174] rfl (by (try simp only [List.map_toArray, List.map_cons, List.map_nil]); first | done | rfl | (simp only [List.length_drop, List.length_take]; rfl)) ?_; (with_reducible refine (hertzutils_CaseInsensitiveCompare.calls k _ _ l0 _ _ t213 true _ ?side1 ?side2 ?side3 ?side4 A171.out).mono ?_); (case side1 => repeat (first | exact (Kd.C_below HR0.out HB.out) | (with_reducible refine Kd.C_alloc ?_ _) | (with_reducible refine Kd.C_drewN ?_ _) | (with_reducible refine Kd.C_drew ?_))); (case side2 => exact HC0.out); (case side3 => repeat (first | exact (MR.R_reads' HO215.out).2.2 | (with_reducible refine Kd.C_alloc ?_ _) | (with_reducible refine Kd.C_drewN ?_ _) | (with_reducible refine Kd.C_drew ?_))); (case side4 => exact (MR.R_reads' HO215.out).2.1); rintro e w' ⟨rfl, ⟨nd, rfl⟩⟩; refine ⟨_, rfl, ?_⟩))
            go_ret
            exact ⟨by first | rfl | (simp [errW_none, errW_some] <;> rfl) | (simp [*, errW_none, errW_some] <;> rfl), by repeat (first | (with_reducible first | exact HB.out | apply below_alloc | apply pw_below_drewN | apply below_drew1) | exact HB.out)⟩
           ·replace c172 := Bool.eq_false_iff.mpr c172
            subst c172
            have H1 : ((hertzstr_StrTrailer.f).bind fun t217 => ((hertzutils_CaseInsensitiveCompare.f k l0 t217).bind fun t220 => (if t220 = true then (some true) else ((hertzstr_StrTransferEncoding.f).bind fun t221 => ((hertzutils_CaseInsensitiveCompare.f k l0 t221).bind fun t224 => (some t224)))))) = some r := by rw [if_neg (show ¬ (false = true) by decide)] at H; exact H
            clear H
            have H := H1
            clear H1
            replace H := Option.bind_eq_some_iff.mp H
            obtain ⟨t217, A1750, H⟩ := H
            replace H : ((hertzutils_CaseInsensitiveCompare.f k l0 t217).bind fun t220 => (if t220 = true then (some true) else ((hertzstr_StrTransferEncoding.f).bind fun t221 => ((hertzutils_CaseInsensitiveCompare.f k l0 t221).bind fun t224 => (some t224))))) = some r := H
            have A175 := Aside0.mk A1750
            clear A1750
            replace H := Option.bind_eq_some_iff.mp H
            obtain ⟨t220, A1760, H⟩ := H
            replace H : (if t220 = true then (some true) else ((hertzstr_StrTransferEncoding.f).bind fun t221 => ((hertzutils_CaseInsensitiveCompare.f k l0 t221).bind fun t224 => (some t224)))) = some r := H
            have A176 := Aside0.mk A1760
            clear A1760
            by_cases c177 : t220 = true
            ·subst c177
             have H1 : (some true) = some r := by rw [if_pos rfl] at H; exact H
             clear H
             have H := H1
             clear H1
             obtain rfl := Option.some.inj H
             have p103 : 0 ≤ (0 : Int) := (by omega)
             have q103 : 0 < (l0.length : Int) := of_decide_eq_true (by first | (with_reducible assumption) | assumption)
             obtain ⟨ad103, e103, hx103_0⟩ := Kd.at_int HR0.out 0 p103 q103
             cases e103
             have qi103 : (0 < l0.length) = True := eq_true (by omega)
             (try rw [show ((0 : Int)).toNat = 0 from rfl] at hx103_0)
             (try rw [Addr.add_zero'] at hx103_0)
             replace p103 := eq_true p103
             replace q103 := eq_true q103
             go_enter Try.func68, Try.ntmps68
             go_wp2_with (first | ((with_reducible refine gate_callee (f := 95) rfl ?_); refine goesL_ (some 112) rfl rfl Try.func95 (by kernel_rfl) rfl #[] rfl (by (try simp only [List.map_toArray, List.map_cons, List.map_nil]); first | done | rfl | (simp only [List.length_drop, List.length_take]; rfl)) ?_; (with_reducible refine (hertzstr_StrTE.calls  t213 _ A170.out).mono ?_); rintro e w178 ⟨v214, rfl, ho0, hb⟩; refine ⟨_, rfl, ?_⟩; have n0_ := Aside0.mk (MR.R_lower ho0 (below_size (by repeat (first | (with_reducible first | exact HB.out | apply below_alloc | apply pw_below_drewN | apply below_drew1) | exact HB.out)))); have n1_ := Aside0.mk (below_step (by repeat (first | (with_reducible first | exact HB.out | apply below_alloc | apply pw_below_drewN | apply below_drew1) | exact HB.out)) hb); clear HB; have HO215 := n0_; have HB := n1_; clear n0_ n1_; (try clear hb); (try clear hb2); (try clear hk); (try clear hi); (try clear ho0); obtain ⟨Ao179, co179, eo179⟩ := MR.R_slice HO215.out; subst eo179) | ((with_reducible refine gate_callee (f := 80) rfl ?_); refine goesL_ (some 113) rfl rfl Try.func80 (by kernel_rfl) rfl #[.slice (some ad103) l0.length c0, .slice Ao179 t213.length co179] rfl (by (try simp only [List.map_toArray, List.map_cons, List.map_nil]); first | done | rfl | (simp only [List.length_drop, List.length_take]; rfl)) ?_; (with_reducible refine (hertzutils_CaseInsensitiveCompare.calls k _ _ l0 _ _ t213 false _ ?side1 ?side2 ?side3 ?side4 A171.out).mono ?_); (case side1 => repeat (first | exact (Kd.C_below HR0.out HB.out) | (with_reducible refine Kd.C_alloc ?_ _) | (with_reducible refine Kd.C_drewN ?_ _) | (with_reducible refine Kd.C_drew ?_))); (case side2 => exact HC0.out); (case side3 => repeat (first | exact (MR.R_reads' HO215.out).2.2 | (with_reducible refine Kd.C_alloc ?_ _) | (with_reducible refine Kd.C_drewN ?_ _) | (with_reducible refine Kd.C_drew ?_))); (case side4 => exact (MR.R_reads' HO215.out).2.1); rintro e w' ⟨rfl, ⟨nd, rfl⟩⟩; refine ⟨_, rfl, ?_⟩) | (go_at_call 96; (with_reducible refine (hertzstr_StrTrailer.calls  t217 _ A175.out).mono ?_); rintro e w180 ⟨v218, rfl, ho0, hb⟩; have n0_ := Aside0.mk (MR.R_elder' (by (with_reducible repeat (first | apply MR.R_alloc | apply MR.R_drewN | apply MR.R_drew)); exact HO215.out) (MR.R_base ho0) hb); have n1_ := Aside0.mk (MR.R_lower (MR.R_new' ho0 (MR.R_lt (by (with_reducible repeat (first | apply MR.R_alloc | apply MR.R_drewN | apply MR.R_drew)); exact HO215.out))) (below_size (by repeat (first | (with_reducible first | exact HB.out | apply below_alloc | apply pw_below_drewN | apply below_drew1) | exact HB.out)))); have n2_ := Aside0.mk (below_step (by repeat (first | (with_reducible first | exact HB.out | apply below_alloc | apply pw_below_drewN | apply below_drew1) | exact HB.out)) hb); clear HO215; clear HB; have HO215 := n0_; have HO219 := n1_; have HB := n2_; clear n0_ n1_ n2_; (try clear hb); (try clear hb2); (try clear hk); (try clear hi); (try clear ho0); obtain ⟨Ao181, co181, eo181⟩ := MR.R_slice HO219.out; subst eo181) | (go_at_call 80; (with_reducible refine (hertzutils_CaseInsensitiveCompare.calls k _ _ l0 _ _ t217 true _ ?side1 ?side2 ?side3 ?side4 A176.out).mono ?_); (case side1 => repeat (first | exact (Kd.C_below HR0.out HB.out) | (with_reducible refine Kd.C_alloc ?_ _) | (with_reducible refine Kd.C_drewN ?_ _) | (with_reducible refine Kd.C_drew ?_))); (case side2 => exact HC0.out); (case side3 => repeat (first | exact (MR.R_reads' HO219.out).2.2 | (with_reducible refine Kd.C_alloc ?_ _) | (with_reducible refine Kd.C_drewN ?_ _) | (with_reducible refine Kd.C_drew ?_))); (case side4 => exact (MR.R_reads' HO219.out).2.1); rintro e w' ⟨rfl, ⟨nd, rfl⟩⟩))
             go_ret
             exact ⟨by first | rfl | (simp [errW_none, errW_some] <;> rfl) | (simp [*, errW_none, errW_some] <;> rfl), by repeat (first | (with_reducible first | exact HB.out | apply below_alloc | apply pw_below_drewN | apply below_drew1) | exact HB.out)⟩
            ·replace c177 := Bool.eq_false_iff.mpr c177
             subst c177
             have H1 : ((hertzstr_StrTransferEncoding.f).bind fun t221 => ((hertzutils_CaseInsensitiveCompare.f k l0 t221).bind fun t224 => (some t224))) = some r := by rw [if_neg (show ¬ (false = true) by decide)] at H; exact H
             clear H
             have H := H1
             clear H1
             replace H := Option.bind_eq_some_iff.mp H
             obtain ⟨t221, A1820, H⟩ := H
             replace H : ((hertzutils_CaseInsensitiveCompare.f k l0 t221).bind fun t224 => (some t224)) = some r := H
             have A182 := Aside0.mk A1820
             clear A1820
             replace H := Option.bind_eq_some_iff.mp H
             obtain ⟨t224, A1830, H⟩ := H
             replace H : (some t224) = some r := H
             have A183 := Aside0.mk A1830
             clear A1830
             obtain rfl := Option.some.inj H
             have p103 : 0 ≤ (0 : Int) := (by omega)
             have q103 : 0 < (l0.length : Int) := of_decide_eq_true (by first | (with_reducible assumption) | assumption)
             obtain ⟨ad103, e103, hx103_0⟩ := Kd.at_int HR0.out 0 p103 q103
             cases e103
             have qi103 : (0 < l0.length) = True := eq_true (by omega)
             (try rw [show ((0 : Int)).toNat = 0 from rfl] at hx103_0)
             (try rw [Addr.add_zero'] at hx103_0)
             replace p103 := eq_true p103
             replace q103 := eq_true q103
             go_enter Try.func68, Try.ntmps68
             go_wp2_with (first | ((with_reducible refine gate_callee (f := 95) rfl ?_); refine goesL_ (some 112) rfl rfl Try.func95 (by kernel_rfl) rfl #[] rfl (by (try simp only [List.map_toArray, List.map_cons, List.map_nil]); first | done | rfl | (simp only [List.length_drop, List.length_take]; rfl)) ?_; (with_reducible refine (hertzstr_StrTE.calls  t213 _ A170.out).mono ?_); rintro e w184 ⟨v214, rfl, ho0, hb⟩; refine ⟨_, rfl, ?_⟩; have n0_ := Aside0.mk (MR.R_lower ho0 (below_size (by repeat (first | (with_reducible first | exact HB.out | apply below_alloc | apply pw_below_drewN | apply below_drew1) | exact HB.out)))); have n1_ := Aside0.mk (below_step (by repeat (first | (with_reducible first | exact HB.out | apply below_alloc | apply pw_below_drewN | apply below_drew1) | exact HB.out)) hb); clear HB; have HO215 := n0_; have HB := n1_; clear n0_ n1_; (try clear hb); (try clear hb2); (try clear hk); (try clear hi); (try clear ho0); obtain ⟨Ao185, co185, eo185⟩ := MR.R_slice HO215.out; subst eo185) | ((with_reducible refine gate_callee (f := 80) rfl ?_); refine goesL_ (some 113) rfl rfl Try.func80 (by kernel_rfl) rfl #[.slice (some ad103) l0.length c0, .slice Ao185 t213.length co185] rfl (by (try simp only [List.map_toArray, List.map_cons, List.map_nil]); first | done | rfl | (simp only [List.length_drop, List.length_take]; rfl)) ?_; (with_reducible refine (hertzutils_CaseInsensitiveCompare.calls k _ _ l0 _ _ t213 false _ ?side1 ?side2 ?side3 ?side4 A171.out).mono ?_); (case side1 => repeat (first | exact (Kd.C_below HR0.out HB.out) | (with_reducible refine Kd.C_alloc ?_ _) | (with_reducible refine Kd.C_drewN ?_ _) | (with_reducible refine Kd.C_drew ?_))); (case side2 => exact HC0.out); (case side3 => repeat (first | exact (MR.R_reads' HO215.out).2.2 | (with_reducible refine Kd.C_alloc ?_ _) | (with_reducible refine Kd.C_drewN ?_ _) | (with_reducible refine Kd.C_drew ?_))); (case side4 => exact (MR.R_reads' HO215.out).2.1); rintro e w' ⟨rfl, ⟨nd, rfl⟩⟩; refine ⟨_, rfl, ?_⟩) | (go_at_call 96; (with_reducible refine (hertzstr_StrTrailer.calls  t217 _ A175.out).mono ?_); rintro e w186 ⟨v218, rfl, ho0, hb⟩; have n0_ := Aside0.mk (MR.R_elder' (by (with_reducible repeat (first | apply MR.R_alloc | apply MR.R_drewN | apply MR.R_drew)); exact HO215.out) (MR.R_base ho0) hb); have n1_ := Aside0.mk (MR.R_lower (MR.R_new' ho0 (MR.R_lt (by (with_reducible repeat (first | apply MR.R_alloc | apply MR.R_drewN | apply MR.R_drew)); exact HO215.out))) (below_size (by repeat (first | (with_reducible first | exact HB.out | apply below_alloc | apply pw_below_drewN | apply below_drew1) | exact HB.out)))); have n2_ := Aside0.mk (below_step (by repeat (first | (with_reducible first | exact HB.out | apply below_alloc | apply pw_below_drewN | apply below_drew1) | exact HB.out)) hb); clear HO215; clear HB; have HO215 := n0_; have HO219 := n1_; have HB := n2_; clear n0_ n1_ n2_; (try clear hb); (try clear hb2); (try clear hk); (try clear hi); (try clear ho0); obtain ⟨Ao187, co187, eo187⟩ := MR.R_slice HO219.out; subst eo187) | (go_at_call 80; (with_reducible refine (hertzutils_CaseInsensitiveCompare.calls k _ _ l0 _ _ t217 false _ ?side1 ?side2 ?side3 ?side4 A176.out).mono ?_); (case side1 => repeat (first | exact (Kd.C_below HR0.out HB.out) | (with_reducible refine Kd.C_alloc ?_ _) | (with_reducible refine Kd.C_drewN ?_ _) | (with_reducible refine Kd.C_drew ?_))); (case side2 => exact HC0.out); (case side3 => repeat (first | exact (MR.R_reads' HO219.out).2.2 | (with_reducible refine Kd.C_alloc ?_ _) | (with_reducible refine Kd.C_drewN ?_ _) | (with_reducible refine Kd.C_drew ?_))); (case side4 => exact (MR.R_reads' HO219.out).2.1); rintro e w' ⟨rfl, ⟨nd, rfl⟩⟩) | (go_at_call 97; (with_reducible refine (hertzstr_StrTransferEncoding.calls  t221 _ A182.out).mono ?_); rintro e w188 ⟨v222, rfl, ho0, hb⟩; have n0_ := Aside0.mk (MR.R_elder' (by (with_reducible repeat (first | apply MR.R_alloc | apply MR.R_drewN | apply MR.R_drew)); exact HO215.out) (MR.R_base ho0) hb); have n1_ := Aside0.mk (MR.R_elder' (by (with_reducible repeat (first | apply MR.R_alloc | apply MR.R_drewN | apply MR.R_drew)); exact HO219.out) (MR.R_base ho0) hb); have n2_ := Aside0.mk (MR.R_lower (MR.R_new' (MR.R_new' ho0 (MR.R_lt (by (with_reducible repeat (first | apply MR.R_alloc | apply MR.R_drewN | apply MR.R_drew)); exact HO215.out))) (MR.R_lt (by (with_reducible repeat (first | apply MR.R_alloc | apply MR.R_drewN | apply MR.R_drew)); exact HO219.out))) (below_size (by repeat (first | (with_reducible first | exact HB.out | apply below_alloc | apply pw_below_drewN | apply below_drew1) | exact HB.out)))); have n3_ := Aside0.mk (below_step (by repeat (first | (with_reducible first | exact HB.out | apply below_alloc | apply pw_below_drewN | apply below_drew1) | exact HB.out)) hb); clear HO215; clear HO219; clear HB; have HO215 := n0_; have HO219 := n1_; have HO223 := n2_; have HB := n3_; clear n0_ n1_ n2_ n3_; (try clear hb); (try clear hb2); (try clear hk); (try clear hi); (try clear ho0); obtain ⟨Ao189, co189, eo189⟩ := MR.R_slice HO223.out; subst eo189) | (go_at_call 80; (with_reducible refine (hertzutils_CaseInsensitiveCompare.calls k _ _ l0 _ _ t221 t224 _ ?side1 ?side2 ?side3 ?side4 A183.out).mono ?_); (case side1 => repeat (first | exact (Kd.C_below HR0.out HB.out) | (with_reducible refine Kd.C_alloc ?_ _) | (with_reducible refine Kd.C_drewN ?_ _) | (with_reducible refine Kd.C_drew ?_))); (case side2 => exact HC0.out); (case side3 => repeat (first | exact (MR.R_reads' HO223.out).2.2 | (with_reducible refine Kd.C_alloc ?_ _) | (with_reducible refine Kd.C_drewN ?_ _) | (with_reducible refine Kd.C_drew ?_))); (case side4 => exact (MR.R_reads' HO223.out).2.1); rintro e w' ⟨rfl, ⟨nd, rfl⟩⟩))
             go_ret
             exact ⟨by first | rfl | (simp [errW_none, errW_some] <;> rfl) | (simp [*, errW_none, errW_some] <;> rfl), by repeat (first | (with_reducible first | exact HB.out | apply below_alloc | apply pw_below_drewN | apply below_drew1) | exact HB.out)⟩
          ·rw [if_neg c169] at H
           have c169b0 : ((Go.bits .or .u8 (rd l0 0) 32) == 116) = false := beq_eq_false_iff_ne.mpr c169
           have c169b1 : ((Go.bits .or .u8 (rd l0 0) 32) != 116) = true := bne_iff_ne.mpr c169
           by_cases c190 : (Go.bits .or .u8 (rd l0 0) 32) = 119
           ·rw [if_pos c190] at H
            have c190b0 : ((Go.bits .or .u8 (rd l0 0) 32) == 119) = true := beq_iff_eq.mpr c190
            have c190b1 : ((Go.bits .or .u8 (rd l0 0) 32) != 119) = false := bne_eq_false_iff_eq.mpr c190
            clear c190
            replace H := Option.bind_eq_some_iff.mp H
            obtain ⟨t225, A1910, H⟩ := H
            replace H : ((hertzutils_CaseInsensitiveCompare.f k l0 t225).bind fun t228 => (some t228)) = some r := H
            have A191 := Aside0.mk A1910
            clear A1910
            replace H := Option.bind_eq_some_iff.mp H
            obtain ⟨t228, A1920, H⟩ := H
            replace H : (some t228) = some r := H
            have A192 := Aside0.mk A1920
            clear A1920
            obtain rfl := Option.some.inj H
            have p103 : 0 ≤ (0 : Int) := (by omega)
            have q103 : 0 < (l0.length : Int) := of_decide_eq_true (by first | (with_reducible assumption) | assumption)
            obtain ⟨ad103, e103, hx103_0⟩ := Kd.at_int HR0.out 0 p103 q103
            cases e103
            have qi103 : (0 < l0.length) = True := eq_true (by omega)
            (try rw [show ((0 : Int)).toNat = 0 from rfl] at hx103_0)
            (try rw [Addr.add_zero'] at hx103_0)
            replace p103 := eq_true p103
            replace q103 := eq_true q103
            go_enter Try.func68, Try.ntmps68
            go_wp2_with (first | ((with_reducible refine gate_callee (f := 98) rfl ?_); refine goesL_ (some 127) rfl rfl Try.func98 (by kernel_rfl) rfl #[] rfl (by (try simp only [List.map_toArray, List.map_cons, List.map_nil]); first | done | rfl | (simp only [List.length_drop, List.length_take]; rfl)) ?_; (with_reducible refine (hertzstr_StrWWWAuthenticate.calls  t225 _ A191.out).mono ?_); rintro e w193 ⟨v226, rfl, ho0, hb⟩; refine ⟨_, rfl, ?_⟩; have n0_ := Aside0.mk (MR.R_lower ho0 (below_size (by repeat (first | (with_reducible first | exact HB.out | apply below_alloc | apply pw_below_drewN | apply below_drew1) | exact HB.out)))); have n1_ := Aside0.mk (below_step (by repeat (first | (with_reducible first | exact HB.out | apply below_alloc | apply pw_below_drewN | apply below_drew1) | exact HB.out)) hb); clear HB; have HO227 := n0_; have HB := n1_; clear n0_ n1_; (try clear hb); (try clear hb2); (try clear hk); (try clear hi); (try clear ho0); obtain ⟨Ao194, co194, eo194⟩ := MR.R_slice HO227.out; subst eo194) | ((with_reducible refine gate_callee (f := 80) rfl ?_); refine goesL_ (some 128) rfl rfl Try.func80 (by kernel_rfl) rfl #[.slice (some ad103) l0.length c0, .slice Ao194 t225.length co194] rfl (by (try simp only [List.map_toArray, List.map_cons, List.map_nil]); first | done | rfl | (simp only [List.length_drop, List.length_take]; rfl)) ?_; (with_reducible refine (hertzutils_CaseInsensitiveCompare.calls k _ _ l0 _ _ t225 t228 _ ?side1 ?side2 ?side3 ?side4 A192.out).mono ?_); (case side1 => repeat (first | exact (Kd.C_below HR0.out HB.out) | (with_reducible refine Kd.C_alloc ?_ _) | (with_reducible refine Kd.C_drewN ?_ _) | (with_reducible refine Kd.C_drew ?_))); (case side2 => exact HC0.out); (case side3 => repeat (first | exact (MR.R_reads' HO227.out).2.2 | (with_reducible refine Kd.C_alloc ?_ _) | (with_reducible refine Kd.C_drewN ?_ _) | (with_reducible refine Kd.C_drew ?_))); (case side4 => exact (MR.R_reads' HO227.out).2.1); rintro e w' ⟨rfl, ⟨nd, rfl⟩⟩; refine ⟨_, rfl, ?_⟩))
            go_ret
            exact ⟨by first | rfl | (simp [errW_none, errW_some] <;> rfl) | (simp [*, errW_none, errW_some] <;> rfl), by repeat (first | (with_reducible first | exact HB.out | apply below_alloc | apply pw_below_drewN | apply below_drew1) | exact HB.out)⟩
           ·rw [if_neg c190] at H
            have c190b0 : ((Go.bits .or .u8 (rd l0 0) 32) == 119) = false := beq_eq_false_iff_ne.mpr c190
            have c190b1 : ((Go.bits .or .u8 (rd l0 0) 32) != 119) = true := bne_iff_ne.mpr c190
            obtain rfl := Option.some.inj H
            have p103 : 0 ≤ (0 : Int) := (by omega)
            have q103 : 0 < (l0.length : Int) := of_decide_eq_true (by first | (with_reducible assumption) | assumption)
            obtain ⟨ad103, e103, hx103_0⟩ := Kd.at_int HR0.out 0 p103 q103
            cases e103
            have qi103 : (0 < l0.length) = True := eq_true (by omega)
            (try rw [show ((0 : Int)).toNat = 0 from rfl] at hx103_0)
            (try rw [Addr.add_zero'] at hx103_0)
            replace p103 := eq_true p103
            replace q103 := eq_true q103
            go_enter Try.func68, Try.ntmps68
            go_wp2
            go_ret
            exact ⟨by first | rfl | (simp [errW_none, errW_some] <;> rfl) | (simp [*, errW_none, errW_some] <;> rfl), by repeat (first | (with_reducible first | exact HB.out | apply below_alloc | apply pw_below_drewN | apply below_drew1) | exact HB.out)⟩
 ·rw [if_neg c2] at H
  exact absurd H (by simp)
end Go.Proofs.Ytoimkmoalmmooaa.QA
set_option linter.unusedVariables false
set_option linter.unusedSimpArgs false
namespace Go.Proofs.Ytoimkmoalmmooaa.Own
open Go.RowKit Go.Proofs.YtoimkmoalmmooaaW.PrintWords Go.Proofs.YtoimkmoalmmooaaW.PrintLast Go.Proofs.YtoimkmoalmmooaaW.PrintMore Go.Proofs.Ytoimkmoalmmooaa.Base Go.Proofs.Ytoimkmoalmmooaa.Gv Go.Proofs.Ytoimkmoalmmooaa.QA Go.Proofs.Ytoimkmoalmmooaa.Given
def TrC (l : Nat → Nat) (w : World) (q p : Nat) (V : Value) (n : Nat) (S : List Slot) (kv : Value) (kx : List Int) (vv : Value) (vx : List Int) (dn : Bool) : Prop :=
  0 < q ∧ q + 3 < 64 ∧ Cl l w q p 58 #[V, kv, vv, .bool false, .bool dn] ∧ KvS l w (q + 3) V n S ∧ Bf l w (q + 1) kv kx ∧ Bf l w (q + 2) vv vx
def Tz (q : Nat) : Nat → Prop := fun lab => lab = q ∨ lab = q + 1 ∨ lab = q + 2 ∨ lab % 64 = q + 3
def badK (xs : List Int) : Bool := badM (xs.map o32)
theorem isBad_calls (W : World) (A : Option Addr) (c : Nat) (xs : List Int) (hx : ReadsInt W .u8 A xs.length xs) (hc : xs.length ≤ c) (h0 : 0 < xs.length) (hl : xs.length ≤ 140737488351232) :
    Calls Try.prog 68 #[.slice A xs.length c] W fun e w' => e = .returned (.bool (badK xs)) ∧ Below W.heap.size W w' := by
  obtain ⟨k, hk⟩ := bad_ends xs h0 hl
  exact hertzproto_IsBadTrailer.calls k A c xs (badK xs) W (Kd.C_of_reads (d := (0 : Int)) (h1 := fun _ => rfl) hx) hc (hk k (Nat.le_refl _))
theorem KvS.shape {l : Nat → Nat} {w : World} {z n : Nat} {V : Value} {S : List Slot} (h : KvS l w z V n S) : ∃ A c, V = .slice A n c := by
  obtain ⟨_, _, ⟨rfl, _, rfl⟩ | ⟨a0, rfl, _⟩⟩ := h
  · exact ⟨none, 0, rfl⟩
  · exact ⟨_, _, rfl⟩
theorem TrC.keep {l l1 : Nat → Nat} {w w1 : World} {q p n : Nat} {V kv vv : Value} {S : List Slot} {kx vx : List Int} {dn : Bool} {F : Nat → Prop} (h : TrC l w q p V n S kv kx vv vx dn) (s : Stp F l l1 w w1) (hF : ∀ lab, F lab → ¬ Tz q lab) : TrC l1 w1 q p V n S kv kx vv vx dn := by
  obtain ⟨h1, h2, h3, h4, h5, h6⟩ := h
  exact ⟨h1, h2, h3.keep s (fun k => hF _ k (.inl rfl)), h4.keep s (fun lab k e => hF lab k (.inr (.inr (.inr e)))), h5.keep s (fun k => hF _ k (.inr (.inl rfl))), h6.keep s (fun k => hF _ k (.inr (.inr (.inl rfl))))⟩
theorem TrC.c0 {l : Nat → Nat} {w : World} {q p n : Nat} {V kv vv : Value} {S : List Slot} {kx vx : List Int} {dn : Bool} (h : TrC l w q p V n S kv kx vv vx dn) : w.cell? ⟨p, 0, none⟩ = some V ∧ w.frozen? ⟨p, 0, none⟩ = false := ⟨by rw [h.2.2.1.cell]; rfl, h.2.2.1.free 0⟩
theorem TrC.c1 {l : Nat → Nat} {w : World} {q p n : Nat} {V kv vv : Value} {S : List Slot} {kx vx : List Int} {dn : Bool} (h : TrC l w q p V n S kv kx vv vx dn) : w.cell? ⟨p, 1, none⟩ = some kv ∧ w.frozen? ⟨p, 1, none⟩ = false := ⟨by rw [h.2.2.1.cell]; rfl, h.2.2.1.free 1⟩
theorem TrC.c2 {l : Nat → Nat} {w : World} {q p n : Nat} {V kv vv : Value} {S : List Slot} {kx vx : List Int} {dn : Bool} (h : TrC l w q p V n S kv kx vv vx dn) : w.cell? ⟨p, 2, none⟩ = some vv ∧ w.frozen? ⟨p, 2, none⟩ = false := ⟨by rw [h.2.2.1.cell]; rfl, h.2.2.1.free 2⟩
theorem TrC.c4 {l : Nat → Nat} {w : World} {q p n : Nat} {V kv vv : Value} {S : List Slot} {kx vx : List Int} {dn : Bool} (h : TrC l w q p V n S kv kx vv vx dn) : w.cell? ⟨p, 4, none⟩ = some (.bool dn) ∧ w.frozen? ⟨p, 4, none⟩ = false := ⟨by rw [h.2.2.1.cell]; rfl, h.2.2.1.free 4⟩
theorem TrC.list {l l1 : Nat → Nat} {w w1 : World} {q p n n1 : Nat} {V kv vv V1 : Value} {S S1 : List Slot} {kx vx : List Int} {dn : Bool} (h : TrC l w q p V n S kv kx vv vx dn) (st : Stp (Zn (q + 3)) l l1 w w1) (hk : KvS l1 w1 (q + 3) V1 n1 S1) :
    (w1.cell? ⟨p, 0, none⟩ = some V ∧ w1.frozen? ⟨p, 0, none⟩ = false) ∧ TrC l1 (w1.setCell ⟨p, 0, none⟩ V1) q p V1 n1 S1 kv kx vv vx dn ∧ Stp (Tz q) l l1 w (w1.setCell ⟨p, 0, none⟩ V1) := by
  obtain ⟨h1, h2, h3, h4, h5, h6⟩ := h
  have e0 : ¬ Zn (q + 3) q := by unfold Zn; omega
  have e1 : ¬ Zn (q + 3) (q + 1) := by unfold Zn; omega
  have e2 : ¬ Zn (q + 3) (q + 2) := by unfold Zn; omega
  have k3 := h3.keep st e0
  obtain ⟨k4, s4⟩ := k3.set 0 V1
  refine ⟨⟨by rw [k3.cell]; rfl, k3.free 0⟩, ⟨h1, h2, k4, hk.keep s4 (fun lab e => by omega), (h5.keep st e1).keep s4 (by omega), (h6.keep st e2).keep s4 (by omega)⟩, (st.mono (fun x e => .inr (.inr (.inr e)))).trans (s4.mono (fun x e => .inl e))⟩
set_option maxHeartbeats 1000000 in
set_option maxRecDepth 100000 in
theorem tSetB_calls (l : Nat → Nat) (w : World) (q p n : Nat) (V kv vv : Value) (S : List Slot) (kx vx : List Int) (dn : Bool) (h : TrC l w q p V n S kv kx vv vx dn) (hn : n ≤ 1099511627775)
    (A : Option Addr) (c : Nat) (K : List Int) (hK0 : 0 < K.length) (hks : K.length ≤ 140737488351232) (hkc : K.length ≤ c) (hk : Src (Zn (q + 3)) l w A K.length K) (B : Option Addr) (m' c' : Nat) (X : List Int) (hvs : m' ≤ 140737488355328) (hv : Src (Zn (q + 3)) l w B m' X) :
    Calls Try.prog 58 #[.pointer (some ⟨p, 0, none⟩), .slice A K.length c, .slice B m' c', .bool false] w fun e w' => ∃ l1 V1 n1 S1, TrC l1 w' q p V1 n1 S1 kv kx vv vx dn ∧ n1 ≤ n + 1 ∧ Stp (Tz q) l l1 w w' ∧
      (if badK K = true then (∃ u x, e = .returned (.iface u x)) ∧ kvs S1 n1 = kvs S n else e = .returned .nilIface ∧ kvs S1 n1 = setKV K X (kvs S n)) := by
  have HB := Lib.hid (isBad_calls w A c K hk.now hkc hK0 hks)
  have HT := Lib.hid h
  have HSK := Lib.hid hk
  have HSV := Lib.hid hv
  obtain ⟨b, hb⟩ : ∃ b, badK K = b := ⟨_, rfl⟩
  rw [hb] at HB ⊢
  have HKS := Lib.hid hkc
  have HKL := Lib.hid hks
  obtain ⟨A0, c0, rfl⟩ := h.2.2.2.1.shape
  obtain ⟨N, hN⟩ : ∃ N, K.length = N := ⟨_, rfl⟩
  rw [hN] at HB ⊢
  have HN := Lib.hid hN
  clear h hk hv hb hK0 hks hkc hN
  cases b with
  | true =>
    go_enter Try.func58, Try.ntmps58
    go_wp2_with (first
      | (go_at_call 68; refine HB.out.mono ?_; rintro e w1 ⟨rfl, hb1⟩; have B1 := Lib.hid hb1; clear hb1)
      | (go_at_call 69; refine (errNew_calls _ _).mono ?_; rintro e w2 ⟨hb2, u, x, rfl⟩; have B2 := Lib.hid hb2; clear hb2))
    go_ret
    have st1 := Stp.of_below_same B1.out (fun _ => False) l
    have st2 := Stp.of_below_same B2.out (fun _ => False) l
    have st := st1.trans st2
    exact ⟨l, _, n, S, HT.out.keep st (fun _ k => k.elim), by omega, st.mono (fun _ k => k.elim), by first | exact ⟨⟨_, _, rfl⟩, rfl⟩ | (rw [if_pos rfl]; exact ⟨⟨_, _, rfl⟩, rfl⟩)⟩
  | false =>
    go_enter Try.func58, Try.ntmps58
    go_wp2_with (first
      | (go_at_call 68
         refine HB.out.mono ?_
         rintro e w1 ⟨rfl, hb1⟩
         have st1 := Stp.of_below_same hb1 (fun _ => False) l
         have hT1 := HT.out.keep st1 (fun _ k => k.elim)
         obtain ⟨x0, _⟩ := hT1.c0
         have T1 := Lib.hid hT1
         have S1 := Lib.hid st1
         clear hb1 st1 hT1)
      | (go_at_call 73
         have q_ := setArgBytes_calls l w1 (q + 3) n _ S T1.out.2.2.2.1 hn A c K (by have := HKL.out; omega) HKS.out (HSK.out.step (S1.out.mono (fun _ k => k.elim))) B m' c' X hvs (HSV.out.step (S1.out.mono (fun _ k => k.elim)))
         rw [HN.out] at q_
         refine q_.mono ?_
         rintro e w2 ⟨l2, V2, n2, S2, rfl, k1, k2, k3, k4⟩
         obtain ⟨A2, c2, rfl⟩ := k1.shape
         obtain ⟨⟨y0, g0⟩, k5, k6⟩ := T1.out.list k4 k1
         have K5 := Lib.hid k5
         have K6 := Lib.hid k6
         have K2 := Lib.hid k2
         have K3 := Lib.hid k3
         clear k1 k2 k3 k4 k5 k6))
    go_ret
    exact ⟨_, _, _, _, K5.out, K2.out, (S1.out.mono (fun _ k => k.elim)).trans K6.out, by first | exact ⟨rfl, K3.out⟩ | (rw [if_neg (by decide)]; exact ⟨rfl, K3.out⟩)⟩
set_option maxHeartbeats 1000000 in
set_option maxRecDepth 100000 in
theorem tAddB_calls (l : Nat → Nat) (w : World) (q p n : Nat) (V kv vv : Value) (S : List Slot) (kx vx : List Int) (dn : Bool) (h : TrC l w q p V n S kv kx vv vx dn) (hn : n ≤ 1099511627775)
    (A : Option Addr) (c : Nat) (K : List Int) (hK0 : 0 < K.length) (hks : K.length ≤ 140737488351232) (hkc : K.length ≤ c) (hk : Src (Zn (q + 3)) l w A K.length K) (B : Option Addr) (m' c' : Nat) (X : List Int) (hvs : m' ≤ 140737488355328) (hv : Src (Zn (q + 3)) l w B m' X) :
    Calls Try.prog 59 #[.pointer (some ⟨p, 0, none⟩), .slice A K.length c, .slice B m' c', .bool false] w fun e w' => ∃ l1 V1 n1 S1, TrC l1 w' q p V1 n1 S1 kv kx vv vx dn ∧ n1 ≤ n + 1 ∧ Stp (Tz q) l l1 w w' ∧
      (if badK K = true then (∃ u x, e = .returned (.iface u x)) ∧ kvs S1 n1 = kvs S n else e = .returned .nilIface ∧ kvs S1 n1 = kvs S n ++ [⟨K, X, false⟩]) := by
  have HB := Lib.hid (isBad_calls w A c K hk.now hkc hK0 hks)
  have HT := Lib.hid h
  have HSK := Lib.hid hk
  have HSV := Lib.hid hv
  obtain ⟨b, hb⟩ : ∃ b, badK K = b := ⟨_, rfl⟩
  rw [hb] at HB ⊢
  have HKS := Lib.hid hkc
  have HKL := Lib.hid hks
  obtain ⟨A0, c0, rfl⟩ := h.2.2.2.1.shape
  obtain ⟨N, hN⟩ : ∃ N, K.length = N := ⟨_, rfl⟩
  rw [hN] at HB ⊢
  have HN := Lib.hid hN
  clear h hk hv hb hK0 hks hkc hN
  cases b with
  | true =>
    go_enter Try.func59, Try.ntmps59
    go_wp2_with (first
      | (go_at_call 68; refine HB.out.mono ?_; rintro e w1 ⟨rfl, hb1⟩; have B1 := Lib.hid hb1; clear hb1)
      | (go_at_call 69; refine (errNew_calls _ _).mono ?_; rintro e w2 ⟨hb2, u, x, rfl⟩; have B2 := Lib.hid hb2; clear hb2))
    go_ret
    have st1 := Stp.of_below_same B1.out (fun _ => False) l
    have st2 := Stp.of_below_same B2.out (fun _ => False) l
    have st := st1.trans st2
    exact ⟨l, _, n, S, HT.out.keep st (fun _ k => k.elim), by omega, st.mono (fun _ k => k.elim), by first | exact ⟨⟨_, _, rfl⟩, rfl⟩ | (rw [if_pos rfl]; exact ⟨⟨_, _, rfl⟩, rfl⟩)⟩
  | false =>
    go_enter Try.func59, Try.ntmps59
    go_wp2_with (first
      | (go_at_call 68
         refine HB.out.mono ?_
         rintro e w1 ⟨rfl, hb1⟩
         have st1 := Stp.of_below_same hb1 (fun _ => False) l
         have hT1 := HT.out.keep st1 (fun _ k => k.elim)
         obtain ⟨x0, _⟩ := hT1.c0
         have T1 := Lib.hid hT1
         have S1 := Lib.hid st1
         clear hb1 st1 hT1)
      | (go_at_call 74
         have q_ := appendArgBytes_false l w1 (q + 3) n _ S T1.out.2.2.2.1 hn A K.length c K (by have := HKL.out; omega) (HSK.out.step (S1.out.mono (fun _ k => k.elim))) B m' c' X hvs (HSV.out.step (S1.out.mono (fun _ k => k.elim)))
         rw [HN.out] at q_
         refine q_.mono ?_
         rintro e w2 ⟨l2, V2, S2, rfl, k1, k3, k4⟩
         obtain ⟨A2, c2, rfl⟩ := k1.shape
         obtain ⟨⟨y0, g0⟩, k5, k6⟩ := T1.out.list k4 k1
         have K5 := Lib.hid k5
         have K6 := Lib.hid k6
         have K2 := Lib.hid (Nat.le_refl (n + 1))
         have K3 := Lib.hid k3
         clear k1 k3 k4 k5 k6))
    go_ret
    exact ⟨_, _, _, _, K5.out, K2.out, (S1.out.mono (fun _ k => k.elim)).trans K6.out, by first | exact ⟨rfl, K3.out⟩ | (rw [if_neg (by decide)]; exact ⟨rfl, K3.out⟩)⟩
set_option maxHeartbeats 1000000 in
set_option maxRecDepth 100000 in
theorem tUpd_calls (l : Nat → Nat) (w : World) (q p n : Nat) (V kv vv : Value) (S : List Slot) (kx vx : List Int) (dn : Bool) (h : TrC l w q p V n S kv kx vv vx dn) (hn : n ≤ 1099511627775)
    (A : Option Addr) (c : Nat) (K : List Int) (hK0 : 0 < K.length) (hks : K.length ≤ 140737488351232) (hkc : K.length ≤ c) (hk : Src (Zn (q + 3)) l w A K.length K) (B : Option Addr) (m' c' : Nat) (X : List Int) (hvs : m' ≤ 140737488355328) (hv : Src (Zn (q + 3)) l w B m' X) :
    Calls Try.prog 50 #[.pointer (some ⟨p, 0, none⟩), .slice A K.length c, .slice B m' c'] w fun e w' => ∃ l1 V1 n1 S1, TrC l1 w' q p V1 n1 S1 kv kx vv vx dn ∧ n1 ≤ n + 1 ∧ Stp (Tz q) l l1 w w' ∧
      (if badK K = true then (∃ u x, e = .returned (.iface u x)) ∧ kvs S1 n1 = kvs S n else e = .returned .nilIface ∧ kvs S1 n1 = updKV K X (kvs S n)) := by
  have HB := Lib.hid (isBad_calls w A c K hk.now hkc hK0 hks)
  have HT := Lib.hid h
  have HSK := Lib.hid hk
  have HSV := Lib.hid hv
  obtain ⟨b, hb⟩ : ∃ b, badK K = b := ⟨_, rfl⟩
  rw [hb] at HB ⊢
  have HKS := Lib.hid hkc
  have HKL := Lib.hid hks
  obtain ⟨A0, c0, rfl⟩ := h.2.2.2.1.shape
  obtain ⟨N, hN⟩ : ∃ N, K.length = N := ⟨_, rfl⟩
  rw [hN] at HB ⊢
  have HN := Lib.hid hN
  clear h hk hv hb hK0 hks hkc hN
  cases b with
  | true =>
    go_enter Try.func50, Try.ntmps50
    go_wp2_with (first
      | (go_at_call 68; refine HB.out.mono ?_; rintro e w1 ⟨rfl, hb1⟩; have B1 := Lib.hid hb1; clear hb1)
      | (go_at_call 69; refine (errNew_calls _ _).mono ?_; rintro e w2 ⟨hb2, u, x, rfl⟩; have B2 := Lib.hid hb2; clear hb2))
    go_ret
    have st1 := Stp.of_below_same B1.out (fun _ => False) l
    have st2 := Stp.of_below_same B2.out (fun _ => False) l
    have st := st1.trans st2
    exact ⟨l, _, n, S, HT.out.keep st (fun _ k => k.elim), by omega, st.mono (fun _ k => k.elim), by first | exact ⟨⟨_, _, rfl⟩, rfl⟩ | (rw [if_pos rfl]; exact ⟨⟨_, _, rfl⟩, rfl⟩)⟩
  | false =>
    go_enter Try.func50, Try.ntmps50
    go_wp2_with (first
      | (go_at_call 68
         refine HB.out.mono ?_
         rintro e w1 ⟨rfl, hb1⟩
         have st1 := Stp.of_below_same hb1 (fun _ => False) l
         have hT1 := HT.out.keep st1 (fun _ k => k.elim)
         obtain ⟨x0, _⟩ := hT1.c0
         have T1 := Lib.hid hT1
         have S1 := Lib.hid st1
         clear hb1 st1 hT1)
      | (go_at_call 70
         have q_ := updateArgBytes_calls l w1 (q + 3) n _ S T1.out.2.2.2.1 hn A c K (by have := HKL.out; omega) HKS.out (HSK.out.step (S1.out.mono (fun _ k => k.elim))) B m' c' X hvs (HSV.out.step (S1.out.mono (fun _ k => k.elim)))
         rw [HN.out] at q_
         refine q_.mono ?_
         rintro e w2 ⟨l2, V2, S2, rfl, k1, k3, k4⟩
         obtain ⟨A2, c2, rfl⟩ := k1.shape
         obtain ⟨⟨y0, g0⟩, k5, k6⟩ := T1.out.list k4 k1
         have K5 := Lib.hid k5
         have K6 := Lib.hid k6
         have K2 := Lib.hid (Nat.le_succ n)
         have K3 := Lib.hid k3
         clear k1 k3 k4 k5 k6))
    go_ret
    exact ⟨_, _, _, _, K5.out, K2.out, (S1.out.mono (fun _ k => k.elim)).trans K6.out, by first | exact ⟨rfl, K3.out⟩ | (rw [if_neg (by decide)]; exact ⟨rfl, K3.out⟩)⟩
end Go.Proofs.Ytoimkmoalmmooaa.Own
set_option linter.unusedVariables false
set_option linter.unusedSimpArgs false
namespace Go.Proofs.Ytoimkmoalmmooaa.Own
open Go.RowKit Go.Proofs.YtoimkmoalmmooaaW.PrintWords Go.Proofs.YtoimkmoalmmooaaW.PrintLast Go.Proofs.YtoimkmoalmmooaaW.PrintMore Go.Proofs.Ytoimkmoalmmooaa.Base Go.Proofs.Ytoimkmoalmmooaa.Gv Go.Proofs.Ytoimkmoalmmooaa.QA Go.Proofs.Ytoimkmoalmmooaa.Given
set_option maxHeartbeats 1000000 in
set_option maxRecDepth 100000 in
theorem tAddN_calls (l : Nat → Nat) (w : World) (q p n : Nat) (V kv vv : Value) (S : List Slot) (kx vx : List Int) (dn : Bool) (h : TrC l w q p V n S kv kx vv vx dn) (hn : n ≤ 1099511627775)
    (A : Option Addr) (c : Nat) (K : List Int) (hK0 : 0 < K.length) (hks : K.length ≤ 140737488351232) (hkc : K.length ≤ c) (hk : Src (Zn (q + 3)) l w A K.length K) :
    Calls Try.prog 59 #[.pointer (some ⟨p, 0, none⟩), .slice A K.length c, .slice none 0 0, .bool true] w fun e w' => ∃ l1 V1 n1 S1, TrC l1 w' q p V1 n1 S1 kv kx vv vx dn ∧ n1 ≤ n + 1 ∧ Stp (Tz q) l l1 w w' ∧
      (if badK K = true then (∃ u x, e = .returned (.iface u x)) ∧ kvs S1 n1 = kvs S n else e = .returned .nilIface ∧ kvs S1 n1 = kvs S n ++ [⟨K, [], true⟩]) := by
  have HB := Lib.hid (isBad_calls w A c K hk.now hkc hK0 hks)
  have HT := Lib.hid h
  have HSK := Lib.hid hk
  obtain ⟨b, hb⟩ : ∃ b, badK K = b := ⟨_, rfl⟩
  rw [hb] at HB ⊢
  have HKS := Lib.hid hkc
  have HKL := Lib.hid hks
  obtain ⟨A0, c0, rfl⟩ := h.2.2.2.1.shape
  obtain ⟨N, hN⟩ : ∃ N, K.length = N := ⟨_, rfl⟩
  rw [hN] at HB ⊢
  have HN := Lib.hid hN
  clear h hk hb hK0 hks hkc hN
  cases b with
  | true =>
    go_enter Try.func59, Try.ntmps59
    go_wp2_with (first
      | (go_at_call 68; refine HB.out.mono ?_; rintro e w1 ⟨rfl, hb1⟩; have B1 := Lib.hid hb1; clear hb1)
      | (go_at_call 69; refine (errNew_calls _ _).mono ?_; rintro e w2 ⟨hb2, u, x, rfl⟩; have B2 := Lib.hid hb2; clear hb2))
    go_ret
    have st1 := Stp.of_below_same B1.out (fun _ => False) l
    have st2 := Stp.of_below_same B2.out (fun _ => False) l
    have st := st1.trans st2
    exact ⟨l, _, n, S, HT.out.keep st (fun _ k => k.elim), by omega, st.mono (fun _ k => k.elim), by first | exact ⟨⟨_, _, rfl⟩, rfl⟩ | (rw [if_pos rfl]; exact ⟨⟨_, _, rfl⟩, rfl⟩)⟩
  | false =>
    go_enter Try.func59, Try.ntmps59
    go_wp2_with (first
      | (go_at_call 68
         refine HB.out.mono ?_
         rintro e w1 ⟨rfl, hb1⟩
         have st1 := Stp.of_below_same hb1 (fun _ => False) l
         have hT1 := HT.out.keep st1 (fun _ k => k.elim)
         obtain ⟨x0, _⟩ := hT1.c0
         have T1 := Lib.hid hT1
         have S1 := Lib.hid st1
         clear hb1 st1 hT1)
      | (go_at_call 74
         have q_ := appendArgBytes_true l w1 (q + 3) n _ S T1.out.2.2.2.1 hn A K.length c K (by have := HKL.out; omega) (HSK.out.step (S1.out.mono (fun _ k => k.elim))) none 0 0 []
         rw [HN.out] at q_
         refine q_.mono ?_
         rintro e w2 ⟨l2, V2, S2, rfl, k1, k3, k4⟩
         obtain ⟨A2, c2, rfl⟩ := k1.shape
         obtain ⟨⟨y0, g0⟩, k5, k6⟩ := T1.out.list k4 k1
         have K5 := Lib.hid k5
         have K6 := Lib.hid k6
         have K2 := Lib.hid (Nat.le_refl (n + 1))
         have K3 := Lib.hid k3
         clear k1 k3 k4 k5 k6))
    go_ret
    exact ⟨_, _, _, _, K5.out, K2.out, (S1.out.mono (fun _ k => k.elim)).trans K6.out, by first | exact ⟨rfl, K3.out⟩ | (rw [if_neg (by decide)]; exact ⟨rfl, K3.out⟩)⟩
end Go.Proofs.Ytoimkmoalmmooaa.Own
