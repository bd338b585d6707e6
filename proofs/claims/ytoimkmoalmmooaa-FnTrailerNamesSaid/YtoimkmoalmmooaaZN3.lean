/- Texts of this claim, one behind the other (merged by wip/prune.py of this repo, without what the proof does not use): QA5, QA6, TMeth1, TAddN, TMeth2, HPeek, HDel, TMeth3, TMeth6, GStr3, HLine, GBytesIdx, TSetT, TMeth4, TVisit, TMeth5, TStepF, TStep0. -/
import Derived.Test.YtoimkmoalmmooaaZN2
import Derived.Defers
import Derived.Recover
import Derived.Shelf.Bytes.SlIndexAt
import Derived.StillTailTactics
namespace Go.Proofs.Ytoimkmoalmmooaa.QA
open Go.Proofs.Ytoimkmoalmmooaa.Given
open Go.Proofs.Ytoimkmoalmmooaa.PrX
open Go.RowKit Go.Proofs.YtoimkmoalmmooaaW.PrintWords Go.Proofs.YtoimkmoalmmooaaW.PrintLast Go.Proofs.YtoimkmoalmmooaaW.PrintMore
set_option linter.unusedVariables false
set_option linter.unusedSimpArgs false
set_option maxHeartbeats 8000000 in
set_option maxRecDepth 100000 in
theorem hertzproto_IsBadTrailer.calls_1 (k : Nat) (A0 : Option Addr) (c0 : Nat) (l0 : List Int) (r : Bool) (w : World) (hr0 : Kd.C (Kd.int .u8) w A0 l0.length l0) (hc0 : l0.length ≤ c0) (hcase : (Go.bits .or .u8 (rd l0 0) 32) = 112) (h : hertzproto_IsBadTrailer.f k l0 = some r) :
  Calls Try.prog 68 #[.slice A0 l0.length c0] w fun e w' => e = .returned (.bool r) ∧ Below w.heap.size w w' := by
 have HCASE_ := Aside0.mk hcase
 clear hcase
 have HR0 := Aside0.mk hr0
 have HC0 := Aside0.mk hc0
 clear hr0 hc0
 have HB := Aside0.mk (Below.refl w.heap.size w)
 have H : (if 0 < (l0.length : Int) then (if (Go.bits .or .u8 (rd l0 0) 32) = 97 then ((hertzstr_StrAuthorization.f).bind fun t104 => ((hertzutils_CaseInsensitiveCompare.f k l0 t104).bind fun t107 => (some t107))) else (if (Go.bits .or .u8 (rd l0 0) 32) = 99 then (if (l0.length : Int) ≥ 12 then (if 8 ≤ (l0.length : Int) then ((hertzstr_StrContentType.f).bind fun t109 => (if 8 ≤ (t109.length : Int) then ((hertzutils_CaseInsensitiveCompare.f k (l0.take 8) (t109.take 8)).bind fun t116 => (hertzproto_IsBadTrailer.j0 k l0 t116)) else (none))) else (none)) else (hertzproto_IsBadTrailer.j0 k l0 false)) else (if (Go.bits .or .u8 (rd l0 0) 32) = 101 then ((hertzstr_StrExpect.f).bind fun t157 => ((hertzutils_CaseInsensitiveCompare.f k l0 t157).bind fun t160 => (some t160))) else (if (Go.bits .or .u8 (rd l0 0) 32) = 104 then ((hertzstr_StrHost.f).bind fun t161 => ((hertzutils_CaseInsensitiveCompare.f k l0 t161).bind fun t164 => (some t164))) else (if (Go.bits .or .u8 (rd l0 0) 32) = 107 then ((hertzstr_StrKeepAlive.f).bind fun t165 => ((hertzutils_CaseInsensitiveCompare.f k l0 t165).bind fun t168 => (some t168))) else (if (Go.bits .or .u8 (rd l0 0) 32) = 109 then ((hertzstr_StrMaxForwards.f).bind fun t169 => ((hertzutils_CaseInsensitiveCompare.f k l0 t169).bind fun t172 => (some t172))) else (if (Go.bits .or .u8 (rd l0 0) 32) = 112 then (if (l0.length : Int) ≥ 16 then (if 6 ≤ (l0.length : Int) then ((hertzstr_StrProxyConnection.f).bind fun t174 => (if 6 ≤ (t174.length : Int) then ((hertzutils_CaseInsensitiveCompare.f k (l0.take 6) (t174.take 6)).bind fun t181 => (hertzproto_IsBadTrailer.j1 k l0 t181)) else (none))) else (none)) else (hertzproto_IsBadTrailer.j1 k l0 false)) else (if (Go.bits .or .u8 (rd l0 0) 32) = 114 then ((hertzstr_StrRange.f).bind fun t209 => ((hertzutils_CaseInsensitiveCompare.f k l0 t209).bind fun t212 => (some t212))) else (if (Go.bits .or .u8 (rd l0 0) 32) = 116 then ((hertzstr_StrTE.f).bind fun t213 => ((hertzutils_CaseInsensitiveCompare.f k l0 t213).bind fun t216 => (if t216 = true then (some true) else ((hertzstr_StrTrailer.f).bind fun t217 => ((hertzutils_CaseInsensitiveCompare.f k l0 t217).bind fun t220 => (if t220 = true then (some true) else ((hertzstr_StrTransferEncoding.f).bind fun t221 => ((hertzutils_CaseInsensitiveCompare.f k l0 t221).bind fun t224 => (some t224))))))))) else (if (Go.bits .or .u8 (rd l0 0) 32) = 119 then ((hertzstr_StrWWWAuthenticate.f).bind fun t225 => ((hertzutils_CaseInsensitiveCompare.f k l0 t225).bind fun t228 => (some t228))) else (some false))))))))))) else (none)) = some r := h
 clear h
 by_cases c2 : 0 < (l0.length : Int)
 ·rw [if_pos c2] at H
  have c2b0 : decide (0 < (l0.length : Int)) = true := decide_eq_true c2
  have c2b1 : decide (0 < l0.length) = true := decide_eq_true (by omega)
  clear c2
  by_cases c3 : (Go.bits .or .u8 (rd l0 0) 32) = 97
  ·exact absurd (HCASE_.out.symm.trans c3) (by decide)
  ·rw [if_neg c3] at H
   have c3b0 : ((Go.bits .or .u8 (rd l0 0) 32) == 97) = false := beq_eq_false_iff_ne.mpr c3
   have c3b1 : ((Go.bits .or .u8 (rd l0 0) 32) != 97) = true := bne_iff_ne.mpr c3
   by_cases c8 : (Go.bits .or .u8 (rd l0 0) 32) = 99
   ·exact absurd (HCASE_.out.symm.trans c8) (by decide)
   ·rw [if_neg c8] at H
    have c8b0 : ((Go.bits .or .u8 (rd l0 0) 32) == 99) = false := beq_eq_false_iff_ne.mpr c8
    have c8b1 : ((Go.bits .or .u8 (rd l0 0) 32) != 99) = true := bne_iff_ne.mpr c8
    by_cases c89 : (Go.bits .or .u8 (rd l0 0) 32) = 101
    ·exact absurd (HCASE_.out.symm.trans c89) (by decide)
    ·rw [if_neg c89] at H
     have c89b0 : ((Go.bits .or .u8 (rd l0 0) 32) == 101) = false := beq_eq_false_iff_ne.mpr c89
     have c89b1 : ((Go.bits .or .u8 (rd l0 0) 32) != 101) = true := bne_iff_ne.mpr c89
     by_cases c94 : (Go.bits .or .u8 (rd l0 0) 32) = 104
     ·exact absurd (HCASE_.out.symm.trans c94) (by decide)
     ·rw [if_neg c94] at H
      have c94b0 : ((Go.bits .or .u8 (rd l0 0) 32) == 104) = false := beq_eq_false_iff_ne.mpr c94
      have c94b1 : ((Go.bits .or .u8 (rd l0 0) 32) != 104) = true := bne_iff_ne.mpr c94
      by_cases c99 : (Go.bits .or .u8 (rd l0 0) 32) = 107
      ·exact absurd (HCASE_.out.symm.trans c99) (by decide)
      ·rw [if_neg c99] at H
       have c99b0 : ((Go.bits .or .u8 (rd l0 0) 32) == 107) = false := beq_eq_false_iff_ne.mpr c99
       have c99b1 : ((Go.bits .or .u8 (rd l0 0) 32) != 107) = true := bne_iff_ne.mpr c99
       by_cases c104 : (Go.bits .or .u8 (rd l0 0) 32) = 109
       ·exact absurd (HCASE_.out.symm.trans c104) (by decide)
       ·rw [if_neg c104] at H
        have c104b0 : ((Go.bits .or .u8 (rd l0 0) 32) == 109) = false := beq_eq_false_iff_ne.mpr c104
        have c104b1 : ((Go.bits .or .u8 (rd l0 0) 32) != 109) = true := bne_iff_ne.mpr c104
        by_cases c109 : (Go.bits .or .u8 (rd l0 0) 32) = 112
        ·rw [if_pos c109] at H
         have c109b0 : ((Go.bits .or .u8 (rd l0 0) 32) == 112) = true := beq_iff_eq.mpr c109
         have c109b1 : ((Go.bits .or .u8 (rd l0 0) 32) != 112) = false := bne_eq_false_iff_eq.mpr c109
         clear c109
         have HC110 := Aside0.mk H
         clear H
         have p103 : 0 ≤ (0 : Int) := (by omega)
         have q103 : 0 < (l0.length : Int) := of_decide_eq_true (by first | (with_reducible assumption) | assumption)
         obtain ⟨ad103, e103, hx103_0⟩ := Kd.at_int HR0.out 0 p103 q103
         cases e103
         have qi103 : (0 < l0.length) = True := eq_true (by omega)
         (try rw [show ((0 : Int)).toNat = 0 from rfl] at hx103_0)
         (try rw [Addr.add_zero'] at hx103_0)
         replace p103 := eq_true p103
         replace q103 := eq_true q103
         go_enter Try.func68, Try.ntmps68
         go_upto_region 17 with (fail)
         go_cut [84] (fun v84 wc => ∃ (kq : Nat) (x84_109 : Bool), v84 = .bool x84_109 ∧ Aside0 (hertzproto_IsBadTrailer.j1 kq l0 x84_109 = some r) ∧ Aside0 (kq ≤ k) ∧ Aside0 (Below w.heap.size w wc))
         case first =>
          have H := HC110.out
          clear HC110
          by_cases c111 : (l0.length : Int) ≥ 16
          ·rw [if_pos c111] at H
           have c111b0 : decide (16 ≤ (l0.length : Int)) = true := decide_eq_true c111
           have c111b1 : decide (16 ≤ l0.length) = true := decide_eq_true (by omega)
           clear c111
           (first | rw [c111b0] | (simp only [i64_w, i32_w]; rw [c111b0]) | skip)
           by_cases c112 : 6 ≤ (l0.length : Int)
           ·rw [if_pos c112] at H
            have c112b0 := eq_true c112
            have c112b1 : decide (6 ≤ (l0.length : Int)) = true := decide_eq_true c112
            clear c112
            replace H := Option.bind_eq_some_iff.mp H
            obtain ⟨t174, A1130, H⟩ := H
            replace H : (if 6 ≤ (t174.length : Int) then ((hertzutils_CaseInsensitiveCompare.f k (l0.take 6) (t174.take 6)).bind fun t181 => (hertzproto_IsBadTrailer.j1 k l0 t181)) else (none)) = some r := H
            have A113 := Aside0.mk A1130
            clear A1130
            by_cases c114 : 6 ≤ (t174.length : Int)
            ·rw [if_pos c114] at H
             have c114b0 := eq_true c114
             have c114b1 : decide (6 ≤ (t174.length : Int)) = true := decide_eq_true c114
             clear c114
             obtain ⟨y177, hy177⟩ : ∃ y_ : List Int, y_ = (t174.take 6) := ⟨_, rfl⟩
             replace H : ((hertzutils_CaseInsensitiveCompare.f k (l0.take 6) y177).bind fun t181 => (hertzproto_IsBadTrailer.j1 k l0 t181)) = some r := by first | (rw [hy177]; with_reducible exact H) | (have H2_ := (Option.bind_some _ _).symm.trans H; rw [hy177]; with_reducible exact H2_) | (have H2_ := (Option.bind_some _ _).symm.trans H; with_reducible exact H2_) | with_reducible exact H | (rw [hy177]; exact H) | exact H
             have Ny177 := Aside0.mk hy177
             clear hy177
             replace H := Option.bind_eq_some_iff.mp H
             obtain ⟨t181, A1150, H⟩ := H
             replace H : (hertzproto_IsBadTrailer.j1 k l0 t181) = some r := H
             have A115 := Aside0.mk A1150
             clear A1150
             have H' := Aside0.mk H
             clear H
             try go_wp2
             have n0_ := Aside0.mk (below_drew1 HB.out)
             clear HB
             have HB := n0_
             clear n0_
             obtain ⟨i0117, hi0117, _, hsz117, _⟩ := info_parts info5
             obtain ⟨hcut117, hA117, hC117⟩ := print_take_of (P := Try.prog) (Value.int .u8) 0 54 5 .i64 Try.underlying54 hi0117 hsz117 (some ad103) c0 l0 6 (by omega) (of_decide_eq_true (by first | (with_reducible assumption) | assumption)) HC0.out
             have HR173 := Aside0.mk (Kd.C_of_reads (h1 := fun _ => rfl) (hA117 _ (Kd.reads_of_C HR0.out)))
             have HC173 := Aside0.mk hC117
             clear hA117 hC117 hi0117 hsz117
             refine start_ (n := 10) (S := fun w' => True) (ds := []) #[false,false,false,false,false,false,false,false,false,false] (by kernel_rfl) rfl rfl trivial (fun hHeld => ?_); refine with_tabW hertzproto_IsBadTrailer.tab17 hertzproto_IsBadTrailer.bits17 (fun HT_ HW_ => ?_)
             generalize w.drew = w116 at HB HR173 hHeld ⊢
             refine pure_ (i := 0) (N := some 75) (v := ?_) (a' := ?_) #[true,false,false,false,false,false,false,false,false,false] rfl rfl (any_of HT_.out (by kernel_rfl)) (fun _ _ _ h => h) (Or.inl ⟨by rfl, ?_⟩) ?_ ?_
             rotate_left
             ·intro w'
              go_simp
              with_reducible rfl
             rotate_left
             ·simp only [Act.put, List.setIfInBounds_toArray, List.set_cons_zero, List.set_cons_succ, i64_w, i32_w]
              rfl
             refine pure_ (i := 1) (N := some 76) (v := ?_) (a' := ?_) #[true,true,false,false,false,false,false,false,false,false] rfl rfl (any_of HT_.out (by kernel_rfl)) (fun _ _ _ h => h) (Or.inl ⟨by rfl, ?_⟩) ?_ ?_
             rotate_left
             ·intro w'
              go_simp
              with_reducible rfl
             rotate_left
             ·simp only [Act.put, List.setIfInBounds_toArray, List.set_cons_zero, List.set_cons_succ, i64_w, i32_w]
              rfl
             refine pure_ (i := 2) (N := some 77) (v := ?_) (a' := ?_) #[true,true,true,false,false,false,false,false,false,false] rfl rfl (any_of HT_.out (by kernel_rfl)) (fun _ _ _ h => h) (Or.inl ⟨by rfl, ?_⟩) ?_ ?_
             rotate_left
             ·intro w'
              go_simp
              with_reducible rfl
             rotate_left
             ·simp only [Act.put, List.setIfInBounds_toArray, List.set_cons_zero, List.set_cons_succ, i64_w, i32_w]
              rfl
             refine pure_ (i := 3) (N := some 78) (v := ?_) (a' := ?_) #[true,true,true,true,false,false,false,false,false,false] rfl rfl (any_of HT_.out (by kernel_rfl)) (fun _ _ _ h => h) (Or.inl ⟨by rfl, ?_⟩) ?_ ?_
             rotate_left
             ·intro w'
              go_simp
              with_reducible rfl
             rotate_left
             ·simp only [Act.put, List.setIfInBounds_toArray, List.set_cons_zero, List.set_cons_succ, i64_w, i32_w]
              rfl
             refine pure_ (i := 4) (N := some 79) (v := ?_) (a' := ?_) #[true,true,true,true,true,false,false,false,false,false] rfl rfl (any_of HT_.out (by kernel_rfl)) (fun _ _ _ h => h) (Or.inl ⟨by rfl, ?_⟩) ?_ ?_
             rotate_left
             ·intro w'
              go_simp
              with_reducible rfl
             rotate_left
             ·simp only [Act.put, List.setIfInBounds_toArray, List.set_cons_zero, List.set_cons_succ, i64_w, i32_w]
              rfl
             refine pure_ (i := 5) (N := some 80) (v := ?_) (a' := ?_) #[true,true,true,true,true,true,false,false,false,false] rfl rfl (any_of HT_.out (by kernel_rfl)) (fun _ _ _ h => h) (Or.inl ⟨by rfl, ?_⟩) ?_ ?_
             rotate_left
             ·intro w'
              go_simp
              with_reducible rfl
             rotate_left
             ·simp only [Act.put, List.setIfInBounds_toArray, List.set_cons_zero, List.set_cons_succ, i64_w, i32_w]
              rfl
             refine one_ (i := 6) (N := some 81) #[true,true,true,true,true,true,true,false,false,false] rfl rfl (one_of HT_.out (by kernel_rfl)) (by decide) (fun K hK => ?_)
             refine goes_ Try.func91 (by kernel_rfl) rfl #[] (by rfl) rfl rfl (by (try simp only [List.map_toArray, List.map_cons, List.map_nil]); first | done | rfl | (simp only [List.length_drop, List.length_take]; rfl)) ?_
             with_reducible refine (hertzstr_StrProxyConnection.calls  t174 _ A113.out).mono ?_
             rintro e w118 ⟨v175, rfl, ho0, hb⟩
             refine ⟨_, rfl, ?_⟩
             have n0_ := Aside0.mk (MR.R_lower ho0 (below_size (by repeat (first | (with_reducible first | exact HB.out | apply below_alloc | apply pw_below_drewN | apply below_drew1) | exact HB.out))))
             have n1_ := Aside0.mk (below_step (by repeat (first | (with_reducible first | exact HB.out | apply below_alloc | apply pw_below_drewN | apply below_drew1) | exact HB.out)) hb)
             clear HB
             have HO176 := n0_
             have HB := n1_
             clear n0_ n1_
             (try clear hb)
             (try clear hb2)
             (try clear hk)
             (try clear hi)
             (try clear ho0)
             obtain ⟨Ao120, co120, eo120⟩ := MR.R_slice HO176.out
             (first | subst eo120 | (injection eo120 with f1_ f2_ f3_; have f4_ := f1_.symm; have f5_ := f3_.symm; clear f1_ f2_ f3_; subst f4_; subst f5_))
             have q119 : (6 : Int) ≤ ((t174.length : Int) : Int) := of_decide_eq_true (by first | (with_reducible assumption) | assumption)
             obtain ⟨i0119, hi0119, _, hsz119, _⟩ := info_parts info5
             have hroom119 : t174.length ≤ co120 := (MR.R_reads' HO176.out).2.1
             have hC119 : Kd.C (Kd.int .u8) _ Ao120 t174.length t174 := (MR.R_reads' HO176.out).2.2
             have hcut119 := cut_to (P := Try.prog) 54 5 .i64 Try.underlying54 hi0119 Ao120 t174.length co120 6 (by omega) q119 hroom119
             have hr119 := Kd.C_take (m := 6) hC119 (by omega)
             have hy119 : y177.length = (6 : Int).toNat := (by rw [Ny177.out, List.length_take]; omega)
             rw [← Ny177.out] at hr119
             rw [← hy119] at hcut119
             have HR180 := Aside0.mk hr119
             have HC180 := Aside0.mk (show y177.length ≤ co120 from by omega)
             clear hr119 hC119 hroom119 hi0119 hsz119
             have KY119 := Aside0.mk hy119
             clear hy119
             have KL119 := Aside0.mk (show 6 ≤ t174.length from by omega)
             replace q119 := eq_true q119
             refine hK.out _ _ trivial (fun hHeld => ?_)
             clear hK K
             refine norm_ (a' := ?_) ?_ ?_
             rotate_left
             ·show Act.put _ (some 81) _ = _
              simp only [Act.put, List.setIfInBounds_toArray, List.set_cons_zero, List.set_cons_succ, i64_w, i32_w]
              rfl
             refine pure_ (i := 7) (N := some 82) (v := ?_) (a' := ?_) #[true,true,true,true,true,true,true,true,false,false] rfl rfl (any_of HT_.out (by kernel_rfl)) (fun _ _ _ h => h) (Or.inl ⟨by rfl, ?_⟩) ?_ ?_
             rotate_left
             ·intro w'
              go_simp
              with_reducible rfl
             rotate_left
             ·simp only [Act.put, List.setIfInBounds_toArray, List.set_cons_zero, List.set_cons_succ, i64_w, i32_w]
              rfl
             refine one_ (i := 8) (N := some 83) #[true,true,true,true,true,true,true,true,true,false] rfl rfl (one_of HT_.out (by kernel_rfl)) (by decide) (fun K hK => ?_)
             refine goes_ Try.func80 (by kernel_rfl) rfl #[.slice (some ad103) (l0.take 6).length c0, .slice Ao120 y177.length co120] (by rfl) rfl rfl (by (try simp only [List.map_toArray, List.map_cons, List.map_nil]); first | done | (rw [show (l0.take 6).length = 6 from (by rw [List.length_take]; have h_ : (6 : Int) ≤ (l0.length : Int) := of_decide_eq_true (by first | (with_reducible assumption) | assumption); omega)] <;> rfl) | rfl | (simp only [List.length_drop, List.length_take]; rfl)) ?_
             with_reducible refine (hertzutils_CaseInsensitiveCompare.calls k _ _ (l0.take 6) _ _ y177 t181 _ ?side1 ?side2 ?side3 ?side4 A115.out).mono ?_
             (case side1 => repeat (first | exact (Kd.C_below HR173.out HB.out) | (with_reducible refine Kd.C_alloc ?_ _) | (with_reducible refine Kd.C_drewN ?_ _) | (with_reducible refine Kd.C_drew ?_)))
             (case side2 => exact HC173.out)
             (case side3 => repeat (first | exact (by repeat (first | (with_reducible exact HR180.out) | (with_reducible refine Kd.C_alloc ?_ _) | (with_reducible refine Kd.C_drewN ?_ _) | (with_reducible refine Kd.C_drew ?_) | exact HR180.out)) | (with_reducible refine Kd.C_alloc ?_ _) | (with_reducible refine Kd.C_drewN ?_ _) | (with_reducible refine Kd.C_drew ?_)))
             (case side4 => exact HC180.out)
             rintro e w' ⟨rfl, ⟨nd, rfl⟩⟩
             refine ⟨_, rfl, ?_⟩
             refine hK.out _ _ trivial (fun hHeld => ?_)
             clear hK K
             refine norm_ (a' := ?_) ?_ ?_
             rotate_left
             ·show Act.put _ (some 83) _ = _
              simp only [Act.put, List.setIfInBounds_toArray, List.set_cons_zero, List.set_cons_succ, i64_w, i32_w]
              rfl
             refine pure_ (i := 9) (N := some 84) (v := ?_) (a' := ?_) #[true,true,true,true,true,true,true,true,true,true] rfl rfl (any_of HT_.out (by kernel_rfl)) (fun _ _ _ h => h) (Or.inl ⟨by rfl, ?_⟩) ?_ ?_
             rotate_left
             ·intro w'
              go_simp
              with_reducible rfl
             rotate_left
             ·simp only [Act.put, List.setIfInBounds_toArray, List.set_cons_zero, List.set_cons_succ, i64_w, i32_w]
              rfl
             refine done_ (done_of HT_.out (by kernel_rfl)) ?_
             try go_wp2
             go_meet
             case rel => exact ⟨_, (t181), (by first | rfl | (simp; done) | (rw [prx_ne]; first | done | rfl) | (simp [*]; done)), H', ⟨by first | omega | exact Nat.le_refl _⟩, ⟨by repeat (first | (with_reducible first | exact HB.out | apply below_alloc | apply pw_below_drewN | apply below_drew1) | exact HB.out)⟩⟩
            ·rw [if_neg c114] at H
             exact absurd H (by simp)
           ·rw [if_neg c112] at H
            exact absurd H (by simp)
          ·rw [if_neg c111] at H
           have c111b0 : decide (16 ≤ (l0.length : Int)) = false := decide_eq_false c111
           have c111b1 : decide (16 ≤ l0.length) = false := decide_eq_false (by omega)
           clear c111
           (first | rw [c111b0] | (simp only [i64_w, i32_w]; rw [c111b0]) | skip)
           have H' := Aside0.mk H
           clear H
           try go_wp2
           have n0_ := Aside0.mk (below_drew1 HB.out)
           clear HB
           have HB := n0_
           clear n0_
           refine start_ (n := 10) (S := fun w' => True) (ds := []) #[false,false,false,false,false,false,false,false,false,false] (by kernel_rfl) rfl rfl trivial (fun hHeld => ?_); refine with_tabW hertzproto_IsBadTrailer.tab17 hertzproto_IsBadTrailer.bits17 (fun HT_ HW_ => ?_)
           generalize w.drew = w121 at HB hHeld ⊢
           refine pure_ (i := 0) (N := some 75) (v := ?_) (a' := ?_) #[true,false,false,false,false,false,false,false,false,false] rfl rfl (any_of HT_.out (by kernel_rfl)) (fun _ _ _ h => h) (Or.inl ⟨by rfl, ?_⟩) ?_ ?_
           rotate_left
           ·intro w'
            go_simp
            with_reducible rfl
           rotate_left
           ·simp only [Act.put, List.setIfInBounds_toArray, List.set_cons_zero, List.set_cons_succ, i64_w, i32_w]
            rfl
           refine pure_ (i := 1) (N := some 76) (v := ?_) (a' := ?_) #[true,true,false,false,false,false,false,false,false,false] rfl rfl (any_of HT_.out (by kernel_rfl)) (fun _ _ _ h => h) (Or.inl ⟨by rfl, ?_⟩) ?_ ?_
           rotate_left
           ·intro w'
            go_simp
            with_reducible rfl
           rotate_left
           ·simp only [Act.put, List.setIfInBounds_toArray, List.set_cons_zero, List.set_cons_succ, i64_w, i32_w]
            rfl
           refine pure_ (i := 2) (N := some 77) (v := ?_) (a' := ?_) #[true,true,true,false,false,false,false,false,false,false] rfl rfl (any_of HT_.out (by kernel_rfl)) (fun _ _ _ h => h) (Or.inl ⟨by rfl, ?_⟩) ?_ ?_
           rotate_left
           ·intro w'
            go_simp
            with_reducible rfl
           rotate_left
           ·simp only [Act.put, List.setIfInBounds_toArray, List.set_cons_zero, List.set_cons_succ, i64_w, i32_w]
            rfl
           refine pure_ (i := 3) (N := some 78) (v := ?_) (a' := ?_) #[true,true,true,true,false,false,false,false,false,false] rfl rfl (any_of HT_.out (by kernel_rfl)) (fun _ _ _ h => h) (Or.inl ⟨by rfl, ?_⟩) ?_ ?_
           rotate_left
           ·intro w'
            go_simp
            with_reducible rfl
           rotate_left
           ·simp only [Act.put, List.setIfInBounds_toArray, List.set_cons_zero, List.set_cons_succ, i64_w, i32_w]
            rfl
           refine pure_ (i := 4) (N := some 79) (v := undef) (a' := ?_) #[true,true,true,true,true,false,false,false,false,false] rfl rfl (any_of HT_.out (by kernel_rfl)) (fun _ _ _ h => h) (Or.inr ⟨by rfl, rfl⟩) ?_ ?_
           rotate_left
           ·simp only [Act.put, List.setIfInBounds_toArray, List.set_cons_zero, List.set_cons_succ, i64_w, i32_w]
            rfl
           refine pure_ (i := 5) (N := some 80) (v := undef) (a' := ?_) #[true,true,true,true,true,true,false,false,false,false] rfl rfl (any_of HT_.out (by kernel_rfl)) (fun _ _ _ h => h) (Or.inr ⟨by rfl, rfl⟩) ?_ ?_
           rotate_left
           ·simp only [Act.put, List.setIfInBounds_toArray, List.set_cons_zero, List.set_cons_succ, i64_w, i32_w]
            rfl
           refine pure_ (i := 6) (N := some 81) (v := undef) (a' := ?_) #[true,true,true,true,true,true,true,false,false,false] rfl rfl (any_of HT_.out (by kernel_rfl)) (fun _ _ _ h => h) (Or.inr ⟨by rfl, rfl⟩) ?_ ?_
           rotate_left
           ·simp only [Act.put, List.setIfInBounds_toArray, List.set_cons_zero, List.set_cons_succ, i64_w, i32_w]
            rfl
           refine pure_ (i := 7) (N := some 82) (v := undef) (a' := ?_) #[true,true,true,true,true,true,true,true,false,false] rfl rfl (any_of HT_.out (by kernel_rfl)) (fun _ _ _ h => h) (Or.inr ⟨by rfl, rfl⟩) ?_ ?_
           rotate_left
           ·simp only [Act.put, List.setIfInBounds_toArray, List.set_cons_zero, List.set_cons_succ, i64_w, i32_w]
            rfl
           refine pure_ (i := 8) (N := some 83) (v := undef) (a' := ?_) #[true,true,true,true,true,true,true,true,true,false] rfl rfl (any_of HT_.out (by kernel_rfl)) (fun _ _ _ h => h) (Or.inr ⟨by rfl, rfl⟩) ?_ ?_
           rotate_left
           ·simp only [Act.put, List.setIfInBounds_toArray, List.set_cons_zero, List.set_cons_succ, i64_w, i32_w]
            rfl
           refine pure_ (i := 9) (N := some 84) (v := ?_) (a' := ?_) #[true,true,true,true,true,true,true,true,true,true] rfl rfl (any_of HT_.out (by kernel_rfl)) (fun _ _ _ h => h) (Or.inl ⟨by rfl, ?_⟩) ?_ ?_
           rotate_left
           ·intro w'
            go_simp
            with_reducible rfl
           rotate_left
           ·simp only [Act.put, List.setIfInBounds_toArray, List.set_cons_zero, List.set_cons_succ, i64_w, i32_w]
            rfl
           refine done_ (done_of HT_.out (by kernel_rfl)) ?_
           try go_wp2
           go_meet
           case rel => exact ⟨_, (false), (by first | rfl | (simp; done) | (rw [prx_ne]; first | done | rfl) | (simp [*]; done)), H', ⟨by first | omega | exact Nat.le_refl _⟩, ⟨by repeat (first | (with_reducible first | exact HB.out | apply below_alloc | apply pw_below_drewN | apply below_drew1) | exact HB.out)⟩⟩
         case rest =>
          clear HC110
          try clear c1
          try clear p1
          try clear q1
          try clear hx1
          try clear qi1
          try clear c2
          try clear p2
          try clear c3
          try clear c4
          try clear c6
          try clear c7
          try clear c8
          try clear c8b0
          try clear c8b1
          try clear q8
          try clear c9
          try clear c10
          try clear p10
          try clear q10
          try clear hx10
          try clear qi10
          try clear c11
          try clear q11
          try clear c21
          try clear c22
          try clear c24
          try clear c34
          try clear c48
          try clear c66
          try clear c68
          try clear c79
          try clear c80
          try clear c83
          try clear q83
          try clear c85
          try clear c86
          try clear c87
          try clear c88
          try clear c89
          try clear c89b0
          try clear c89b1
          try clear c90
          try clear c91
          try clear c94
          try clear c94b0
          try clear c94b1
          try clear c99
          try clear c99b0
          try clear c99b1
          try clear p103
          try clear q103
          try clear hx103
          try clear qi103
          try clear c104
          try clear c104b0
          try clear c104b1
          try clear c109
          try clear c109b0
          try clear c109b1
          try clear c111
          try clear c111b0
          try clear c111b1
          try clear c112
          try clear c112b0
          try clear c112b1
          try clear c114
          try clear c114b0
          try clear c114b1
          try clear q119
          try clear hx103_0
          try clear p103
          try clear q103
          try clear q119
          try clear q83
          obtain ⟨kq, x84_109, rfl, HA, HJ109, HB⟩ := hcut
          cases kq with
          | zero => exact absurd HA.out (by simp [hertzproto_IsBadTrailer.j1])
          | succ kj109 =>
           have H := HA.out
           clear HA
           simp only [hertzproto_IsBadTrailer.j1] at H
           by_cases c122 : x84_109 = true
           ·subst c122
            have H1 : (if 6 ≤ (l0.length : Int) then ((hertzstr_StrProxyConnection.f).bind fun t183 => (if 6 ≤ (t183.length : Int) then ((hertzutils_CaseInsensitiveCompare.f kj109 (l0.drop 6) (t183.drop 6)).bind fun t190 => (if t190 = true then (some true) else ((hertzstr_StrProxyAuthenticate.f).bind fun t192 => (if 6 ≤ (t192.length : Int) then ((hertzutils_CaseInsensitiveCompare.f kj109 (l0.drop 6) (t192.drop 6)).bind fun t199 => (if t199 = true then (some true) else ((hertzstr_StrProxyAuthorization.f).bind fun t201 => (if 6 ≤ (t201.length : Int) then ((hertzutils_CaseInsensitiveCompare.f kj109 (l0.drop 6) (t201.drop 6)).bind fun t208 => (some t208)) else (none))))) else (none))))) else (none))) else (none)) = some r := by rw [if_pos rfl] at H; exact H
            clear H
            have H := H1
            clear H1
            by_cases c123 : 6 ≤ (l0.length : Int)
            ·rw [if_pos c123] at H
             have c123b0 := eq_true c123
             have c123b1 : decide (6 ≤ (l0.length : Int)) = true := decide_eq_true c123
             clear c123
             replace H := Option.bind_eq_some_iff.mp H
             obtain ⟨t183, A1240, H⟩ := H
             replace H : (if 6 ≤ (t183.length : Int) then ((hertzutils_CaseInsensitiveCompare.f kj109 (l0.drop 6) (t183.drop 6)).bind fun t190 => (if t190 = true then (some true) else ((hertzstr_StrProxyAuthenticate.f).bind fun t192 => (if 6 ≤ (t192.length : Int) then ((hertzutils_CaseInsensitiveCompare.f kj109 (l0.drop 6) (t192.drop 6)).bind fun t199 => (if t199 = true then (some true) else ((hertzstr_StrProxyAuthorization.f).bind fun t201 => (if 6 ≤ (t201.length : Int) then ((hertzutils_CaseInsensitiveCompare.f kj109 (l0.drop 6) (t201.drop 6)).bind fun t208 => (some t208)) else (none))))) else (none))))) else (none)) = some r := H
             have A124 := Aside0.mk A1240
             clear A1240
             by_cases c125 : 6 ≤ (t183.length : Int)
             ·rw [if_pos c125] at H
              have c125b0 := eq_true c125
              have c125b1 : decide (6 ≤ (t183.length : Int)) = true := decide_eq_true c125
              clear c125
              obtain ⟨y186, hy186⟩ : ∃ y_ : List Int, y_ = (t183.drop 6) := ⟨_, rfl⟩
              replace H : ((hertzutils_CaseInsensitiveCompare.f kj109 (l0.drop 6) y186).bind fun t190 => (if t190 = true then (some true) else ((hertzstr_StrProxyAuthenticate.f).bind fun t192 => (if 6 ≤ (t192.length : Int) then ((hertzutils_CaseInsensitiveCompare.f kj109 (l0.drop 6) (t192.drop 6)).bind fun t199 => (if t199 = true then (some true) else ((hertzstr_StrProxyAuthorization.f).bind fun t201 => (if 6 ≤ (t201.length : Int) then ((hertzutils_CaseInsensitiveCompare.f kj109 (l0.drop 6) (t201.drop 6)).bind fun t208 => (some t208)) else (none))))) else (none))))) = some r := by first | (rw [hy186]; with_reducible exact H) | (have H2_ := (Option.bind_some _ _).symm.trans H; rw [hy186]; with_reducible exact H2_) | (have H2_ := (Option.bind_some _ _).symm.trans H; with_reducible exact H2_) | with_reducible exact H | (rw [hy186]; exact H) | exact H
              have Ny186 := Aside0.mk hy186
              clear hy186
              replace H := Option.bind_eq_some_iff.mp H
              obtain ⟨t190, A1260, H⟩ := H
              replace H : (if t190 = true then (some true) else ((hertzstr_StrProxyAuthenticate.f).bind fun t192 => (if 6 ≤ (t192.length : Int) then ((hertzutils_CaseInsensitiveCompare.f kj109 (l0.drop 6) (t192.drop 6)).bind fun t199 => (if t199 = true then (some true) else ((hertzstr_StrProxyAuthorization.f).bind fun t201 => (if 6 ≤ (t201.length : Int) then ((hertzutils_CaseInsensitiveCompare.f kj109 (l0.drop 6) (t201.drop 6)).bind fun t208 => (some t208)) else (none))))) else (none)))) = some r := H
              have A126 := Aside0.mk A1260
              clear A1260
              by_cases c127 : t190 = true
              ·subst c127
               have H1 : (some true) = some r := by rw [if_pos rfl] at H; exact H
               clear H
               have H := H1
               clear H1
               obtain rfl := Option.some.inj H
               try go_wp2
               have n0_ := Aside0.mk (below_drew1 HB.out)
               clear HB
               have HB := n0_
               clear n0_
               obtain ⟨i0129, hi0129, _, hsz129, _⟩ := info_parts info5
               obtain ⟨A129, hcut129, hA129, hC129⟩ := print_drop_of (P := Try.prog) (Value.int .u8) 0 54 5 .i64 Try.underlying54 hi0129 hsz129 (some ad103) c0 l0 6 (by omega) (of_decide_eq_true (by first | (with_reducible assumption) | assumption)) HC0.out
               have HR182 := Aside0.mk (Kd.C_of_reads (h1 := fun _ => rfl) (hA129 _ (Kd.reads_of_C HR0.out)))
               have HC182 := Aside0.mk hC129
               clear hA129 hC129 hi0129 hsz129
               refine start_ (n := 20) (S := fun w' => True) (ds := []) #[false,false,false,false,false,false,false,false,false,false,false,false,false,false,false,false,false,false,false,false] (by kernel_rfl) rfl rfl trivial (fun hHeld => ?_); refine with_tabW hertzproto_IsBadTrailer.tab18 hertzproto_IsBadTrailer.bits18 (fun HT_ HW_ => ?_)
               generalize wc.drew = w128 at HB HR182 hHeld ⊢
               refine pure_ (i := 0) (N := some 85) (v := ?_) (a' := ?_) #[true,false,false,false,false,false,false,false,false,false,false,false,false,false,false,false,false,false,false,false] rfl rfl (any_of HT_.out (by kernel_rfl)) (fun _ _ _ h => h) (Or.inl ⟨by rfl, ?_⟩) ?_ ?_
               rotate_left
               ·intro w'
                go_simp
                with_reducible rfl
               rotate_left
               ·simp only [Act.put, List.setIfInBounds_toArray, List.set_cons_zero, List.set_cons_succ, i64_w, i32_w]
                rfl
               refine pure_ (i := 1) (N := some 86) (v := ?_) (a' := ?_) #[true,true,false,false,false,false,false,false,false,false,false,false,false,false,false,false,false,false,false,false] rfl rfl (any_of HT_.out (by kernel_rfl)) (fun _ _ _ h => h) (Or.inl ⟨by rfl, ?_⟩) ?_ ?_
               rotate_left
               ·intro w'
                go_simp
                with_reducible rfl
               rotate_left
               ·simp only [Act.put, List.setIfInBounds_toArray, List.set_cons_zero, List.set_cons_succ, i64_w, i32_w]
                rfl
               refine one_ (i := 2) (N := some 87) #[true,true,true,false,false,false,false,false,false,false,false,false,false,false,false,false,false,false,false,false] rfl rfl (one_of HT_.out (by kernel_rfl)) (by decide) (fun K hK => ?_)
               refine goes_ Try.func91 (by kernel_rfl) rfl #[] (by rfl) rfl rfl (by (try simp only [List.map_toArray, List.map_cons, List.map_nil]); first | done | rfl | (simp only [List.length_drop, List.length_take]; rfl)) ?_
               with_reducible refine (hertzstr_StrProxyConnection.calls  t183 _ A124.out).mono ?_
               rintro e w130 ⟨v184, rfl, ho0, hb⟩
               refine ⟨_, rfl, ?_⟩
               have n0_ := Aside0.mk (MR.R_lower ho0 (below_size (by repeat (first | (with_reducible first | exact HB.out | apply below_alloc | apply pw_below_drewN | apply below_drew1) | exact HB.out))))
               have n1_ := Aside0.mk (below_step (by repeat (first | (with_reducible first | exact HB.out | apply below_alloc | apply pw_below_drewN | apply below_drew1) | exact HB.out)) hb)
               clear HB
               have HO185 := n0_
               have HB := n1_
               clear n0_ n1_
               (try clear hb)
               (try clear hb2)
               (try clear hk)
               (try clear hi)
               (try clear ho0)
               obtain ⟨Ao132, co132, eo132⟩ := MR.R_slice HO185.out
               (first | subst eo132 | (injection eo132 with f1_ f2_ f3_; have f4_ := f1_.symm; have f5_ := f3_.symm; clear f1_ f2_ f3_; subst f4_; subst f5_))
               have q131 : (6 : Int) ≤ ((t183.length : Int) : Int) := of_decide_eq_true (by first | (with_reducible assumption) | assumption)
               obtain ⟨i0131, hi0131, _, hsz131, _⟩ := info_parts info5
               have hroom131 : t183.length ≤ co132 := (MR.R_reads' HO185.out).2.1
               have hC131 : Kd.C (Kd.int .u8) _ Ao132 t183.length t183 := (MR.R_reads' HO185.out).2.2
               have hcut131 := cut_from (P := Try.prog) 54 5 .i64 Try.underlying54 hi0131 1 hsz131 Ao132 t183.length co132 6 (by omega) q131
               have hr131 := Kd.C_drop (m := (6 : Int).toNat) (c := co132) hC131 (by omega) hroom131
               obtain ⟨A131, hA131⟩ : ∃ A1, A1 = (if co132 = (6 : Int).toNat then Ao132 else (Ao132 : Option Addr).map (·.add ((6 : Int).toNat * 1))) := ⟨_, rfl⟩
               obtain ⟨c131, hc131⟩ : ∃ c1, c1 = co132 - (6 : Int).toNat := ⟨_, rfl⟩
               have hy131 : y186.length = t183.length - (6 : Int).toNat := (by rw [Ny186.out, List.length_drop] <;> omega)
               rw [show (t183).drop (6 : Int).toNat = y186 from Ny186.out.symm] at hr131
               replace hr131 : Kd.C (Kd.int .u8) _ A131 y186.length y186 := (by rw [hA131]; exact hr131)
               rw [← hy131, ← hA131, ← hc131] at hcut131
               have HR189 := Aside0.mk hr131
               have HC189 := Aside0.mk (show y186.length ≤ c131 from by rw [hy131, hc131]; exact Nat.sub_le_sub_right hroom131 _)
               clear hr131 hC131 hroom131 hi0131 hsz131 hc131
               have KY131 := Aside0.mk hy131
               have KA131 := Aside0.mk hA131
               clear hy131 hA131
               have KL131 := Aside0.mk (show 6 ≤ t183.length from by omega)
               replace q131 := eq_true q131
               refine hK.out _ _ trivial (fun hHeld => ?_)
               clear hK K
               refine norm_ (a' := ?_) ?_ ?_
               rotate_left
               ·show Act.put _ (some 87) _ = _
                simp only [Act.put, List.setIfInBounds_toArray, List.set_cons_zero, List.set_cons_succ, i64_w, i32_w]
                rfl
               refine pure_ (i := 3) (N := some 88) (v := ?_) (a' := ?_) #[true,true,true,true,false,false,false,false,false,false,false,false,false,false,false,false,false,false,false,false] rfl rfl (any_of HT_.out (by kernel_rfl)) (fun _ _ _ h => h) (Or.inl ⟨by rfl, ?_⟩) ?_ ?_
               rotate_left
               ·intro w'
                go_simp
                with_reducible rfl
               rotate_left
               ·simp only [Act.put, List.setIfInBounds_toArray, List.set_cons_zero, List.set_cons_succ, i64_w, i32_w]
                rfl
               refine one_ (i := 4) (N := some 89) #[true,true,true,true,true,false,false,false,false,false,false,false,false,false,false,false,false,false,false,false] rfl rfl (one_of HT_.out (by kernel_rfl)) (by decide) (fun K hK => ?_)
               refine goes_ Try.func80 (by kernel_rfl) rfl #[.slice A129 (l0.drop 6).length (c0 - 6), .slice A131 y186.length c131] (by rfl) rfl rfl (by (try simp only [List.map_toArray, List.map_cons, List.map_nil]); first | done | (rw [show (l0.drop 6).length = (l0.length - 6) from List.length_drop] <;> rfl) | rfl | (simp only [List.length_drop, List.length_take]; rfl)) ?_
               with_reducible refine (hertzutils_CaseInsensitiveCompare.calls kj109 _ _ (l0.drop 6) _ _ y186 true _ ?side1 ?side2 ?side3 ?side4 A126.out).mono ?_
               (case side1 => repeat (first | exact (Kd.C_below HR182.out HB.out) | (with_reducible refine Kd.C_alloc ?_ _) | (with_reducible refine Kd.C_drewN ?_ _) | (with_reducible refine Kd.C_drew ?_)))
               (case side2 => exact HC182.out)
               (case side3 => repeat (first | exact (by repeat (first | (with_reducible exact HR189.out) | (with_reducible refine Kd.C_alloc ?_ _) | (with_reducible refine Kd.C_drewN ?_ _) | (with_reducible refine Kd.C_drew ?_) | exact HR189.out)) | (with_reducible refine Kd.C_alloc ?_ _) | (with_reducible refine Kd.C_drewN ?_ _) | (with_reducible refine Kd.C_drew ?_)))
               (case side4 => exact HC189.out)
               rintro e w' ⟨rfl, ⟨nd, rfl⟩⟩
               refine ⟨_, rfl, ?_⟩
               refine hK.out _ _ trivial (fun hHeld => ?_)
               clear hK K
               refine norm_ (a' := ?_) ?_ ?_
               rotate_left
               ·show Act.put _ (some 89) _ = _
                simp only [Act.put, List.setIfInBounds_toArray, List.set_cons_zero, List.set_cons_succ, i64_w, i32_w]
                rfl
               refine pure_ (i := 5) (N := some 90) (v := ?_) (a' := ?_) #[true,true,true,true,true,true,false,false,false,false,false,false,false,false,false,false,false,false,false,false] rfl rfl (any_of HT_.out (by kernel_rfl)) (fun _ _ _ h => h) (Or.inl ⟨by rfl, ?_⟩) ?_ ?_
               rotate_left
               ·intro w'
                go_simp
                with_reducible rfl
               rotate_left
               ·simp only [Act.put, List.setIfInBounds_toArray, List.set_cons_zero, List.set_cons_succ, i64_w, i32_w]
                rfl
               refine pure_ (i := 6) (N := some 91) (v := undef) (a' := ?_) #[true,true,true,true,true,true,true,false,false,false,false,false,false,false,false,false,false,false,false,false] rfl rfl (any_of HT_.out (by kernel_rfl)) (fun _ _ _ h => h) (Or.inr ⟨by rfl, rfl⟩) ?_ ?_
               rotate_left
               ·simp only [Act.put, List.setIfInBounds_toArray, List.set_cons_zero, List.set_cons_succ, i64_w, i32_w]
                rfl
               refine pure_ (i := 7) (N := some 92) (v := undef) (a' := ?_) #[true,true,true,true,true,true,true,true,false,false,false,false,false,false,false,false,false,false,false,false] rfl rfl (any_of HT_.out (by kernel_rfl)) (fun _ _ _ h => h) (Or.inr ⟨by rfl, rfl⟩) ?_ ?_
               rotate_left
               ·simp only [Act.put, List.setIfInBounds_toArray, List.set_cons_zero, List.set_cons_succ, i64_w, i32_w]
                rfl
               refine pure_ (i := 8) (N := some 93) (v := undef) (a' := ?_) #[true,true,true,true,true,true,true,true,true,false,false,false,false,false,false,false,false,false,false,false] rfl rfl (any_of HT_.out (by kernel_rfl)) (fun _ _ _ h => h) (Or.inr ⟨by rfl, rfl⟩) ?_ ?_
               rotate_left
               ·simp only [Act.put, List.setIfInBounds_toArray, List.set_cons_zero, List.set_cons_succ, i64_w, i32_w]
                rfl
               refine pure_ (i := 9) (N := some 94) (v := undef) (a' := ?_) #[true,true,true,true,true,true,true,true,true,true,false,false,false,false,false,false,false,false,false,false] rfl rfl (any_of HT_.out (by kernel_rfl)) (fun _ _ _ h => h) (Or.inr ⟨by rfl, rfl⟩) ?_ ?_
               rotate_left
               ·simp only [Act.put, List.setIfInBounds_toArray, List.set_cons_zero, List.set_cons_succ, i64_w, i32_w]
                rfl
               refine pure_ (i := 10) (N := some 95) (v := undef) (a' := ?_) #[true,true,true,true,true,true,true,true,true,true,true,false,false,false,false,false,false,false,false,false] rfl rfl (any_of HT_.out (by kernel_rfl)) (fun _ _ _ h => h) (Or.inr ⟨by rfl, rfl⟩) ?_ ?_
               rotate_left
               ·simp only [Act.put, List.setIfInBounds_toArray, List.set_cons_zero, List.set_cons_succ, i64_w, i32_w]
                rfl
               refine pure_ (i := 11) (N := some 96) (v := ?_) (a' := ?_) #[true,true,true,true,true,true,true,true,true,true,true,true,false,false,false,false,false,false,false,false] rfl rfl (any_of HT_.out (by kernel_rfl)) (fun _ _ _ h => h) (Or.inl ⟨by rfl, ?_⟩) ?_ ?_
               rotate_left
               ·intro w'
                go_simp
                with_reducible rfl
               rotate_left
               ·simp only [Act.put, List.setIfInBounds_toArray, List.set_cons_zero, List.set_cons_succ, i64_w, i32_w]
                rfl
               refine pure_ (i := 12) (N := some 97) (v := ?_) (a' := ?_) #[true,true,true,true,true,true,true,true,true,true,true,true,true,false,false,false,false,false,false,false] rfl rfl (any_of HT_.out (by kernel_rfl)) (fun _ _ _ h => h) (Or.inl ⟨by rfl, ?_⟩) ?_ ?_
               rotate_left
               ·intro w'
                go_simp
                with_reducible rfl
               rotate_left
               ·simp only [Act.put, List.setIfInBounds_toArray, List.set_cons_zero, List.set_cons_succ, i64_w, i32_w]
                rfl
               refine pure_ (i := 13) (N := some 98) (v := undef) (a' := ?_) #[true,true,true,true,true,true,true,true,true,true,true,true,true,true,false,false,false,false,false,false] rfl rfl (any_of HT_.out (by kernel_rfl)) (fun _ _ _ h => h) (Or.inr ⟨by rfl, rfl⟩) ?_ ?_
               rotate_left
               ·simp only [Act.put, List.setIfInBounds_toArray, List.set_cons_zero, List.set_cons_succ, i64_w, i32_w]
                rfl
               refine pure_ (i := 14) (N := some 99) (v := undef) (a' := ?_) #[true,true,true,true,true,true,true,true,true,true,true,true,true,true,true,false,false,false,false,false] rfl rfl (any_of HT_.out (by kernel_rfl)) (fun _ _ _ h => h) (Or.inr ⟨by rfl, rfl⟩) ?_ ?_
               rotate_left
               ·simp only [Act.put, List.setIfInBounds_toArray, List.set_cons_zero, List.set_cons_succ, i64_w, i32_w]
                rfl
               refine pure_ (i := 15) (N := some 100) (v := undef) (a' := ?_) #[true,true,true,true,true,true,true,true,true,true,true,true,true,true,true,true,false,false,false,false] rfl rfl (any_of HT_.out (by kernel_rfl)) (fun _ _ _ h => h) (Or.inr ⟨by rfl, rfl⟩) ?_ ?_
               rotate_left
               ·simp only [Act.put, List.setIfInBounds_toArray, List.set_cons_zero, List.set_cons_succ, i64_w, i32_w]
                rfl
               refine pure_ (i := 16) (N := some 101) (v := undef) (a' := ?_) #[true,true,true,true,true,true,true,true,true,true,true,true,true,true,true,true,true,false,false,false] rfl rfl (any_of HT_.out (by kernel_rfl)) (fun _ _ _ h => h) (Or.inr ⟨by rfl, rfl⟩) ?_ ?_
               rotate_left
               ·simp only [Act.put, List.setIfInBounds_toArray, List.set_cons_zero, List.set_cons_succ, i64_w, i32_w]
                rfl
               refine pure_ (i := 17) (N := some 102) (v := undef) (a' := ?_) #[true,true,true,true,true,true,true,true,true,true,true,true,true,true,true,true,true,true,false,false] rfl rfl (any_of HT_.out (by kernel_rfl)) (fun _ _ _ h => h) (Or.inr ⟨by rfl, rfl⟩) ?_ ?_
               rotate_left
               ·simp only [Act.put, List.setIfInBounds_toArray, List.set_cons_zero, List.set_cons_succ, i64_w, i32_w]
                rfl
               refine pure_ (i := 18) (N := some 103) (v := ?_) (a' := ?_) #[true,true,true,true,true,true,true,true,true,true,true,true,true,true,true,true,true,true,true,false] rfl rfl (any_of HT_.out (by kernel_rfl)) (fun _ _ _ h => h) (Or.inl ⟨by rfl, ?_⟩) ?_ ?_
               rotate_left
               ·intro w'
                go_simp
                with_reducible rfl
               rotate_left
               ·simp only [Act.put, List.setIfInBounds_toArray, List.set_cons_zero, List.set_cons_succ, i64_w, i32_w]
                rfl
               refine pure_ (i := 19) (N := some 2) (v := ?_) (a' := ?_) #[true,true,true,true,true,true,true,true,true,true,true,true,true,true,true,true,true,true,true,true] rfl rfl (any_of HT_.out (by kernel_rfl)) (fun _ _ _ h => h) (Or.inl ⟨by rfl, ?_⟩) ?_ ?_
               rotate_left
               ·intro w'
                go_simp
                with_reducible rfl
               rotate_left
               ·simp only [Act.put, List.setIfInBounds_toArray, List.set_cons_zero, List.set_cons_succ, i64_w, i32_w]
                rfl
               refine done_ (done_of HT_.out (by kernel_rfl)) ?_
               try go_wp2
               go_ret
               exact ⟨by first | rfl | (simp [errW_none, errW_some] <;> rfl) | (simp [*, errW_none, errW_some] <;> rfl), by repeat (first | (with_reducible first | exact HB.out | apply below_alloc | apply pw_below_drewN | apply below_drew1) | exact HB.out)⟩
              ·replace c127 := Bool.eq_false_iff.mpr c127
               subst c127
               have H1 : ((hertzstr_StrProxyAuthenticate.f).bind fun t192 => (if 6 ≤ (t192.length : Int) then ((hertzutils_CaseInsensitiveCompare.f kj109 (l0.drop 6) (t192.drop 6)).bind fun t199 => (if t199 = true then (some true) else ((hertzstr_StrProxyAuthorization.f).bind fun t201 => (if 6 ≤ (t201.length : Int) then ((hertzutils_CaseInsensitiveCompare.f kj109 (l0.drop 6) (t201.drop 6)).bind fun t208 => (some t208)) else (none))))) else (none))) = some r := by rw [if_neg (show ¬ (false = true) by decide)] at H; exact H
               clear H
               have H := H1
               clear H1
               have c133b0 := eq_true (of_decide_eq_true (by first | (with_reducible assumption) | assumption) : 6 ≤ (l0.length : Int))
               replace H := Option.bind_eq_some_iff.mp H
               obtain ⟨t192, A1340, H⟩ := H
               replace H : (if 6 ≤ (t192.length : Int) then ((hertzutils_CaseInsensitiveCompare.f kj109 (l0.drop 6) (t192.drop 6)).bind fun t199 => (if t199 = true then (some true) else ((hertzstr_StrProxyAuthorization.f).bind fun t201 => (if 6 ≤ (t201.length : Int) then ((hertzutils_CaseInsensitiveCompare.f kj109 (l0.drop 6) (t201.drop 6)).bind fun t208 => (some t208)) else (none))))) else (none)) = some r := H
               have A134 := Aside0.mk A1340
               clear A1340
               by_cases c135 : 6 ≤ (t192.length : Int)
               ·rw [if_pos c135] at H
                have c135b0 := eq_true c135
                have c135b1 : decide (6 ≤ (t192.length : Int)) = true := decide_eq_true c135
                clear c135
                obtain ⟨y195, hy195⟩ : ∃ y_ : List Int, y_ = (t192.drop 6) := ⟨_, rfl⟩
                replace H : ((hertzutils_CaseInsensitiveCompare.f kj109 (l0.drop 6) y195).bind fun t199 => (if t199 = true then (some true) else ((hertzstr_StrProxyAuthorization.f).bind fun t201 => (if 6 ≤ (t201.length : Int) then ((hertzutils_CaseInsensitiveCompare.f kj109 (l0.drop 6) (t201.drop 6)).bind fun t208 => (some t208)) else (none))))) = some r := by first | (rw [hy195]; with_reducible exact H) | (have H2_ := (Option.bind_some _ _).symm.trans H; rw [hy195]; with_reducible exact H2_) | (have H2_ := (Option.bind_some _ _).symm.trans H; with_reducible exact H2_) | with_reducible exact H | (rw [hy195]; exact H) | exact H
                have Ny195 := Aside0.mk hy195
                clear hy195
                replace H := Option.bind_eq_some_iff.mp H
                obtain ⟨t199, A1360, H⟩ := H
                replace H : (if t199 = true then (some true) else ((hertzstr_StrProxyAuthorization.f).bind fun t201 => (if 6 ≤ (t201.length : Int) then ((hertzutils_CaseInsensitiveCompare.f kj109 (l0.drop 6) (t201.drop 6)).bind fun t208 => (some t208)) else (none)))) = some r := H
                have A136 := Aside0.mk A1360
                clear A1360
                by_cases c137 : t199 = true
                ·subst c137
                 have H1 : (some true) = some r := by rw [if_pos rfl] at H; exact H
                 clear H
                 have H := H1
                 clear H1
                 obtain rfl := Option.some.inj H
                 try go_wp2
                 have n0_ := Aside0.mk (below_drew1 HB.out)
                 clear HB
                 have HB := n0_
                 clear n0_
                 obtain ⟨i0139, hi0139, _, hsz139, _⟩ := info_parts info5
                 obtain ⟨A139, hcut139, hA139, hC139⟩ := print_drop_of (P := Try.prog) (Value.int .u8) 0 54 5 .i64 Try.underlying54 hi0139 hsz139 (some ad103) c0 l0 6 (by omega) (of_decide_eq_true (by first | (with_reducible assumption) | assumption)) HC0.out
                 have HR182 := Aside0.mk (Kd.C_of_reads (h1 := fun _ => rfl) (hA139 _ (Kd.reads_of_C HR0.out)))
                 have HC182 := Aside0.mk hC139
                 clear hA139 hC139 hi0139 hsz139
                 refine start_ (n := 20) (S := fun w' => True) (ds := []) #[false,false,false,false,false,false,false,false,false,false,false,false,false,false,false,false,false,false,false,false] (by kernel_rfl) rfl rfl trivial (fun hHeld => ?_); refine with_tabW hertzproto_IsBadTrailer.tab18 hertzproto_IsBadTrailer.bits18 (fun HT_ HW_ => ?_)
                 generalize wc.drew = w138 at HB HR182 hHeld ⊢
                 refine pure_ (i := 0) (N := some 85) (v := ?_) (a' := ?_) #[true,false,false,false,false,false,false,false,false,false,false,false,false,false,false,false,false,false,false,false] rfl rfl (any_of HT_.out (by kernel_rfl)) (fun _ _ _ h => h) (Or.inl ⟨by rfl, ?_⟩) ?_ ?_
                 rotate_left
                 ·intro w'
                  go_simp
                  with_reducible rfl
                 rotate_left
                 ·simp only [Act.put, List.setIfInBounds_toArray, List.set_cons_zero, List.set_cons_succ, i64_w, i32_w]
                  rfl
                 refine pure_ (i := 1) (N := some 86) (v := ?_) (a' := ?_) #[true,true,false,false,false,false,false,false,false,false,false,false,false,false,false,false,false,false,false,false] rfl rfl (any_of HT_.out (by kernel_rfl)) (fun _ _ _ h => h) (Or.inl ⟨by rfl, ?_⟩) ?_ ?_
                 rotate_left
                 ·intro w'
                  go_simp
                  with_reducible rfl
                 rotate_left
                 ·simp only [Act.put, List.setIfInBounds_toArray, List.set_cons_zero, List.set_cons_succ, i64_w, i32_w]
                  rfl
                 refine one_ (i := 2) (N := some 87) #[true,true,true,false,false,false,false,false,false,false,false,false,false,false,false,false,false,false,false,false] rfl rfl (one_of HT_.out (by kernel_rfl)) (by decide) (fun K hK => ?_)
                 refine goes_ Try.func91 (by kernel_rfl) rfl #[] (by rfl) rfl rfl (by (try simp only [List.map_toArray, List.map_cons, List.map_nil]); first | done | rfl | (simp only [List.length_drop, List.length_take]; rfl)) ?_
                 with_reducible refine (hertzstr_StrProxyConnection.calls  t183 _ A124.out).mono ?_
                 rintro e w140 ⟨v184, rfl, ho0, hb⟩
                 refine ⟨_, rfl, ?_⟩
                 have n0_ := Aside0.mk (MR.R_lower ho0 (below_size (by repeat (first | (with_reducible first | exact HB.out | apply below_alloc | apply pw_below_drewN | apply below_drew1) | exact HB.out))))
                 have n1_ := Aside0.mk (below_step (by repeat (first | (with_reducible first | exact HB.out | apply below_alloc | apply pw_below_drewN | apply below_drew1) | exact HB.out)) hb)
                 clear HB
                 have HO185 := n0_
                 have HB := n1_
                 clear n0_ n1_
                 (try clear hb)
                 (try clear hb2)
                 (try clear hk)
                 (try clear hi)
                 (try clear ho0)
                 obtain ⟨Ao142, co142, eo142⟩ := MR.R_slice HO185.out
                 (first | subst eo142 | (injection eo142 with f1_ f2_ f3_; have f4_ := f1_.symm; have f5_ := f3_.symm; clear f1_ f2_ f3_; subst f4_; subst f5_))
                 have q141 : (6 : Int) ≤ ((t183.length : Int) : Int) := of_decide_eq_true (by first | (with_reducible assumption) | assumption)
                 obtain ⟨i0141, hi0141, _, hsz141, _⟩ := info_parts info5
                 have hroom141 : t183.length ≤ co142 := (MR.R_reads' HO185.out).2.1
                 have hC141 : Kd.C (Kd.int .u8) _ Ao142 t183.length t183 := (MR.R_reads' HO185.out).2.2
                 have hcut141 := cut_from (P := Try.prog) 54 5 .i64 Try.underlying54 hi0141 1 hsz141 Ao142 t183.length co142 6 (by omega) q141
                 have hr141 := Kd.C_drop (m := (6 : Int).toNat) (c := co142) hC141 (by omega) hroom141
                 obtain ⟨A141, hA141⟩ : ∃ A1, A1 = (if co142 = (6 : Int).toNat then Ao142 else (Ao142 : Option Addr).map (·.add ((6 : Int).toNat * 1))) := ⟨_, rfl⟩
                 obtain ⟨c141, hc141⟩ : ∃ c1, c1 = co142 - (6 : Int).toNat := ⟨_, rfl⟩
                 have hy141 : y186.length = t183.length - (6 : Int).toNat := (by rw [Ny186.out, List.length_drop] <;> omega)
                 rw [show (t183).drop (6 : Int).toNat = y186 from Ny186.out.symm] at hr141
                 replace hr141 : Kd.C (Kd.int .u8) _ A141 y186.length y186 := (by rw [hA141]; exact hr141)
                 rw [← hy141, ← hA141, ← hc141] at hcut141
                 have HR189 := Aside0.mk hr141
                 have HC189 := Aside0.mk (show y186.length ≤ c141 from by rw [hy141, hc141]; exact Nat.sub_le_sub_right hroom141 _)
                 clear hr141 hC141 hroom141 hi0141 hsz141 hc141
                 have KY141 := Aside0.mk hy141
                 have KA141 := Aside0.mk hA141
                 clear hy141 hA141
                 have KL141 := Aside0.mk (show 6 ≤ t183.length from by omega)
                 replace q141 := eq_true q141
                 refine hK.out _ _ trivial (fun hHeld => ?_)
                 clear hK K
                 refine norm_ (a' := ?_) ?_ ?_
                 rotate_left
                 ·show Act.put _ (some 87) _ = _
                  simp only [Act.put, List.setIfInBounds_toArray, List.set_cons_zero, List.set_cons_succ, i64_w, i32_w]
                  rfl
                 refine pure_ (i := 3) (N := some 88) (v := ?_) (a' := ?_) #[true,true,true,true,false,false,false,false,false,false,false,false,false,false,false,false,false,false,false,false] rfl rfl (any_of HT_.out (by kernel_rfl)) (fun _ _ _ h => h) (Or.inl ⟨by rfl, ?_⟩) ?_ ?_
                 rotate_left
                 ·intro w'
                  go_simp
                  with_reducible rfl
                 rotate_left
                 ·simp only [Act.put, List.setIfInBounds_toArray, List.set_cons_zero, List.set_cons_succ, i64_w, i32_w]
                  rfl
                 refine one_ (i := 4) (N := some 89) #[true,true,true,true,true,false,false,false,false,false,false,false,false,false,false,false,false,false,false,false] rfl rfl (one_of HT_.out (by kernel_rfl)) (by decide) (fun K hK => ?_)
                 refine goes_ Try.func80 (by kernel_rfl) rfl #[.slice A139 (l0.drop 6).length (c0 - 6), .slice A141 y186.length c141] (by rfl) rfl rfl (by (try simp only [List.map_toArray, List.map_cons, List.map_nil]); first | done | (rw [show (l0.drop 6).length = (l0.length - 6) from List.length_drop] <;> rfl) | rfl | (simp only [List.length_drop, List.length_take]; rfl)) ?_
                 with_reducible refine (hertzutils_CaseInsensitiveCompare.calls kj109 _ _ (l0.drop 6) _ _ y186 false _ ?side1 ?side2 ?side3 ?side4 A126.out).mono ?_
                 (case side1 => repeat (first | exact (Kd.C_below HR182.out HB.out) | (with_reducible refine Kd.C_alloc ?_ _) | (with_reducible refine Kd.C_drewN ?_ _) | (with_reducible refine Kd.C_drew ?_)))
                 (case side2 => exact HC182.out)
                 (case side3 => repeat (first | exact (by repeat (first | (with_reducible exact HR189.out) | (with_reducible refine Kd.C_alloc ?_ _) | (with_reducible refine Kd.C_drewN ?_ _) | (with_reducible refine Kd.C_drew ?_) | exact HR189.out)) | (with_reducible refine Kd.C_alloc ?_ _) | (with_reducible refine Kd.C_drewN ?_ _) | (with_reducible refine Kd.C_drew ?_)))
                 (case side4 => exact HC189.out)
                 rintro e w' ⟨rfl, ⟨nd, rfl⟩⟩
                 refine ⟨_, rfl, ?_⟩
                 obtain ⟨i0143, hi0143, _, hsz143, _⟩ := info_parts info5
                 obtain ⟨A143, hcut143, hA143, hC143⟩ := print_drop_of (P := Try.prog) (Value.int .u8) 0 54 5 .i64 Try.underlying54 hi0143 hsz143 (some ad103) c0 l0 6 (by omega) (of_decide_eq_true (by first | (with_reducible assumption) | assumption)) HC0.out
                 have d143_ : A143 = A139 := MR.cut_same (hcut143 w) (hcut139 w)
                 rw [d143_] at hA143
                 clear hcut143 d143_
                 have HR191 := Aside0.mk (Kd.C_of_reads (h1 := fun _ => rfl) (hA143 _ (Kd.reads_of_C HR0.out)))
                 have HC191 := Aside0.mk hC143
                 clear hA143 hC143 hi0143 hsz143
                 refine hK.out _ _ trivial (fun hHeld => ?_)
                 clear hK K
                 refine norm_ (a' := ?_) ?_ ?_
                 rotate_left
                 ·show Act.put _ (some 89) _ = _
                  simp only [Act.put, List.setIfInBounds_toArray, List.set_cons_zero, List.set_cons_succ, i64_w, i32_w]
                  rfl
                 refine pure_ (i := 5) (N := some 90) (v := ?_) (a' := ?_) #[true,true,true,true,true,true,false,false,false,false,false,false,false,false,false,false,false,false,false,false] rfl rfl (any_of HT_.out (by kernel_rfl)) (fun _ _ _ h => h) (Or.inl ⟨by rfl, ?_⟩) ?_ ?_
                 rotate_left
                 ·intro w'
                  go_simp
                  with_reducible rfl
                 rotate_left
                 ·simp only [Act.put, List.setIfInBounds_toArray, List.set_cons_zero, List.set_cons_succ, i64_w, i32_w]
                  rfl
                 refine pure_ (i := 6) (N := some 91) (v := ?_) (a' := ?_) #[true,true,true,true,true,true,true,false,false,false,false,false,false,false,false,false,false,false,false,false] rfl rfl (any_of HT_.out (by kernel_rfl)) (fun _ _ _ h => h) (Or.inl ⟨by rfl, ?_⟩) ?_ ?_
                 rotate_left
                 ·intro w'
                  go_simp
                  with_reducible rfl
                 rotate_left
                 ·simp only [Act.put, List.setIfInBounds_toArray, List.set_cons_zero, List.set_cons_succ, i64_w, i32_w]
                  rfl
                 refine pure_ (i := 7) (N := some 92) (v := ?_) (a' := ?_) #[true,true,true,true,true,true,true,true,false,false,false,false,false,false,false,false,false,false,false,false] rfl rfl (any_of HT_.out (by kernel_rfl)) (fun _ _ _ h => h) (Or.inl ⟨by rfl, ?_⟩) ?_ ?_
                 rotate_left
                 ·intro w'
                  go_simp
                  with_reducible rfl
                 rotate_left
                 ·simp only [Act.put, List.setIfInBounds_toArray, List.set_cons_zero, List.set_cons_succ, i64_w, i32_w]
                  rfl
                 refine one_ (i := 8) (N := some 93) #[true,true,true,true,true,true,true,true,true,false,false,false,false,false,false,false,false,false,false,false] rfl rfl (one_of HT_.out (by kernel_rfl)) (by decide) (fun K hK => ?_)
                 refine goes_ Try.func92 (by kernel_rfl) rfl #[] (by rfl) rfl rfl (by (try simp only [List.map_toArray, List.map_cons, List.map_nil]); first | done | rfl | (simp only [List.length_drop, List.length_take]; rfl)) ?_
                 with_reducible refine (hertzstr_StrProxyAuthenticate.calls  t192 _ A134.out).mono ?_
                 rintro e w144 ⟨v193, rfl, ho0, hb⟩
                 refine ⟨_, rfl, ?_⟩
                 have n0_ := Aside0.mk (MR.R_elder' (by (with_reducible repeat (first | apply MR.R_alloc | apply MR.R_drewN | apply MR.R_drew)); exact HO185.out) (MR.R_base ho0) hb)
                 have n1_ := Aside0.mk (MR.R_lower (MR.R_new' ho0 (MR.R_lt (by (with_reducible repeat (first | apply MR.R_alloc | apply MR.R_drewN | apply MR.R_drew)); exact HO185.out))) (below_size (by repeat (first | (with_reducible first | exact HB.out | apply below_alloc | apply pw_below_drewN | apply below_drew1) | exact HB.out))))
                 have n2_ := Aside0.mk (Kd.C_below (by repeat (first | (with_reducible exact HR189.out) | (with_reducible refine Kd.C_alloc ?_ _) | (with_reducible refine Kd.C_drewN ?_ _) | (with_reducible refine Kd.C_drew ?_) | exact HR189.out)) hb)
                 have n3_ := Aside0.mk (below_step (by repeat (first | (with_reducible first | exact HB.out | apply below_alloc | apply pw_below_drewN | apply below_drew1) | exact HB.out)) hb)
                 clear HO185
                 clear HR189
                 clear HB
                 have HO185 := n0_
                 have HO194 := n1_
                 have HR189 := n2_
                 have HB := n3_
                 clear n0_ n1_ n2_ n3_
                 (try clear hb)
                 (try clear hb2)
                 (try clear hk)
                 (try clear hi)
                 (try clear ho0)
                 obtain ⟨Ao146, co146, eo146⟩ := MR.R_slice HO194.out
                 (first | subst eo146 | (injection eo146 with f1_ f2_ f3_; have f4_ := f1_.symm; have f5_ := f3_.symm; clear f1_ f2_ f3_; subst f4_; subst f5_))
                 have q145 : (6 : Int) ≤ ((t192.length : Int) : Int) := of_decide_eq_true (by first | (with_reducible assumption) | assumption)
                 obtain ⟨i0145, hi0145, _, hsz145, _⟩ := info_parts info5
                 have hroom145 : t192.length ≤ co146 := (MR.R_reads' HO194.out).2.1
                 have hC145 : Kd.C (Kd.int .u8) _ Ao146 t192.length t192 := (MR.R_reads' HO194.out).2.2
                 have hcut145 := cut_from (P := Try.prog) 54 5 .i64 Try.underlying54 hi0145 1 hsz145 Ao146 t192.length co146 6 (by omega) q145
                 have hr145 := Kd.C_drop (m := (6 : Int).toNat) (c := co146) hC145 (by omega) hroom145
                 obtain ⟨A145, hA145⟩ : ∃ A1, A1 = (if co146 = (6 : Int).toNat then Ao146 else (Ao146 : Option Addr).map (·.add ((6 : Int).toNat * 1))) := ⟨_, rfl⟩
                 obtain ⟨c145, hc145⟩ : ∃ c1, c1 = co146 - (6 : Int).toNat := ⟨_, rfl⟩
                 have hy145 : y195.length = t192.length - (6 : Int).toNat := (by rw [Ny195.out, List.length_drop] <;> omega)
                 rw [show (t192).drop (6 : Int).toNat = y195 from Ny195.out.symm] at hr145
                 replace hr145 : Kd.C (Kd.int .u8) _ A145 y195.length y195 := (by rw [hA145]; exact hr145)
                 rw [← hy145, ← hA145, ← hc145] at hcut145
                 have HR198 := Aside0.mk hr145
                 have HC198 := Aside0.mk (show y195.length ≤ c145 from by rw [hy145, hc145]; exact Nat.sub_le_sub_right hroom145 _)
                 clear hr145 hC145 hroom145 hi0145 hsz145 hc145
                 have KY145 := Aside0.mk hy145
                 have KA145 := Aside0.mk hA145
                 clear hy145 hA145
                 have KL145 := Aside0.mk (show 6 ≤ t192.length from by omega)
                 replace q145 := eq_true q145
                 refine hK.out _ _ trivial (fun hHeld => ?_)
                 clear hK K
                 refine norm_ (a' := ?_) ?_ ?_
                 rotate_left
                 ·show Act.put _ (some 93) _ = _
                  simp only [Act.put, List.setIfInBounds_toArray, List.set_cons_zero, List.set_cons_succ, i64_w, i32_w]
                  rfl
                 refine pure_ (i := 9) (N := some 94) (v := ?_) (a' := ?_) #[true,true,true,true,true,true,true,true,true,true,false,false,false,false,false,false,false,false,false,false] rfl rfl (any_of HT_.out (by kernel_rfl)) (fun _ _ _ h => h) (Or.inl ⟨by rfl, ?_⟩) ?_ ?_
                 rotate_left
                 ·intro w'
                  go_simp
                  with_reducible rfl
                 rotate_left
                 ·simp only [Act.put, List.setIfInBounds_toArray, List.set_cons_zero, List.set_cons_succ, i64_w, i32_w]
                  rfl
                 refine one_ (i := 10) (N := some 95) #[true,true,true,true,true,true,true,true,true,true,true,false,false,false,false,false,false,false,false,false] rfl rfl (one_of HT_.out (by kernel_rfl)) (by decide) (fun K hK => ?_)
                 refine goes_ Try.func80 (by kernel_rfl) rfl #[.slice A139 (l0.drop 6).length (c0 - 6), .slice A145 y195.length c145] (by rfl) rfl rfl (by (try simp only [List.map_toArray, List.map_cons, List.map_nil]); first | done | (rw [show (l0.drop 6).length = (l0.length - 6) from List.length_drop] <;> rfl) | rfl | (simp only [List.length_drop, List.length_take]; rfl)) ?_
                 with_reducible refine (hertzutils_CaseInsensitiveCompare.calls kj109 _ _ (l0.drop 6) _ _ y195 true _ ?side1 ?side2 ?side3 ?side4 A136.out).mono ?_
                 (case side1 => repeat (first | exact (Kd.C_below HR191.out HB.out) | (with_reducible refine Kd.C_alloc ?_ _) | (with_reducible refine Kd.C_drewN ?_ _) | (with_reducible refine Kd.C_drew ?_)))
                 (case side2 => exact HC191.out)
                 (case side3 => repeat (first | exact (by repeat (first | (with_reducible exact HR198.out) | (with_reducible refine Kd.C_alloc ?_ _) | (with_reducible refine Kd.C_drewN ?_ _) | (with_reducible refine Kd.C_drew ?_) | exact HR198.out)) | (with_reducible refine Kd.C_alloc ?_ _) | (with_reducible refine Kd.C_drewN ?_ _) | (with_reducible refine Kd.C_drew ?_)))
                 (case side4 => exact HC198.out)
                 rintro e w' ⟨rfl, ⟨nd, rfl⟩⟩
                 refine ⟨_, rfl, ?_⟩
                 refine hK.out _ _ trivial (fun hHeld => ?_)
                 clear hK K
                 refine norm_ (a' := ?_) ?_ ?_
                 rotate_left
                 ·show Act.put _ (some 95) _ = _
                  simp only [Act.put, List.setIfInBounds_toArray, List.set_cons_zero, List.set_cons_succ, i64_w, i32_w]
                  rfl
                 refine pure_ (i := 11) (N := some 96) (v := ?_) (a' := ?_) #[true,true,true,true,true,true,true,true,true,true,true,true,false,false,false,false,false,false,false,false] rfl rfl (any_of HT_.out (by kernel_rfl)) (fun _ _ _ h => h) (Or.inl ⟨by rfl, ?_⟩) ?_ ?_
                 rotate_left
                 ·intro w'
                  go_simp
                  with_reducible rfl
                 rotate_left
                 ·simp only [Act.put, List.setIfInBounds_toArray, List.set_cons_zero, List.set_cons_succ, i64_w, i32_w]
                  rfl
                 refine pure_ (i := 12) (N := some 97) (v := ?_) (a' := ?_) #[true,true,true,true,true,true,true,true,true,true,true,true,true,false,false,false,false,false,false,false] rfl rfl (any_of HT_.out (by kernel_rfl)) (fun _ _ _ h => h) (Or.inl ⟨by rfl, ?_⟩) ?_ ?_
                 rotate_left
                 ·intro w'
                  go_simp
                  with_reducible rfl
                 rotate_left
                 ·simp only [Act.put, List.setIfInBounds_toArray, List.set_cons_zero, List.set_cons_succ, i64_w, i32_w]
                  rfl
                 refine pure_ (i := 13) (N := some 98) (v := undef) (a' := ?_) #[true,true,true,true,true,true,true,true,true,true,true,true,true,true,false,false,false,false,false,false] rfl rfl (any_of HT_.out (by kernel_rfl)) (fun _ _ _ h => h) (Or.inr ⟨by rfl, rfl⟩) ?_ ?_
                 rotate_left
                 ·simp only [Act.put, List.setIfInBounds_toArray, List.set_cons_zero, List.set_cons_succ, i64_w, i32_w]
                  rfl
                 refine pure_ (i := 14) (N := some 99) (v := undef) (a' := ?_) #[true,true,true,true,true,true,true,true,true,true,true,true,true,true,true,false,false,false,false,false] rfl rfl (any_of HT_.out (by kernel_rfl)) (fun _ _ _ h => h) (Or.inr ⟨by rfl, rfl⟩) ?_ ?_
                 rotate_left
                 ·simp only [Act.put, List.setIfInBounds_toArray, List.set_cons_zero, List.set_cons_succ, i64_w, i32_w]
                  rfl
                 refine pure_ (i := 15) (N := some 100) (v := undef) (a' := ?_) #[true,true,true,true,true,true,true,true,true,true,true,true,true,true,true,true,false,false,false,false] rfl rfl (any_of HT_.out (by kernel_rfl)) (fun _ _ _ h => h) (Or.inr ⟨by rfl, rfl⟩) ?_ ?_
                 rotate_left
                 ·simp only [Act.put, List.setIfInBounds_toArray, List.set_cons_zero, List.set_cons_succ, i64_w, i32_w]
                  rfl
                 refine pure_ (i := 16) (N := some 101) (v := undef) (a' := ?_) #[true,true,true,true,true,true,true,true,true,true,true,true,true,true,true,true,true,false,false,false] rfl rfl (any_of HT_.out (by kernel_rfl)) (fun _ _ _ h => h) (Or.inr ⟨by rfl, rfl⟩) ?_ ?_
                 rotate_left
                 ·simp only [Act.put, List.setIfInBounds_toArray, List.set_cons_zero, List.set_cons_succ, i64_w, i32_w]
                  rfl
                 refine pure_ (i := 17) (N := some 102) (v := undef) (a' := ?_) #[true,true,true,true,true,true,true,true,true,true,true,true,true,true,true,true,true,true,false,false] rfl rfl (any_of HT_.out (by kernel_rfl)) (fun _ _ _ h => h) (Or.inr ⟨by rfl, rfl⟩) ?_ ?_
                 rotate_left
                 ·simp only [Act.put, List.setIfInBounds_toArray, List.set_cons_zero, List.set_cons_succ, i64_w, i32_w]
                  rfl
                 refine pure_ (i := 18) (N := some 103) (v := ?_) (a' := ?_) #[true,true,true,true,true,true,true,true,true,true,true,true,true,true,true,true,true,true,true,false] rfl rfl (any_of HT_.out (by kernel_rfl)) (fun _ _ _ h => h) (Or.inl ⟨by rfl, ?_⟩) ?_ ?_
                 rotate_left
                 ·intro w'
                  go_simp
                  with_reducible rfl
                 rotate_left
                 ·simp only [Act.put, List.setIfInBounds_toArray, List.set_cons_zero, List.set_cons_succ, i64_w, i32_w]
                  rfl
                 refine pure_ (i := 19) (N := some 2) (v := ?_) (a' := ?_) #[true,true,true,true,true,true,true,true,true,true,true,true,true,true,true,true,true,true,true,true] rfl rfl (any_of HT_.out (by kernel_rfl)) (fun _ _ _ h => h) (Or.inl ⟨by rfl, ?_⟩) ?_ ?_
                 rotate_left
                 ·intro w'
                  go_simp
                  with_reducible rfl
                 rotate_left
                 ·simp only [Act.put, List.setIfInBounds_toArray, List.set_cons_zero, List.set_cons_succ, i64_w, i32_w]
                  rfl
                 refine done_ (done_of HT_.out (by kernel_rfl)) ?_
                 try go_wp2
                 go_ret
                 exact ⟨by first | rfl | (simp [errW_none, errW_some] <;> rfl) | (simp [*, errW_none, errW_some] <;> rfl), by repeat (first | (with_reducible first | exact HB.out | apply below_alloc | apply pw_below_drewN | apply below_drew1) | exact HB.out)⟩
                ·replace c137 := Bool.eq_false_iff.mpr c137
                 subst c137
                 have H1 : ((hertzstr_StrProxyAuthorization.f).bind fun t201 => (if 6 ≤ (t201.length : Int) then ((hertzutils_CaseInsensitiveCompare.f kj109 (l0.drop 6) (t201.drop 6)).bind fun t208 => (some t208)) else (none))) = some r := by rw [if_neg (show ¬ (false = true) by decide)] at H; exact H
                 clear H
                 have H := H1
                 clear H1
                 have c147b0 := eq_true (of_decide_eq_true (by first | (with_reducible assumption) | assumption) : 6 ≤ (l0.length : Int))
                 replace H := Option.bind_eq_some_iff.mp H
                 obtain ⟨t201, A1480, H⟩ := H
                 replace H : (if 6 ≤ (t201.length : Int) then ((hertzutils_CaseInsensitiveCompare.f kj109 (l0.drop 6) (t201.drop 6)).bind fun t208 => (some t208)) else (none)) = some r := H
                 have A148 := Aside0.mk A1480
                 clear A1480
                 by_cases c149 : 6 ≤ (t201.length : Int)
                 ·rw [if_pos c149] at H
                  have c149b0 := eq_true c149
                  have c149b1 : decide (6 ≤ (t201.length : Int)) = true := decide_eq_true c149
                  clear c149
                  obtain ⟨y204, hy204⟩ : ∃ y_ : List Int, y_ = (t201.drop 6) := ⟨_, rfl⟩
                  replace H : ((hertzutils_CaseInsensitiveCompare.f kj109 (l0.drop 6) y204).bind fun t208 => (some t208)) = some r := by first | (rw [hy204]; with_reducible exact H) | (have H2_ := (Option.bind_some _ _).symm.trans H; rw [hy204]; with_reducible exact H2_) | (have H2_ := (Option.bind_some _ _).symm.trans H; with_reducible exact H2_) | with_reducible exact H | (rw [hy204]; exact H) | exact H
                  have Ny204 := Aside0.mk hy204
                  clear hy204
                  replace H := Option.bind_eq_some_iff.mp H
                  obtain ⟨t208, A1500, H⟩ := H
                  replace H : (some t208) = some r := H
                  have A150 := Aside0.mk A1500
                  clear A1500
                  obtain rfl := Option.some.inj H
                  try go_wp2
                  have n0_ := Aside0.mk (below_drew1 HB.out)
                  clear HB
                  have HB := n0_
                  clear n0_
                  obtain ⟨i0152, hi0152, _, hsz152, _⟩ := info_parts info5
                  obtain ⟨A152, hcut152, hA152, hC152⟩ := print_drop_of (P := Try.prog) (Value.int .u8) 0 54 5 .i64 Try.underlying54 hi0152 hsz152 (some ad103) c0 l0 6 (by omega) (of_decide_eq_true (by first | (with_reducible assumption) | assumption)) HC0.out
                  have HR182 := Aside0.mk (Kd.C_of_reads (h1 := fun _ => rfl) (hA152 _ (Kd.reads_of_C HR0.out)))
                  have HC182 := Aside0.mk hC152
                  clear hA152 hC152 hi0152 hsz152
                  refine start_ (n := 20) (S := fun w' => True) (ds := []) #[false,false,false,false,false,false,false,false,false,false,false,false,false,false,false,false,false,false,false,false] (by kernel_rfl) rfl rfl trivial (fun hHeld => ?_); refine with_tabW hertzproto_IsBadTrailer.tab18 hertzproto_IsBadTrailer.bits18 (fun HT_ HW_ => ?_)
                  generalize wc.drew = w151 at HB HR182 hHeld ⊢
                  refine pure_ (i := 0) (N := some 85) (v := ?_) (a' := ?_) #[true,false,false,false,false,false,false,false,false,false,false,false,false,false,false,false,false,false,false,false] rfl rfl (any_of HT_.out (by kernel_rfl)) (fun _ _ _ h => h) (Or.inl ⟨by rfl, ?_⟩) ?_ ?_
                  rotate_left
                  ·intro w'
                   go_simp
                   with_reducible rfl
                  rotate_left
                  ·simp only [Act.put, List.setIfInBounds_toArray, List.set_cons_zero, List.set_cons_succ, i64_w, i32_w]
                   rfl
                  refine pure_ (i := 1) (N := some 86) (v := ?_) (a' := ?_) #[true,true,false,false,false,false,false,false,false,false,false,false,false,false,false,false,false,false,false,false] rfl rfl (any_of HT_.out (by kernel_rfl)) (fun _ _ _ h => h) (Or.inl ⟨by rfl, ?_⟩) ?_ ?_
                  rotate_left
                  ·intro w'
                   go_simp
                   with_reducible rfl
                  rotate_left
                  ·simp only [Act.put, List.setIfInBounds_toArray, List.set_cons_zero, List.set_cons_succ, i64_w, i32_w]
                   rfl
                  refine one_ (i := 2) (N := some 87) #[true,true,true,false,false,false,false,false,false,false,false,false,false,false,false,false,false,false,false,false] rfl rfl (one_of HT_.out (by kernel_rfl)) (by decide) (fun K hK => ?_)
                  refine goes_ Try.func91 (by kernel_rfl) rfl #[] (by rfl) rfl rfl (by (try simp only [List.map_toArray, List.map_cons, List.map_nil]); first | done | rfl | (simp only [List.length_drop, List.length_take]; rfl)) ?_
                  with_reducible refine (hertzstr_StrProxyConnection.calls  t183 _ A124.out).mono ?_
                  rintro e w153 ⟨v184, rfl, ho0, hb⟩
                  refine ⟨_, rfl, ?_⟩
                  have n0_ := Aside0.mk (MR.R_lower ho0 (below_size (by repeat (first | (with_reducible first | exact HB.out | apply below_alloc | apply pw_below_drewN | apply below_drew1) | exact HB.out))))
                  have n1_ := Aside0.mk (below_step (by repeat (first | (with_reducible first | exact HB.out | apply below_alloc | apply pw_below_drewN | apply below_drew1) | exact HB.out)) hb)
                  clear HB
                  have HO185 := n0_
                  have HB := n1_
                  clear n0_ n1_
                  (try clear hb)
                  (try clear hb2)
                  (try clear hk)
                  (try clear hi)
                  (try clear ho0)
                  obtain ⟨Ao155, co155, eo155⟩ := MR.R_slice HO185.out
                  (first | subst eo155 | (injection eo155 with f1_ f2_ f3_; have f4_ := f1_.symm; have f5_ := f3_.symm; clear f1_ f2_ f3_; subst f4_; subst f5_))
                  have q154 : (6 : Int) ≤ ((t183.length : Int) : Int) := of_decide_eq_true (by first | (with_reducible assumption) | assumption)
                  obtain ⟨i0154, hi0154, _, hsz154, _⟩ := info_parts info5
                  have hroom154 : t183.length ≤ co155 := (MR.R_reads' HO185.out).2.1
                  have hC154 : Kd.C (Kd.int .u8) _ Ao155 t183.length t183 := (MR.R_reads' HO185.out).2.2
                  have hcut154 := cut_from (P := Try.prog) 54 5 .i64 Try.underlying54 hi0154 1 hsz154 Ao155 t183.length co155 6 (by omega) q154
                  have hr154 := Kd.C_drop (m := (6 : Int).toNat) (c := co155) hC154 (by omega) hroom154
                  obtain ⟨A154, hA154⟩ : ∃ A1, A1 = (if co155 = (6 : Int).toNat then Ao155 else (Ao155 : Option Addr).map (·.add ((6 : Int).toNat * 1))) := ⟨_, rfl⟩
                  obtain ⟨c154, hc154⟩ : ∃ c1, c1 = co155 - (6 : Int).toNat := ⟨_, rfl⟩
                  have hy154 : y186.length = t183.length - (6 : Int).toNat := (by rw [Ny186.out, List.length_drop] <;> omega)
                  rw [show (t183).drop (6 : Int).toNat = y186 from Ny186.out.symm] at hr154
                  replace hr154 : Kd.C (Kd.int .u8) _ A154 y186.length y186 := (by rw [hA154]; exact hr154)
                  rw [← hy154, ← hA154, ← hc154] at hcut154
                  have HR189 := Aside0.mk hr154
                  have HC189 := Aside0.mk (show y186.length ≤ c154 from by rw [hy154, hc154]; exact Nat.sub_le_sub_right hroom154 _)
                  clear hr154 hC154 hroom154 hi0154 hsz154 hc154
                  have KY154 := Aside0.mk hy154
                  have KA154 := Aside0.mk hA154
                  clear hy154 hA154
                  have KL154 := Aside0.mk (show 6 ≤ t183.length from by omega)
                  replace q154 := eq_true q154
                  refine hK.out _ _ trivial (fun hHeld => ?_)
                  clear hK K
                  refine norm_ (a' := ?_) ?_ ?_
                  rotate_left
                  ·show Act.put _ (some 87) _ = _
                   simp only [Act.put, List.setIfInBounds_toArray, List.set_cons_zero, List.set_cons_succ, i64_w, i32_w]
                   rfl
                  refine pure_ (i := 3) (N := some 88) (v := ?_) (a' := ?_) #[true,true,true,true,false,false,false,false,false,false,false,false,false,false,false,false,false,false,false,false] rfl rfl (any_of HT_.out (by kernel_rfl)) (fun _ _ _ h => h) (Or.inl ⟨by rfl, ?_⟩) ?_ ?_
                  rotate_left
                  ·intro w'
                   go_simp
                   with_reducible rfl
                  rotate_left
                  ·simp only [Act.put, List.setIfInBounds_toArray, List.set_cons_zero, List.set_cons_succ, i64_w, i32_w]
                   rfl
                  refine one_ (i := 4) (N := some 89) #[true,true,true,true,true,false,false,false,false,false,false,false,false,false,false,false,false,false,false,false] rfl rfl (one_of HT_.out (by kernel_rfl)) (by decide) (fun K hK => ?_)
                  refine goes_ Try.func80 (by kernel_rfl) rfl #[.slice A152 (l0.drop 6).length (c0 - 6), .slice A154 y186.length c154] (by rfl) rfl rfl (by (try simp only [List.map_toArray, List.map_cons, List.map_nil]); first | done | (rw [show (l0.drop 6).length = (l0.length - 6) from List.length_drop] <;> rfl) | rfl | (simp only [List.length_drop, List.length_take]; rfl)) ?_
                  with_reducible refine (hertzutils_CaseInsensitiveCompare.calls kj109 _ _ (l0.drop 6) _ _ y186 false _ ?side1 ?side2 ?side3 ?side4 A126.out).mono ?_
                  (case side1 => repeat (first | exact (Kd.C_below HR182.out HB.out) | (with_reducible refine Kd.C_alloc ?_ _) | (with_reducible refine Kd.C_drewN ?_ _) | (with_reducible refine Kd.C_drew ?_)))
                  (case side2 => exact HC182.out)
                  (case side3 => repeat (first | exact (by repeat (first | (with_reducible exact HR189.out) | (with_reducible refine Kd.C_alloc ?_ _) | (with_reducible refine Kd.C_drewN ?_ _) | (with_reducible refine Kd.C_drew ?_) | exact HR189.out)) | (with_reducible refine Kd.C_alloc ?_ _) | (with_reducible refine Kd.C_drewN ?_ _) | (with_reducible refine Kd.C_drew ?_)))
                  (case side4 => exact HC189.out)
                  rintro e w' ⟨rfl, ⟨nd, rfl⟩⟩
                  refine ⟨_, rfl, ?_⟩
                  obtain ⟨i0156, hi0156, _, hsz156, _⟩ := info_parts info5
                  obtain ⟨A156, hcut156, hA156, hC156⟩ := print_drop_of (P := Try.prog) (Value.int .u8) 0 54 5 .i64 Try.underlying54 hi0156 hsz156 (some ad103) c0 l0 6 (by omega) (of_decide_eq_true (by first | (with_reducible assumption) | assumption)) HC0.out
                  have d156_ : A156 = A152 := MR.cut_same (hcut156 w) (hcut152 w)
                  rw [d156_] at hA156
                  clear hcut156 d156_
                  have HR191 := Aside0.mk (Kd.C_of_reads (h1 := fun _ => rfl) (hA156 _ (Kd.reads_of_C HR0.out)))
                  have HC191 := Aside0.mk hC156
                  clear hA156 hC156 hi0156 hsz156
                  refine hK.out _ _ trivial (fun hHeld => ?_)
                  clear hK K
                  refine norm_ (a' := ?_) ?_ ?_
                  rotate_left
                  ·show Act.put _ (some 89) _ = _
                   simp only [Act.put, List.setIfInBounds_toArray, List.set_cons_zero, List.set_cons_succ, i64_w, i32_w]
                   rfl
                  refine pure_ (i := 5) (N := some 90) (v := ?_) (a' := ?_) #[true,true,true,true,true,true,false,false,false,false,false,false,false,false,false,false,false,false,false,false] rfl rfl (any_of HT_.out (by kernel_rfl)) (fun _ _ _ h => h) (Or.inl ⟨by rfl, ?_⟩) ?_ ?_
                  rotate_left
                  ·intro w'
                   go_simp
                   with_reducible rfl
                  rotate_left
                  ·simp only [Act.put, List.setIfInBounds_toArray, List.set_cons_zero, List.set_cons_succ, i64_w, i32_w]
                   rfl
                  refine pure_ (i := 6) (N := some 91) (v := ?_) (a' := ?_) #[true,true,true,true,true,true,true,false,false,false,false,false,false,false,false,false,false,false,false,false] rfl rfl (any_of HT_.out (by kernel_rfl)) (fun _ _ _ h => h) (Or.inl ⟨by rfl, ?_⟩) ?_ ?_
                  rotate_left
                  ·intro w'
                   go_simp
                   with_reducible rfl
                  rotate_left
                  ·simp only [Act.put, List.setIfInBounds_toArray, List.set_cons_zero, List.set_cons_succ, i64_w, i32_w]
                   rfl
                  refine pure_ (i := 7) (N := some 92) (v := ?_) (a' := ?_) #[true,true,true,true,true,true,true,true,false,false,false,false,false,false,false,false,false,false,false,false] rfl rfl (any_of HT_.out (by kernel_rfl)) (fun _ _ _ h => h) (Or.inl ⟨by rfl, ?_⟩) ?_ ?_
                  rotate_left
                  ·intro w'
                   go_simp
                   with_reducible rfl
                  rotate_left
                  ·simp only [Act.put, List.setIfInBounds_toArray, List.set_cons_zero, List.set_cons_succ, i64_w, i32_w]
                   rfl
                  refine one_ (i := 8) (N := some 93) #[true,true,true,true,true,true,true,true,true,false,false,false,false,false,false,false,false,false,false,false] rfl rfl (one_of HT_.out (by kernel_rfl)) (by decide) (fun K hK => ?_)
                  refine goes_ Try.func92 (by kernel_rfl) rfl #[] (by rfl) rfl rfl (by (try simp only [List.map_toArray, List.map_cons, List.map_nil]); first | done | rfl | (simp only [List.length_drop, List.length_take]; rfl)) ?_
                  with_reducible refine (hertzstr_StrProxyAuthenticate.calls  t192 _ A134.out).mono ?_
                  rintro e w157 ⟨v193, rfl, ho0, hb⟩
                  refine ⟨_, rfl, ?_⟩
                  have n0_ := Aside0.mk (MR.R_elder' (by (with_reducible repeat (first | apply MR.R_alloc | apply MR.R_drewN | apply MR.R_drew)); exact HO185.out) (MR.R_base ho0) hb)
                  have n1_ := Aside0.mk (MR.R_lower (MR.R_new' ho0 (MR.R_lt (by (with_reducible repeat (first | apply MR.R_alloc | apply MR.R_drewN | apply MR.R_drew)); exact HO185.out))) (below_size (by repeat (first | (with_reducible first | exact HB.out | apply below_alloc | apply pw_below_drewN | apply below_drew1) | exact HB.out))))
                  have n2_ := Aside0.mk (Kd.C_below (by repeat (first | (with_reducible exact HR189.out) | (with_reducible refine Kd.C_alloc ?_ _) | (with_reducible refine Kd.C_drewN ?_ _) | (with_reducible refine Kd.C_drew ?_) | exact HR189.out)) hb)
                  have n3_ := Aside0.mk (below_step (by repeat (first | (with_reducible first | exact HB.out | apply below_alloc | apply pw_below_drewN | apply below_drew1) | exact HB.out)) hb)
                  clear HO185
                  clear HR189
                  clear HB
                  have HO185 := n0_
                  have HO194 := n1_
                  have HR189 := n2_
                  have HB := n3_
                  clear n0_ n1_ n2_ n3_
                  (try clear hb)
                  (try clear hb2)
                  (try clear hk)
                  (try clear hi)
                  (try clear ho0)
                  obtain ⟨Ao159, co159, eo159⟩ := MR.R_slice HO194.out
                  (first | subst eo159 | (injection eo159 with f1_ f2_ f3_; have f4_ := f1_.symm; have f5_ := f3_.symm; clear f1_ f2_ f3_; subst f4_; subst f5_))
                  have q158 : (6 : Int) ≤ ((t192.length : Int) : Int) := of_decide_eq_true (by first | (with_reducible assumption) | assumption)
                  obtain ⟨i0158, hi0158, _, hsz158, _⟩ := info_parts info5
                  have hroom158 : t192.length ≤ co159 := (MR.R_reads' HO194.out).2.1
                  have hC158 : Kd.C (Kd.int .u8) _ Ao159 t192.length t192 := (MR.R_reads' HO194.out).2.2
                  have hcut158 := cut_from (P := Try.prog) 54 5 .i64 Try.underlying54 hi0158 1 hsz158 Ao159 t192.length co159 6 (by omega) q158
                  have hr158 := Kd.C_drop (m := (6 : Int).toNat) (c := co159) hC158 (by omega) hroom158
                  obtain ⟨A158, hA158⟩ : ∃ A1, A1 = (if co159 = (6 : Int).toNat then Ao159 else (Ao159 : Option Addr).map (·.add ((6 : Int).toNat * 1))) := ⟨_, rfl⟩
                  obtain ⟨c158, hc158⟩ : ∃ c1, c1 = co159 - (6 : Int).toNat := ⟨_, rfl⟩
                  have hy158 : y195.length = t192.length - (6 : Int).toNat := (by rw [Ny195.out, List.length_drop] <;> omega)
                  rw [show (t192).drop (6 : Int).toNat = y195 from Ny195.out.symm] at hr158
                  replace hr158 : Kd.C (Kd.int .u8) _ A158 y195.length y195 := (by rw [hA158]; exact hr158)
                  rw [← hy158, ← hA158, ← hc158] at hcut158
                  have HR198 := Aside0.mk hr158
                  have HC198 := Aside0.mk (show y195.length ≤ c158 from by rw [hy158, hc158]; exact Nat.sub_le_sub_right hroom158 _)
                  clear hr158 hC158 hroom158 hi0158 hsz158 hc158
                  have KY158 := Aside0.mk hy158
                  have KA158 := Aside0.mk hA158
                  clear hy158 hA158
                  have KL158 := Aside0.mk (show 6 ≤ t192.length from by omega)
                  replace q158 := eq_true q158
                  refine hK.out _ _ trivial (fun hHeld => ?_)
                  clear hK K
                  refine norm_ (a' := ?_) ?_ ?_
                  rotate_left
                  ·show Act.put _ (some 93) _ = _
                   simp only [Act.put, List.setIfInBounds_toArray, List.set_cons_zero, List.set_cons_succ, i64_w, i32_w]
                   rfl
                  refine pure_ (i := 9) (N := some 94) (v := ?_) (a' := ?_) #[true,true,true,true,true,true,true,true,true,true,false,false,false,false,false,false,false,false,false,false] rfl rfl (any_of HT_.out (by kernel_rfl)) (fun _ _ _ h => h) (Or.inl ⟨by rfl, ?_⟩) ?_ ?_
                  rotate_left
                  ·intro w'
                   go_simp
                   with_reducible rfl
                  rotate_left
                  ·simp only [Act.put, List.setIfInBounds_toArray, List.set_cons_zero, List.set_cons_succ, i64_w, i32_w]
                   rfl
                  refine one_ (i := 10) (N := some 95) #[true,true,true,true,true,true,true,true,true,true,true,false,false,false,false,false,false,false,false,false] rfl rfl (one_of HT_.out (by kernel_rfl)) (by decide) (fun K hK => ?_)
                  refine goes_ Try.func80 (by kernel_rfl) rfl #[.slice A152 (l0.drop 6).length (c0 - 6), .slice A158 y195.length c158] (by rfl) rfl rfl (by (try simp only [List.map_toArray, List.map_cons, List.map_nil]); first | done | (rw [show (l0.drop 6).length = (l0.length - 6) from List.length_drop] <;> rfl) | rfl | (simp only [List.length_drop, List.length_take]; rfl)) ?_
                  with_reducible refine (hertzutils_CaseInsensitiveCompare.calls kj109 _ _ (l0.drop 6) _ _ y195 false _ ?side1 ?side2 ?side3 ?side4 A136.out).mono ?_
                  (case side1 => repeat (first | exact (Kd.C_below HR191.out HB.out) | (with_reducible refine Kd.C_alloc ?_ _) | (with_reducible refine Kd.C_drewN ?_ _) | (with_reducible refine Kd.C_drew ?_)))
                  (case side2 => exact HC191.out)
                  (case side3 => repeat (first | exact (by repeat (first | (with_reducible exact HR198.out) | (with_reducible refine Kd.C_alloc ?_ _) | (with_reducible refine Kd.C_drewN ?_ _) | (with_reducible refine Kd.C_drew ?_) | exact HR198.out)) | (with_reducible refine Kd.C_alloc ?_ _) | (with_reducible refine Kd.C_drewN ?_ _) | (with_reducible refine Kd.C_drew ?_)))
                  (case side4 => exact HC198.out)
                  rintro e w' ⟨rfl, ⟨nd, rfl⟩⟩
                  refine ⟨_, rfl, ?_⟩
                  obtain ⟨i0160, hi0160, _, hsz160, _⟩ := info_parts info5
                  obtain ⟨A160, hcut160, hA160, hC160⟩ := print_drop_of (P := Try.prog) (Value.int .u8) 0 54 5 .i64 Try.underlying54 hi0160 hsz160 (some ad103) c0 l0 6 (by omega) (of_decide_eq_true (by first | (with_reducible assumption) | assumption)) HC0.out
                  have d160_ : A160 = A152 := MR.cut_same (hcut160 w) (hcut152 w)
                  rw [d160_] at hA160
                  clear hcut160 d160_
                  have HR200 := Aside0.mk (Kd.C_of_reads (h1 := fun _ => rfl) (hA160 _ (Kd.reads_of_C HR0.out)))
                  have HC200 := Aside0.mk hC160
                  clear hA160 hC160 hi0160 hsz160
                  refine hK.out _ _ trivial (fun hHeld => ?_)
                  clear hK K
                  refine norm_ (a' := ?_) ?_ ?_
                  rotate_left
                  ·show Act.put _ (some 95) _ = _
                   simp only [Act.put, List.setIfInBounds_toArray, List.set_cons_zero, List.set_cons_succ, i64_w, i32_w]
                   rfl
                  refine pure_ (i := 11) (N := some 96) (v := ?_) (a' := ?_) #[true,true,true,true,true,true,true,true,true,true,true,true,false,false,false,false,false,false,false,false] rfl rfl (any_of HT_.out (by kernel_rfl)) (fun _ _ _ h => h) (Or.inl ⟨by rfl, ?_⟩) ?_ ?_
                  rotate_left
                  ·intro w'
                   go_simp
                   with_reducible rfl
                  rotate_left
                  ·simp only [Act.put, List.setIfInBounds_toArray, List.set_cons_zero, List.set_cons_succ, i64_w, i32_w]
                   rfl
                  refine pure_ (i := 12) (N := some 97) (v := ?_) (a' := ?_) #[true,true,true,true,true,true,true,true,true,true,true,true,true,false,false,false,false,false,false,false] rfl rfl (any_of HT_.out (by kernel_rfl)) (fun _ _ _ h => h) (Or.inl ⟨by rfl, ?_⟩) ?_ ?_
                  rotate_left
                  ·intro w'
                   go_simp
                   with_reducible rfl
                  rotate_left
                  ·simp only [Act.put, List.setIfInBounds_toArray, List.set_cons_zero, List.set_cons_succ, i64_w, i32_w]
                   rfl
                  refine pure_ (i := 13) (N := some 98) (v := ?_) (a' := ?_) #[true,true,true,true,true,true,true,true,true,true,true,true,true,true,false,false,false,false,false,false] rfl rfl (any_of HT_.out (by kernel_rfl)) (fun _ _ _ h => h) (Or.inl ⟨by rfl, ?_⟩) ?_ ?_
                  rotate_left
                  ·intro w'
                   go_simp
                   with_reducible rfl
                  rotate_left
                  ·simp only [Act.put, List.setIfInBounds_toArray, List.set_cons_zero, List.set_cons_succ, i64_w, i32_w]
                   rfl
                  refine pure_ (i := 14) (N := some 99) (v := ?_) (a' := ?_) #[true,true,true,true,true,true,true,true,true,true,true,true,true,true,true,false,false,false,false,false] rfl rfl (any_of HT_.out (by kernel_rfl)) (fun _ _ _ h => h) (Or.inl ⟨by rfl, ?_⟩) ?_ ?_
                  rotate_left
                  ·intro w'
                   go_simp
                   with_reducible rfl
                  rotate_left
                  ·simp only [Act.put, List.setIfInBounds_toArray, List.set_cons_zero, List.set_cons_succ, i64_w, i32_w]
                   rfl
                  refine one_ (i := 15) (N := some 100) #[true,true,true,true,true,true,true,true,true,true,true,true,true,true,true,true,false,false,false,false] rfl rfl (one_of HT_.out (by kernel_rfl)) (by decide) (fun K hK => ?_)
                  refine goes_ Try.func93 (by kernel_rfl) rfl #[] (by rfl) rfl rfl (by (try simp only [List.map_toArray, List.map_cons, List.map_nil]); first | done | rfl | (simp only [List.length_drop, List.length_take]; rfl)) ?_
                  with_reducible refine (hertzstr_StrProxyAuthorization.calls  t201 _ A148.out).mono ?_
                  rintro e w161 ⟨v202, rfl, ho0, hb⟩
                  refine ⟨_, rfl, ?_⟩
                  have n0_ := Aside0.mk (MR.R_elder' (by (with_reducible repeat (first | apply MR.R_alloc | apply MR.R_drewN | apply MR.R_drew)); exact HO185.out) (MR.R_base ho0) hb)
                  have n1_ := Aside0.mk (MR.R_elder' (by (with_reducible repeat (first | apply MR.R_alloc | apply MR.R_drewN | apply MR.R_drew)); exact HO194.out) (MR.R_base ho0) hb)
                  have n2_ := Aside0.mk (MR.R_lower (MR.R_new' (MR.R_new' ho0 (MR.R_lt (by (with_reducible repeat (first | apply MR.R_alloc | apply MR.R_drewN | apply MR.R_drew)); exact HO185.out))) (MR.R_lt (by (with_reducible repeat (first | apply MR.R_alloc | apply MR.R_drewN | apply MR.R_drew)); exact HO194.out))) (below_size (by repeat (first | (with_reducible first | exact HB.out | apply below_alloc | apply pw_below_drewN | apply below_drew1) | exact HB.out))))
                  have n3_ := Aside0.mk (Kd.C_below (by repeat (first | (with_reducible exact HR189.out) | (with_reducible refine Kd.C_alloc ?_ _) | (with_reducible refine Kd.C_drewN ?_ _) | (with_reducible refine Kd.C_drew ?_) | exact HR189.out)) hb)
                  have n4_ := Aside0.mk (Kd.C_below (by repeat (first | (with_reducible exact HR198.out) | (with_reducible refine Kd.C_alloc ?_ _) | (with_reducible refine Kd.C_drewN ?_ _) | (with_reducible refine Kd.C_drew ?_) | exact HR198.out)) hb)
                  have n5_ := Aside0.mk (below_step (by repeat (first | (with_reducible first | exact HB.out | apply below_alloc | apply pw_below_drewN | apply below_drew1) | exact HB.out)) hb)
                  clear HO185
                  clear HO194
                  clear HR189
                  clear HR198
                  clear HB
                  have HO185 := n0_
                  have HO194 := n1_
                  have HO203 := n2_
                  have HR189 := n3_
                  have HR198 := n4_
                  have HB := n5_
                  clear n0_ n1_ n2_ n3_ n4_ n5_
                  (try clear hb)
                  (try clear hb2)
                  (try clear hk)
                  (try clear hi)
                  (try clear ho0)
                  obtain ⟨Ao163, co163, eo163⟩ := MR.R_slice HO203.out
                  (first | subst eo163 | (injection eo163 with f1_ f2_ f3_; have f4_ := f1_.symm; have f5_ := f3_.symm; clear f1_ f2_ f3_; subst f4_; subst f5_))
                  have q162 : (6 : Int) ≤ ((t201.length : Int) : Int) := of_decide_eq_true (by first | (with_reducible assumption) | assumption)
                  obtain ⟨i0162, hi0162, _, hsz162, _⟩ := info_parts info5
                  have hroom162 : t201.length ≤ co163 := (MR.R_reads' HO203.out).2.1
                  have hC162 : Kd.C (Kd.int .u8) _ Ao163 t201.length t201 := (MR.R_reads' HO203.out).2.2
                  have hcut162 := cut_from (P := Try.prog) 54 5 .i64 Try.underlying54 hi0162 1 hsz162 Ao163 t201.length co163 6 (by omega) q162
                  have hr162 := Kd.C_drop (m := (6 : Int).toNat) (c := co163) hC162 (by omega) hroom162
                  obtain ⟨A162, hA162⟩ : ∃ A1, A1 = (if co163 = (6 : Int).toNat then Ao163 else (Ao163 : Option Addr).map (·.add ((6 : Int).toNat * 1))) := ⟨_, rfl⟩
                  obtain ⟨c162, hc162⟩ : ∃ c1, c1 = co163 - (6 : Int).toNat := ⟨_, rfl⟩
                  have hy162 : y204.length = t201.length - (6 : Int).toNat := (by rw [Ny204.out, List.length_drop] <;> omega)
                  rw [show (t201).drop (6 : Int).toNat = y204 from Ny204.out.symm] at hr162
                  replace hr162 : Kd.C (Kd.int .u8) _ A162 y204.length y204 := (by rw [hA162]; exact hr162)
                  rw [← hy162, ← hA162, ← hc162] at hcut162
                  have HR207 := Aside0.mk hr162
                  have HC207 := Aside0.mk (show y204.length ≤ c162 from by rw [hy162, hc162]; exact Nat.sub_le_sub_right hroom162 _)
                  clear hr162 hC162 hroom162 hi0162 hsz162 hc162
                  have KY162 := Aside0.mk hy162
                  have KA162 := Aside0.mk hA162
                  clear hy162 hA162
                  have KL162 := Aside0.mk (show 6 ≤ t201.length from by omega)
                  replace q162 := eq_true q162
                  refine hK.out _ _ trivial (fun hHeld => ?_)
                  clear hK K
                  refine norm_ (a' := ?_) ?_ ?_
                  rotate_left
                  ·show Act.put _ (some 100) _ = _
                   simp only [Act.put, List.setIfInBounds_toArray, List.set_cons_zero, List.set_cons_succ, i64_w, i32_w]
                   rfl
                  refine pure_ (i := 16) (N := some 101) (v := ?_) (a' := ?_) #[true,true,true,true,true,true,true,true,true,true,true,true,true,true,true,true,true,false,false,false] rfl rfl (any_of HT_.out (by kernel_rfl)) (fun _ _ _ h => h) (Or.inl ⟨by rfl, ?_⟩) ?_ ?_
                  rotate_left
                  ·intro w'
                   go_simp
                   with_reducible rfl
                  rotate_left
                  ·simp only [Act.put, List.setIfInBounds_toArray, List.set_cons_zero, List.set_cons_succ, i64_w, i32_w]
                   rfl
                  refine one_ (i := 17) (N := some 102) #[true,true,true,true,true,true,true,true,true,true,true,true,true,true,true,true,true,true,false,false] rfl rfl (one_of HT_.out (by kernel_rfl)) (by decide) (fun K hK => ?_)
                  refine goes_ Try.func80 (by kernel_rfl) rfl #[.slice A152 (l0.drop 6).length (c0 - 6), .slice A162 y204.length c162] (by rfl) rfl rfl (by (try simp only [List.map_toArray, List.map_cons, List.map_nil]); first | done | (rw [show (l0.drop 6).length = (l0.length - 6) from List.length_drop] <;> rfl) | rfl | (simp only [List.length_drop, List.length_take]; rfl)) ?_
                  with_reducible refine (hertzutils_CaseInsensitiveCompare.calls kj109 _ _ (l0.drop 6) _ _ y204 t208 _ ?side1 ?side2 ?side3 ?side4 A150.out).mono ?_
                  (case side1 => repeat (first | exact (Kd.C_below HR200.out HB.out) | (with_reducible refine Kd.C_alloc ?_ _) | (with_reducible refine Kd.C_drewN ?_ _) | (with_reducible refine Kd.C_drew ?_)))
                  (case side2 => exact HC200.out)
                  (case side3 => repeat (first | exact (by repeat (first | (with_reducible exact HR207.out) | (with_reducible refine Kd.C_alloc ?_ _) | (with_reducible refine Kd.C_drewN ?_ _) | (with_reducible refine Kd.C_drew ?_) | exact HR207.out)) | (with_reducible refine Kd.C_alloc ?_ _) | (with_reducible refine Kd.C_drewN ?_ _) | (with_reducible refine Kd.C_drew ?_)))
                  (case side4 => exact HC207.out)
                  rintro e w' ⟨rfl, ⟨nd, rfl⟩⟩
                  refine ⟨_, rfl, ?_⟩
                  refine hK.out _ _ trivial (fun hHeld => ?_)
                  clear hK K
                  refine norm_ (a' := ?_) ?_ ?_
                  rotate_left
                  ·show Act.put _ (some 102) _ = _
                   simp only [Act.put, List.setIfInBounds_toArray, List.set_cons_zero, List.set_cons_succ, i64_w, i32_w]
                   rfl
                  refine pure_ (i := 18) (N := some 103) (v := ?_) (a' := ?_) #[true,true,true,true,true,true,true,true,true,true,true,true,true,true,true,true,true,true,true,false] rfl rfl (any_of HT_.out (by kernel_rfl)) (fun _ _ _ h => h) (Or.inl ⟨by rfl, ?_⟩) ?_ ?_
                  rotate_left
                  ·intro w'
                   go_simp
                   with_reducible rfl
                  rotate_left
                  ·simp only [Act.put, List.setIfInBounds_toArray, List.set_cons_zero, List.set_cons_succ, i64_w, i32_w]
                   rfl
                  refine pure_ (i := 19) (N := some 2) (v := ?_) (a' := ?_) #[true,true,true,true,true,true,true,true,true,true,true,true,true,true,true,true,true,true,true,true] rfl rfl (any_of HT_.out (by kernel_rfl)) (fun _ _ _ h => h) (Or.inl ⟨by rfl, ?_⟩) ?_ ?_
                  rotate_left
                  ·intro w'
                   go_simp
                   with_reducible rfl
                  rotate_left
                  ·simp only [Act.put, List.setIfInBounds_toArray, List.set_cons_zero, List.set_cons_succ, i64_w, i32_w]
                   rfl
                  refine done_ (done_of HT_.out (by kernel_rfl)) ?_
                  try go_wp2
                  go_ret
                  exact ⟨by first | rfl | (simp [errW_none, errW_some] <;> rfl) | (simp [*, errW_none, errW_some] <;> rfl), by repeat (first | (with_reducible first | exact HB.out | apply below_alloc | apply pw_below_drewN | apply below_drew1) | exact HB.out)⟩
                 ·rw [if_neg c149] at H
                  exact absurd H (by simp)
               ·rw [if_neg c135] at H
                exact absurd H (by simp)
             ·rw [if_neg c125] at H
              exact absurd H (by simp)
            ·rw [if_neg c123] at H
             exact absurd H (by simp)
           ·replace c122 := Bool.eq_false_iff.mpr c122
            subst c122
            have H1 : (some false) = some r := by rw [if_neg (show ¬ (false = true) by decide)] at H; exact H
            clear H
            have H := H1
            clear H1
            obtain rfl := Option.some.inj H
            go_wp2
            go_ret
            exact ⟨by first | rfl | (simp [errW_none, errW_some] <;> rfl) | (simp [*, errW_none, errW_some] <;> rfl), by repeat (first | (with_reducible first | exact HB.out | apply below_alloc | apply pw_below_drewN | apply below_drew1) | exact HB.out)⟩
        ·exact absurd HCASE_.out c109
 ·rw [if_neg c2] at H
  exact absurd H (by simp)
end Go.Proofs.Ytoimkmoalmmooaa.QA
namespace Go.Proofs.Ytoimkmoalmmooaa.QA
open Go.Proofs.Ytoimkmoalmmooaa.Given
open Go.Proofs.Ytoimkmoalmmooaa.PrX
open Go.RowKit Go.Proofs.YtoimkmoalmmooaaW.PrintWords Go.Proofs.YtoimkmoalmmooaaW.PrintLast Go.Proofs.YtoimkmoalmmooaaW.PrintMore
set_option linter.unusedVariables false
set_option linter.unusedSimpArgs false
set_option maxHeartbeats 8000000 in
set_option maxRecDepth 100000 in
theorem hertzproto_IsBadTrailer.calls (k : Nat) (A0 : Option Addr) (c0 : Nat) (l0 : List Int) (r : Bool) (w : World) (hr0 : Kd.C (Kd.int .u8) w A0 l0.length l0) (hc0 : l0.length ≤ c0) (h : hertzproto_IsBadTrailer.f k l0 = some r) :
  Calls Try.prog 68 #[.slice A0 l0.length c0] w fun e w' => e = .returned (.bool r) ∧ Below w.heap.size w w' := by
 have H00_ := Aside0.mk h
 have HR0 := Aside0.mk hr0
 have HC0 := Aside0.mk hc0
 clear hr0 hc0
 have HB := Aside0.mk (Below.refl w.heap.size w)
 have H : (if 0 < (l0.length : Int) then (if (Go.bits .or .u8 (rd l0 0) 32) = 97 then ((hertzstr_StrAuthorization.f).bind fun t104 => ((hertzutils_CaseInsensitiveCompare.f k l0 t104).bind fun t107 => (some t107))) else (if (Go.bits .or .u8 (rd l0 0) 32) = 99 then (if (l0.length : Int) ≥ 12 then (if 8 ≤ (l0.length : Int) then ((hertzstr_StrContentType.f).bind fun t109 => (if 8 ≤ (t109.length : Int) then ((hertzutils_CaseInsensitiveCompare.f k (l0.take 8) (t109.take 8)).bind fun t116 => (hertzproto_IsBadTrailer.j0 k l0 t116)) else (none))) else (none)) else (hertzproto_IsBadTrailer.j0 k l0 false)) else (if (Go.bits .or .u8 (rd l0 0) 32) = 101 then ((hertzstr_StrExpect.f).bind fun t157 => ((hertzutils_CaseInsensitiveCompare.f k l0 t157).bind fun t160 => (some t160))) else (if (Go.bits .or .u8 (rd l0 0) 32) = 104 then ((hertzstr_StrHost.f).bind fun t161 => ((hertzutils_CaseInsensitiveCompare.f k l0 t161).bind fun t164 => (some t164))) else (if (Go.bits .or .u8 (rd l0 0) 32) = 107 then ((hertzstr_StrKeepAlive.f).bind fun t165 => ((hertzutils_CaseInsensitiveCompare.f k l0 t165).bind fun t168 => (some t168))) else (if (Go.bits .or .u8 (rd l0 0) 32) = 109 then ((hertzstr_StrMaxForwards.f).bind fun t169 => ((hertzutils_CaseInsensitiveCompare.f k l0 t169).bind fun t172 => (some t172))) else (if (Go.bits .or .u8 (rd l0 0) 32) = 112 then (if (l0.length : Int) ≥ 16 then (if 6 ≤ (l0.length : Int) then ((hertzstr_StrProxyConnection.f).bind fun t174 => (if 6 ≤ (t174.length : Int) then ((hertzutils_CaseInsensitiveCompare.f k (l0.take 6) (t174.take 6)).bind fun t181 => (hertzproto_IsBadTrailer.j1 k l0 t181)) else (none))) else (none)) else (hertzproto_IsBadTrailer.j1 k l0 false)) else (if (Go.bits .or .u8 (rd l0 0) 32) = 114 then ((hertzstr_StrRange.f).bind fun t209 => ((hertzutils_CaseInsensitiveCompare.f k l0 t209).bind fun t212 => (some t212))) else (if (Go.bits .or .u8 (rd l0 0) 32) = 116 then ((hertzstr_StrTE.f).bind fun t213 => ((hertzutils_CaseInsensitiveCompare.f k l0 t213).bind fun t216 => (if t216 = true then (some true) else ((hertzstr_StrTrailer.f).bind fun t217 => ((hertzutils_CaseInsensitiveCompare.f k l0 t217).bind fun t220 => (if t220 = true then (some true) else ((hertzstr_StrTransferEncoding.f).bind fun t221 => ((hertzutils_CaseInsensitiveCompare.f k l0 t221).bind fun t224 => (some t224))))))))) else (if (Go.bits .or .u8 (rd l0 0) 32) = 119 then ((hertzstr_StrWWWAuthenticate.f).bind fun t225 => ((hertzutils_CaseInsensitiveCompare.f k l0 t225).bind fun t228 => (some t228))) else (some false))))))))))) else (none)) = some r := h
 clear h
 by_cases c2 : 0 < (l0.length : Int)
 ·rw [if_pos c2] at H
  have c2b0 : decide (0 < (l0.length : Int)) = true := decide_eq_true c2
  have c2b1 : decide (0 < l0.length) = true := decide_eq_true (by omega)
  clear c2
  by_cases c3 : (Go.bits .or .u8 (rd l0 0) 32) = 97
  ·rw [if_pos c3] at H
   have c3b0 : ((Go.bits .or .u8 (rd l0 0) 32) == 97) = true := beq_iff_eq.mpr c3
   have c3b1 : ((Go.bits .or .u8 (rd l0 0) 32) != 97) = false := bne_eq_false_iff_eq.mpr c3
   clear c3
   replace H := Option.bind_eq_some_iff.mp H
   obtain ⟨t104, A40, H⟩ := H
   replace H : ((hertzutils_CaseInsensitiveCompare.f k l0 t104).bind fun t107 => (some t107)) = some r := H
   have A4 := Aside0.mk A40
   clear A40
   replace H := Option.bind_eq_some_iff.mp H
   obtain ⟨t107, A50, H⟩ := H
   replace H : (some t107) = some r := H
   have A5 := Aside0.mk A50
   clear A50
   obtain rfl := Option.some.inj H
   have p103 : 0 ≤ (0 : Int) := (by omega)
   have q103 : 0 < (l0.length : Int) := of_decide_eq_true (by first | (with_reducible assumption) | assumption)
   obtain ⟨ad103, e103, hx103_0⟩ := Kd.at_int HR0.out 0 p103 q103
   cases e103
   have qi103 : (0 < l0.length) = True := eq_true (by omega)
   (try rw [show ((0 : Int)).toNat = 0 from rfl] at hx103_0)
   (try rw [Addr.add_zero'] at hx103_0)
   replace p103 := eq_true p103
   replace q103 := eq_true q103
   go_enter Try.func68, Try.ntmps68
   go_wp2_with (first | ((with_reducible refine gate_callee (f := 81) rfl ?_); refine goesL_ (some 10) rfl rfl Try.func81 (by kernel_rfl) rfl #[] rfl (by (try simp only [List.map_toArray, List.map_cons, List.map_nil]); first | done | rfl | (simp only [List.length_drop, List.length_take]; rfl)) ?_; (with_reducible refine (hertzstr_StrAuthorization.calls  t104 _ A4.out).mono ?_); rintro e w6 ⟨v105, rfl, ho0, hb⟩; refine ⟨_, rfl, ?_⟩; have n0_ := Aside0.mk (MR.R_lower ho0 (below_size (by repeat (first | (with_reducible first | exact HB.out | apply below_alloc | apply pw_below_drewN | apply below_drew1) | exact HB.out)))); have n1_ := Aside0.mk (below_step (by repeat (first | (with_reducible first | exact HB.out | apply below_alloc | apply pw_below_drewN | apply below_drew1) | exact HB.out)) hb); clear HB; have HO106 := n0_; have HB := n1_; clear n0_ n1_; (try clear hb); (try clear hb2); (try clear hk); (try clear hi); (try clear ho0); obtain ⟨Ao7, co7, eo7⟩ := MR.R_slice HO106.out; subst eo7) | ((with_reducible refine gate_callee (f := 80) rfl ?_); refine goesL_ (some 11) rfl rfl Try.func80 (by kernel_rfl) rfl #[.slice (some ad103) l0.length c0, .slice Ao7 t104.length co7] rfl (by (try simp only [List.map_toArray, List.map_cons, List.map_nil]); first | done | rfl | (simp only [List.length_drop, List.length_take]; rfl)) ?_; (with_reducible refine (hertzutils_CaseInsensitiveCompare.calls k _ _ l0 _ _ t104 t107 _ ?side1 ?side2 ?side3 ?side4 A5.out).mono ?_); (case side1 => repeat (first | exact (Kd.C_below HR0.out HB.out) | (with_reducible refine Kd.C_alloc ?_ _) | (with_reducible refine Kd.C_drewN ?_ _) | (with_reducible refine Kd.C_drew ?_))); (case side2 => exact HC0.out); (case side3 => repeat (first | exact (MR.R_reads' HO106.out).2.2 | (with_reducible refine Kd.C_alloc ?_ _) | (with_reducible refine Kd.C_drewN ?_ _) | (with_reducible refine Kd.C_drew ?_))); (case side4 => exact (MR.R_reads' HO106.out).2.1); rintro e w' ⟨rfl, ⟨nd, rfl⟩⟩; refine ⟨_, rfl, ?_⟩))
   go_ret
   exact ⟨by first | rfl | (simp [errW_none, errW_some] <;> rfl) | (simp [*, errW_none, errW_some] <;> rfl), by repeat (first | (with_reducible first | exact HB.out | apply below_alloc | apply pw_below_drewN | apply below_drew1) | exact HB.out)⟩
  ·rw [if_neg c3] at H
   have c3b0 : ((Go.bits .or .u8 (rd l0 0) 32) == 97) = false := beq_eq_false_iff_ne.mpr c3
   have c3b1 : ((Go.bits .or .u8 (rd l0 0) 32) != 97) = true := bne_iff_ne.mpr c3
   by_cases c8 : (Go.bits .or .u8 (rd l0 0) 32) = 99
   ·exact hertzproto_IsBadTrailer.calls_0 k A0 c0 l0 r w HR0.out HC0.out c8 H00_.out
   ·rw [if_neg c8] at H
    have c8b0 : ((Go.bits .or .u8 (rd l0 0) 32) == 99) = false := beq_eq_false_iff_ne.mpr c8
    have c8b1 : ((Go.bits .or .u8 (rd l0 0) 32) != 99) = true := bne_iff_ne.mpr c8
    by_cases c89 : (Go.bits .or .u8 (rd l0 0) 32) = 101
    ·rw [if_pos c89] at H
     have c89b0 : ((Go.bits .or .u8 (rd l0 0) 32) == 101) = true := beq_iff_eq.mpr c89
     have c89b1 : ((Go.bits .or .u8 (rd l0 0) 32) != 101) = false := bne_eq_false_iff_eq.mpr c89
     clear c89
     replace H := Option.bind_eq_some_iff.mp H
     obtain ⟨t157, A900, H⟩ := H
     replace H : ((hertzutils_CaseInsensitiveCompare.f k l0 t157).bind fun t160 => (some t160)) = some r := H
     have A90 := Aside0.mk A900
     clear A900
     replace H := Option.bind_eq_some_iff.mp H
     obtain ⟨t160, A910, H⟩ := H
     replace H : (some t160) = some r := H
     have A91 := Aside0.mk A910
     clear A910
     obtain rfl := Option.some.inj H
     have p103 : 0 ≤ (0 : Int) := (by omega)
     have q103 : 0 < (l0.length : Int) := of_decide_eq_true (by first | (with_reducible assumption) | assumption)
     obtain ⟨ad103, e103, hx103_0⟩ := Kd.at_int HR0.out 0 p103 q103
     cases e103
     have qi103 : (0 < l0.length) = True := eq_true (by omega)
     (try rw [show ((0 : Int)).toNat = 0 from rfl] at hx103_0)
     (try rw [Addr.add_zero'] at hx103_0)
     replace p103 := eq_true p103
     replace q103 := eq_true q103
     go_enter Try.func68, Try.ntmps68
     go_wp2_with (first | ((with_reducible refine gate_callee (f := 87) rfl ?_); refine goesL_ (some 56) rfl rfl Try.func87 (by kernel_rfl) rfl #[] rfl (by (try simp only [List.map_toArray, List.map_cons, List.map_nil]); first | done | rfl | (simp only [List.length_drop, List.length_take]; rfl)) ?_; (with_reducible refine (hertzstr_StrExpect.calls  t157 _ A90.out).mono ?_); rintro e w92 ⟨v158, rfl, ho0, hb⟩; refine ⟨_, rfl, ?_⟩; have n0_ := Aside0.mk (MR.R_lower ho0 (below_size (by repeat (first | (with_reducible first | exact HB.out | apply below_alloc | apply pw_below_drewN | apply below_drew1) | exact HB.out)))); have n1_ := Aside0.mk (below_step (by repeat (first | (with_reducible first | exact HB.out | apply below_alloc | apply pw_below_drewN | apply below_drew1) | exact HB.out)) hb); clear HB; have HO159 := n0_; have HB := n1_; clear n0_ n1_; (try clear hb); (try clear hb2); (try clear hk); (try clear hi); (try clear ho0); obtain ⟨Ao93, co93, eo93⟩ := MR.R_slice HO159.out; subst eo93) | ((with_reducible refine gate_callee (f := 80) rfl ?_); refine goesL_ (some 57) rfl rfl Try.func80 (by kernel_rfl) rfl #[.slice (some ad103) l0.length c0, .slice Ao93 t157.length co93] rfl (by (try simp only [List.map_toArray, List.map_cons, List.map_nil]); first | done | rfl | (simp only [List.length_drop, List.length_take]; rfl)) ?_; (with_reducible refine (hertzutils_CaseInsensitiveCompare.calls k _ _ l0 _ _ t157 t160 _ ?side1 ?side2 ?side3 ?side4 A91.out).mono ?_); (case side1 => repeat (first | exact (Kd.C_below HR0.out HB.out) | (with_reducible refine Kd.C_alloc ?_ _) | (with_reducible refine Kd.C_drewN ?_ _) | (with_reducible refine Kd.C_drew ?_))); (case side2 => exact HC0.out); (case side3 => repeat (first | exact (MR.R_reads' HO159.out).2.2 | (with_reducible refine Kd.C_alloc ?_ _) | (with_reducible refine Kd.C_drewN ?_ _) | (with_reducible refine Kd.C_drew ?_))); (case side4 => exact (MR.R_reads' HO159.out).2.1); rintro e w' ⟨rfl, ⟨nd, rfl⟩⟩; refine ⟨_, rfl, ?_⟩))
     go_ret
     exact ⟨by first | rfl | (simp [errW_none, errW_some] <;> rfl) | (simp [*, errW_none, errW_some] <;> rfl), by repeat (first | (with_reducible first | exact HB.out | apply below_alloc | apply pw_below_drewN | apply below_drew1) | exact HB.out)⟩
    ·rw [if_neg c89] at H
     have c89b0 : ((Go.bits .or .u8 (rd l0 0) 32) == 101) = false := beq_eq_false_iff_ne.mpr c89
     have c89b1 : ((Go.bits .or .u8 (rd l0 0) 32) != 101) = true := bne_iff_ne.mpr c89
     by_cases c94 : (Go.bits .or .u8 (rd l0 0) 32) = 104
     ·rw [if_pos c94] at H
      have c94b0 : ((Go.bits .or .u8 (rd l0 0) 32) == 104) = true := beq_iff_eq.mpr c94
      have c94b1 : ((Go.bits .or .u8 (rd l0 0) 32) != 104) = false := bne_eq_false_iff_eq.mpr c94
      clear c94
      replace H := Option.bind_eq_some_iff.mp H
      obtain ⟨t161, A950, H⟩ := H
      replace H : ((hertzutils_CaseInsensitiveCompare.f k l0 t161).bind fun t164 => (some t164)) = some r := H
      have A95 := Aside0.mk A950
      clear A950
      replace H := Option.bind_eq_some_iff.mp H
      obtain ⟨t164, A960, H⟩ := H
      replace H : (some t164) = some r := H
      have A96 := Aside0.mk A960
      clear A960
      obtain rfl := Option.some.inj H
      have p103 : 0 ≤ (0 : Int) := (by omega)
      have q103 : 0 < (l0.length : Int) := of_decide_eq_true (by first | (with_reducible assumption) | assumption)
      obtain ⟨ad103, e103, hx103_0⟩ := Kd.at_int HR0.out 0 p103 q103
      cases e103
      have qi103 : (0 < l0.length) = True := eq_true (by omega)
      (try rw [show ((0 : Int)).toNat = 0 from rfl] at hx103_0)
      (try rw [Addr.add_zero'] at hx103_0)
      replace p103 := eq_true p103
      replace q103 := eq_true q103
      go_enter Try.func68, Try.ntmps68
      go_wp2_with (first | ((with_reducible refine gate_callee (f := 88) rfl ?_); refine goesL_ (some 61) rfl rfl Try.func88 (by kernel_rfl) rfl #[] rfl (by (try simp only [List.map_toArray, List.map_cons, List.map_nil]); first | done | rfl | (simp only [List.length_drop, List.length_take]; rfl)) ?_; (with_reducible refine (hertzstr_StrHost.calls  t161 _ A95.out).mono ?_); rintro e w97 ⟨v162, rfl, ho0, hb⟩; refine ⟨_, rfl, ?_⟩; have n0_ := Aside0.mk (MR.R_lower ho0 (below_size (by repeat (first | (with_reducible first | exact HB.out | apply below_alloc | apply pw_below_drewN | apply below_drew1) | exact HB.out)))); have n1_ := Aside0.mk (below_step (by repeat (first | (with_reducible first | exact HB.out | apply below_alloc | apply pw_below_drewN | apply below_drew1) | exact HB.out)) hb); clear HB; have HO163 := n0_; have HB := n1_; clear n0_ n1_; (try clear hb); (try clear hb2); (try clear hk); (try clear hi); (try clear ho0); obtain ⟨Ao98, co98, eo98⟩ := MR.R_slice HO163.out; subst eo98) | ((with_reducible refine gate_callee (f := 80) rfl ?_); refine goesL_ (some 62) rfl rfl Try.func80 (by kernel_rfl) rfl #[.slice (some ad103) l0.length c0, .slice Ao98 t161.length co98] rfl (by (try simp only [List.map_toArray, List.map_cons, List.map_nil]); first | done | rfl | (simp only [List.length_drop, List.length_take]; rfl)) ?_; (with_reducible refine (hertzutils_CaseInsensitiveCompare.calls k _ _ l0 _ _ t161 t164 _ ?side1 ?side2 ?side3 ?side4 A96.out).mono ?_); (case side1 => repeat (first | exact (Kd.C_below HR0.out HB.out) | (with_reducible refine Kd.C_alloc ?_ _) | (with_reducible refine Kd.C_drewN ?_ _) | (with_reducible refine Kd.C_drew ?_))); (case side2 => exact HC0.out); (case side3 => repeat (first | exact (MR.R_reads' HO163.out).2.2 | (with_reducible refine Kd.C_alloc ?_ _) | (with_reducible refine Kd.C_drewN ?_ _) | (with_reducible refine Kd.C_drew ?_))); (case side4 => exact (MR.R_reads' HO163.out).2.1); rintro e w' ⟨rfl, ⟨nd, rfl⟩⟩; refine ⟨_, rfl, ?_⟩))
      go_ret
      exact ⟨by first | rfl | (simp [errW_none, errW_some] <;> rfl) | (simp [*, errW_none, errW_some] <;> rfl), by repeat (first | (with_reducible first | exact HB.out | apply below_alloc | apply pw_below_drewN | apply below_drew1) | exact HB.out)⟩
     ·rw [if_neg c94] at H
      have c94b0 : ((Go.bits .or .u8 (rd l0 0) 32) == 104) = false := beq_eq_false_iff_ne.mpr c94
      have c94b1 : ((Go.bits .or .u8 (rd l0 0) 32) != 104) = true := bne_iff_ne.mpr c94
      by_cases c99 : (Go.bits .or .u8 (rd l0 0) 32) = 107
      ·rw [if_pos c99] at H
       have c99b0 : ((Go.bits .or .u8 (rd l0 0) 32) == 107) = true := beq_iff_eq.mpr c99
       have c99b1 : ((Go.bits .or .u8 (rd l0 0) 32) != 107) = false := bne_eq_false_iff_eq.mpr c99
       clear c99
       replace H := Option.bind_eq_some_iff.mp H
       obtain ⟨t165, A1000, H⟩ := H
       replace H : ((hertzutils_CaseInsensitiveCompare.f k l0 t165).bind fun t168 => (some t168)) = some r := H
       have A100 := Aside0.mk A1000
       clear A1000
       replace H := Option.bind_eq_some_iff.mp H
       obtain ⟨t168, A1010, H⟩ := H
       replace H : (some t168) = some r := H
       have A101 := Aside0.mk A1010
       clear A1010
       obtain rfl := Option.some.inj H
       have p103 : 0 ≤ (0 : Int) := (by omega)
       have q103 : 0 < (l0.length : Int) := of_decide_eq_true (by first | (with_reducible assumption) | assumption)
       obtain ⟨ad103, e103, hx103_0⟩ := Kd.at_int HR0.out 0 p103 q103
       cases e103
       have qi103 : (0 < l0.length) = True := eq_true (by omega)
       (try rw [show ((0 : Int)).toNat = 0 from rfl] at hx103_0)
       (try rw [Addr.add_zero'] at hx103_0)
       replace p103 := eq_true p103
       replace q103 := eq_true q103
       go_enter Try.func68, Try.ntmps68
       go_wp2_with (first | ((with_reducible refine gate_callee (f := 89) rfl ?_); refine goesL_ (some 66) rfl rfl Try.func89 (by kernel_rfl) rfl #[] rfl (by (try simp only [List.map_toArray, List.map_cons, List.map_nil]); first | done | rfl | (simp only [List.length_drop, List.length_take]; rfl)) ?_; (with_reducible refine (hertzstr_StrKeepAlive.calls  t165 _ A100.out).mono ?_); rintro e w102 ⟨v166, rfl, ho0, hb⟩; refine ⟨_, rfl, ?_⟩; have n0_ := Aside0.mk (MR.R_lower ho0 (below_size (by repeat (first | (with_reducible first | exact HB.out | apply below_alloc | apply pw_below_drewN | apply below_drew1) | exact HB.out)))); have n1_ := Aside0.mk (below_step (by repeat (first | (with_reducible first | exact HB.out | apply below_alloc | apply pw_below_drewN | apply below_drew1) | exact HB.out)) hb); clear HB; have HO167 := n0_; have HB := n1_; clear n0_ n1_; (try clear hb); (try clear hb2); (try clear hk); (try clear hi); (try clear ho0); obtain ⟨Ao103, co103, eo103⟩ := MR.R_slice HO167.out; subst eo103) | ((with_reducible refine gate_callee (f := 80) rfl ?_); refine goesL_ (some 67) rfl rfl Try.func80 (by kernel_rfl) rfl #[.slice (some ad103) l0.length c0, .slice Ao103 t165.length co103] rfl (by (try simp only [List.map_toArray, List.map_cons, List.map_nil]); first | done | rfl | (simp only [List.length_drop, List.length_take]; rfl)) ?_; (with_reducible refine (hertzutils_CaseInsensitiveCompare.calls k _ _ l0 _ _ t165 t168 _ ?side1 ?side2 ?side3 ?side4 A101.out).mono ?_); (case side1 => repeat (first | exact (Kd.C_below HR0.out HB.out) | (with_reducible refine Kd.C_alloc ?_ _) | (with_reducible refine Kd.C_drewN ?_ _) | (with_reducible refine Kd.C_drew ?_))); (case side2 => exact HC0.out); (case side3 => repeat (first | exact (MR.R_reads' HO167.out).2.2 | (with_reducible refine Kd.C_alloc ?_ _) | (with_reducible refine Kd.C_drewN ?_ _) | (with_reducible refine Kd.C_drew ?_))); (case side4 => exact (MR.R_reads' HO167.out).2.1); rintro e w' ⟨rfl, ⟨nd, rfl⟩⟩; refine ⟨_, rfl, ?_⟩))
       go_ret
       exact ⟨by first | rfl | (simp [errW_none, errW_some] <;> rfl) | (simp [*, errW_none, errW_some] <;> rfl), by repeat (first | (with_reducible first | exact HB.out | apply below_alloc | apply pw_below_drewN | apply below_drew1) | exact HB.out)⟩
      ·rw [if_neg c99] at H
       have c99b0 : ((Go.bits .or .u8 (rd l0 0) 32) == 107) = false := beq_eq_false_iff_ne.mpr c99
       have c99b1 : ((Go.bits .or .u8 (rd l0 0) 32) != 107) = true := bne_iff_ne.mpr c99
       by_cases c104 : (Go.bits .or .u8 (rd l0 0) 32) = 109
       ·rw [if_pos c104] at H
        have c104b0 : ((Go.bits .or .u8 (rd l0 0) 32) == 109) = true := beq_iff_eq.mpr c104
        have c104b1 : ((Go.bits .or .u8 (rd l0 0) 32) != 109) = false := bne_eq_false_iff_eq.mpr c104
        clear c104
        replace H := Option.bind_eq_some_iff.mp H
        obtain ⟨t169, A1050, H⟩ := H
        replace H : ((hertzutils_CaseInsensitiveCompare.f k l0 t169).bind fun t172 => (some t172)) = some r := H
        have A105 := Aside0.mk A1050
        clear A1050
        replace H := Option.bind_eq_some_iff.mp H
        obtain ⟨t172, A1060, H⟩ := H
        replace H : (some t172) = some r := H
        have A106 := Aside0.mk A1060
        clear A1060
        obtain rfl := Option.some.inj H
        have p103 : 0 ≤ (0 : Int) := (by omega)
        have q103 : 0 < (l0.length : Int) := of_decide_eq_true (by first | (with_reducible assumption) | assumption)
        obtain ⟨ad103, e103, hx103_0⟩ := Kd.at_int HR0.out 0 p103 q103
        cases e103
        have qi103 : (0 < l0.length) = True := eq_true (by omega)
        (try rw [show ((0 : Int)).toNat = 0 from rfl] at hx103_0)
        (try rw [Addr.add_zero'] at hx103_0)
        replace p103 := eq_true p103
        replace q103 := eq_true q103
        go_enter Try.func68, Try.ntmps68
        go_wp2_with (first | ((with_reducible refine gate_callee (f := 90) rfl ?_); refine goesL_ (some 71) rfl rfl Try.func90 (by kernel_rfl) rfl #[] rfl (by (try simp only [List.map_toArray, List.map_cons, List.map_nil]); first | done | rfl | (simp only [List.length_drop, List.length_take]; rfl)) ?_; (with_reducible refine (hertzstr_StrMaxForwards.calls  t169 _ A105.out).mono ?_); rintro e w107 ⟨v170, rfl, ho0, hb⟩; refine ⟨_, rfl, ?_⟩; have n0_ := Aside0.mk (MR.R_lower ho0 (below_size (by repeat (first | (with_reducible first | exact HB.out | apply below_alloc | apply pw_below_drewN | apply below_drew1) | exact HB.out)))); have n1_ := Aside0.mk (below_step (by repeat (first | (with_reducible first | exact HB.out | apply below_alloc | apply pw_below_drewN | apply below_drew1) | exact HB.out)) hb); clear HB; have HO171 := n0_; have HB := n1_; clear n0_ n1_; (try clear hb); (try clear hb2); (try clear hk); (try clear hi); (try clear ho0); obtain ⟨Ao108, co108, eo108⟩ := MR.R_slice HO171.out; subst eo108) | ((with_reducible refine gate_callee (f := 80) rfl ?_); refine goesL_ (some 72) rfl rfl Try.func80 (by kernel_rfl) rfl #[.slice (some ad103) l0.length c0, .slice Ao108 t169.length co108] rfl (by (try simp only [List.map_toArray, List.map_cons, List.map_nil]); first | done | rfl | (simp only [List.length_drop, List.length_take]; rfl)) ?_; (with_reducible refine (hertzutils_CaseInsensitiveCompare.calls k _ _ l0 _ _ t169 t172 _ ?side1 ?side2 ?side3 ?side4 A106.out).mono ?_); (case side1 => repeat (first | exact (Kd.C_below HR0.out HB.out) | (with_reducible refine Kd.C_alloc ?_ _) | (with_reducible refine Kd.C_drewN ?_ _) | (with_reducible refine Kd.C_drew ?_))); (case side2 => exact HC0.out); (case side3 => repeat (first | exact (MR.R_reads' HO171.out).2.2 | (with_reducible refine Kd.C_alloc ?_ _) | (with_reducible refine Kd.C_drewN ?_ _) | (with_reducible refine Kd.C_drew ?_))); (case side4 => exact (MR.R_reads' HO171.out).2.1); rintro e w' ⟨rfl, ⟨nd, rfl⟩⟩; refine ⟨_, rfl, ?_⟩))
        go_ret
        exact ⟨by first | rfl | (simp [errW_none, errW_some] <;> rfl) | (simp [*, errW_none, errW_some] <;> rfl), by repeat (first | (with_reducible first | exact HB.out | apply below_alloc | apply pw_below_drewN | apply below_drew1) | exact HB.out)⟩
       ·rw [if_neg c104] at H
        have c104b0 : ((Go.bits .or .u8 (rd l0 0) 32) == 109) = false := beq_eq_false_iff_ne.mpr c104
        have c104b1 : ((Go.bits .or .u8 (rd l0 0) 32) != 109) = true := bne_iff_ne.mpr c104
        by_cases c109 : (Go.bits .or .u8 (rd l0 0) 32) = 112
        ·exact hertzproto_IsBadTrailer.calls_1 k A0 c0 l0 r w HR0.out HC0.out c109 H00_.out
        ·rw [if_neg c109] at H
         have c109b0 : ((Go.bits .or .u8 (rd l0 0) 32) == 112) = false := beq_eq_false_iff_ne.mpr c109
         have c109b1 : ((Go.bits .or .u8 (rd l0 0) 32) != 112) = true := bne_iff_ne.mpr c109
         by_cases c164 : (Go.bits .or .u8 (rd l0 0) 32) = 114
         ·rw [if_pos c164] at H
          have c164b0 : ((Go.bits .or .u8 (rd l0 0) 32) == 114) = true := beq_iff_eq.mpr c164
          have c164b1 : ((Go.bits .or .u8 (rd l0 0) 32) != 114) = false := bne_eq_false_iff_eq.mpr c164
          clear c164
          replace H := Option.bind_eq_some_iff.mp H
          obtain ⟨t209, A1650, H⟩ := H
          replace H : ((hertzutils_CaseInsensitiveCompare.f k l0 t209).bind fun t212 => (some t212)) = some r := H
          have A165 := Aside0.mk A1650
          clear A1650
          replace H := Option.bind_eq_some_iff.mp H
          obtain ⟨t212, A1660, H⟩ := H
          replace H : (some t212) = some r := H
          have A166 := Aside0.mk A1660
          clear A1660
          obtain rfl := Option.some.inj H
          have p103 : 0 ≤ (0 : Int) := (by omega)
          have q103 : 0 < (l0.length : Int) := of_decide_eq_true (by first | (with_reducible assumption) | assumption)
          obtain ⟨ad103, e103, hx103_0⟩ := Kd.at_int HR0.out 0 p103 q103
          cases e103
          have qi103 : (0 < l0.length) = True := eq_true (by omega)
          (try rw [show ((0 : Int)).toNat = 0 from rfl] at hx103_0)
          (try rw [Addr.add_zero'] at hx103_0)
          replace p103 := eq_true p103
          replace q103 := eq_true q103
          go_enter Try.func68, Try.ntmps68
          go_wp2_with (first | ((with_reducible refine gate_callee (f := 94) rfl ?_); refine goesL_ (some 107) rfl rfl Try.func94 (by kernel_rfl) rfl #[] rfl (by (try simp only [List.map_toArray, List.map_cons, List.map_nil]); first | done | rfl | (simp only [List.length_drop, List.length_take]; rfl)) ?_; (with_reducible refine (hertzstr_StrRange.calls  t209 _ A165.out).mono ?_); rintro e w167 ⟨v210, rfl, ho0, hb⟩; refine ⟨_, rfl, ?_⟩; have n0_ := Aside0.mk (MR.R_lower ho0 (below_size (by repeat (first | (with_reducible first | exact HB.out | apply below_alloc | apply pw_below_drewN | apply below_drew1) | exact HB.out)))); have n1_ := Aside0.mk (below_step (by repeat (first | (with_reducible first | exact HB.out | apply below_alloc | apply pw_below_drewN | apply below_drew1) | exact HB.out)) hb); clear HB; have HO211 := n0_; have HB := n1_; clear n0_ n1_; (try clear hb); (try clear hb2); (try clear hk); (try clear hi); (try clear ho0); obtain ⟨Ao168, co168, eo168⟩ := MR.R_slice HO211.out; subst eo168) | ((with_reducible refine gate_callee (f := 80) rfl ?_); refine goesL_ (some 108) rfl rfl Try.func80 (by kernel_rfl) rfl #[.slice (some ad103) l0.length c0, .slice Ao168 t209.length co168] rfl (by (try simp only [List.map_toArray, List.map_cons, List.map_nil]); first | done | rfl | (simp only [List.length_drop, List.length_take]; rfl)) ?_; (with_reducible refine (hertzutils_CaseInsensitiveCompare.calls k _ _ l0 _ _ t209 t212 _ ?side1 ?side2 ?side3 ?side4 A166.out).mono ?_); (case side1 => repeat (first | exact (Kd.C_below HR0.out HB.out) | (with_reducible refine Kd.C_alloc ?_ _) | (with_reducible refine Kd.C_drewN ?_ _) | (with_reducible refine Kd.C_drew ?_))); (case side2 => exact HC0.out); (case side3 => repeat (first | exact (MR.R_reads' HO211.out).2.2 | (with_reducible refine Kd.C_alloc ?_ _) | (with_reducible refine Kd.C_drewN ?_ _) | (with_reducible refine Kd.C_drew ?_))); (case side4 => exact (MR.R_reads' HO211.out).2.1); rintro e w' ⟨rfl, ⟨nd, rfl⟩⟩; refine ⟨_, rfl, ?_⟩))
          go_ret
          exact ⟨by first | rfl | (simp [errW_none, errW_some] <;> rfl) | (simp [*, errW_none, errW_some] <;> rfl), by repeat (first | (with_reducible first | exact HB.out | apply below_alloc | apply pw_below_drewN | apply below_drew1) | exact HB.out)⟩
         ·rw [if_neg c164] at H
          have c164b0 : ((Go.bits .or .u8 (rd l0 0) 32) == 114) = false := beq_eq_false_iff_ne.mpr c164
          have c164b1 : ((Go.bits .or .u8 (rd l0 0) 32) != 114) = true := bne_iff_ne.mpr c164
          by_cases c169 : (Go.bits .or .u8 (rd l0 0) 32) = 116
          ·rw [if_pos c169] at H
           have c169b0 : ((Go.bits .or .u8 (rd l0 0) 32) == 116) = true := beq_iff_eq.mpr c169
           have c169b1 : ((Go.bits .or .u8 (rd l0 0) 32) != 116) = false := bne_eq_false_iff_eq.mpr c169
           clear c169
           replace H := Option.bind_eq_some_iff.mp H
           obtain ⟨t213, A1700, H⟩ := H
           replace H : ((hertzutils_CaseInsensitiveCompare.f k l0 t213).bind fun t216 => (if t216 = true then (some true) else ((hertzstr_StrTrailer.f).bind fun t217 => ((hertzutils_CaseInsensitiveCompare.f k l0 t217).bind fun t220 => (if t220 = true then (some true) else ((hertzstr_StrTransferEncoding.f).bind fun t221 => ((hertzutils_CaseInsensitiveCompare.f k l0 t221).bind fun t224 => (some t224)))))))) = some r := H
           have A170 := Aside0.mk A1700
           clear A1700
           replace H := Option.bind_eq_some_iff.mp H
           obtain ⟨t216, A1710, H⟩ := H
           replace H : (if t216 = true then (some true) else ((hertzstr_StrTrailer.f).bind fun t217 => ((hertzutils_CaseInsensitiveCompare.f k l0 t217).bind fun t220 => (if t220 = true then (some true) else ((hertzstr_StrTransferEncoding.f).bind fun t221 => ((hertzutils_CaseInsensitiveCompare.f k l0 t221).bind fun t224 => (some t224))))))) = some r := H
           have A171 := Aside0.mk A1710
           clear A1710
           by_cases c172 : t216 = true
           ·subst c172
            have H1 : (some true) = some r := by rw [if_pos rfl] at H; exact H
            clear H
            have H := H1
            clear H1
            obtain rfl := Option.some.inj H
            have p103 : 0 ≤ (0 : Int) := (by omega)
            have q103 : 0 < (l0.length : Int) := of_decide_eq_true (by first | (with_reducible assumption) | assumption)
            obtain ⟨ad103, e103, hx103_0⟩ := Kd.at_int HR0.out 0 p103 q103
            cases e103
            have qi103 : (0 < l0.length) = True := eq_true (by omega)
            (try rw [show ((0 : Int)).toNat = 0 from rfl] at hx103_0)
            (try rw [Addr.add_zero'] at hx103_0)
            replace p103 := eq_true p103
            replace q103 := eq_true q103
            go_enter Try.func68, Try.ntmps68
            go_wp2_with (first | ((with_reducible refine gate_callee (f := 95) rfl ?_); refine goesL_ (some 112) rfl rfl Try.func95 (by kernel_rfl) rfl #[] rfl (by (try simp only [List.map_toArray, List.map_cons, List.map_nil]); first | done | rfl | (simp only [List.length_drop, List.length_take]; rfl)) ?_; (with_reducible refine (hertzstr_StrTE.calls  t213 _ A170.out).mono ?_); rintro e w173 ⟨v214, rfl, ho0, hb⟩; refine ⟨_, rfl, ?_⟩; have n0_ := Aside0.mk (MR.R_lower ho0 (below_size (by repeat (first | (with_reducible first | exact HB.out | apply below_alloc | apply pw_below_drewN | apply below_drew1) | exact HB.out)))); have n1_ := Aside0.mk (below_step (by repeat (first | (with_reducible first | exact HB.out | apply below_alloc | apply pw_below_drewN | apply below_drew1) | exact HB.out)) hb); clear HB; have HO215 := n0_; have HB := n1_; clear n0_ n1_; (try clear hb); (try clear hb2); (try clear hk); (try clear hi); (try clear ho0); obtain ⟨Ao174, co174, eo174⟩ := MR.R_slice HO215.out; subst eo174) | ((with_reducible refine gate_callee (f := 80) rfl ?_); refine goesL_ (some 113) rfl rfl Try.func80 (by kernel_rfl) rfl #[.slice (some ad103) l0.length c0, .slice Ao174 t213.length co174] rfl (by (try simp only [List.map_toArray, List.map_cons, List.map_nil]); first | done | rfl | (simp only [List.length_drop, List.length_take]; rfl)) ?_; (with_reducible refine (hertzutils_CaseInsensitiveCompare.calls k _ _ l0 _ _ t213 true _ ?side1 ?side2 ?side3 ?side4 A171.out).mono ?_); (case side1 => repeat (first | exact (Kd.C_below HR0.out HB.out) | (with_reducible refine Kd.C_alloc ?_ _) | (with_reducible refine Kd.C_drewN ?_ _) | (with_reducible refine Kd.C_drew ?_))); (case side2 => exact HC0.out); (case side3 => repeat (first | exact (MR.R_reads' HO215.out).2.2 | (with_reducible refine Kd.C_alloc ?_ _) | (with_reducible refine Kd.C_drewN ?_ _) | (with_reducible refine Kd.C_drew ?_))); (case side4 => exact (MR.R_reads' HO215.out).2.1); rintro e w' ⟨rfl, ⟨nd, rfl⟩⟩; refine ⟨_, rfl, ?_⟩))
            go_ret
            exact ⟨by first | rfl | (simp [errW_none, errW_some] <;> rfl) | (simp [*, errW_none, errW_some] <;> rfl), by repeat (first | (with_reducible first | exact HB.out | apply below_alloc | apply pw_below_drewN | apply below_drew1) | exact HB.out)⟩
           ·replace c172 := Bool.eq_false_iff.mpr c172
            subst c172
            have H1 : ((hertzstr_StrTrailer.f).bind fun t217 => ((hertzutils_CaseInsensitiveCompare.f k l0 t217).bind fun t220 => (if t220 = true then (some true) else ((hertzstr_StrTransferEncoding.f).bind fun t221 => ((hertzutils_CaseInsensitiveCompare.f k l0 t221).bind fun t224 => (some t224)))))) = some r := by rw [if_neg (show ¬ (false = true) by decide)] at H; exact H
            clear H
            have H := H1
            clear H1
            replace H := Option.bind_eq_some_iff.mp H
            obtain ⟨t217, A1750, H⟩ := H
            replace H : ((hertzutils_CaseInsensitiveCompare.f k l0 t217).bind fun t220 => (if t220 = true then (some true) else ((hertzstr_StrTransferEncoding.f).bind fun t221 => ((hertzutils_CaseInsensitiveCompare.f k l0 t221).bind fun t224 => (some t224))))) = some r := H
            have A175 := Aside0.mk A1750
            clear A1750
            replace H := Option.bind_eq_some_iff.mp H
            obtain ⟨t220, A1760, H⟩ := H
            replace H : (if t220 = true then (some true) else ((hertzstr_StrTransferEncoding.f).bind fun t221 => ((hertzutils_CaseInsensitiveCompare.f k l0 t221).bind fun t224 => (some t224)))) = some r := H
            have A176 := Aside0.mk A1760
            clear A1760
            by_cases c177 : t220 = true
            ·subst c177
             have H1 : (some true) = some r := by rw [if_pos rfl] at H; exact H
             clear H
             have H := H1
             clear H1
             obtain rfl := Option.some.inj H
             have p103 : 0 ≤ (0 : Int) := (by omega)
             have q103 : 0 < (l0.length : Int) := of_decide_eq_true (by first | (with_reducible assumption) | assumption)
             obtain ⟨ad103, e103, hx103_0⟩ := Kd.at_int HR0.out 0 p103 q103
             cases e103
             have qi103 : (0 < l0.length) = True := eq_true (by omega)
             (try rw [show ((0 : Int)).toNat = 0 from rfl] at hx103_0)
             (try rw [Addr.add_zero'] at hx103_0)
             replace p103 := eq_true p103
             replace q103 := eq_true q103
             go_enter Try.func68, Try.ntmps68
             go_wp2_with (first | ((with_reducible refine gate_callee (f := 95) rfl ?_); refine goesL_ (some 112) rfl rfl Try.func95 (by kernel_rfl) rfl #[] rfl (by (try simp only [List.map_toArray, List.map_cons, List.map_nil]); first | done | rfl | (simp only [List.length_drop, List.length_take]; rfl)) ?_; (with_reducible refine (hertzstr_StrTE.calls  t213 _ A170.out).mono ?_); rintro e w178 ⟨v214, rfl, ho0, hb⟩; refine ⟨_, rfl, ?_⟩; have n0_ := Aside0.mk (MR.R_lower ho0 (below_size (by repeat (first | (with_reducible first | exact HB.out | apply below_alloc | apply pw_below_drewN | apply below_drew1) | exact HB.out)))); have n1_ := Aside0.mk (below_step (by repeat (first | (with_reducible first | exact HB.out | apply below_alloc | apply pw_below_drewN | apply below_drew1) | exact HB.out)) hb); clear HB; have HO215 := n0_; have HB := n1_; clear n0_ n1_; (try clear hb); (try clear hb2); (try clear hk); (try clear hi); (try clear ho0); obtain ⟨Ao179, co179, eo179⟩ := MR.R_slice HO215.out; subst eo179) | ((with_reducible refine gate_callee (f := 80) rfl ?_); refine goesL_ (some 113) rfl rfl Try.func80 (by kernel_rfl) rfl #[.slice (some ad103) l0.length c0, .slice Ao179 t213.length co179] rfl (by (try simp only [List.map_toArray, List.map_cons, List.map_nil]); first | done | rfl | (simp only [List.length_drop, List.length_take]; rfl)) ?_; (with_reducible refine (hertzutils_CaseInsensitiveCompare.calls k _ _ l0 _ _ t213 false _ ?side1 ?side2 ?side3 ?side4 A171.out).mono ?_); (case side1 => repeat (first | exact (Kd.C_below HR0.out HB.out) | (with_reducible refine Kd.C_alloc ?_ _) | (with_reducible refine Kd.C_drewN ?_ _) | (with_reducible refine Kd.C_drew ?_))); (case side2 => exact HC0.out); (case side3 => repeat (first | exact (MR.R_reads' HO215.out).2.2 | (with_reducible refine Kd.C_alloc ?_ _) | (with_reducible refine Kd.C_drewN ?_ _) | (with_reducible refine Kd.C_drew ?_))); (case side4 => exact (MR.R_reads' HO215.out).2.1); rintro e w' ⟨rfl, ⟨nd, rfl⟩⟩; refine ⟨_, rfl, ?_⟩) | (go_at_call 96; (with_reducible refine (hertzstr_StrTrailer.calls  t217 _ A175.out).mono ?_); rintro e w180 ⟨v218, rfl, ho0, hb⟩; have n0_ := Aside0.mk (MR.R_elder' (by (with_reducible repeat (first | apply MR.R_alloc | apply MR.R_drewN | apply MR.R_drew)); exact HO215.out) (MR.R_base ho0) hb); have n1_ := Aside0.mk (MR.R_lower (MR.R_new' ho0 (MR.R_lt (by (with_reducible repeat (first | apply MR.R_alloc | apply MR.R_drewN | apply MR.R_drew)); exact HO215.out))) (below_size (by repeat (first | (with_reducible first | exact HB.out | apply below_alloc | apply pw_below_drewN | apply below_drew1) | exact HB.out)))); have n2_ := Aside0.mk (below_step (by repeat (first | (with_reducible first | exact HB.out | apply below_alloc | apply pw_below_drewN | apply below_drew1) | exact HB.out)) hb); clear HO215; clear HB; have HO215 := n0_; have HO219 := n1_; have HB := n2_; clear n0_ n1_ n2_; (try clear hb); (try clear hb2); (try clear hk); (try clear hi); (try clear ho0); obtain ⟨Ao181, co181, eo181⟩ := MR.R_slice HO219.out; subst eo181) | (go_at_call 80; (with_reducible refine (hertzutils_CaseInsensitiveCompare.calls k _ _ l0 _ _ t217 true _ ?side1 ?side2 ?side3 ?side4 A176.out).mono ?_); (case side1 => repeat (first | exact (Kd.C_below HR0.out HB.out) | (with_reducible refine Kd.C_alloc ?_ _) | (with_reducible refine Kd.C_drewN ?_ _) | (with_reducible refine Kd.C_drew ?_))); (case side2 => exact HC0.out); (case side3 => repeat (first | exact (MR.R_reads' HO219.out).2.2 | (with_reducible refine Kd.C_alloc ?_ _) | (with_reducible refine Kd.C_drewN ?_ _) | (with_reducible refine Kd.C_drew ?_))); (case side4 => exact (MR.R_reads' HO219.out).2.1); rintro e w' ⟨rfl, ⟨nd, rfl⟩⟩))
             go_ret
             exact ⟨by first | rfl | (simp [errW_none, errW_some] <;> rfl) | (simp [*, errW_none, errW_some] <;> rfl), by repeat (first | (with_reducible first | exact HB.out | apply below_alloc | apply pw_below_drewN | apply below_drew1) | exact HB.out)⟩
            ·replace c177 := Bool.eq_false_iff.mpr c177
             subst c177
             have H1 : ((hertzstr_StrTransferEncoding.f).bind fun t221 => ((hertzutils_CaseInsensitiveCompare.f k l0 t221).bind fun t224 => (some t224))) = some r := by rw [if_neg (show ¬ (false = true) by decide)] at H; exact H
             clear H
             have H := H1
             clear H1
             replace H := Option.bind_eq_some_iff.mp H
             obtain ⟨t221, A1820, H⟩ := H
             replace H : ((hertzutils_CaseInsensitiveCompare.f k l0 t221).bind fun t224 => (some t224)) = some r := H
             have A182 := Aside0.mk A1820
             clear A1820
             replace H := Option.bind_eq_some_iff.mp H
             obtain ⟨t224, A1830, H⟩ := H
             replace H : (some t224) = some r := H
             have A183 := Aside0.mk A1830
             clear A1830
             obtain rfl := Option.some.inj H
             have p103 : 0 ≤ (0 : Int) := (by omega)
             have q103 : 0 < (l0.length : Int) := of_decide_eq_true (by first | (with_reducible assumption) | assumption)
             obtain ⟨ad103, e103, hx103_0⟩ := Kd.at_int HR0.out 0 p103 q103
             cases e103
             have qi103 : (0 < l0.length) = True := eq_true (by omega)
             (try rw [show ((0 : Int)).toNat = 0 from rfl] at hx103_0)
             (try rw [Addr.add_zero'] at hx103_0)
             replace p103 := eq_true p103
             replace q103 := eq_true q103
             go_enter Try.func68, Try.ntmps68
             go_wp2_with (first | ((with_reducible refine gate_callee (f := 95) rfl ?_); refine goesL_ (some 112) rfl rfl Try.func95 (by kernel_rfl) rfl #[] rfl (by (try simp only [List.map_toArray, List.map_cons, List.map_nil]); first | done | rfl | (simp only [List.length_drop, List.length_take]; rfl)) ?_; (with_reducible refine (hertzstr_StrTE.calls  t213 _ A170.out).mono ?_); rintro e w184 ⟨v214, rfl, ho0, hb⟩; refine ⟨_, rfl, ?_⟩; have n0_ := Aside0.mk (MR.R_lower ho0 (below_size (by repeat (first | (with_reducible first | exact HB.out | apply below_alloc | apply pw_below_drewN | apply below_drew1) | exact HB.out)))); have n1_ := Aside0.mk (below_step (by repeat (first | (with_reducible first | exact HB.out | apply below_alloc | apply pw_below_drewN | apply below_drew1) | exact HB.out)) hb); clear HB; have HO215 := n0_; have HB := n1_; clear n0_ n1_; (try clear hb); (try clear hb2); (try clear hk); (try clear hi); (try clear ho0); obtain ⟨Ao185, co185, eo185⟩ := MR.R_slice HO215.out; subst eo185) | ((with_reducible refine gate_callee (f := 80) rfl ?_); refine goesL_ (some 113) rfl rfl Try.func80 (by kernel_rfl) rfl #[.slice (some ad103) l0.length c0, .slice Ao185 t213.length co185] rfl (by (try simp only [List.map_toArray, List.map_cons, List.map_nil]); first | done | rfl | (simp only [List.length_drop, List.length_take]; rfl)) ?_; (with_reducible refine (hertzutils_CaseInsensitiveCompare.calls k _ _ l0 _ _ t213 false _ ?side1 ?side2 ?side3 ?side4 A171.out).mono ?_); (case side1 => repeat (first | exact (Kd.C_below HR0.out HB.out) | (with_reducible refine Kd.C_alloc ?_ _) | (with_reducible refine Kd.C_drewN ?_ _) | (with_reducible refine Kd.C_drew ?_))); (case side2 => exact HC0.out); (case side3 => repeat (first | exact (MR.R_reads' HO215.out).2.2 | (with_reducible refine Kd.C_alloc ?_ _) | (with_reducible refine Kd.C_drewN ?_ _) | (with_reducible refine Kd.C_drew ?_))); (case side4 => exact (MR.R_reads' HO215.out).2.1); rintro e w' ⟨rfl, ⟨nd, rfl⟩⟩; refine ⟨_, rfl, ?_⟩) | (go_at_call 96; (with_reducible refine (hertzstr_StrTrailer.calls  t217 _ A175.out).mono ?_); rintro e w186 ⟨v218, rfl, ho0, hb⟩; have n0_ := Aside0.mk (MR.R_elder' (by (with_reducible repeat (first | apply MR.R_alloc | apply MR.R_drewN | apply MR.R_drew)); exact HO215.out) (MR.R_base ho0) hb); have n1_ := Aside0.mk (MR.R_lower (MR.R_new' ho0 (MR.R_lt (by (with_reducible repeat (first | apply MR.R_alloc | apply MR.R_drewN | apply MR.R_drew)); exact HO215.out))) (below_size (by repeat (first | (with_reducible first | exact HB.out | apply below_alloc | apply pw_below_drewN | apply below_drew1) | exact HB.out)))); have n2_ := Aside0.mk (below_step (by repeat (first | (with_reducible first | exact HB.out | apply below_alloc | apply pw_below_drewN | apply below_drew1) | exact HB.out)) hb); clear HO215; clear HB; have HO215 := n0_; have HO219 := n1_; have HB := n2_; clear n0_ n1_ n2_; (try clear hb); (try clear hb2); (try clear hk); (try clear hi); (try clear ho0); obtain ⟨Ao187, co187, eo187⟩ := MR.R_slice HO219.out; subst eo187) | (go_at_call 80; (with_reducible refine (hertzutils_CaseInsensitiveCompare.calls k _ _ l0 _ _ t217 false _ ?side1 ?side2 ?side3 ?side4 A176.out).mono ?_); (case side1 => repeat (first | exact (Kd.C_below HR0.out HB.out) | (with_reducible refine Kd.C_alloc ?_ _) | (with_reducible refine Kd.C_drewN ?_ _) | (with_reducible refine Kd.C_drew ?_))); (case side2 => exact HC0.out); (case side3 => repeat (first | exact (MR.R_reads' HO219.out).2.2 | (with_reducible refine Kd.C_alloc ?_ _) | (with_reducible refine Kd.C_drewN ?_ _) | (with_reducible refine Kd.C_drew ?_))); (case side4 => exact (MR.R_reads' HO219.out).2.1); rintro e w' ⟨rfl, ⟨nd, rfl⟩⟩) | (go_at_call 97; (with_reducible refine (hertzstr_StrTransferEncoding.calls  t221 _ A182.out).mono ?_); rintro e w188 ⟨v222, rfl, ho0, hb⟩; have n0_ := Aside0.mk (MR.R_elder' (by (with_reducible repeat (first | apply MR.R_alloc | apply MR.R_drewN | apply MR.R_drew)); exact HO215.out) (MR.R_base ho0) hb); have n1_ := Aside0.mk (MR.R_elder' (by (with_reducible repeat (first | apply MR.R_alloc | apply MR.R_drewN | apply MR.R_drew)); exact HO219.out) (MR.R_base ho0) hb); have n2_ := Aside0.mk (MR.R_lower (MR.R_new' (MR.R_new' ho0 (MR.R_lt (by (with_reducible repeat (first | apply MR.R_alloc | apply MR.R_drewN | apply MR.R_drew)); exact HO215.out))) (MR.R_lt (by (with_reducible repeat (first | apply MR.R_alloc | apply MR.R_drewN | apply MR.R_drew)); exact HO219.out))) (below_size (by repeat (first | (with_reducible first | exact HB.out | apply below_alloc | apply pw_below_drewN | apply below_drew1) | exact HB.out)))); have n3_ := Aside0.mk (below_step (by repeat (first | (with_reducible first | exact HB.out | apply below_alloc | apply pw_below_drewN | apply below_drew1) | exact HB.out)) hb); clear HO215; clear HO219; clear HB; have HO215 := n0_; have HO219 := n1_; have HO223 := n2_; have HB := n3_; clear n0_ n1_ n2_ n3_; (try clear hb); (try clear hb2); (try clear hk); (try clear hi); (try clear ho0); obtain ⟨Ao189, co189, eo189⟩ := MR.R_slice HO223.out; subst eo189) | (go_at_call 80; (with_reducible refine (hertzutils_CaseInsensitiveCompare.calls k _ _ l0 _ _ t221 t224 _ ?side1 ?side2 ?side3 ?side4 A183.out).mono ?_); (case side1 => repeat (first | exact (Kd.C_below HR0.out HB.out) | (with_reducible refine Kd.C_alloc ?_ _) | (with_reducible refine Kd.C_drewN ?_ _) | (with_reducible refine Kd.C_drew ?_))); (case side2 => exact HC0.out); (case side3 => repeat (first | exact (MR.R_reads' HO223.out).2.2 | (with_reducible refine Kd.C_alloc ?_ _) | (with_reducible refine Kd.C_drewN ?_ _) | (with_reducible refine Kd.C_drew ?_))); (case side4 => exact (MR.R_reads' HO223.out).2.1); rintro e w' ⟨rfl, ⟨nd, rfl⟩⟩))
             go_ret
             exact ⟨by first | rfl | (simp [errW_none, errW_some] <;> rfl) | (simp [*, errW_none, errW_some] <;> rfl), by repeat (first | (with_reducible first | exact HB.out | apply below_alloc | apply pw_below_drewN | apply below_drew1) | exact HB.out)⟩
          ·rw [if_neg c169] at H
           have c169b0 : ((Go.bits .or .u8 (rd l0 0) 32) == 116) = false := beq_eq_false_iff_ne.mpr c169
           have c169b1 : ((Go.bits .or .u8 (rd l0 0) 32) != 116) = true := bne_iff_ne.mpr c169
           by_cases c190 : (Go.bits .or .u8 (rd l0 0) 32) = 119
           ·rw [if_pos c190] at H
            have c190b0 : ((Go.bits .or .u8 (rd l0 0) 32) == 119) = true := beq_iff_eq.mpr c190
            have c190b1 : ((Go.bits .or .u8 (rd l0 0) 32) != 119) = false := bne_eq_false_iff_eq.mpr c190
            clear c190
            replace H := Option.bind_eq_some_iff.mp H
            obtain ⟨t225, A1910, H⟩ := H
            replace H : ((hertzutils_CaseInsensitiveCompare.f k l0 t225).bind fun t228 => (some t228)) = some r := H
            have A191 := Aside0.mk A1910
            clear A1910
            replace H := Option.bind_eq_some_iff.mp H
            obtain ⟨t228, A1920, H⟩ := H
            replace H : (some t228) = some r := H
            have A192 := Aside0.mk A1920
            clear A1920
            obtain rfl := Option.some.inj H
            have p103 : 0 ≤ (0 : Int) := (by omega)
            have q103 : 0 < (l0.length : Int) := of_decide_eq_true (by first | (with_reducible assumption) | assumption)
            obtain ⟨ad103, e103, hx103_0⟩ := Kd.at_int HR0.out 0 p103 q103
            cases e103
            have qi103 : (0 < l0.length) = True := eq_true (by omega)
            (try rw [show ((0 : Int)).toNat = 0 from rfl] at hx103_0)
            (try rw [Addr.add_zero'] at hx103_0)
            replace p103 := eq_true p103
            replace q103 := eq_true q103
            go_enter Try.func68, Try.ntmps68
            go_wp2_with (first | ((with_reducible refine gate_callee (f := 98) rfl ?_); refine goesL_ (some 127) rfl rfl Try.func98 (by kernel_rfl) rfl #[] rfl (by (try simp only [List.map_toArray, List.map_cons, List.map_nil]); first | done | rfl | (simp only [List.length_drop, List.length_take]; rfl)) ?_; (with_reducible refine (hertzstr_StrWWWAuthenticate.calls  t225 _ A191.out).mono ?_); rintro e w193 ⟨v226, rfl, ho0, hb⟩; refine ⟨_, rfl, ?_⟩; have n0_ := Aside0.mk (MR.R_lower ho0 (below_size (by repeat (first | (with_reducible first | exact HB.out | apply below_alloc | apply pw_below_drewN | apply below_drew1) | exact HB.out)))); have n1_ := Aside0.mk (below_step (by repeat (first | (with_reducible first | exact HB.out | apply below_alloc | apply pw_below_drewN | apply below_drew1) | exact HB.out)) hb); clear HB; have HO227 := n0_; have HB := n1_; clear n0_ n1_; (try clear hb); (try clear hb2); (try clear hk); (try clear hi); (try clear ho0); obtain ⟨Ao194, co194, eo194⟩ := MR.R_slice HO227.out; subst eo194) | ((with_reducible refine gate_callee (f := 80) rfl ?_); refine goesL_ (some 128) rfl rfl Try.func80 (by kernel_rfl) rfl #[.slice (some ad103) l0.length c0, .slice Ao194 t225.length co194] rfl (by (try simp only [List.map_toArray, List.map_cons, List.map_nil]); first | done | rfl | (simp only [List.length_drop, List.length_take]; rfl)) ?_; (with_reducible refine (hertzutils_CaseInsensitiveCompare.calls k _ _ l0 _ _ t225 t228 _ ?side1 ?side2 ?side3 ?side4 A192.out).mono ?_); (case side1 => repeat (first | exact (Kd.C_below HR0.out HB.out) | (with_reducible refine Kd.C_alloc ?_ _) | (with_reducible refine Kd.C_drewN ?_ _) | (with_reducible refine Kd.C_drew ?_))); (case side2 => exact HC0.out); (case side3 => repeat (first | exact (MR.R_reads' HO227.out).2.2 | (with_reducible refine Kd.C_alloc ?_ _) | (with_reducible refine Kd.C_drewN ?_ _) | (with_reducible refine Kd.C_drew ?_))); (case side4 => exact (MR.R_reads' HO227.out).2.1); rintro e w' ⟨rfl, ⟨nd, rfl⟩⟩; refine ⟨_, rfl, ?_⟩))
            go_ret
            exact ⟨by first | rfl | (simp [errW_none, errW_some] <;> rfl) | (simp [*, errW_none, errW_some] <;> rfl), by repeat (first | (with_reducible first | exact HB.out | apply below_alloc | apply pw_below_drewN | apply below_drew1) | exact HB.out)⟩
           ·rw [if_neg c190] at H
            have c190b0 : ((Go.bits .or .u8 (rd l0 0) 32) == 119) = false := beq_eq_false_iff_ne.mpr c190
            have c190b1 : ((Go.bits .or .u8 (rd l0 0) 32) != 119) = true := bne_iff_ne.mpr c190
            obtain rfl := Option.some.inj H
            have p103 : 0 ≤ (0 : Int) := (by omega)
            have q103 : 0 < (l0.length : Int) := of_decide_eq_true (by first | (with_reducible assumption) | assumption)
            obtain ⟨ad103, e103, hx103_0⟩ := Kd.at_int HR0.out 0 p103 q103
            cases e103
            have qi103 : (0 < l0.length) = True := eq_true (by omega)
            (try rw [show ((0 : Int)).toNat = 0 from rfl] at hx103_0)
            (try rw [Addr.add_zero'] at hx103_0)
            replace p103 := eq_true p103
            replace q103 := eq_true q103
            go_enter Try.func68, Try.ntmps68
            go_wp2
            go_ret
            exact ⟨by first | rfl | (simp [errW_none, errW_some] <;> rfl) | (simp [*, errW_none, errW_some] <;> rfl), by repeat (first | (with_reducible first | exact HB.out | apply below_alloc | apply pw_below_drewN | apply below_drew1) | exact HB.out)⟩
 ·rw [if_neg c2] at H
  exact absurd H (by simp)
end Go.Proofs.Ytoimkmoalmmooaa.QA
set_option linter.unusedVariables false
set_option linter.unusedSimpArgs false
namespace Go.Proofs.Ytoimkmoalmmooaa.Own
open Go.RowKit Go.Proofs.YtoimkmoalmmooaaW.PrintWords Go.Proofs.YtoimkmoalmmooaaW.PrintLast Go.Proofs.YtoimkmoalmmooaaW.PrintMore Go.Proofs.Ytoimkmoalmmooaa.Base Go.Proofs.Ytoimkmoalmmooaa.Gv Go.Proofs.Ytoimkmoalmmooaa.QA Go.Proofs.Ytoimkmoalmmooaa.Given
def TrC (l : Nat → Nat) (w : World) (q p : Nat) (V : Value) (n : Nat) (S : List Slot) (kv : Value) (kx : List Int) (vv : Value) (vx : List Int) (dn : Bool) : Prop :=
  0 < q ∧ q + 3 < 64 ∧ Cl l w q p 58 #[V, kv, vv, .bool false, .bool dn] ∧ KvS l w (q + 3) V n S ∧ Bf l w (q + 1) kv kx ∧ Bf l w (q + 2) vv vx
def Tz (q : Nat) : Nat → Prop := fun lab => lab = q ∨ lab = q + 1 ∨ lab = q + 2 ∨ lab % 64 = q + 3
def badK (xs : List Int) : Bool := badM (xs.map o32)
theorem isBad_calls (W : World) (A : Option Addr) (c : Nat) (xs : List Int) (hx : ReadsInt W .u8 A xs.length xs) (hc : xs.length ≤ c) (h0 : 0 < xs.length) (hl : xs.length ≤ 140737488351232) :
    Calls Try.prog 68 #[.slice A xs.length c] W fun e w' => e = .returned (.bool (badK xs)) ∧ Below W.heap.size W w' := by
  obtain ⟨k, hk⟩ := bad_ends xs h0 hl
  exact hertzproto_IsBadTrailer.calls k A c xs (badK xs) W (Kd.C_of_reads (d := (0 : Int)) (h1 := fun _ => rfl) hx) hc (hk k (Nat.le_refl _))
theorem KvS.shape {l : Nat → Nat} {w : World} {z n : Nat} {V : Value} {S : List Slot} (h : KvS l w z V n S) : ∃ A c, V = .slice A n c := by
  obtain ⟨_, _, ⟨rfl, _, rfl⟩ | ⟨a0, rfl, _⟩⟩ := h
  · exact ⟨none, 0, rfl⟩
  · exact ⟨_, _, rfl⟩
theorem TrC.keep {l l1 : Nat → Nat} {w w1 : World} {q p n : Nat} {V kv vv : Value} {S : List Slot} {kx vx : List Int} {dn : Bool} {F : Nat → Prop} (h : TrC l w q p V n S kv kx vv vx dn) (s : Stp F l l1 w w1) (hF : ∀ lab, F lab → ¬ Tz q lab) : TrC l1 w1 q p V n S kv kx vv vx dn := by
  obtain ⟨h1, h2, h3, h4, h5, h6⟩ := h
  exact ⟨h1, h2, h3.keep s (fun k => hF _ k (.inl rfl)), h4.keep s (fun lab k e => hF lab k (.inr (.inr (.inr e)))), h5.keep s (fun k => hF _ k (.inr (.inl rfl))), h6.keep s (fun k => hF _ k (.inr (.inr (.inl rfl))))⟩
theorem TrC.c0 {l : Nat → Nat} {w : World} {q p n : Nat} {V kv vv : Value} {S : List Slot} {kx vx : List Int} {dn : Bool} (h : TrC l w q p V n S kv kx vv vx dn) : w.cell? ⟨p, 0, none⟩ = some V ∧ w.frozen? ⟨p, 0, none⟩ = false := ⟨by rw [h.2.2.1.cell]; rfl, h.2.2.1.free 0⟩
theorem TrC.c1 {l : Nat → Nat} {w : World} {q p n : Nat} {V kv vv : Value} {S : List Slot} {kx vx : List Int} {dn : Bool} (h : TrC l w q p V n S kv kx vv vx dn) : w.cell? ⟨p, 1, none⟩ = some kv ∧ w.frozen? ⟨p, 1, none⟩ = false := ⟨by rw [h.2.2.1.cell]; rfl, h.2.2.1.free 1⟩
theorem TrC.c2 {l : Nat → Nat} {w : World} {q p n : Nat} {V kv vv : Value} {S : List Slot} {kx vx : List Int} {dn : Bool} (h : TrC l w q p V n S kv kx vv vx dn) : w.cell? ⟨p, 2, none⟩ = some vv ∧ w.frozen? ⟨p, 2, none⟩ = false := ⟨by rw [h.2.2.1.cell]; rfl, h.2.2.1.free 2⟩
theorem TrC.c4 {l : Nat → Nat} {w : World} {q p n : Nat} {V kv vv : Value} {S : List Slot} {kx vx : List Int} {dn : Bool} (h : TrC l w q p V n S kv kx vv vx dn) : w.cell? ⟨p, 4, none⟩ = some (.bool dn) ∧ w.frozen? ⟨p, 4, none⟩ = false := ⟨by rw [h.2.2.1.cell]; rfl, h.2.2.1.free 4⟩
theorem TrC.list {l l1 : Nat → Nat} {w w1 : World} {q p n n1 : Nat} {V kv vv V1 : Value} {S S1 : List Slot} {kx vx : List Int} {dn : Bool} (h : TrC l w q p V n S kv kx vv vx dn) (st : Stp (Zn (q + 3)) l l1 w w1) (hk : KvS l1 w1 (q + 3) V1 n1 S1) :
    (w1.cell? ⟨p, 0, none⟩ = some V ∧ w1.frozen? ⟨p, 0, none⟩ = false) ∧ TrC l1 (w1.setCell ⟨p, 0, none⟩ V1) q p V1 n1 S1 kv kx vv vx dn ∧ Stp (Tz q) l l1 w (w1.setCell ⟨p, 0, none⟩ V1) := by
  obtain ⟨h1, h2, h3, h4, h5, h6⟩ := h
  have e0 : ¬ Zn (q + 3) q := by unfold Zn; omega
  have e1 : ¬ Zn (q + 3) (q + 1) := by unfold Zn; omega
  have e2 : ¬ Zn (q + 3) (q + 2) := by unfold Zn; omega
  have k3 := h3.keep st e0
  obtain ⟨k4, s4⟩ := k3.set 0 V1
  refine ⟨⟨by rw [k3.cell]; rfl, k3.free 0⟩, ⟨h1, h2, k4, hk.keep s4 (fun lab e => by omega), (h5.keep st e1).keep s4 (by omega), (h6.keep st e2).keep s4 (by omega)⟩, (st.mono (fun x e => .inr (.inr (.inr e)))).trans (s4.mono (fun x e => .inl e))⟩
set_option maxHeartbeats 1000000 in
set_option maxRecDepth 100000 in
theorem tSetB_calls (l : Nat → Nat) (w : World) (q p n : Nat) (V kv vv : Value) (S : List Slot) (kx vx : List Int) (dn : Bool) (h : TrC l w q p V n S kv kx vv vx dn) (hn : n ≤ 1099511627775)
    (A : Option Addr) (c : Nat) (K : List Int) (hK0 : 0 < K.length) (hks : K.length ≤ 140737488351232) (hkc : K.length ≤ c) (hk : Src (Zn (q + 3)) l w A K.length K) (B : Option Addr) (m' c' : Nat) (X : List Int) (hvs : m' ≤ 140737488355328) (hv : Src (Zn (q + 3)) l w B m' X) :
    Calls Try.prog 58 #[.pointer (some ⟨p, 0, none⟩), .slice A K.length c, .slice B m' c', .bool false] w fun e w' => ∃ l1 V1 n1 S1, TrC l1 w' q p V1 n1 S1 kv kx vv vx dn ∧ n1 ≤ n + 1 ∧ Stp (Tz q) l l1 w w' ∧
      (if badK K = true then (∃ u x, e = .returned (.iface u x)) ∧ kvs S1 n1 = kvs S n else e = .returned .nilIface ∧ kvs S1 n1 = setKV K X (kvs S n)) := by
  have HB := Lib.hid (isBad_calls w A c K hk.now hkc hK0 hks)
  have HT := Lib.hid h
  have HSK := Lib.hid hk
  have HSV := Lib.hid hv
  obtain ⟨b, hb⟩ : ∃ b, badK K = b := ⟨_, rfl⟩
  rw [hb] at HB ⊢
  have HKS := Lib.hid hkc
  have HKL := Lib.hid hks
  obtain ⟨A0, c0, rfl⟩ := h.2.2.2.1.shape
  obtain ⟨N, hN⟩ : ∃ N, K.length = N := ⟨_, rfl⟩
  rw [hN] at HB ⊢
  have HN := Lib.hid hN
  clear h hk hv hb hK0 hks hkc hN
  cases b with
  | true =>
    go_enter Try.func58, Try.ntmps58
    go_wp2_with (first
      | (go_at_call 68; refine HB.out.mono ?_; rintro e w1 ⟨rfl, hb1⟩; have B1 := Lib.hid hb1; clear hb1)
      | (go_at_call 69; refine (errNew_calls _ _).mono ?_; rintro e w2 ⟨hb2, u, x, rfl⟩; have B2 := Lib.hid hb2; clear hb2))
    go_ret
    have st1 := Stp.of_below_same B1.out (fun _ => False) l
    have st2 := Stp.of_below_same B2.out (fun _ => False) l
    have st := st1.trans st2
    exact ⟨l, _, n, S, HT.out.keep st (fun _ k => k.elim), by omega, st.mono (fun _ k => k.elim), by first | exact ⟨⟨_, _, rfl⟩, rfl⟩ | (rw [if_pos rfl]; exact ⟨⟨_, _, rfl⟩, rfl⟩)⟩
  | false =>
    go_enter Try.func58, Try.ntmps58
    go_wp2_with (first
      | (go_at_call 68
         refine HB.out.mono ?_
         rintro e w1 ⟨rfl, hb1⟩
         have st1 := Stp.of_below_same hb1 (fun _ => False) l
         have hT1 := HT.out.keep st1 (fun _ k => k.elim)
         obtain ⟨x0, _⟩ := hT1.c0
         have T1 := Lib.hid hT1
         have S1 := Lib.hid st1
         clear hb1 st1 hT1)
      | (go_at_call 73
         have q_ := setArgBytes_calls l w1 (q + 3) n _ S T1.out.2.2.2.1 hn A c K (by have := HKL.out; omega) HKS.out (HSK.out.step (S1.out.mono (fun _ k => k.elim))) B m' c' X hvs (HSV.out.step (S1.out.mono (fun _ k => k.elim)))
         rw [HN.out] at q_
         refine q_.mono ?_
         rintro e w2 ⟨l2, V2, n2, S2, rfl, k1, k2, k3, k4⟩
         obtain ⟨A2, c2, rfl⟩ := k1.shape
         obtain ⟨⟨y0, g0⟩, k5, k6⟩ := T1.out.list k4 k1
         have K5 := Lib.hid k5
         have K6 := Lib.hid k6
         have K2 := Lib.hid k2
         have K3 := Lib.hid k3
         clear k1 k2 k3 k4 k5 k6))
    go_ret
    exact ⟨_, _, _, _, K5.out, K2.out, (S1.out.mono (fun _ k => k.elim)).trans K6.out, by first | exact ⟨rfl, K3.out⟩ | (rw [if_neg (by decide)]; exact ⟨rfl, K3.out⟩)⟩
set_option maxHeartbeats 1000000 in
set_option maxRecDepth 100000 in
theorem tAddB_calls (l : Nat → Nat) (w : World) (q p n : Nat) (V kv vv : Value) (S : List Slot) (kx vx : List Int) (dn : Bool) (h : TrC l w q p V n S kv kx vv vx dn) (hn : n ≤ 1099511627775)
    (A : Option Addr) (c : Nat) (K : List Int) (hK0 : 0 < K.length) (hks : K.length ≤ 140737488351232) (hkc : K.length ≤ c) (hk : Src (Zn (q + 3)) l w A K.length K) (B : Option Addr) (m' c' : Nat) (X : List Int) (hvs : m' ≤ 140737488355328) (hv : Src (Zn (q + 3)) l w B m' X) :
    Calls Try.prog 59 #[.pointer (some ⟨p, 0, none⟩), .slice A K.length c, .slice B m' c', .bool false] w fun e w' => ∃ l1 V1 n1 S1, TrC l1 w' q p V1 n1 S1 kv kx vv vx dn ∧ n1 ≤ n + 1 ∧ Stp (Tz q) l l1 w w' ∧
      (if badK K = true then (∃ u x, e = .returned (.iface u x)) ∧ kvs S1 n1 = kvs S n else e = .returned .nilIface ∧ kvs S1 n1 = kvs S n ++ [⟨K, X, false⟩]) := by
  have HB := Lib.hid (isBad_calls w A c K hk.now hkc hK0 hks)
  have HT := Lib.hid h
  have HSK := Lib.hid hk
  have HSV := Lib.hid hv
  obtain ⟨b, hb⟩ : ∃ b, badK K = b := ⟨_, rfl⟩
  rw [hb] at HB ⊢
  have HKS := Lib.hid hkc
  have HKL := Lib.hid hks
  obtain ⟨A0, c0, rfl⟩ := h.2.2.2.1.shape
  obtain ⟨N, hN⟩ : ∃ N, K.length = N := ⟨_, rfl⟩
  rw [hN] at HB ⊢
  have HN := Lib.hid hN
  clear h hk hv hb hK0 hks hkc hN
  cases b with
  | true =>
    go_enter Try.func59, Try.ntmps59
    go_wp2_with (first
      | (go_at_call 68; refine HB.out.mono ?_; rintro e w1 ⟨rfl, hb1⟩; have B1 := Lib.hid hb1; clear hb1)
      | (go_at_call 69; refine (errNew_calls _ _).mono ?_; rintro e w2 ⟨hb2, u, x, rfl⟩; have B2 := Lib.hid hb2; clear hb2))
    go_ret
    have st1 := Stp.of_below_same B1.out (fun _ => False) l
    have st2 := Stp.of_below_same B2.out (fun _ => False) l
    have st := st1.trans st2
    exact ⟨l, _, n, S, HT.out.keep st (fun _ k => k.elim), by omega, st.mono (fun _ k => k.elim), by first | exact ⟨⟨_, _, rfl⟩, rfl⟩ | (rw [if_pos rfl]; exact ⟨⟨_, _, rfl⟩, rfl⟩)⟩
  | false =>
    go_enter Try.func59, Try.ntmps59
    go_wp2_with (first
      | (go_at_call 68
         refine HB.out.mono ?_
         rintro e w1 ⟨rfl, hb1⟩
         have st1 := Stp.of_below_same hb1 (fun _ => False) l
         have hT1 := HT.out.keep st1 (fun _ k => k.elim)
         obtain ⟨x0, _⟩ := hT1.c0
         have T1 := Lib.hid hT1
         have S1 := Lib.hid st1
         clear hb1 st1 hT1)
      | (go_at_call 74
         have q_ := appendArgBytes_false l w1 (q + 3) n _ S T1.out.2.2.2.1 hn A K.length c K (by have := HKL.out; omega) (HSK.out.step (S1.out.mono (fun _ k => k.elim))) B m' c' X hvs (HSV.out.step (S1.out.mono (fun _ k => k.elim)))
         rw [HN.out] at q_
         refine q_.mono ?_
         rintro e w2 ⟨l2, V2, S2, rfl, k1, k3, k4⟩
         obtain ⟨A2, c2, rfl⟩ := k1.shape
         obtain ⟨⟨y0, g0⟩, k5, k6⟩ := T1.out.list k4 k1
         have K5 := Lib.hid k5
         have K6 := Lib.hid k6
         have K2 := Lib.hid (Nat.le_refl (n + 1))
         have K3 := Lib.hid k3
         clear k1 k3 k4 k5 k6))
    go_ret
    exact ⟨_, _, _, _, K5.out, K2.out, (S1.out.mono (fun _ k => k.elim)).trans K6.out, by first | exact ⟨rfl, K3.out⟩ | (rw [if_neg (by decide)]; exact ⟨rfl, K3.out⟩)⟩
set_option maxHeartbeats 1000000 in
set_option maxRecDepth 100000 in
theorem tUpd_calls (l : Nat → Nat) (w : World) (q p n : Nat) (V kv vv : Value) (S : List Slot) (kx vx : List Int) (dn : Bool) (h : TrC l w q p V n S kv kx vv vx dn) (hn : n ≤ 1099511627775)
    (A : Option Addr) (c : Nat) (K : List Int) (hK0 : 0 < K.length) (hks : K.length ≤ 140737488351232) (hkc : K.length ≤ c) (hk : Src (Zn (q + 3)) l w A K.length K) (B : Option Addr) (m' c' : Nat) (X : List Int) (hvs : m' ≤ 140737488355328) (hv : Src (Zn (q + 3)) l w B m' X) :
    Calls Try.prog 50 #[.pointer (some ⟨p, 0, none⟩), .slice A K.length c, .slice B m' c'] w fun e w' => ∃ l1 V1 n1 S1, TrC l1 w' q p V1 n1 S1 kv kx vv vx dn ∧ n1 ≤ n + 1 ∧ Stp (Tz q) l l1 w w' ∧
      (if badK K = true then (∃ u x, e = .returned (.iface u x)) ∧ kvs S1 n1 = kvs S n else e = .returned .nilIface ∧ kvs S1 n1 = updKV K X (kvs S n)) := by
  have HB := Lib.hid (isBad_calls w A c K hk.now hkc hK0 hks)
  have HT := Lib.hid h
  have HSK := Lib.hid hk
  have HSV := Lib.hid hv
  obtain ⟨b, hb⟩ : ∃ b, badK K = b := ⟨_, rfl⟩
  rw [hb] at HB ⊢
  have HKS := Lib.hid hkc
  have HKL := Lib.hid hks
  obtain ⟨A0, c0, rfl⟩ := h.2.2.2.1.shape
  obtain ⟨N, hN⟩ : ∃ N, K.length = N := ⟨_, rfl⟩
  rw [hN] at HB ⊢
  have HN := Lib.hid hN
  clear h hk hv hb hK0 hks hkc hN
  cases b with
  | true =>
    go_enter Try.func50, Try.ntmps50
    go_wp2_with (first
      | (go_at_call 68; refine HB.out.mono ?_; rintro e w1 ⟨rfl, hb1⟩; have B1 := Lib.hid hb1; clear hb1)
      | (go_at_call 69; refine (errNew_calls _ _).mono ?_; rintro e w2 ⟨hb2, u, x, rfl⟩; have B2 := Lib.hid hb2; clear hb2))
    go_ret
    have st1 := Stp.of_below_same B1.out (fun _ => False) l
    have st2 := Stp.of_below_same B2.out (fun _ => False) l
    have st := st1.trans st2
    exact ⟨l, _, n, S, HT.out.keep st (fun _ k => k.elim), by omega, st.mono (fun _ k => k.elim), by first | exact ⟨⟨_, _, rfl⟩, rfl⟩ | (rw [if_pos rfl]; exact ⟨⟨_, _, rfl⟩, rfl⟩)⟩
  | false =>
    go_enter Try.func50, Try.ntmps50
    go_wp2_with (first
      | (go_at_call 68
         refine HB.out.mono ?_
         rintro e w1 ⟨rfl, hb1⟩
         have st1 := Stp.of_below_same hb1 (fun _ => False) l
         have hT1 := HT.out.keep st1 (fun _ k => k.elim)
         obtain ⟨x0, _⟩ := hT1.c0
         have T1 := Lib.hid hT1
         have S1 := Lib.hid st1
         clear hb1 st1 hT1)
      | (go_at_call 70
         have q_ := updateArgBytes_calls l w1 (q + 3) n _ S T1.out.2.2.2.1 hn A c K (by have := HKL.out; omega) HKS.out (HSK.out.step (S1.out.mono (fun _ k => k.elim))) B m' c' X hvs (HSV.out.step (S1.out.mono (fun _ k => k.elim)))
         rw [HN.out] at q_
         refine q_.mono ?_
         rintro e w2 ⟨l2, V2, S2, rfl, k1, k3, k4⟩
         obtain ⟨A2, c2, rfl⟩ := k1.shape
         obtain ⟨⟨y0, g0⟩, k5, k6⟩ := T1.out.list k4 k1
         have K5 := Lib.hid k5
         have K6 := Lib.hid k6
         have K2 := Lib.hid (Nat.le_succ n)
         have K3 := Lib.hid k3
         clear k1 k3 k4 k5 k6))
    go_ret
    exact ⟨_, _, _, _, K5.out, K2.out, (S1.out.mono (fun _ k => k.elim)).trans K6.out, by first | exact ⟨rfl, K3.out⟩ | (rw [if_neg (by decide)]; exact ⟨rfl, K3.out⟩)⟩
end Go.Proofs.Ytoimkmoalmmooaa.Own
set_option linter.unusedVariables false
set_option linter.unusedSimpArgs false
namespace Go.Proofs.Ytoimkmoalmmooaa.Own
open Go.RowKit Go.Proofs.YtoimkmoalmmooaaW.PrintWords Go.Proofs.YtoimkmoalmmooaaW.PrintLast Go.Proofs.YtoimkmoalmmooaaW.PrintMore Go.Proofs.Ytoimkmoalmmooaa.Base Go.Proofs.Ytoimkmoalmmooaa.Gv Go.Proofs.Ytoimkmoalmmooaa.QA Go.Proofs.Ytoimkmoalmmooaa.Given
set_option maxHeartbeats 1000000 in
set_option maxRecDepth 100000 in
theorem tAddN_calls (l : Nat → Nat) (w : World) (q p n : Nat) (V kv vv : Value) (S : List Slot) (kx vx : List Int) (dn : Bool) (h : TrC l w q p V n S kv kx vv vx dn) (hn : n ≤ 1099511627775)
    (A : Option Addr) (c : Nat) (K : List Int) (hK0 : 0 < K.length) (hks : K.length ≤ 140737488351232) (hkc : K.length ≤ c) (hk : Src (Zn (q + 3)) l w A K.length K) :
    Calls Try.prog 59 #[.pointer (some ⟨p, 0, none⟩), .slice A K.length c, .slice none 0 0, .bool true] w fun e w' => ∃ l1 V1 n1 S1, TrC l1 w' q p V1 n1 S1 kv kx vv vx dn ∧ n1 ≤ n + 1 ∧ Stp (Tz q) l l1 w w' ∧
      (if badK K = true then (∃ u x, e = .returned (.iface u x)) ∧ kvs S1 n1 = kvs S n else e = .returned .nilIface ∧ kvs S1 n1 = kvs S n ++ [⟨K, [], true⟩]) := by
  have HB := Lib.hid (isBad_calls w A c K hk.now hkc hK0 hks)
  have HT := Lib.hid h
  have HSK := Lib.hid hk
  obtain ⟨b, hb⟩ : ∃ b, badK K = b := ⟨_, rfl⟩
  rw [hb] at HB ⊢
  have HKS := Lib.hid hkc
  have HKL := Lib.hid hks
  obtain ⟨A0, c0, rfl⟩ := h.2.2.2.1.shape
  obtain ⟨N, hN⟩ : ∃ N, K.length = N := ⟨_, rfl⟩
  rw [hN] at HB ⊢
  have HN := Lib.hid hN
  clear h hk hb hK0 hks hkc hN
  cases b with
  | true =>
    go_enter Try.func59, Try.ntmps59
    go_wp2_with (first
      | (go_at_call 68; refine HB.out.mono ?_; rintro e w1 ⟨rfl, hb1⟩; have B1 := Lib.hid hb1; clear hb1)
      | (go_at_call 69; refine (errNew_calls _ _).mono ?_; rintro e w2 ⟨hb2, u, x, rfl⟩; have B2 := Lib.hid hb2; clear hb2))
    go_ret
    have st1 := Stp.of_below_same B1.out (fun _ => False) l
    have st2 := Stp.of_below_same B2.out (fun _ => False) l
    have st := st1.trans st2
    exact ⟨l, _, n, S, HT.out.keep st (fun _ k => k.elim), by omega, st.mono (fun _ k => k.elim), by first | exact ⟨⟨_, _, rfl⟩, rfl⟩ | (rw [if_pos rfl]; exact ⟨⟨_, _, rfl⟩, rfl⟩)⟩
  | false =>
    go_enter Try.func59, Try.ntmps59
    go_wp2_with (first
      | (go_at_call 68
         refine HB.out.mono ?_
         rintro e w1 ⟨rfl, hb1⟩
         have st1 := Stp.of_below_same hb1 (fun _ => False) l
         have hT1 := HT.out.keep st1 (fun _ k => k.elim)
         obtain ⟨x0, _⟩ := hT1.c0
         have T1 := Lib.hid hT1
         have S1 := Lib.hid st1
         clear hb1 st1 hT1)
      | (go_at_call 74
         have q_ := appendArgBytes_true l w1 (q + 3) n _ S T1.out.2.2.2.1 hn A K.length c K (by have := HKL.out; omega) (HSK.out.step (S1.out.mono (fun _ k => k.elim))) none 0 0 []
         rw [HN.out] at q_
         refine q_.mono ?_
         rintro e w2 ⟨l2, V2, S2, rfl, k1, k3, k4⟩
         obtain ⟨A2, c2, rfl⟩ := k1.shape
         obtain ⟨⟨y0, g0⟩, k5, k6⟩ := T1.out.list k4 k1
         have K5 := Lib.hid k5
         have K6 := Lib.hid k6
         have K2 := Lib.hid (Nat.le_refl (n + 1))
         have K3 := Lib.hid k3
         clear k1 k3 k4 k5 k6))
    go_ret
    exact ⟨_, _, _, _, K5.out, K2.out, (S1.out.mono (fun _ k => k.elim)).trans K6.out, by first | exact ⟨rfl, K3.out⟩ | (rw [if_neg (by decide)]; exact ⟨rfl, K3.out⟩)⟩
end Go.Proofs.Ytoimkmoalmmooaa.Own
set_option linter.unusedVariables false
set_option linter.unusedSimpArgs false
namespace Go.Proofs.Ytoimkmoalmmooaa.Own
open Go.RowKit Go.Proofs.YtoimkmoalmmooaaW.PrintWords Go.Proofs.YtoimkmoalmmooaaW.PrintLast Go.Proofs.YtoimkmoalmmooaaW.PrintMore Go.Proofs.Ytoimkmoalmmooaa.Base Go.Proofs.Ytoimkmoalmmooaa.Gv Go.Proofs.Ytoimkmoalmmooaa.QA Go.Proofs.Ytoimkmoalmmooaa.Given
def LaidT (l : Nat → Nat) (w : World) (q p n : Nat) (S : List Slot) (dn b : Bool) (R : List KVx) (e : Ending) (w' : World) : Prop := ∃ l1 V1 n1 S1 kv1 kx1 vv1 vx1, TrC l1 w' q p V1 n1 S1 kv1 kx1 vv1 vx1 dn ∧ n1 ≤ n + 1 ∧ Stp (Tz q) l l1 w w' ∧
      (if b = true then (∃ u x, e = .returned (.iface u x)) ∧ kvs S1 n1 = kvs S n else e = .returned .nilIface ∧ kvs S1 n1 = R)
theorem ret_of {b : Bool} {e : Ending} {P Q : Prop} (h : if b = true then (∃ u x, e = .returned (.iface u x)) ∧ P else e = .returned .nilIface ∧ Q) : ∃ v, e = .returned v := by
  cases b with
  | true => obtain ⟨⟨u, x, rfl⟩, _⟩ := h; exact ⟨_, rfl⟩
  | false => obtain ⟨rfl, _⟩ := h; exact ⟨_, rfl⟩
theorem Any3.tz {q : Nat} : ∀ lab, Any3 q (q + 1) (q + 2) lab → Tz q lab := fun lab h => h.elim .inl (fun h => h.elim (fun e => .inr (.inl e)) (fun e => .inr (.inr (.inl e))))
set_option maxHeartbeats 1000000 in
set_option maxRecDepth 100000 in
theorem tSet_calls (l : Nat → Nat) (w : World) (q p n : Nat) (V kv vv : Value) (S : List Slot) (kx vx : List Int) (dn : Bool) (h : TrC l w q p V n S kv kx vv vx dn) (hn : n ≤ 1099511627775) (key value : ByteArray) (hk0 : 0 < key.size) (hks : key.size ≤ 140737488351232) (hvs : value.size ≤ 140737488351232) :
    Calls Try.prog 41 #[.pointer (some ⟨p, 0, none⟩), .string key, .string value] w fun e w' => LaidT l w q p n S dn (badK (nkd dn (ns key))) (setKV (nkd dn (ns key)) (ns value) (kvs S n)) e w' := by
  obtain ⟨wd, hwd⟩ : ∃ x, w.drew = x := ⟨_, rfl⟩
  have hsd : Stp (Tz q) l l w wd := by rw [← hwd]; exact drew_stp (Tz q) l w 1
  have hd0 : TrC l wd q p V n S kv kx vv vx dn := by rw [← hwd]; exact h.keep (drew_stp (fun _ => False) l w 1) (fun _ k => k.elim)
  have HWD := Lib.hid hwd
  have HI := Lib.hid (initKV_calls l wd q (q + 1) (q + 2) p 1 58 #[V, kv, vv, .bool false, .bool dn] kv vv kx vx key value dn hd0.2.2.1 rfl rfl hd0.2.2.2.2.1 hd0.2.2.2.2.2 (by omega) (by omega) (by omega) (by omega) (by omega))
  obtain ⟨x4, _⟩ := h.c4
  have HT := Lib.hid hd0
  have HD := Lib.hid hsd
  obtain ⟨b, hb⟩ : ∃ b, badK (nkd dn (ns key)) = b := ⟨_, rfl⟩
  have HBB := Lib.hid hb
  rw [hb]
  clear h hb hd0 hsd hwd
  go_enter Try.func41, Try.ntmps41
  go_wp2
  go_still_tail 9, (by kernel_rfl)
  change wpList _ _ _ _ _ w.drew
  rw [HWD.out]
  go_upto_region 2 with (go_at_call 57; refine HI.out.mono ?_; rintro e w1 ⟨l1, kv1, vv1, rfl, i1, i2, i3, i4⟩; have I1 := Lib.hid i1; have I2 := Lib.hid i2; have I3 := Lib.hid i3; have I4' := Lib.hid i4; clear i1 i2 i3 i4)
  have i1 := I1.out
  have i2 := I2.out
  have i3 := I3.out
  have i4 := I4'.out
  obtain ⟨q0, q1, t3, t4, t5, t6⟩ := HT.out
  have k0 : TrC l1 w1 q p V n S kv1 (nkd dn (ns key)) vv1 (ns value) dn := ⟨q0, q1, i1, t4.keep i4 (fun lab e => by rcases e with rfl | rfl | rfl <;> omega), i2, i3⟩
  obtain ⟨A1, d1, rfl, hd1⟩ := i2.slice
  obtain ⟨A2, d2, rfl, hd2⟩ := i3.slice
  obtain ⟨y1, _⟩ := k0.c1
  obtain ⟨y2, _⟩ := k0.c2
  obtain ⟨wd1, hwd1⟩ : ∃ x, w1.drew = x := ⟨_, rfl⟩
  have k1 : TrC l1 wd1 q p V n S (.slice A1 (nkd dn (ns key)).length d1) (nkd dn (ns key)) (.slice A2 (ns value).length d2) (ns value) dn := by rw [← hwd1]; exact k0.keep (drew_stp (fun _ => False) l1 w1 1) (fun _ k => k.elim)
  have hsd1 : Stp (Tz q) l1 l1 w1 wd1 := by rw [← hwd1]; exact drew_stp (Tz q) l1 w1 1
  have s1 := (Src.of_bf (F := Zn (q + 3)) k1.2.2.2.2.1 (by unfold Zn; omega)).2
  have s2 := (Src.of_bf (F := Zn (q + 3)) k1.2.2.2.2.2 (by unfold Zn; omega)).2
  have HC := tSetB_calls l1 wd1 q p n V _ _ S _ _ dn k1 hn A1 d1 (nkd dn (ns key)) (by rw [nkd_length, ns_length]; exact hk0) (by rw [nkd_length, ns_length]; exact hks) hd1 s1 A2 (ns value).length d2 (ns value) (by rw [ns_length]; omega) s2
  rw [HBB.out] at HC
  have I4 := Lib.hid ((i4.mono Any3.tz).trans hsd1)
  have HWD1 := Lib.hid hwd1
  have HCC := Lib.hid HC
  obtain ⟨N1, hN1⟩ : ∃ N, (nkd dn (ns key)).length = N := ⟨_, rfl⟩
  obtain ⟨N2, hN2⟩ : ∃ N, (ns value).length = N := ⟨_, rfl⟩
  rw [hN1] at y1
  rw [hN2] at y2
  rw [hN1, hN2] at HCC
  clear i1 i2 i3 i4 t3 t4 t5 t6 s1 s2 HC k0 k1 hsd1 hwd1 hN1 hN2 hd1 hd2
  go_still_tail 11, (by kernel_rfl)
  change wpList _ _ _ _ _ w1.drew
  rw [HWD1.out]
  go_wp2_with (go_at_call 58; refine HCC.out.mono ?_; rintro e w2 ⟨l2, V2, n2, S2, j1, j2, j3, j4⟩; obtain ⟨ve, rfl⟩ := ret_of j4; have J1 := Lib.hid j1; have J2 := Lib.hid j2; have J3 := Lib.hid j3; have J4 := Lib.hid j4; clear j1 j2 j3 j4)
  go_ret
  exact ⟨_, _, _, _, _, _, _, _, J1.out, J2.out, (HD.out.trans I4.out).trans J3.out, J4.out⟩
set_option maxHeartbeats 1000000 in
set_option maxRecDepth 100000 in
theorem tAdd_calls (l : Nat → Nat) (w : World) (q p n : Nat) (V kv vv : Value) (S : List Slot) (kx vx : List Int) (dn : Bool) (h : TrC l w q p V n S kv kx vv vx dn) (hn : n ≤ 1099511627775) (key value : ByteArray) (hk0 : 0 < key.size) (hks : key.size ≤ 140737488351232) (hvs : value.size ≤ 140737488351232) :
    Calls Try.prog 42 #[.pointer (some ⟨p, 0, none⟩), .string key, .string value] w fun e w' => LaidT l w q p n S dn (badK (nkd dn (ns key))) (kvs S n ++ [⟨nkd dn (ns key), ns value, false⟩]) e w' := by
  obtain ⟨wd, hwd⟩ : ∃ x, w.drew = x := ⟨_, rfl⟩
  have hsd : Stp (Tz q) l l w wd := by rw [← hwd]; exact drew_stp (Tz q) l w 1
  have hd0 : TrC l wd q p V n S kv kx vv vx dn := by rw [← hwd]; exact h.keep (drew_stp (fun _ => False) l w 1) (fun _ k => k.elim)
  have HWD := Lib.hid hwd
  have HI := Lib.hid (initKV_calls l wd q (q + 1) (q + 2) p 1 58 #[V, kv, vv, .bool false, .bool dn] kv vv kx vx key value dn hd0.2.2.1 rfl rfl hd0.2.2.2.2.1 hd0.2.2.2.2.2 (by omega) (by omega) (by omega) (by omega) (by omega))
  obtain ⟨x4, _⟩ := h.c4
  have HT := Lib.hid hd0
  have HD := Lib.hid hsd
  obtain ⟨b, hb⟩ : ∃ b, badK (nkd dn (ns key)) = b := ⟨_, rfl⟩
  have HBB := Lib.hid hb
  rw [hb]
  clear h hb hd0 hsd hwd
  go_enter Try.func42, Try.ntmps42
  go_wp2
  go_still_tail 9, (by kernel_rfl)
  change wpList _ _ _ _ _ w.drew
  rw [HWD.out]
  go_upto_region 2 with (go_at_call 57; refine HI.out.mono ?_; rintro e w1 ⟨l1, kv1, vv1, rfl, i1, i2, i3, i4⟩; have I1 := Lib.hid i1; have I2 := Lib.hid i2; have I3 := Lib.hid i3; have I4' := Lib.hid i4; clear i1 i2 i3 i4)
  have i1 := I1.out
  have i2 := I2.out
  have i3 := I3.out
  have i4 := I4'.out
  obtain ⟨q0, q1, t3, t4, t5, t6⟩ := HT.out
  have k0 : TrC l1 w1 q p V n S kv1 (nkd dn (ns key)) vv1 (ns value) dn := ⟨q0, q1, i1, t4.keep i4 (fun lab e => by rcases e with rfl | rfl | rfl <;> omega), i2, i3⟩
  obtain ⟨A1, d1, rfl, hd1⟩ := i2.slice
  obtain ⟨A2, d2, rfl, hd2⟩ := i3.slice
  obtain ⟨y1, _⟩ := k0.c1
  obtain ⟨y2, _⟩ := k0.c2
  obtain ⟨wd1, hwd1⟩ : ∃ x, w1.drew = x := ⟨_, rfl⟩
  have k1 : TrC l1 wd1 q p V n S (.slice A1 (nkd dn (ns key)).length d1) (nkd dn (ns key)) (.slice A2 (ns value).length d2) (ns value) dn := by rw [← hwd1]; exact k0.keep (drew_stp (fun _ => False) l1 w1 1) (fun _ k => k.elim)
  have hsd1 : Stp (Tz q) l1 l1 w1 wd1 := by rw [← hwd1]; exact drew_stp (Tz q) l1 w1 1
  have s1 := (Src.of_bf (F := Zn (q + 3)) k1.2.2.2.2.1 (by unfold Zn; omega)).2
  have s2 := (Src.of_bf (F := Zn (q + 3)) k1.2.2.2.2.2 (by unfold Zn; omega)).2
  have HC := tAddB_calls l1 wd1 q p n V _ _ S _ _ dn k1 hn A1 d1 (nkd dn (ns key)) (by rw [nkd_length, ns_length]; exact hk0) (by rw [nkd_length, ns_length]; exact hks) hd1 s1 A2 (ns value).length d2 (ns value) (by rw [ns_length]; omega) s2
  rw [HBB.out] at HC
  have I4 := Lib.hid ((i4.mono Any3.tz).trans hsd1)
  have HWD1 := Lib.hid hwd1
  have HCC := Lib.hid HC
  obtain ⟨N1, hN1⟩ : ∃ N, (nkd dn (ns key)).length = N := ⟨_, rfl⟩
  obtain ⟨N2, hN2⟩ : ∃ N, (ns value).length = N := ⟨_, rfl⟩
  rw [hN1] at y1
  rw [hN2] at y2
  rw [hN1, hN2] at HCC
  clear i1 i2 i3 i4 t3 t4 t5 t6 s1 s2 HC k0 k1 hsd1 hwd1 hN1 hN2 hd1 hd2
  go_still_tail 11, (by kernel_rfl)
  change wpList _ _ _ _ _ w1.drew
  rw [HWD1.out]
  go_wp2_with (go_at_call 59; refine HCC.out.mono ?_; rintro e w2 ⟨l2, V2, n2, S2, j1, j2, j3, j4⟩; obtain ⟨ve, rfl⟩ := ret_of j4; have J1 := Lib.hid j1; have J2 := Lib.hid j2; have J3 := Lib.hid j3; have J4 := Lib.hid j4; clear j1 j2 j3 j4)
  go_ret
  exact ⟨_, _, _, _, _, _, _, _, J1.out, J2.out, (HD.out.trans I4.out).trans J3.out, J4.out⟩
end Go.Proofs.Ytoimkmoalmmooaa.Own
set_option linter.unusedVariables false
set_option linter.unusedSimpArgs false
namespace Go.Proofs.Ytoimkmoalmmooaa.Own
open Go.RowKit Go.Proofs.YtoimkmoalmmooaaW.PrintWords Go.Proofs.YtoimkmoalmmooaaW.PrintLast Go.Proofs.YtoimkmoalmmooaaW.PrintMore Go.Proofs.Ytoimkmoalmmooaa.Base Go.Proofs.Ytoimkmoalmmooaa.Gv
def PeekSays (w : World) (r : Option (List Int)) (v : Value) : Prop := (r = none ∧ v = .slice none 0 0) ∨ ∃ A c vx, r = some vx ∧ v = .slice A vx.length c ∧ vx.length ≤ c ∧ ReadsInt w .u8 A vx.length vx ∧ A ≠ none
set_option maxHeartbeats 4000000 in
set_option maxRecDepth 100000 in
theorem peekArgBytes_calls (l : Nat → Nat) (w : World) (z n : Nat) (V : Value) (S : List Slot) (h : KvS l w z V n S) (hn : n ≤ 1099511627776) (A : Option Addr) (c : Nat) (kx : List Int) (hkc : kx.length ≤ c) (hk : ReadsInt w .u8 A kx.length kx) :
    Calls Try.prog 76 #[V, .slice A kx.length c] w fun e w' => ∃ v, e = .returned v ∧ PeekSays w (getKV kx (kvs S n)) v ∧ ∃ m, w' = w.drewN m := by
  have hcz := cutz
  have hz := h.1
  have HNN := Lib.hid h.2.1
  have hV : ∃ A0 c0, V = .slice A0 n c0 := by
    obtain ⟨_, _, ⟨rfl, _, rfl⟩ | ⟨a0, rfl, _⟩⟩ := h
    · exact ⟨none, 0, rfl⟩
    · exact ⟨_, _, rfl⟩
  obtain ⟨A0, c0, rfl⟩ := hV
  have HH := Lib.hid h
  have HSK := Lib.hid hk
  obtain ⟨K, hK⟩ : ∃ K, kx.length = K := ⟨_, rfl⟩
  rw [hK] at hkc
  have HK := Lib.hid hK
  rw [hK]
  clear h hk hK
  go_enter Try.func76, Try.ntmps76
  go_wp2
  go_loopw [5, 7] (fun iv _ wr => ∃ i m : Nat, iv = .int .i64 i ∧ wr = w.drewN m ∧ i ≤ n ∧ Hid (∀ (j : Nat) (y : KVx), j < i → (kvs S n)[j]? = some y → eqB y.k kx = false)) (fun iv _ _ => n - (intOf iv).toNat)
  case atStart => exact ⟨0, 0, rfl, by first | rfl | simp, by omega, Lib.hid (fun j y hj => absurd hj (by omega))⟩
  case round =>
    obtain ⟨i, m, rfl, rfl, hi, HM⟩ := hrel
    by_cases hlt : i < n
    · have q1 : (i : Int) < (n : Int) := by omega
      obtain ⟨hz', hnn', ⟨e0, _, _⟩ | ⟨a, e0, hle, hmx, hkv⟩⟩ := HH.out
      · cases e0; omega
      · obtain ⟨e1, e2⟩ : A0 = some ⟨a, 0, none⟩ ∧ c0 = S.length := by cases e0; exact ⟨rfl, rfl⟩
        subst e1 e2
        obtain ⟨s, hs⟩ := get_some (S := S) (n := i) (by omega)
        obtain ⟨⟨A1, c1, ek, z0, hc1, r1⟩, ⟨A2, c2, ev, z1, hc2, r2⟩, z2⟩ := hkv.look hs
        have HE := Lib.hid (equal_calls (w.drewN m) A1 A c1 c s.kx kx r1 hc1 HSK.out (by rw [HK.out]; exact hkc))
        rw [HK.out] at HE
        have hkat := kvs_at (n := n) hs hlt
        obtain ⟨r, hr⟩ : ∃ r, eqB s.kx kx = r := ⟨_, rfl⟩
        rw [hr] at HE
        have HKV := Lib.hid hkv
        have HS := Lib.hid hs
        have HLE := Lib.hid hle
        have HMX := Lib.hid hmx
        have HR := Lib.hid hr
        have HAT := Lib.hid hkat
        have EV := Lib.hid ev
        obtain ⟨kl, hkl⟩ : ∃ k, s.kx.length = k := ⟨_, rfl⟩
        obtain ⟨vl, hvl⟩ : ∃ k, s.vx.length = k := ⟨_, rfl⟩
        rw [hkl] at z0 HE
        rw [hvl] at z1
        have HVL := Lib.hid hvl
        have hic : i < S.length := by omega
        clear hkv hs hle hmx hr hkat ek ev r1 r2 hc1 hc2 hz' hnn' hkl hvl
        cases r with
        | false =>
          go_wp2_with (go_at_call 99; refine HE.out.mono ?_; rintro e w1 ⟨rfl, m1, rfl⟩)
          go_roundw
          case rel =>
            refine ⟨i + 1, m + m1, by go_num, by first | rfl | rw [drewN_add], by omega, Lib.hid (fun j y hj hy => ?_)⟩
            rcases Nat.lt_or_ge j i with h | h
            · exact HM.out j y h hy
            · obtain rfl : j = i := by omega
              rw [HAT.out] at hy
              cases hy
              exact HR.out
          case measure => simp [intOf]; omega
        | true =>
          have HPS := Lib.hid (show PeekSays w (getKV kx (kvs S n)) (.slice A2 vl c2) by
            have h1 := getKV_hit kx (kvs S n) i _ HAT.out HR.out HM.out
            have h2 := (HKV.out.look HS.out).2.1
            obtain ⟨A3, c3, e3, _, h3, h4⟩ := h2
            rw [EV.out] at e3
            injection e3 with e3 e4 e5
            subst e3 e5
            rw [← HVL.out]
            have h5 := nn_at HNN.out HS.out hlt
            rw [EV.out] at h5
            refine .inr ⟨A2, c2, s.vx, h1, rfl, h3, h4, fun e => ?_⟩
            subst e
            exact h5 rfl)
          go_wp2_with (go_at_call 99; refine HE.out.mono ?_; rintro e w1 ⟨rfl, m1, rfl⟩)
          go_ret
          exact ⟨_, rfl, HPS.out, _, rfl⟩
    · obtain rfl : n = i := by omega
      have HPS := Lib.hid (show PeekSays w (getKV kx (kvs S n)) (.slice none 0 0) from .inl ⟨getKV_miss kx (kvs S n) (fun j y hy => by
        obtain ⟨s, _, hj, _⟩ := kvs_get hy
        exact HM.out j y hj hy), rfl⟩)
      have q1 : ¬ ((n : Int) < (n : Int)) := by omega
      go_wp2
      go_ret
      exact ⟨_, rfl, HPS.out, _, rfl⟩
end Go.Proofs.Ytoimkmoalmmooaa.Own
set_option linter.unusedVariables false
set_option linter.unusedSimpArgs false
namespace Go.Proofs.Ytoimkmoalmmooaa.Own
open Go.RowKit Go.Proofs.YtoimkmoalmmooaaW.PrintWords Go.Proofs.YtoimkmoalmmooaaW.PrintLast Go.Proofs.YtoimkmoalmmooaaW.PrintMore Go.Proofs.Ytoimkmoalmmooaa.Base Go.Proofs.Ytoimkmoalmmooaa.Gv
def delKV (key : ByteArray) (l : List KVx) : List KVx := l.filter fun x => !(key.toList == (strOfNums x.k).toList)
def rot (S : List Slot) (i n : Nat) (s : Slot) : List Slot := (S.take i ++ (S.drop (i + 1)).take (n - 1 - i) ++ S.drop (n - 1)).set (n - 1) s
theorem rot_eq {S : List Slot} {i n : Nat} {s : Slot} (hi : i < n) (hn : n ≤ S.length) : rot S i n s = S.take i ++ (S.drop (i + 1)).take (n - 1 - i) ++ s :: S.drop n := by
  unfold rot
  have hl : (S.take i ++ (S.drop (i + 1)).take (n - 1 - i)).length = n - 1 := by
    rw [List.length_append, List.length_take, List.length_take, List.length_drop]; omega
  rw [List.set_append_right (n - 1) s (by omega), hl, Nat.sub_self, List.drop_eq_getElem_cons (i := n - 1) (by omega), List.set_cons_zero, show n - 1 + 1 = n by omega]
theorem rot_len {S : List Slot} {i n : Nat} {s : Slot} (hi : i < n) (hn : n ≤ S.length) : (rot S i n s).length = S.length := by
  rw [rot_eq hi hn]
  simp only [List.length_append, List.length_take, List.length_drop, List.length_cons]
  omega
theorem split_at {S : List Slot} {i n : Nat} {s : Slot} (hs : S[i]? = some s) (hi : i < n) (hn : n ≤ S.length) : S = S.take i ++ s :: ((S.drop (i + 1)).take (n - 1 - i) ++ S.drop n) := by
  have h1 : S.drop i = s :: S.drop (i + 1) := by
    obtain ⟨h, e⟩ := List.getElem?_eq_some_iff.1 hs
    rw [List.drop_eq_getElem_cons h, e]
  have h2 : S.drop (i + 1) = (S.drop (i + 1)).take (n - 1 - i) ++ S.drop n := by
    have := (List.take_append_drop (n - 1 - i) (S.drop (i + 1))).symm
    rw [List.drop_drop, show i + 1 + (n - 1 - i) = n by omega] at this
    exact this
  conv => lhs; rw [← List.take_append_drop i S, h1, h2]
theorem rot_perm {S : List Slot} {i n : Nat} {s : Slot} (hs : S[i]? = some s) (hi : i < n) (hn : n ≤ S.length) : (rot S i n s).Perm S := by
  rw [rot_eq hi hn]
  conv => rhs; rw [split_at hs hi hn]
  rw [List.append_assoc]
  exact List.Perm.append_left _ List.perm_middle
theorem rot_kvs {S : List Slot} {i n : Nat} {s : Slot} (hs : S[i]? = some s) (hi : i < n) (hn : n ≤ S.length) : kvs (rot S i n s) (n - 1) = (kvs S n).take i ++ (kvs S n).drop (i + 1) := by
  have hl : (S.take i ++ (S.drop (i + 1)).take (n - 1 - i)).length = n - 1 := by
    rw [List.length_append, List.length_take, List.length_take, List.length_drop]; omega
  unfold kvs
  rw [rot_eq hi hn, List.take_left' hl]
  rw [← List.map_take, ← List.map_drop, ← List.map_append, List.take_take, Nat.min_eq_left (by omega), List.drop_take, show n - (i + 1) = n - 1 - i by omega]
theorem cells_take (S : List Slot) (i : Nat) : (cellsOf S).take (i * 3) = cellsOf (S.take i) := by
  induction S generalizing i with
  | nil => simp [cellsOf]
  | cons s S ih =>
    cases i with
    | zero => simp [cellsOf]
    | succ i =>
      rw [cellsOf_cons, show (i + 1) * 3 = i * 3 + 1 + 1 + 1 by omega, List.take_succ_cons, List.take_succ_cons, List.take_succ_cons, ih, List.take_succ_cons, cellsOf_cons]
theorem cells_drop (S : List Slot) (i : Nat) : (cellsOf S).drop (i * 3) = cellsOf (S.drop i) := by
  induction S generalizing i with
  | nil => simp [cellsOf]
  | cons s S ih =>
    cases i with
    | zero => simp [cellsOf]
    | succ i =>
      rw [cellsOf_cons, show (i + 1) * 3 = i * 3 + 1 + 1 + 1 by omega, List.drop_succ_cons, List.drop_succ_cons, List.drop_succ_cons, ih, List.drop_succ_cons]
theorem copy_run {P : Program} {ops : Array Oper} {rest : List Oper} {o : Oper} {a : Act} {Q : Exit → Act → World → Prop} {W w1 : World} (hgd : o.guard = none) (s x : Operand) (t u : TypeId)
    (ho : o.op = .call { callee := .builtin .copy, args := #[s, x], argTypes := #[t, u] }) (V X v1 : Value) (hs : a.eval s = V) (hx : a.eval x = X)
    (hr : (Builtin.copy_ #[t, u] o.type #[V, X]).run P W = .ok v1 w1) (h : wpList P ops Q rest (a.put o.dst v1) w1) : wpList P ops Q (o :: rest) a W := by
  refine wpList_plain hgd fun K hK => ?_
  unfold Oper.wp execOp
  simp only [ho, resolve, invoke, builtin, Sem.run_bind, Sem.run_pure, Result.andThen_ok, List.map_toArray, List.map_cons, List.map_nil, hs, hx, hr]
  exact hK _ _ h
theorem run_copy_kv {l : Nat → Nat} {w : World} {z a n i c1 c2 : Nat} {S : List Slot} (ty : TypeId) (h : Kv l w z a S) (hn : n ≤ S.length) (hi : i < n) (A2 : Option Addr) (hA : i + 1 < n → A2 = some ⟨a, (i + 1) * 3, none⟩) :
    (Builtin.copy_ #[53, 53] ty #[.slice (some ⟨a, i * 3, none⟩) (n - i) c1, .slice A2 (n - (i + 1)) c2]).run Try.prog w =
      .ok (goInt ((n - 1 - i : Nat) : Int)) (w.setRow a (cellsOf (S.take i ++ (S.drop (i + 1)).take (n - 1 - i) ++ S.drop (n - 1))).toArray) := by
  have hinfo : (Try.prog.info? 56).map (fun i => (i.zero, i.size, i.bytes)) = some (some (.agg #[.slice none 0 0, .slice none 0 0, .bool false]), 3, 56) := by kernel_rfl
  obtain ⟨i0, hi0, hz0, hz1, hz2⟩ := info_parts hinfo
  have hw := h.arr.1
  have hcl := cellsOf_length S
  obtain ⟨cs, hcs⟩ : ∃ cs, cellsOf ((S.drop (i + 1)).take (n - 1 - i)) = cs := ⟨_, rfl⟩
  have hlen : cs.length = (n - 1 - i) * 3 := by
    rw [← hcs, cellsOf_length, List.length_take, List.length_drop, Nat.min_eq_left (by omega)]
  have h1 : ∀ v ∈ cs, v.oneCell' = true := by
    intro v hv
    rw [← hcs] at hv
    obtain ⟨s, hs, hv⟩ := List.mem_flatMap.1 hv
    have hsm := List.mem_of_mem_drop (List.mem_of_mem_take hs)
    obtain ⟨A1, c1', e1, _⟩ := (h.slot s hsm).1.slice
    obtain ⟨A2', c2', e2, _⟩ := (h.slot s hsm).2.slice
    simp only [Slot.cells, List.mem_cons, List.not_mem_nil, or_false] at hv
    rcases hv with rfl | rfl | rfl
    · rw [e1]; rfl
    · rw [e2]; rfl
    · rfl
  have hsrc : ∀ j v, cs[j]? = some v → w.cell? ((⟨a, (i + 1) * 3, none⟩ : Addr).add j) = some v := by
    intro j v hv
    have hj : j < (n - 1 - i) * 3 := by rw [← hlen]; exact (List.getElem?_eq_some_iff.1 hv).1
    rw [Addr.add_lit, h.arr.cell, List.getElem?_toArray]
    rw [← hcs, ← cells_take, ← cells_drop, List.getElem?_take, if_pos hj, List.getElem?_drop] at hv
    exact hv
  have hst := run_storeCells_at Try.prog a (i * 3) 56 cs 0 (cellsOf S).toArray w hw (by rw [hlen]; simp [hcl]; omega) h1
  have hfin : ((cellsOf S).take (i * 3 + 0) ++ cs ++ (cellsOf S).drop (i * 3 + 0 + cs.length)).toArray = (cellsOf (S.take i ++ (S.drop (i + 1)).take (n - 1 - i) ++ S.drop (n - 1))).toArray := by
    rw [Nat.add_zero, hlen, show i * 3 + (n - 1 - i) * 3 = (n - 1) * 3 by omega, cells_take, cells_drop, ← hcs, cellsOf_append, cellsOf_append]
  rw [show (cellsOf S).toArray.toList = cellsOf S from rfl, hfin] at hst
  have hmin : min (n - (i + 1)) (n - i) = n - 1 - i := by omega
  have hld : (Builtin.firstCells 3 (n - 1 - i) (.slice A2 (n - (i + 1)) c2)).run Try.prog w = .ok cs.toArray w := by
    by_cases h0 : i + 1 < n
    · rw [hA h0]
      exact run_firstCells_some w 3 (n - 1 - i) ⟨a, (i + 1) * 3, none⟩ _ _ cs hlen hsrc
    · have e : n - 1 - i = 0 := by omega
      rw [e] at hlen ⊢
      obtain rfl : cs = [] := List.eq_nil_of_length_eq_zero (by omega)
      cases A2 with
      | none => rfl
      | some x => exact run_firstCells_some w 3 0 x _ _ [] rfl (fun j v hv => by simp at hv)
  simp [Builtin.copy_, run_underlying Try.underlying53, Builtin.lenOf, sizeOf, typeInfo, hi0, hz1, hmin, hld, hst]
theorem rot_take {S : List Slot} {i n : Nat} {s : Slot} (hi : i < n) (hn : n ≤ S.length) : (rot S i n s).take (n - 1) = (S.take n).take i ++ (S.take n).drop (i + 1) := by
  have hl : (S.take i ++ (S.drop (i + 1)).take (n - 1 - i)).length = n - 1 := by
    rw [List.length_append, List.length_take, List.length_take, List.length_drop]; omega
  rw [rot_eq hi hn, List.take_left' hl, List.take_take, Nat.min_eq_left (by omega), List.drop_take, show n - (i + 1) = n - 1 - i by omega]
theorem set_three {M : List Slot} {j : Nat} {t : Slot} (s : Slot) (ht : M[j]? = some t) : (((cellsOf M).set (j * 3) s.k).set (j * 3 + 1) s.v).set (j * 3 + 2) (.bool s.no) = cellsOf (M.set j s) := by
  have h1 := cellsOf_set M j t { t with k := s.k } ht 0 s.k (by omega) rfl
  have h2 := cellsOf_set (M.set j { t with k := s.k }) j { t with k := s.k } { t with k := s.k, v := s.v } (get_set ht) 1 s.v (by omega) rfl
  have h3 := cellsOf_set ((M.set j { t with k := s.k }).set j { t with k := s.k, v := s.v }) j { t with k := s.k, v := s.v } s (get_set (get_set ht)) 2 (.bool s.no) (by omega) rfl
  rw [Nat.add_zero] at h1
  rw [h1, h2, h3, set_set_at, set_set_at]
theorem del_hit {key : ByteArray} {l : List KVx} {i : Nat} {x : KVx} (h : l[i]? = some x) (he : key.toList = (strOfNums x.k).toList) : (l.take i ++ l.drop (i + 1)).take i ++ delKV key ((l.take i ++ l.drop (i + 1)).drop i) = l.take i ++ delKV key (l.drop i) := by
  have hi : i < l.length := (List.getElem?_eq_some_iff.1 h).1
  have hl : (l.take i).length = i := by rw [List.length_take]; omega
  have hd : l.drop i = x :: l.drop (i + 1) := by
    obtain ⟨h1, e⟩ := List.getElem?_eq_some_iff.1 h
    rw [List.drop_eq_getElem_cons h1, e]
  rw [List.take_left' hl, List.drop_left' hl, hd]
  unfold delKV
  rw [List.filter_cons_of_neg (by simp [he])]
theorem del_miss {key : ByteArray} {l : List KVx} {i : Nat} {x : KVx} (h : l[i]? = some x) (he : ¬ key.toList = (strOfNums x.k).toList) : l.take (i + 1) ++ delKV key (l.drop (i + 1)) = l.take i ++ delKV key (l.drop i) := by
  have hd : l.drop i = x :: l.drop (i + 1) := by
    obtain ⟨h1, e⟩ := List.getElem?_eq_some_iff.1 h
    rw [List.drop_eq_getElem_cons h1, e]
  rw [List.take_add_one, h, hd]
  unfold delKV
  rw [List.filter_cons_of_pos (by simp [he])]
  simp
theorem Kv.perm {l : Nat → Nat} {w w1 : World} {z a : Nat} {S S1 : List Slot} (h : Kv l w z a S) (hp : S1.Perm S) (st : Stp (· = z) l l w w1) (hnew : w1.heap[a]? = some (.cells (cellsOf S1).toArray 56 (0, 0))) : Kv l w1 z a S1 := by
  refine ⟨h.hz, ⟨hnew, h.arr.2⟩, fun s hs => ?_, (hp.map Slot.id).nodup_iff.2 h.ids⟩
  have hb := h.slot s (hp.mem_iff.1 hs)
  exact ⟨hb.1.keep st (kLab_ne h.hz), hb.2.keep st (vLab_ne h.hz)⟩
theorem conv_read {w : World} {A : Option Addr} {c : Nat} {xs : List Int} (h : ReadsInt w .u8 A xs.length xs) : (convert 54 9 (.slice A xs.length c)).run Try.prog w = .ok (.string (strOfNums xs)) w := by
  have := Kd.C_string (P := Try.prog) (A := A) (c := c) Try.underlying54 Try.underlying5 Try.underlying9 (Kd.C_of_reads (d := (0 : Int)) (h1 := fun _ => rfl) h)
  simpa using this
theorem cutl (a n c k : Nat) (hk : k ≤ n) (W : World) : (Instr.slice 53 (.slice (some ⟨a, 0, none⟩) n c) (some (.int .i64 (k : Int))) none none).run Try.prog W = .ok (.slice (if c = k then some ⟨a, 0, none⟩ else some ⟨a, k * 3, none⟩) (n - k) (c - k)) W := by
  have hinfo : (Try.prog.info? 56).map (fun i => (i.zero, i.size, i.bytes)) = some (some (.agg #[.slice none 0 0, .slice none 0 0, .bool false]), 3, 56) := by kernel_rfl
  obtain ⟨i0, hi0, hz0, hz1, hz2⟩ := info_parts hinfo
  have hel : Try.prog.elem 53 = 56 := by simp [Program.elem, Try.underlying53]
  have hu : Try.prog.underlying 53 = some (.slice (Try.prog.elem 53)) := by rw [hel]; exact Try.underlying53
  have hsz : (sizeOf 56).run Try.prog W = .ok 3 W := by simp [sizeOf, typeInfo, hi0, hz1]
  rw [run_slice_l W 53 (some ⟨a, 0, none⟩) n c hu .i64 (k : Int) (by omega) (by omega), hel, hsz]
  by_cases hk0 : k = 0
  · subst hk0; simp [Result.andThen, sliced, Addr.add]
  · have : ¬ k * 3 = 0 := by omega
    simp [Result.andThen, sliced, Addr.add, this]
set_option maxHeartbeats 1000000 in
set_option maxRecDepth 100000 in
theorem delAllArgs_some (l : Nat → Nat) (w : World) (z a n : Nat) (S : List Slot) (key : ByteArray) (h : Kv l w z a S) (hle : n ≤ S.length) (hmx : S.length ≤ maxLen) (hn : n ≤ 1099511627776) (hnn : ∀ s ∈ S.take n, s.v.ownBlock ≠ none) :
    Calls Try.prog 75 #[.slice (some ⟨a, 0, none⟩) n S.length, .string key] w fun e w' => ∃ n1 S1, e = .returned (.slice (some ⟨a, 0, none⟩) n1 S1.length) ∧ n1 ≤ n ∧ n1 ≤ S1.length ∧ S1.length = S.length ∧ Kv l w' z a S1 ∧ (∀ s ∈ S1.take n1, s.v.ownBlock ≠ none) ∧ kvs S1 n1 = delKV key (kvs S n) ∧ Stp (Zn z) l l w w' := by
  have HH := Lib.hid h
  have HNN := Lib.hid hnn
  obtain ⟨N, hN⟩ : ∃ N, S.length = N := ⟨_, rfl⟩
  rw [hN] at hmx hle ⊢
  have HN := Lib.hid hN
  obtain ⟨RES, hR⟩ : ∃ R, delKV key (kvs S n) = R := ⟨_, rfl⟩
  rw [hR]
  have HR := Lib.hid hR
  clear h hnn hN hR
  go_enter Try.func75, Try.ntmps75
  go_wp2
  go_loopw [0, 5, 6, 7, 8] (fun av iv nv _ _ wr => ∃ (i n1 : Nat) (S1 : List Slot), av = .slice (some ⟨a, 0, none⟩) n1 N ∧ iv = .int .i64 i ∧ nv = .int .i64 n1 ∧ i ≤ n1 ∧ n1 ≤ n ∧ Hid (S1.length = N) ∧ Hid (Kv l wr z a S1) ∧ Hid (∀ s ∈ S1.take n1, s.v.ownBlock ≠ none) ∧ Hid ((kvs S1 n1).take i ++ delKV key ((kvs S1 n1).drop i) = RES) ∧ Hid (Stp (Zn z) l l w wr)) (fun _ iv nv _ _ _ => (intOf nv).toNat - (intOf iv).toNat)
  case atStart => exact ⟨0, n, S, rfl, rfl, rfl, by omega, by omega, HN, HH, HNN, Lib.hid (by simpa using HR.out), Lib.hid (Stp.refl _ _ _)⟩
  case round =>
    obtain ⟨i, n1, S1, rfl, rfl, rfl, hi, hn1, HL, HK, HNN1, HRES, HST⟩ := hrel
    by_cases hlt : i < n1
    · have q1 : (i : Int) < (n1 : Int) := by omega
      have hlen := HL.out
      obtain ⟨s, hs⟩ := get_some (S := S1) (n := i) (by omega)
      obtain ⟨⟨A1, c1, ek, z0, hc1, r1⟩, ⟨A2, c2, ev, z1, hc2, r2⟩, z2⟩ := HK.out.look hs
      have hcv := conv_read (c := c1) r1
      obtain ⟨kl, hkl⟩ : ∃ k, s.kx.length = k := ⟨_, rfl⟩
      rw [hkl] at z0 hcv
      have hat := kvs_at (n := n1) hs hlt
      obtain ⟨X, hX⟩ : ∃ X, strOfNums s.kx = X := ⟨_, rfl⟩
      rw [hX] at hcv
      have HX := Lib.hid hX
      have HKL := Lib.hid hkl
      have HS := Lib.hid hs
      have HAT := Lib.hid hat
      have EK := Lib.hid ek
      have EV := Lib.hid ev
      have hiN : i < N := by omega
      clear hs hat hX ek ev r1 r2 hc1 hc2 hkl hlen
      by_cases he : key.toList = X.toList
      · have hb : (key.toList == X.toList) = true := by rw [he]; exact beq_self_eq_true _
        go_wp2
        generalize hW : wr.alloc _ = W
        have hbel : Below wr.heap.size wr W := by rw [← hW]; exact (Below.refl _ _).alloc (Nat.le_refl _) _
        have htm : W.heap[wr.heap.size]? = some (.cells #[.slice A1 kl c1, .slice A2 s.vx.length c2, .bool s.no] 56 (0, 0)) := by rw [← hW]; exact heap_alloc_new wr _
        have hK2 : Kv l W z a S1 := HK.out.keep (F := fun _ => False) (Stp.of_below_same hbel _ _) (fun _ k => k.elim)
        have hK3 : Kv l W.drew z a S1 := hK2.keep (F := fun _ => False) (drew_stp _ l W 1) (fun _ k => k.elim)
        have hcp := run_copy_kv (i := i) (n := n1) (c1 := N - i) (c2 := N - (i + 1)) 3 hK3 (by have := HL.out; omega) hlt (if N = i + 1 then some ⟨a, 0, none⟩ else some ⟨a, (i + 1) * 3, none⟩) (fun h => by rw [if_neg (by have := HL.out; omega)])
        have hst3 : Stp (Zn z) l l wr W.drew := (Stp.of_below_same hbel _ _).trans (drew_stp _ l W 1)
        have q3 : (i : Int) + 1 ≤ (n1 : Int) := by omega
        have q2 : (i : Int) ≤ (n1 : Int) := by omega
        have hwr : IntKind.i64.wrap ((i : Int) + 1) = (i : Int) + 1 := by rw [IntKind.wrap_i64]; omega
        have hNi : ¬ N = i := by omega
        have htd : W.drew.heap[wr.heap.size]? = some (.cells #[.slice A1 kl c1, .slice A2 s.vx.length c2, .bool s.no] 56 (0, 0)) := htm
        obtain ⟨A3, hA3⟩ : ∃ A3, (if N = i + 1 then some ⟨a, 0, none⟩ else some ⟨a, (i + 1) * 3, none⟩ : Option Addr) = A3 := ⟨_, rfl⟩
        have hsl := fun W' : World => cutl a n1 N (i + 1) (by omega) W'
        have hsl0 := fun W' : World => cutl a n1 N i (by omega) W'
        rw [hA3] at hcp hsl
        rw [if_neg hNi] at hsl0
        push_cast at hsl
        have HK3 := Lib.hid hK3
        have HCP := Lib.hid hcp
        have HST3 := Lib.hid hst3
        have HTM := Lib.hid htd
        have HZ := Lib.hid hbel.size
        clear hW hbel htm hK2 hK3 hcp hst3 htd hA3
        go_still_tail 7, (by kernel_rfl)
        change wpList _ _ _ _ _ W.drew
        generalize W.drew = W2 at *
        refine copy_run rfl (.tmp 31) (.tmp 35) 53 53 rfl _ _ _ rfl rfl HCP.out ?_
        have hlM : (S1.take i ++ (S1.drop (i + 1)).take (n1 - 1 - i) ++ S1.drop (n1 - 1)).length = N := by
          have := HL.out
          rw [List.length_append, List.length_append, List.length_take, List.length_take, List.length_drop, List.length_drop]; omega
        obtain ⟨M, hM⟩ : ∃ M, S1.take i ++ (S1.drop (i + 1)).take (n1 - 1 - i) ++ S1.drop (n1 - 1) = M := ⟨_, rfl⟩
        rw [hM] at hlM
        obtain ⟨t, ht⟩ := get_some (S := M) (n := n1 - 1) (by omega)
        have hrow : (W2.setRow a (cellsOf M).toArray).heap[a]? = some (.cells (cellsOf M).toArray 56 (0, 0)) := setRow_heap W2 a _ _ _ _ HK3.out.arr.1
        have hoth : ∀ b, b ≠ a → (W2.setRow a (cellsOf M).toArray).heap[b]? = W2.heap[b]? := fun b hb => setRow_other W2 a b _ hb
        rw [hM]
        have hst4 : Stp (· = z) l l W2 (W2.setRow a (cellsOf M).toArray) := ⟨rfl, rfl, rfl, by simp [World.setRow], fun _ _ => rfl, fun b _ hf => setRow_other W2 a b _ (fun e => hf (by rw [e]; exact HK3.out.arr.2))⟩
        generalize W2.setRow a (cellsOf M).toArray = W3 at *
        have ha : wr.heap.size ≠ a := by have := HK.out.arr.lt; omega
        have htm3 := (hoth _ ha).trans HTM.out
        have y0 : W3.cell? ⟨wr.heap.size, 0, none⟩ = some (.slice A1 kl c1) := by rw [cell_of_row W3 _ 0 _ _ (0, 0) htm3]; rfl
        have y1 : W3.cell? ⟨wr.heap.size, 1, none⟩ = some (.slice A2 s.vx.length c2) := by rw [cell_of_row W3 _ 1 _ _ (0, 0) htm3]; rfl
        have y2 : W3.cell? ⟨wr.heap.size, 2, none⟩ = some (.bool s.no) := by rw [cell_of_row W3 _ 2 _ _ (0, 0) htm3]; rfl
        have hx : ∀ o, W3.frozen? ⟨a, o, none⟩ = false := fun o => frozen_of_row _ _ o _ _ hrow
        have x0 : W3.cell? ⟨a, (n1 - 1) * 3, none⟩ = some t.k := by rw [cell_of_row W3 _ _ _ _ (0, 0) hrow, List.getElem?_toArray]; have := cellsOf_at M (n1 - 1) t ht 0 (by omega); simpa [Slot.cells] using this
        have x1 : W3.cell? ⟨a, (n1 - 1) * 3 + 1, none⟩ = some t.v := by rw [cell_of_row W3 _ _ _ _ (0, 0) hrow, List.getElem?_toArray]; have := cellsOf_at M (n1 - 1) t ht 1 (by omega); simpa [Slot.cells] using this
        have x2 : W3.cell? ⟨a, (n1 - 1) * 3 + 2, none⟩ = some (.bool t.no) := by rw [cell_of_row W3 _ _ _ _ (0, 0) hrow, List.getElem?_toArray]; have := cellsOf_at M (n1 - 1) t ht 2 (by omega); simpa [Slot.cells] using this
        have w0 := hx ((n1 - 1) * 3)
        have w1 := hx ((n1 - 1) * 3 + 1)
        have w2 := hx ((n1 - 1) * 3 + 2)
        have eN : ((n1 : Int) - 1) = ((n1 - 1 : Nat) : Int) := by omega
        have hN1 : ((n1 - 1 : Nat) : Int) < (n1 : Int) := by omega
        have HM := Lib.hid hM
        have HROW := Lib.hid hrow
        have HOTH := Lib.hid hoth
        have HT := Lib.hid ht
        have HST4 := Lib.hid hst4
        clear hlM hM ht hrow hoth htm3 hx hst4
        go_wp2
        have hs := HS.out
        have hlen := HL.out
        have ek : Value.slice A1 kl c1 = s.k := by rw [EK.out, HKL.out]
        have ev : Value.slice A2 s.vx.length c2 = s.v := EV.out.symm
        rw [ek, ev]
        have hla : l a = z := HK3.out.arr.2
        have st5 : Stp (· = z) l l W2 (((W3.setCell ⟨a, (n1 - 1) * 3, none⟩ s.k).setCell ⟨a, (n1 - 1) * 3 + 1, none⟩ s.v).setCell ⟨a, (n1 - 1) * 3 + 2, none⟩ (.bool s.no)) := by
          have g0 := Stp.set (l := l) W3 ⟨a, (n1 - 1) * 3, none⟩ s.k
          have g1 := Stp.set (l := l) (W3.setCell ⟨a, (n1 - 1) * 3, none⟩ s.k) ⟨a, (n1 - 1) * 3 + 1, none⟩ s.v
          have g2 := Stp.set (l := l) ((W3.setCell ⟨a, (n1 - 1) * 3, none⟩ s.k).setCell ⟨a, (n1 - 1) * 3 + 1, none⟩ s.v) ⟨a, (n1 - 1) * 3 + 2, none⟩ (.bool s.no)
          simp only [hla] at g0 g1 g2
          exact ((HST4.out.trans g0).trans g1).trans g2
        have hrow5 : (((W3.setCell ⟨a, (n1 - 1) * 3, none⟩ s.k).setCell ⟨a, (n1 - 1) * 3 + 1, none⟩ s.v).setCell ⟨a, (n1 - 1) * 3 + 2, none⟩ (.bool s.no)).heap[a]? = some (.cells (cellsOf (rot S1 i n1 s)).toArray 56 (0, 0)) := by
          have r0 := heap_setCell_same W3 a ((n1 - 1) * 3) _ 56 s.k HROW.out
          have r1 := heap_setCell_same _ a ((n1 - 1) * 3 + 1) _ 56 s.v r0
          have r2 := heap_setCell_same _ a ((n1 - 1) * 3 + 2) _ 56 (.bool s.no) r1
          rw [r2]
          simp only [List.setIfInBounds_toArray]
          rw [set_three s HT.out, ← HM.out]
          rfl
        have hkf := HK3.out.perm (rot_perm hs hlt (by omega)) st5 hrow5
        refine ⟨⟨i, n1 - 1, rot S1 i n1 s, rfl, rfl, rfl, by omega, by omega, Lib.hid (by rw [rot_len hlt (by omega)]; exact hlen), Lib.hid hkf, Lib.hid (fun x hx => ?_), Lib.hid ?_, Lib.hid ((HST.out.trans HST3.out).trans (st5.zone (Nat.mod_eq_of_lt HK3.out.hz)))⟩, by simp [intOf]; omega⟩
        · rw [rot_take hlt (by omega)] at hx
          rcases List.mem_append.1 hx with h | h
          · exact HNN1.out x (List.mem_of_mem_take h)
          · exact HNN1.out x (List.mem_of_mem_drop h)
        · rw [rot_kvs hs hlt (by omega), del_hit HAT.out (by rw [he, ← HX.out])]
          exact HRES.out
      · have hb : (key.toList == X.toList) = false := beq_eq_false_iff_ne.2 he
        go_wp2
        go_roundw
        case rel => exact ⟨i + 1, n1, S1, rfl, by go_num, rfl, by omega, hn1, HL, HK, HNN1, Lib.hid (by rw [del_miss HAT.out (by rw [HX.out]; exact he)]; exact HRES.out), HST⟩
        case measure => simp [intOf]; omega
    · obtain rfl : n1 = i := by omega
      have q1 : ¬ ((n1 : Int) < (n1 : Int)) := by omega
      have hlen := HL.out
      have hl2 : n1 ≤ S1.length := by
        rcases Nat.lt_or_ge S1.length n1 with h | h
        · have := HH.out; omega
        · exact h
      clear hlen
      go_wp2
      go_ret
      refine ⟨n1, S1, (by rw [HL.out]; rfl), hn1, hl2, HL.out, HK.out, HNN1.out, ?_, HST.out⟩
      have := HRES.out
      have hk := kvs_length hl2
      rw [List.take_of_length_le (by omega), List.drop_eq_nil_of_le (by omega)] at this
      simpa [delKV] using this
set_option maxHeartbeats 1000000 in
set_option maxRecDepth 100000 in
theorem delAllArgs_nil (w : World) (key : ByteArray) :
    Calls Try.prog 75 #[.slice none 0 0, .string key] w fun e w' => e = .returned (.slice none 0 0) ∧ w' = w := by
  go_enter Try.func75, Try.ntmps75
  go_wp2
  go_loopw [0, 5, 6, 7, 8] (fun av iv nv _ _ wr => av = .slice none 0 0 ∧ iv = .int .i64 0 ∧ nv = .int .i64 0 ∧ wr = w) (fun _ _ _ _ _ _ => 0)
  case atStart => exact ⟨rfl, rfl, rfl, rfl⟩
  case round =>
    obtain ⟨rfl, rfl, rfl, rfl⟩ := hrel
    go_wp2
    go_ret
    exact ⟨rfl, rfl⟩
theorem delAllArgs_calls (l : Nat → Nat) (w : World) (z n : Nat) (V : Value) (S : List Slot) (key : ByteArray) (h : KvS l w z V n S) (hn : n ≤ 1099511627776) :
    Calls Try.prog 75 #[V, .string key] w fun e w' => ∃ V1 n1 S1, e = .returned V1 ∧ KvS l w' z V1 n1 S1 ∧ n1 ≤ n ∧ kvs S1 n1 = delKV key (kvs S n) ∧ Stp (Zn z) l l w w' := by
  obtain ⟨hz, hnn, ⟨rfl, rfl, rfl⟩ | ⟨a, rfl, hle, hmx, hkv⟩⟩ := h
  · refine (delAllArgs_nil w key).mono ?_
    rintro e w' ⟨rfl, rfl⟩
    exact ⟨_, 0, [], rfl, KvS.nil l w' z hz, Nat.le_refl _, rfl, Stp.refl _ _ _⟩
  · refine (delAllArgs_some l w z a n S key hkv hle hmx hn hnn).mono ?_
    rintro e w' ⟨n1, S1, rfl, h1, h2, h3, h4, h5, h6, h7⟩
    exact ⟨_, n1, S1, rfl, ⟨hz, h5, .inr ⟨a, by rw [h3], h2, by rw [h3]; exact hmx, h4⟩⟩, h1, h6, h7⟩
set_option maxHeartbeats 1000000 in
set_option maxRecDepth 100000 in
theorem delAllArgsBytes_calls (l : Nat → Nat) (w : World) (z n : Nat) (V : Value) (S : List Slot) (A : Option Addr) (c : Nat) (kx : List Int) (hk : ReadsInt w .u8 A kx.length kx) (h : KvS l w z V n S) (hn : n ≤ 1099511627776) :
    Calls Try.prog 61 #[V, .slice A kx.length c] w fun e w' => ∃ V1 n1 S1, e = .returned V1 ∧ KvS l w' z V1 n1 S1 ∧ n1 ≤ n ∧ kvs S1 n1 = delKV (strOfNums kx) (kvs S n) ∧ Stp (Zn z) l l w w' := by
  have HD := Lib.hid (delAllArgs_calls l w z n V S (strOfNums kx) h hn)
  have hcv := conv_read (c := c) hk
  obtain ⟨K, hK⟩ : ∃ K, kx.length = K := ⟨_, rfl⟩
  rw [hK] at hcv ⊢
  clear h hk hK
  go_enter Try.func61, Try.ntmps61
  go_wp2_with (go_at_call 75; refine HD.out.mono ?_; rintro e w1 ⟨V1, n1, S1, rfl, h1, h2, h3, h4⟩)
  go_ret
  exact ⟨_, n1, S1, rfl, h1, h2, h3, h4⟩
end Go.Proofs.Ytoimkmoalmmooaa.Own
set_option linter.unusedVariables false
set_option linter.unusedSimpArgs false
namespace Go.Proofs.Ytoimkmoalmmooaa.Own
open Go.RowKit Go.Proofs.YtoimkmoalmmooaaW.PrintWords Go.Proofs.YtoimkmoalmmooaaW.PrintLast Go.Proofs.YtoimkmoalmmooaaW.PrintMore Go.Proofs.Ytoimkmoalmmooaa.Base Go.Proofs.Ytoimkmoalmmooaa.Gv Go.Proofs.Ytoimkmoalmmooaa.QA Go.Proofs.Ytoimkmoalmmooaa.Given
theorem BrO.reads {w : World} {g o : Nat} {xs : List Int} (h : BrO w 5 g o xs) (hl : xs.length ≤ 9223372036854775807) : ReadsInt w .u8 (some ⟨g, o, none⟩) xs.length xs :=
  ⟨rfl, hl, fun _ => ⟨_, rfl, fun j hj => by rw [Addr.add_lit]; exact h.cell j hj⟩⟩
theorem Br.bro {w : World} {g : Nat} {xs : List Int} (h : Br w 5 g xs) : BrO w 5 g 0 xs := by
  obtain ⟨cur, fr, h1, h2, h3⟩ := h
  exact ⟨cur, fr, h1, fun j hj => by rw [Nat.zero_add]; exact h2 j hj, fun j hj => by rw [Nat.zero_add]; exact h3 j hj⟩
theorem OnlyO.below {g o n : Nat} {w w' : World} (h : OnlyO g o n w w') {B : Nat} (hB : B ≤ g) : Below B w w' := ⟨h.os, h.tape, h.output, by rw [h.size]; exact Nat.le_refl _, fun b hb => h.others b (by omega)⟩
theorem nhk_conv (w : World) (key : ByteArray) (c : Nat) (dn : Bool) (hks : key.size ≤ 140737488351232) :
    Calls Try.prog 60 #[.slice (some ⟨w.heap.size, 0, none⟩) key.size c, .bool dn] (Lib.bytesWorld w 5 key) fun e w' => e = .returned (.tuple #[]) ∧ BrO w' 5 w.heap.size 0 (nkd dn (ns key)) ∧ Below w.heap.size w w' := by
  have hbr := Br.bro (Br.conv w 5 key)
  have hbl := conv_below w 5 key
  cases dn with
  | true =>
    refine (nhk_true _ _).mono ?_
    rintro e w' ⟨rfl, rfl⟩
    exact ⟨rfl, hbr, hbl⟩
  | false =>
    refine (nhkO_calls _ w.heap.size 0 key.size c (ns key) (ns_length key) (fun x hx => ns_range key x hx) (by omega) hbr).mono ?_
    rintro e w' ⟨rfl, h1, h2⟩
    exact ⟨rfl, h1, hbl.trans (h2.below (Nat.le_refl _))⟩
set_option maxHeartbeats 1000000 in
set_option maxRecDepth 100000 in
theorem tPeek_calls (l : Nat → Nat) (w : World) (q p n : Nat) (V kv vv : Value) (S : List Slot) (kx vx : List Int) (dn : Bool) (h : TrC l w q p V n S kv kx vv vx dn) (hn : n ≤ 1099511627775) (key : ByteArray) (hks : key.size ≤ 140737488351232) :
    Calls Try.prog 62 #[.pointer (some ⟨p, 0, none⟩), .string key] w fun e w' => ∃ v, e = .returned v ∧ PeekSays w' (getKV (nkd dn (ns key)) (kvs S n)) v ∧ Below w.heap.size w w' := by
  have hcv := Lib.run_convert_string_bytes (P := Try.prog) w 9 54 5 key Try.underlying9 Try.underlying54 Try.underlying5
  have hbl := conv_below w 5 key
  obtain ⟨c, hc⟩ : ∃ c, grownCap w key.size 0 5 = c := ⟨_, rfl⟩
  have hcap : key.size ≤ c := by rw [← hc]; exact grownCap_ge w key.size 0 _
  have HN := Lib.hid (nhk_conv w key c dn hks)
  have hT1 := h.keep (Stp.of_below_same hbl (fun _ => False) l) (fun _ k => k.elim)
  rw [hc] at hcv
  obtain ⟨W, hW⟩ : ∃ W, Lib.bytesWorld w 5 key = W := ⟨_, rfl⟩
  rw [hW] at hcv HN hT1
  obtain ⟨x4, _⟩ := hT1.c4
  obtain ⟨A0, c0, rfl⟩ := h.2.2.2.1.shape
  have HT := Lib.hid h
  have HCAP := Lib.hid hcap
  clear h hc hbl hW hcap
  go_enter Try.func62, Try.ntmps62
  go_wp2_with (first
    | (go_at_call 60; refine HN.out.mono ?_; rintro e w2 ⟨rfl, n1, n2⟩; have hT2 := HT.out.keep (Stp.of_below_same n2 (fun _ => False) l) (fun _ k => k.elim); obtain ⟨x0, _⟩ := hT2.c0; have T2 := Lib.hid hT2; have N1 := Lib.hid n1; have N2 := Lib.hid n2; clear n1 n2 hT2)
    | (go_at_call 76; have q_ := peekArgBytes_calls l w2 (q + 3) n _ S T2.out.2.2.2.1 (by omega) (some ⟨w.heap.size, 0, none⟩) c (nkd dn (ns key)) (by rw [nkd_length, ns_length]; exact HCAP.out) (N1.out.reads (by rw [nkd_length, ns_length]; omega)); rw [nkd_length, ns_length] at q_; refine q_.mono ?_; rintro e w3 ⟨v, rfl, p1, m, rfl⟩; have P1 := Lib.hid p1; clear p1 q_))
  go_ret
  refine ⟨_, rfl, ?_, pw_below_drewN N2.out _⟩
  rcases P1.out with ⟨e1, e2⟩ | ⟨A, c', vx', e1, e2, e3, e4, e5⟩
  · exact .inl ⟨e1, e2⟩
  · exact .inr ⟨A, c', vx', e1, e2, e3, e4, e5⟩
theorem peek_text {w : World} {r : Option (List Int)} {v : Value} (h : PeekSays w r v) : (convert 54 9 v).run Try.prog w = .ok (.string (strOfNums (r.getD []))) w := by
  rcases h with ⟨rfl, rfl⟩ | ⟨A, c, vx, rfl, rfl, _, h4, _⟩
  · exact conv_read (A := none) (c := 0) (xs := []) ⟨rfl, by simp, fun h => by simp at h⟩
  · exact conv_read h4
set_option maxHeartbeats 1000000 in
set_option maxRecDepth 100000 in
theorem tGet_calls (l : Nat → Nat) (w : World) (q p n : Nat) (V kv vv : Value) (S : List Slot) (kx vx : List Int) (dn : Bool) (h : TrC l w q p V n S kv kx vv vx dn) (hn : n ≤ 1099511627775) (key : ByteArray) (hks : key.size ≤ 140737488351232) :
    Calls Try.prog 44 #[.pointer (some ⟨p, 0, none⟩), .string key] w fun e w' => e = .returned (.string (strOfNums ((getKV (nkd dn (ns key)) (kvs S n)).getD []))) ∧ Below w.heap.size w w' := by
  have HP := Lib.hid (tPeek_calls l w q p n V kv vv S kx vx dn h hn key hks)
  obtain ⟨T, hT⟩ : ∃ T, strOfNums ((getKV (nkd dn (ns key)) (kvs S n)).getD []) = T := ⟨_, rfl⟩
  rw [hT]
  have HT := Lib.hid hT
  clear h hT
  go_enter Try.func44, Try.ntmps44
  go_wp2_with (go_at_call 62; refine HP.out.mono ?_; rintro e w2 ⟨v, rfl, p1, p2⟩; have hcv := peek_text p1; rw [HT.out] at hcv; have P2 := Lib.hid p2; clear p1 p2)
  go_ret
  exact ⟨rfl, P2.out⟩
def MovedT (l : Nat → Nat) (w : World) (q p : Nat) (dn : Bool) (n : Nat) (R : List KVx) (e : Ending) (w' : World) : Prop := ∃ l1 V1 n1 S1 kv1 kx1 vv1 vx1, e = .returned (.tuple #[]) ∧ TrC l1 w' q p V1 n1 S1 kv1 kx1 vv1 vx1 dn ∧ n1 ≤ n ∧ Stp (Tz q) l l1 w w' ∧ kvs S1 n1 = R
set_option maxHeartbeats 1000000 in
set_option maxRecDepth 100000 in
theorem tDel_calls (l : Nat → Nat) (w : World) (q p n : Nat) (V kv vv : Value) (S : List Slot) (kx vx : List Int) (dn : Bool) (h : TrC l w q p V n S kv kx vv vx dn) (hn : n ≤ 1099511627775) (key : ByteArray) (hks : key.size ≤ 140737488351232) :
    Calls Try.prog 43 #[.pointer (some ⟨p, 0, none⟩), .string key] w fun e w' => MovedT l w q p dn n (delKV (strOfNums (nkd dn (ns key))) (kvs S n)) e w' := by
  have hcv := Lib.run_convert_string_bytes (P := Try.prog) w 9 54 5 key Try.underlying9 Try.underlying54 Try.underlying5
  have hbl := conv_below w 5 key
  obtain ⟨c, hc⟩ : ∃ c, grownCap w key.size 0 5 = c := ⟨_, rfl⟩
  have HN := Lib.hid (nhk_conv w key c dn hks)
  have hT1 := h.keep (Stp.of_below_same hbl (fun _ => False) l) (fun _ k => k.elim)
  rw [hc] at hcv
  obtain ⟨W, hW⟩ : ∃ W, Lib.bytesWorld w 5 key = W := ⟨_, rfl⟩
  rw [hW] at hcv HN hT1
  obtain ⟨x4, _⟩ := hT1.c4
  obtain ⟨A0, c0, rfl⟩ := h.2.2.2.1.shape
  have HT := Lib.hid h
  clear h hc hbl hW
  go_enter Try.func43, Try.ntmps43
  go_wp2_with (first
    | (go_at_call 60; refine HN.out.mono ?_; rintro e w2 ⟨rfl, n1, n2⟩; have hT2 := HT.out.keep (Stp.of_below_same n2 (fun _ => False) l) (fun _ k => k.elim); obtain ⟨x0, _⟩ := hT2.c0; have T2 := Lib.hid hT2; have N1 := Lib.hid n1; have N2 := Lib.hid n2; clear n1 n2 hT2)
    | (go_at_call 61; have q_ := delAllArgsBytes_calls l w2 (q + 3) n _ S (some ⟨w.heap.size, 0, none⟩) c (nkd dn (ns key)) (N1.out.reads (by rw [nkd_length, ns_length]; omega)) T2.out.2.2.2.1 (by omega); rw [nkd_length, ns_length] at q_; refine q_.mono ?_; rintro e w3 ⟨V1, n1, S1, rfl, d1, d2, d3, d4⟩; obtain ⟨A2, c2, rfl⟩ := d1.shape; obtain ⟨⟨y0, g0⟩, k5, k6⟩ := T2.out.list d4 d1; have K5 := Lib.hid k5; have K6 := Lib.hid k6; have D2 := Lib.hid d2; have D3 := Lib.hid d3; clear d1 d2 d3 d4 k5 k6 q_))
  go_end0
  exact ⟨_, _, _, _, _, _, _, _, rfl, K5.out, D2.out, (Stp.of_below_same N2.out (Tz q) l).trans K6.out, D3.out⟩
end Go.Proofs.Ytoimkmoalmmooaa.Own
set_option linter.unusedVariables false
set_option linter.unusedSimpArgs false
namespace Go.Proofs.Ytoimkmoalmmooaa.Own
open Go.RowKit Go.Proofs.YtoimkmoalmmooaaW.PrintWords Go.Proofs.YtoimkmoalmmooaaW.PrintLast Go.Proofs.YtoimkmoalmmooaaW.PrintMore Go.Proofs.Ytoimkmoalmmooaa.Base Go.Proofs.Ytoimkmoalmmooaa.Gv Go.Proofs.Ytoimkmoalmmooaa.Given
theorem KvS.cut0 {l : Nat → Nat} {w : World} {z n : Nat} {A : Option Addr} {c : Nat} {S : List Slot} (h : KvS l w z (.slice A n c) n S) : KvS l w z (.slice A 0 c) 0 S := by
  obtain ⟨hz, hn, ⟨e, h2, h3⟩ | ⟨a, e, hle, hmx, hkv⟩⟩ := h
  · cases e
    exact ⟨hz, by simp, .inl ⟨rfl, h2, rfl⟩⟩
  · cases e
    exact ⟨hz, by simp, .inr ⟨a, rfl, Nat.zero_le _, hmx, hkv⟩⟩
theorem cutzk (A : Option Addr) (n c : Nat) (W : World) : (Instr.slice 53 (.slice A n c) none (some (.int .i64 0)) none).run Try.prog W = .ok (.slice A 0 c) W := by
  have hinfo : (Try.prog.info? 56).map (fun i => (i.zero, i.size, i.bytes)) = some (some (.agg #[.slice none 0 0, .slice none 0 0, .bool false]), 3, 56) := by kernel_rfl
  obtain ⟨i0, hi0, hz0, hz1, hz2⟩ := info_parts hinfo
  have hel : Try.prog.elem 53 = 56 := by simp [Program.elem, Try.underlying53]
  have hu : Try.prog.underlying 53 = some (.slice (Try.prog.elem 53)) := by rw [hel]; exact Try.underlying53
  have hsz : (sizeOf 56).run Try.prog W = .ok 3 W := by simp [sizeOf, typeInfo, hi0, hz1]
  have ha : (A.map fun x => x.add 0) = A := by cases A <;> simp [Addr.add]
  rw [run_slice_h W 53 A n c hu .i64 0 (by omega) (by omega), hel, hsz]
  simp [Result.andThen, sliced, ha]
set_option maxHeartbeats 1000000 in
set_option maxRecDepth 100000 in
theorem tResetSkip_calls (l : Nat → Nat) (w : World) (q p n : Nat) (V kv vv : Value) (S : List Slot) (kx vx : List Int) (dn : Bool) (h : TrC l w q p V n S kv kx vv vx dn) :
    Calls Try.prog 63 #[.pointer (some ⟨p, 0, none⟩)] w fun e w' => ∃ V1, e = .returned (.tuple #[]) ∧ TrC l w' q p V1 0 S kv kx vv vx dn ∧ Stp (Tz q) l l w w' := by
  obtain ⟨A0, c0, rfl⟩ := h.2.2.2.1.shape
  obtain ⟨x0, g0⟩ := h.c0
  have hcz := cutzk
  obtain ⟨_, k1, k2⟩ := h.list (Stp.refl _ _ _) h.2.2.2.1.cut0
  have K1 := Lib.hid k1
  have K2 := Lib.hid k2
  clear h k1 k2
  go_enter Try.func63, Try.ntmps63
  go_wp2
  go_end0
  exact ⟨_, rfl, K1.out, K2.out⟩
theorem TrC.setDn {l : Nat → Nat} {w : World} {q p n : Nat} {V kv vv : Value} {S : List Slot} {kx vx : List Int} {dn : Bool} (h : TrC l w q p V n S kv kx vv vx dn) (b : Bool) : TrC l (w.setCell ⟨p, 4, none⟩ (.bool b)) q p V n S kv kx vv vx b ∧ Stp (Tz q) l l w (w.setCell ⟨p, 4, none⟩ (.bool b)) := by
  obtain ⟨h1, h2, h3, h4, h5, h6⟩ := h
  obtain ⟨k3, s3⟩ := h3.set 4 (.bool b)
  exact ⟨⟨h1, h2, k3, h4.keep s3 (fun lab e => by omega), h5.keep s3 (by omega), h6.keep s3 (by omega)⟩, s3.mono (fun x e => .inl e)⟩
set_option maxHeartbeats 1000000 in
set_option maxRecDepth 100000 in
theorem tDisable_calls (l : Nat → Nat) (w : World) (q p n : Nat) (V kv vv : Value) (S : List Slot) (kx vx : List Int) (dn : Bool) (h : TrC l w q p V n S kv kx vv vx dn) :
    Calls Try.prog 51 #[.pointer (some ⟨p, 0, none⟩)] w fun e w' => e = .returned (.tuple #[]) ∧ TrC l w' q p V n S kv kx vv vx true ∧ Stp (Tz q) l l w w' := by
  obtain ⟨x4, g4⟩ := h.c4
  have HK := Lib.hid (h.setDn true)
  clear h
  go_enter Try.func51, Try.ntmps51
  go_wp2
  go_end0
  exact ⟨rfl, HK.out.1, HK.out.2⟩
set_option maxHeartbeats 1000000 in
set_option maxRecDepth 100000 in
theorem tReset_calls (l : Nat → Nat) (w : World) (q p n : Nat) (V kv vv : Value) (S : List Slot) (kx vx : List Int) (dn : Bool) (h : TrC l w q p V n S kv kx vv vx dn) :
    Calls Try.prog 52 #[.pointer (some ⟨p, 0, none⟩)] w fun e w' => ∃ V1, e = .returned (.tuple #[]) ∧ TrC l w' q p V1 0 S kv kx vv vx false ∧ Stp (Tz q) l l w w' := by
  obtain ⟨x4, g4⟩ := h.c4
  obtain ⟨k1, k2⟩ := h.setDn false
  have HR := Lib.hid (tResetSkip_calls l _ q p n V kv vv S kx vx false k1)
  have K2 := Lib.hid k2
  clear h k1 k2
  go_enter Try.func52, Try.ntmps52
  go_wp2_with (
    go_at_call 63
    refine HR.out.mono ?_
    rintro e w1 ⟨V1, rfl, h1, h2⟩
    have H1 := Lib.hid h1
    have H2 := Lib.hid h2
    clear h1 h2)
  go_end0
  exact ⟨_, rfl, H1.out, K2.out.trans H2.out⟩
set_option maxHeartbeats 1000000 in
set_option maxRecDepth 100000 in
theorem tEmpty_calls (l : Nat → Nat) (w : World) (q p n : Nat) (V kv vv : Value) (S : List Slot) (kx vx : List Int) (dn : Bool) (h : TrC l w q p V n S kv kx vv vx dn) :
    Calls Try.prog 49 #[.pointer (some ⟨p, 0, none⟩)] w fun e w' => e = .returned (.bool (decide (n = 0))) ∧ w' = w := by
  obtain ⟨A0, c0, rfl⟩ := h.2.2.2.1.shape
  obtain ⟨x0, g0⟩ := h.c0
  have hb : ((n : Int) == 0) = decide (n = 0) := by
    by_cases h0 : n = 0
    · subst h0; rfl
    · rw [decide_eq_false h0]; exact beq_eq_false_iff_ne.2 (by omega)
  clear h
  go_enter Try.func49, Try.ntmps49
  go_wp2
  go_ret
  exact ⟨by first | rfl | (rw [hb]; rfl), rfl⟩
end Go.Proofs.Ytoimkmoalmmooaa.Own
set_option linter.unusedVariables false
namespace Go.Proofs.Ytoimkmoalmmooaa.Given
open Go.RowKit Go.Proofs.YtoimkmoalmmooaaW.PrintWords Go.Proofs.YtoimkmoalmmooaaW.PrintLast Go.Proofs.YtoimkmoalmmooaaW.PrintMore
def hertzstr_StrCommaSpace.f : Option (List Int) := some ([44, 32] : List Int)
theorem hertzstr_StrCommaSpace.calls (r : List Int) (w : World) (h : hertzstr_StrCommaSpace.f = some r) :
    Calls Try.prog 65 #[] w fun e w' => ∃ v0_ : Value, e = .returned (v0_) ∧ MR.R (Kd.int .u8) 5 w' w.heap.size (fun _ => True) v0_ r ∧ Below w.heap.size w w' := by
  obtain rfl := Option.some.inj h
  have kc := fun (w : World) (C : Array Value) (n c : Nat) => Lib.run_convert_bytes_const (P := Try.prog) w 54 5 C n c Try.underlying54 Try.underlying5
  go_enter Try.func65, Try.ntmps65
  go_wp2
  go_ret
  exact ⟨_, rfl, MR.made w [44, 32] (by decide) _ _ rfl, (Below.refl _ _).alloc (Nat.le_refl _) _⟩
def hertzstr_StrCRLF.f : Option (List Int) := some ([13, 10] : List Int)
theorem hertzstr_StrCRLF.calls (r : List Int) (w : World) (h : hertzstr_StrCRLF.f = some r) :
    Calls Try.prog 72 #[] w fun e w' => ∃ v0_ : Value, e = .returned (v0_) ∧ MR.R (Kd.int .u8) 5 w' w.heap.size (fun _ => True) v0_ r ∧ Below w.heap.size w w' := by
  obtain rfl := Option.some.inj h
  have kc := fun (w : World) (C : Array Value) (n c : Nat) => Lib.run_convert_bytes_const (P := Try.prog) w 54 5 C n c Try.underlying54 Try.underlying5
  go_enter Try.func72, Try.ntmps72
  go_wp2
  go_ret
  exact ⟨_, rfl, MR.made w [13, 10] (by decide) _ _ rfl, (Below.refl _ _).alloc (Nat.le_refl _) _⟩
def hertzstr_StrColonSpace.f : Option (List Int) := some ([58, 32] : List Int)
theorem hertzstr_StrColonSpace.calls (r : List Int) (w : World) (h : hertzstr_StrColonSpace.f = some r) :
    Calls Try.prog 100 #[] w fun e w' => ∃ v0_ : Value, e = .returned (v0_) ∧ MR.R (Kd.int .u8) 5 w' w.heap.size (fun _ => True) v0_ r ∧ Below w.heap.size w w' := by
  obtain rfl := Option.some.inj h
  have kc := fun (w : World) (C : Array Value) (n c : Nat) => Lib.run_convert_bytes_const (P := Try.prog) w 54 5 C n c Try.underlying54 Try.underlying5
  go_enter Try.func100, Try.ntmps100
  go_wp2
  go_ret
  exact ⟨_, rfl, MR.made w [58, 32] (by decide) _ _ rfl, (Below.refl _ _).alloc (Nat.le_refl _) _⟩
end Go.Proofs.Ytoimkmoalmmooaa.Given
set_option linter.unusedVariables false
set_option linter.unusedSimpArgs false
namespace Go.Proofs.Ytoimkmoalmmooaa.Own
open Go.RowKit Go.Proofs.YtoimkmoalmmooaaW.PrintWords Go.Proofs.YtoimkmoalmmooaaW.PrintLast Go.Proofs.YtoimkmoalmmooaaW.PrintMore Go.Proofs.Ytoimkmoalmmooaa.Base Go.Proofs.Ytoimkmoalmmooaa.Gv Go.Proofs.Ytoimkmoalmmooaa.Given
def fixB (c : Int) : Int := if c = 13 ∨ c = 10 then 32 else c
theorem Bf.setAt {l : Nat → Nat} {w : World} {z g n c : Nat} {xs : List Int} (h : Bf l w z (.slice (some ⟨g, 0, none⟩) n c) xs) (j : Nat) (v : Int) : Bf l (w.setCell ⟨g, j, none⟩ (.int .u8 v)) z (.slice (some ⟨g, 0, none⟩) n c) (xs.set j v) ∧ Stp (· = z) l l w (w.setCell ⟨g, j, none⟩ (.int .u8 v)) := by
  have hn : n = xs.length := h.cut0.1
  subst hn
  have hlg : l g = z := h.2 g rfl
  obtain ⟨h1, h2⟩ := own_store h.1 (j : Int) v
  rw [Int.toNat_natCast] at h1
  refine ⟨⟨by simpa using h1, h.2⟩, ?_⟩
  have := Stp.set (l := l) w ⟨g, j, none⟩ (.int .u8 v)
  rwa [show l (⟨g, j, none⟩ : Addr).block = z from hlg] at this
theorem Bf.cellAt {l : Nat → Nat} {w : World} {z g n c : Nat} {xs : List Int} (h : Bf l w z (.slice (some ⟨g, 0, none⟩) n c) xs) (j : Nat) (hj : j < xs.length) : w.cell? ⟨g, j, none⟩ = some (.int .u8 (xs.getD j 0)) ∧ w.frozen? ⟨g, j, none⟩ = false := by
  have hn : n = xs.length := h.cut0.1
  subst hn
  refine ⟨?_, h.1.frozenAt j⟩
  rw [h.1.cellAt j (by omega)]
  unfold nums
  rw [List.getElem?_map, List.getElem?_eq_getElem hj, List.getD_eq_getElem?_getD, List.getElem?_eq_getElem hj]
  rfl
theorem cut8 (A : Option Addr) (n c k : Nat) (hk : k ≤ n) (W : World) : (Instr.slice 54 (.slice A n c) (some (.int .i64 (k : Int))) none none).run Try.prog W = .ok (.slice (if c = k then A else A.map (·.add k)) (n - k) (c - k)) W := by
  obtain ⟨i0, hi0, hz0, hz1, hz2⟩ := info_parts info8
  have hel : Try.prog.elem 54 = 5 := by simp [Program.elem, Try.underlying54]
  have hu : Try.prog.underlying 54 = some (.slice (Try.prog.elem 54)) := by rw [hel]; exact Try.underlying54
  have hsz : (sizeOf 5).run Try.prog W = .ok 1 W := by simp [sizeOf, typeInfo, hi0, hz1]
  rw [run_slice_l W 54 A n c hu .i64 (k : Int) (by omega) (by omega), hel, hsz]
  simp [Result.andThen, sliced]
set_option maxHeartbeats 1000000 in
set_option maxRecDepth 100000 in
theorem headerValue_calls (l : Nat → Nat) (w : World) (zd : Nat) (V : Value) (xs : List Int) (hV : Bf l w zd V xs) (A : Option Addr) (c : Nat) (ys : List Int) (hs : Src (· = zd) l w A ys.length ys) (hl : xs.length + ys.length ≤ 140737488355328) :
    Calls Try.prog 101 #[V, .slice A ys.length c] w fun e w' => ∃ l1 A1 c1, e = .returned (.slice A1 (xs ++ ys.map fixB).length c1) ∧ Bf l1 w' zd (.slice A1 (xs ++ ys.map fixB).length c1) (xs ++ ys.map fixB) ∧ Stp (· = zd) l l1 w w' := by
  obtain ⟨A0, c0, rfl, _⟩ := hV.slice
  obtain ⟨N0, hN0⟩ : ∃ n, xs.length = n := ⟨_, rfl⟩
  obtain ⟨m, hm⟩ : ∃ n, ys.length = n := ⟨_, rfl⟩
  have hN : (xs ++ ys.map fixB).length = N0 + m := by rw [List.length_append, List.length_map, hN0, hm]
  have HV := Lib.hid hV
  have HS := Lib.hid hs
  have HN0 := Lib.hid hN0
  have HM := Lib.hid hm
  rw [hN, hm, hN0]
  rw [hN0, hm] at hl
  clear hV hs hN0 hm hN
  go_enter Try.func101, Try.ntmps101
  go_wp2_with (
    at_builtin
    refine app_row zd rfl (.tmp 8) (.tmp 9) 54 rfl Try.underlying54 info8 _ xs ys A m c rfl rfl (by have := HV.out; rw [HN0.out] at this; exact this) (by have := HS.out.now; rw [HM.out] at this; exact this) (by rw [HN0.out]; omega) ?_
    intro v1 w1 l1 hB st _
    obtain ⟨A1, c1, rfl, hc1⟩ := hB.slice
    have hlen : (xs ++ ys).length = N0 + m := by rw [List.length_append, HN0.out, HM.out]
    rw [hlen] at hB hc1
    rw [hlen]
    have hsl := fun W : World => cut8 A1 (N0 + m) c1 N0 (by omega) W
    rw [Nat.add_sub_cancel_left] at hsl
    obtain ⟨A3, hA3⟩ : ∃ A3, (if c1 = N0 then A1 else A1.map (·.add N0)) = A3 := ⟨_, rfl⟩
    rw [hA3] at hsl
    have HA3 := Lib.hid hA3
    have HB := Lib.hid hB
    have ST := Lib.hid st
    have HC1 := Lib.hid hc1
    clear hB st hlen hA3 hc1)
  go_loopw [6, 7, 17] (fun _ _ iv wr => ∃ k : Nat, iv = .int .i64 k ∧ k ≤ m ∧ Hid (Bf l1 wr zd (.slice A1 (N0 + m) c1) (xs ++ ((ys.take k).map fixB ++ ys.drop k))) ∧ Hid (Stp (· = zd) l1 l1 w1 wr)) (fun _ _ iv _ => m - (intOf iv).toNat)
  case atStart => exact ⟨0, rfl, by omega, Lib.hid (by simpa using HB.out), Lib.hid (Stp.refl _ _ _)⟩
  case round =>
    obtain ⟨k, rfl, hk, HBk, HSk⟩ := hrel
    by_cases hlt : k < m
    · have q1 : (k : Int) < (m : Int) := by omega
      have hml := HM.out
      have hkl : (xs ++ ((ys.take k).map fixB ++ ys.drop k)).length = N0 + m := by
        rw [List.length_append, List.length_append, List.length_map, List.length_take, List.length_drop, HN0.out]; omega
      obtain ⟨g, rfl⟩ : ∃ g, A1 = some ⟨g, 0, none⟩ := by
        obtain ⟨g, e, _⟩ := HBk.out.byte (fun e => by rw [e] at hkl; simp at hkl; omega)
        exact ⟨g, e⟩
      have e3 : A3 = some ⟨g, N0, none⟩ := by
        rw [← HA3.out, if_neg (by have := HC1.out; omega)]
        simp [Addr.add]
        intro h0; rw [h0]
      subst e3
      obtain ⟨x0, f0⟩ := HBk.out.cellAt (N0 + k) (by omega)
      have hpre : (xs ++ (ys.take k).map fixB).length = N0 + k := by rw [List.length_append, List.length_map, List.length_take, HN0.out]; omega
      have hd : ys.drop k = ys.getD k 0 :: ys.drop (k + 1) := by
        rw [List.drop_eq_getElem_cons (by omega), List.getD_eq_getElem?_getD, List.getElem?_eq_getElem (by omega)]; rfl
      have hget : (xs ++ ((ys.take k).map fixB ++ ys.drop k)).getD (N0 + k) 0 = ys.getD k 0 := by
        rw [← List.append_assoc, List.getD_eq_getElem?_getD, List.getElem?_append_right (by omega), hpre, Nat.sub_self, hd]; rfl
      rw [hget] at x0
      have htk : ys.take (k + 1) = ys.take k ++ [ys.getD k 0] := by
        rw [List.take_add_one, List.getD_eq_getElem?_getD, List.getElem?_eq_getElem (by omega)]; rfl
      obtain ⟨b, hb⟩ : ∃ b, ys.getD k 0 = b := ⟨_, rfl⟩
      rw [hb] at x0 htk hd
      have hnext : xs ++ ((ys.take (k + 1)).map fixB ++ ys.drop (k + 1)) = (xs ++ (ys.take k).map fixB) ++ fixB b :: ys.drop (k + 1) := by rw [htk]; simp
      have hset : (xs ++ ((ys.take k).map fixB ++ ys.drop k)).set (N0 + k) (fixB b) = xs ++ ((ys.take (k + 1)).map fixB ++ ys.drop (k + 1)) := by
        rw [hnext, hd, ← List.append_assoc, List.set_append_right _ _ (by omega), hpre, Nat.sub_self, List.set_cons_zero]
      have hsame : fixB b = b → xs ++ ((ys.take k).map fixB ++ ys.drop k) = xs ++ ((ys.take (k + 1)).map fixB ++ ys.drop (k + 1)) := fun e => by
        rw [hnext, e, hd]; simp
      have HSET := Lib.hid hset
      have HSAME := Lib.hid hsame
      clear hml hkl hpre hd hget htk hb hnext hset hsame
      by_cases h13 : b = 13
      · subst h13
        have hst := HBk.out.setAt (N0 + k) 32
        rw [show (32 : Int) = fixB 13 from rfl, HSET.out] at hst
        have HST := Lib.hid hst
        clear hst
        go_wp2
        go_roundw
        case rel => exact ⟨k + 1, by go_num, by omega, Lib.hid HST.out.1, Lib.hid (HSk.out.trans HST.out.2)⟩
        case measure => simp [intOf]; omega
      · have e13 : (b == 13) = false := beq_eq_false_iff_ne.2 h13
        by_cases h10 : b = 10
        · subst h10
          have hst := HBk.out.setAt (N0 + k) 32
          rw [show (32 : Int) = fixB 10 from rfl, HSET.out] at hst
          have HST := Lib.hid hst
          clear hst
          go_wp2
          go_roundw
          case rel => exact ⟨k + 1, by go_num, by omega, Lib.hid HST.out.1, Lib.hid (HSk.out.trans HST.out.2)⟩
          case measure => simp [intOf]; omega
        · have e10 : (b == 10) = false := beq_eq_false_iff_ne.2 h10
          have hs2 := HBk.out
          rw [HSAME.out (if_neg (by omega))] at hs2
          have HS2 := Lib.hid hs2
          clear hs2 h13 h10
          go_wp2
          go_roundw
          case rel => exact ⟨k + 1, by go_num, by omega, HS2, HSk⟩
          case measure => simp [intOf]; omega
    · obtain rfl : m = k := by omega
      have q1 : ¬ ((m : Int) < (m : Int)) := by omega
      go_wp2
      go_ret
      refine ⟨l1, A1, c1, rfl, ?_, ST.out.trans HSk.out⟩
      have := HBk.out
      rw [List.take_of_length_le (by rw [HM.out]; exact Nat.le_refl _), List.drop_eq_nil_of_le (by rw [HM.out]; exact Nat.le_refl _), List.append_nil] at this
      exact this
def tokH (c : Int) : Bool := decide (48 ≤ c ∧ c ≤ 57) || decide (65 ≤ c ∧ c ≤ 90) || decide (97 ≤ c ∧ c ≤ 122) || decide (c = 33 ∨ c = 35 ∨ c = 36 ∨ c = 37 ∨ c = 38 ∨ c = 39 ∨ c = 42 ∨ c = 43 ∨ c = 45 ∨ c = 46 ∨ c = 94 ∨ c = 95 ∨ c = 96 ∨ c = 124 ∨ c = 126)
def tokV (c : Int) : Int := if tokH c = true then 1 else 0
def lineOf (k v : List Int) : List Int := if k.all tokH = true then k ++ [58, 32] ++ v.map fixB ++ [13, 10] else []
theorem mr_read {w : World} {base n c e : Nat} {ok : Nat → Prop} {A : Option Addr} {xs : List Int} (h : MR.R (Kd.int .u8) e w base ok (.slice A n c) xs) : ReadsInt w .u8 A n xs := by
  obtain ⟨rfl, _, h3⟩ := MR.R_reads' h
  exact Kd.reads_of_C h3
theorem below_stp {w w' : World} (h : Below w.heap.size w w') (F : Nat → Prop) (l : Nat → Nat) : Stp F l l w w' := Stp.of_below_same h F l
set_option maxHeartbeats 4000000 in
set_option maxRecDepth 100000 in
theorem headerLine_calls (l : Nat → Nat) (w : World) (zd : Nat) (V : Value) (xs : List Int) (hV : Bf l w zd V xs) (A : Option Addr) (c : Nat) (ks : List Int) (hr : ∀ x ∈ ks, 0 ≤ x ∧ x ≤ 255) (hk : Src (· = zd) l w A ks.length ks) (B : Option Addr) (d : Nat) (ys : List Int) (hs : Src (· = zd) l w B ys.length ys) (hl : xs.length + (ks.length + ys.length + 4) ≤ 140737488355328) :
    Calls Try.prog 71 #[V, .slice A ks.length c, .slice B ys.length d] w fun e w' => ∃ l1 A1 c1, e = .returned (.slice A1 (xs ++ lineOf ks ys).length c1) ∧ Bf l1 w' zd (.slice A1 (xs ++ lineOf ks ys).length c1) (xs ++ lineOf ks ys) ∧ Stp (· = zd) l l1 w w' := by
  obtain ⟨A0, c0, rfl, _⟩ := hV.slice
  obtain ⟨N0, hN0⟩ : ∃ n, xs.length = n := ⟨_, rfl⟩
  obtain ⟨m, hm⟩ : ∃ n, ks.length = n := ⟨_, rfl⟩
  obtain ⟨m2, hm2⟩ : ∃ n, ys.length = n := ⟨_, rfl⟩
  have HV := Lib.hid hV
  have HS := Lib.hid hs
  have HK := Lib.hid hk
  have HR := Lib.hid hr
  have HN0 := Lib.hid hN0
  have HM := Lib.hid hm
  have HM2 := Lib.hid hm2
  rw [hm, hm2, hN0]
  rw [hN0, hm, hm2] at hl
  have HL := Lib.hid hl
  have hmb : m ≤ 140737488355328 := by omega
  clear hV hs hk hr hN0 hm hm2 hl
  go_enter Try.func71, Try.ntmps71
  go_wp2
  go_loopw [8, 11] (fun _ iv wr => ∃ k : Nat, iv = .int .i64 k ∧ k ≤ m ∧ wr = w ∧ Hid (∀ j : Nat, j < k → tokH (ks.getD j 0) = true)) (fun _ iv _ => m - (intOf iv).toNat)
  case atStart => exact ⟨0, rfl, by omega, rfl, Lib.hid (fun j hj => absurd hj (by omega))⟩
  case round =>
    obtain ⟨k, rfl, hk, rfl, HA⟩ := hrel
    by_cases hlt : k < m
    · have q1 : (k : Int) < (m : Int) := by omega
      obtain ⟨b, hb⟩ : ∃ b, ks.getD k 0 = b := ⟨_, rfl⟩
      have hkr : 0 ≤ b ∧ b ≤ 255 := by
        have := HR.out (ks.getD k 0) (by
          have := HM.out
          rw [List.getD_eq_getElem?_getD, List.getElem?_eq_getElem (by omega)]; exact List.getElem_mem _)
        rwa [hb] at this
      obtain ⟨ad, rfl, hcell⟩ := HK.out.now.2.2 (by have := HM.out; omega)
      have x0 := hcell k (by have := HM.out; omega)
      rw [hb] at x0
      have HB := Lib.hid hb
      clear hcell hb
      by_cases ht : tokH b = true
      · have hv : tokV b = 1 := if_pos ht
        go_wp2_with (refine wpList_index_fn rfl 9 _ _ rfl _ _ .u8 rfl rfl Try.underlying9 hkr.1 hkr.2 tokV ?tb ?_; case tb => decide +kernel)
        go_roundw
        case rel =>
          refine ⟨k + 1, by go_num, by omega, by first | rfl | trivial, Lib.hid (fun j hj => ?_)⟩
          rcases Nat.lt_or_ge j k with h | h
          · exact HA.out j h
          · obtain rfl : j = k := by omega
            rw [HB.out]; exact ht
        case measure => simp [intOf]; omega
      · have hv : tokV b = 0 := if_neg ht
        have hbad : lineOf ks ys = [] := by
          unfold lineOf
          rw [if_neg]
          intro hall
          have := List.all_eq_true.1 hall (ks.getD k 0) (by
            have := HM.out
            rw [List.getD_eq_getElem?_getD, List.getElem?_eq_getElem (by omega)]; exact List.getElem_mem _)
          rw [HB.out] at this
          exact ht this
        have HBAD := Lib.hid hbad
        clear hbad
        go_wp2_with (refine wpList_index_fn rfl 9 _ _ rfl _ _ .u8 rfl rfl Try.underlying9 hkr.1 hkr.2 tokV ?tb ?_; case tb => decide +kernel)
        go_ret
        refine ⟨l, A0, c0, ?_, ?_, Stp.refl _ _ _⟩
        · rw [HBAD.out, List.append_nil, HN0.out]; rfl
        · rw [HBAD.out, List.append_nil]; exact HV.out
    · obtain rfl : m = k := by omega
      have q1 : ¬ ((m : Int) < (m : Int)) := by omega
      have hall : lineOf ks ys = ks ++ [58, 32] ++ ys.map fixB ++ [13, 10] := by
        unfold lineOf
        rw [if_pos]
        rw [List.all_eq_true]
        intro x hx
        obtain ⟨j, hj, rfl⟩ := List.mem_iff_getElem.1 hx
        have := HA.out j (by have := HM.out; omega)
        rwa [List.getD_eq_getElem?_getD, List.getElem?_eq_getElem hj] at this
      have HALL := Lib.hid hall
      clear hall
      go_wp2_with (first
        | (at_builtin
           refine app_row zd rfl (.tmp 20) (.tmp 21) 54 rfl Try.underlying54 info8 _ xs ks A m c rfl rfl (by have := HV.out; rw [HN0.out] at this; exact this) (by have := HK.out.now; rw [HM.out] at this; exact this) (by have := HL.out; rw [HN0.out]; omega) ?_
           intro v1 w1 l1 hB st _
           obtain ⟨A1, c1, rfl, hc1⟩ := hB.slice
           have hlen : (xs ++ ks).length = N0 + m := by rw [List.length_append, HN0.out, HM.out]
           rw [hlen] at hB
           rw [hlen]
           have B1 := Lib.hid hB
           have S1 := Lib.hid st
           clear hB st hlen hc1)
        | (go_at_call 100
           refine (hertzstr_StrColonSpace.calls [58, 32] _ rfl).mono ?_
           rintro e w2 ⟨v2, rfl, ho2, hb2⟩
           obtain ⟨A2, k2, rfl⟩ := MR.R_slice ho2
           have R2 := Lib.hid (mr_read ho2)
           have B2 := Lib.hid (B1.out.keep (below_stp hb2 (fun _ => False) l1) (fun k => k))
           have S2 := Lib.hid (S1.out.trans (below_stp hb2 (· = zd) l1))
           clear ho2 hb2)
        | (at_builtin
           refine app_row zd rfl (.tmp 23) (.tmp 24) 54 rfl Try.underlying54 info8 _ (xs ++ ks) [58, 32] A2 2 k2 rfl rfl B2.out R2.out (by have := HL.out; rw [List.length_append, HN0.out, HM.out]; omega) ?_
           intro v3 w3 l3 hB st _
           obtain ⟨A3, c3, rfl, hc3⟩ := hB.slice
           have hlen : (xs ++ ks ++ [58, 32]).length = N0 + m + 2 := by rw [List.length_append, List.length_append, HN0.out, HM.out]; rfl
           rw [hlen] at hB
           rw [hlen]
           have B3 := Lib.hid hB
           have S3 := Lib.hid (S2.out.trans st)
           clear hB st hlen hc3)
        | (go_at_call 101
           have q_ := headerValue_calls l3 w3 zd _ (xs ++ ks ++ [58, 32]) B3.out B d ys (HS.out.step S3.out) (by have := HL.out; have := HM2.out; rw [List.length_append, List.length_append, HN0.out, HM.out]; simp only [List.length_cons, List.length_nil]; omega)
           rw [HM2.out] at q_
           refine q_.mono ?_
           rintro e w4 ⟨l4, A4, c4, rfl, b4, s4⟩
           have hlen : (xs ++ ks ++ [58, 32] ++ ys.map fixB).length = N0 + m + 2 + m2 := by rw [List.length_append, List.length_append, List.length_append, List.length_map, HN0.out, HM.out, HM2.out]; rfl
           rw [hlen] at b4
           rw [hlen]
           have B4 := Lib.hid b4
           have S4 := Lib.hid (S3.out.trans s4)
           clear q_ b4 s4 hlen)
        | (go_at_call 72
           refine (hertzstr_StrCRLF.calls [13, 10] _ rfl).mono ?_
           rintro e w5 ⟨v5, rfl, ho5, hb5⟩
           obtain ⟨A5, k5, rfl⟩ := MR.R_slice ho5
           have R5 := Lib.hid (mr_read ho5)
           have B5 := Lib.hid (B4.out.keep (below_stp hb5 (fun _ => False) l4) (fun k => k))
           have S5 := Lib.hid (S4.out.trans (below_stp hb5 (· = zd) l4))
           clear ho5 hb5)
        | (at_builtin
           have h5 : (xs ++ ks ++ [58, 32] ++ ys.map fixB).length = N0 + m + 2 + m2 := by rw [List.length_append, List.length_append, List.length_append, List.length_map, HN0.out, HM.out, HM2.out]; rfl
           refine app_row zd rfl (.tmp 29) (.tmp 30) 54 rfl Try.underlying54 info8 _ (xs ++ ks ++ [58, 32] ++ ys.map fixB) [13, 10] A5 2 k5 rfl rfl B5.out R5.out (by have := HL.out; rw [h5]; omega) ?_
           intro v6 w6 l6 hB st _
           obtain ⟨A6, c6, rfl, hc6⟩ := hB.slice
           obtain ⟨N6, hN6⟩ : ∃ N, (xs ++ ks ++ [58, 32] ++ ys.map fixB ++ [13, 10]).length = N := ⟨_, rfl⟩
           rw [hN6] at hB
           rw [hN6]
           have HN6 := Lib.hid hN6
           have B6 := Lib.hid hB
           have S6 := Lib.hid (S5.out.trans st)
           clear hB st hc6 h5 hN6))
      go_ret
      have e : xs ++ ks ++ [58, 32] ++ ys.map fixB ++ [13, 10] = xs ++ lineOf ks ys := by rw [HALL.out]; simp
      refine ⟨_, A6, c6, by rw [← e, HN6.out]; rfl, by rw [← e, HN6.out]; exact B6.out, S6.out⟩
end Go.Proofs.Ytoimkmoalmmooaa.Own
set_option linter.unusedVariables false
namespace Go.Proofs.Ytoimkmoalmmooaa.Given
open Go.RowKit Go.Proofs.YtoimkmoalmmooaaW.PrintWords Go.Proofs.YtoimkmoalmmooaaW.PrintLast Go.Proofs.YtoimkmoalmmooaaW.PrintMore Go.Proofs.Ytoimkmoalmmooaa.Base Go.Proofs.Ytoimkmoalmmooaa.Gv
def idx : List Int → Int → Int
  | [], _ => -1
  | x :: l, c => if x = c then 0 else if idx l c = -1 then -1 else idx l c + 1
theorem idx_eq (l : List UInt8) (c : Int) (h0 : 0 ≤ c) (h1 : c ≤ 255) : Lib.indexByte l c.toNat.toUInt8 = idx (l.map fun b => (b.toNat : Int)) c := by
  induction l with
  | nil => rfl
  | cons b l ih =>
    have hb : (b == c.toNat.toUInt8) = decide ((b.toNat : Int) = c) := by
      rw [Bool.eq_iff_iff, beq_iff_eq, decide_eq_true_eq, ← UInt8.toNat_inj]
      have : c.toNat.toUInt8.toNat = c.toNat := by
        rw [Nat.toUInt8_eq, UInt8.toNat_ofNat']; omega
      rw [this]; omega
    simp only [Lib.indexByte, idx, List.map_cons, hb, ih, decide_eq_true_eq, beq_iff_eq]
theorem idx_bytes (xs : List Int) (hx : ∀ x ∈ xs, 0 ≤ x ∧ x ≤ 255) (c : Int) (h0 : 0 ≤ c) (h1 : c ≤ 255) : Lib.indexByte (Lib.bytesOf xs) c.toNat.toUInt8 = idx xs c := by
  rw [idx_eq _ _ h0 h1]
  congr 1
  have : ns (strOfNums xs) = xs := ns_strOfNums hx
  conv => rhs; rw [← this]
  rfl
theorem idx_range (l : List Int) (c : Int) : -1 ≤ idx l c ∧ idx l c < l.length := by
  induction l with
  | nil => simp [idx]
  | cons x l ih =>
    unfold idx
    rw [List.length_cons]
    split
    · omega
    · split <;> omega
set_option maxHeartbeats 1000000 in
set_option maxRecDepth 100000 in
theorem bytes_IndexByte_calls (w : World) (A : Option Addr) (c : Nat) (xs : List Int) (cv : Int) (hx : ∀ x ∈ xs, 0 ≤ x ∧ x ≤ 255) (h0 : 0 ≤ cv) (h1 : cv ≤ 255) (h : ReadsOf (Value.int .u8) 0 w A xs.length xs) :
    Calls Try.prog 64 #[.slice A xs.length c, .int .u8 cv] w fun e w' => e = .returned (.int .i64 (idx xs cv)) ∧ w' = w := by
  rcases Nat.eq_zero_or_pos xs.length with hz | hp
  · obtain rfl : xs = [] := List.eq_nil_of_length_eq_zero hz
    cases A with
    | none =>
      go_enter Try.func64, Try.ntmps64
      go_wp2
      rw [run_callFunc_extern Try.func77 (by kernel_rfl) (by kernel_rfl) (by kernel_rfl) (e := Extern.BytealgIndexByte.indexByte) (by kernel_rfl), Lib.run_indexByteNil w _ c cv]
      simp only [Result.andThen]
      rw [Oper.upon_value]
      go_wp2
      go_ret
      exact ⟨rfl, rfl⟩
    | some a =>
      go_enter Try.func64, Try.ntmps64
      go_wp2
      rw [run_callFunc_extern Try.func77 (by kernel_rfl) (by kernel_rfl) (by kernel_rfl) (e := Extern.BytealgIndexByte.indexByte) (by kernel_rfl), Lib.run_indexByteAt w a 0 c [] rfl (fun i hi => absurd hi (by omega)) cv]
      simp only [Result.andThen]
      rw [Oper.upon_value]
      go_wp2
      go_ret
      exact ⟨rfl, rfl⟩
  · obtain ⟨a, rfl, hc⟩ := h.2.2 hp
    obtain ⟨R, hR⟩ : ∃ R, Lib.indexByte (Lib.bytesOf xs) cv.toNat.toUInt8 = R := ⟨_, rfl⟩
    have hr := Lib.run_indexByteAt (P := Try.prog) w a xs.length c xs rfl hc cv
    rw [hR] at hr
    have hR2 : idx xs cv = R := by rw [← idx_bytes xs hx cv h0 h1]; exact hR
    rw [hR2]
    clear hR hR2 hc h
    go_enter Try.func64, Try.ntmps64
    go_wp2
    rw [run_callFunc_extern Try.func77 (by kernel_rfl) (by kernel_rfl) (by kernel_rfl) (e := Extern.BytealgIndexByte.indexByte) (by kernel_rfl), hr]
    simp only [Result.andThen]
    rw [Oper.upon_value]
    go_wp2
    go_ret
    exact ⟨rfl, rfl⟩
end Go.Proofs.Ytoimkmoalmmooaa.Given
set_option linter.unusedVariables false
set_option linter.unusedSimpArgs false
namespace Go.Proofs.Ytoimkmoalmmooaa.Own
open Go.RowKit Go.Proofs.YtoimkmoalmmooaaW.PrintWords Go.Proofs.YtoimkmoalmmooaaW.PrintLast Go.Proofs.YtoimkmoalmmooaaW.PrintMore Go.Proofs.Ytoimkmoalmmooaa.Base Go.Proofs.Ytoimkmoalmmooaa.Gv Go.Proofs.Ytoimkmoalmmooaa.QA Go.Proofs.Ytoimkmoalmmooaa.Given
def trimL (xs : List Int) : List Int := xs.dropWhile (· == 32)
def trimR (xs : List Int) : List Int := (xs.reverse.dropWhile (· == 32)).reverse
def cutI (xs : List Int) : Nat := if idx xs 44 = -1 then xs.length else (idx xs 44).toNat
def keyT (dn : Bool) (xs : List Int) : List Int := nkd dn (trimR (trimL (xs.take (cutI xs))))
def setGo (dn : Bool) : Nat → List Int → List KVx → Bool → Option (List KVx × Bool)
  | _, [], acc, b => some (acc, b)
  | 0, _ :: _, _, _ => none
  | f + 1, y :: ys, acc, _ => if keyT dn (y :: ys) = [] then none else setGo dn f ((y :: ys).drop (cutI (y :: ys) + 1)) (if badK (keyT dn (y :: ys)) = true then acc else acc ++ [⟨keyT dn (y :: ys), [], true⟩]) (badK (keyT dn (y :: ys)))
theorem cutI_le (xs : List Int) : cutI xs ≤ xs.length := by
  unfold cutI
  have := idx_range xs 44
  split <;> omega
theorem trimL_hd (x : Int) (xs : List Int) (h : x ≠ 32) : trimL (x :: xs) = x :: xs := by unfold trimL; rw [List.dropWhile_cons]; simp [h]
theorem trimL_sp (xs : List Int) : trimL (32 :: xs) = trimL xs := by unfold trimL; rw [List.dropWhile_cons]; simp
theorem trimR_hd (x : Int) (xs : List Int) (h : x ≠ 32) : trimR (xs ++ [x]) = xs ++ [x] := by unfold trimR; rw [List.reverse_append]; simp [List.dropWhile_cons, h]
theorem trimR_sp (xs : List Int) : trimR (xs ++ [32]) = trimR xs := by unfold trimR; rw [List.reverse_append]; simp [List.dropWhile_cons]
theorem BrO.drop {w : World} {e : TypeId} {g o : Nat} {xs : List Int} (h : BrO w e g o xs) (k : Nat) : BrO w e g (o + k) (xs.drop k) := by
  obtain ⟨cur, fr, h1, h2, h3⟩ := h
  refine ⟨cur, fr, h1, fun j hj => ?_, fun j hj => ?_⟩
  · rw [List.length_drop] at hj
    have := h2 (k + j) (by omega)
    rw [Nat.add_assoc, this]
    simp [List.getD_eq_getElem?_getD]
  · rw [List.length_drop] at hj
    have := h3 (k + j) (by omega)
    omega
theorem BrO.take {w : World} {e : TypeId} {g o : Nat} {xs : List Int} (h : BrO w e g o xs) (k : Nat) : BrO w e g o (xs.take k) := by
  obtain ⟨cur, fr, h1, h2, h3⟩ := h
  refine ⟨cur, fr, h1, fun j hj => ?_, fun j hj => ?_⟩
  · rw [List.length_take] at hj
    rw [h2 j (by omega)]
    simp [List.getD_eq_getElem?_getD, List.getElem?_take, show j < k by omega]
  · rw [List.length_take] at hj
    exact h3 j (by omega)
theorem BrO.lt {w : World} {e : TypeId} {g o : Nat} {xs : List Int} (h : BrO w e g o xs) : g < w.heap.size := by
  obtain ⟨cur, fr, h1, _⟩ := h
  exact (Array.getElem?_eq_some_iff.1 h1).1
theorem BrO.same {w w' : World} {e : TypeId} {g o : Nat} {xs : List Int} (h : BrO w e g o xs) (hb : w'.heap[g]? = w.heap[g]?) : BrO w' e g o xs := by
  obtain ⟨cur, fr, h1, h2⟩ := h
  exact ⟨cur, fr, hb.trans h1, h2⟩
theorem BrO.apart {w w' : World} {e : TypeId} {g o o2 n : Nat} {xs : List Int} (h : BrO w e g o xs) (ho : OnlyO g o2 n w w') (hd : o2 + n ≤ o) : BrO w' e g o xs := by
  obtain ⟨cur, fr, h1, h2, h3⟩ := h
  obtain ⟨cur', k1, k2, k3⟩ := ho.own cur e fr h1
  exact ⟨cur', fr, k1, fun j hj => by rw [k3 (o + j) (.inr (by omega))]; exact h2 j hj, h3⟩
theorem nhkd_calls (w : World) (g o n cap : Nat) (xs : List Int) (dn : Bool) (hn : xs.length = n) (hr : ∀ x ∈ xs, 0 ≤ x ∧ x ≤ 255) (hl : n ≤ 4611686018427387904) (hb : BrO w 5 g o xs) :
    Calls Try.prog 60 #[.slice (some ⟨g, o, none⟩) n cap, .bool dn] w fun e w' => e = .returned (.tuple #[]) ∧ BrO w' 5 g o (nkd dn xs) ∧ OnlyO g o n w w' := by
  cases dn with
  | true =>
    refine (nhk_true w _).mono ?_
    rintro e w' ⟨rfl, rfl⟩
    exact ⟨rfl, hb, OnlyO.refl _ _ _ _⟩
  | false => exact nhkO_calls w g o n cap xs hn hr hl hb
theorem cut8h (A : Option Addr) (n c k : Nat) (hk : k ≤ n) (hc : n ≤ c) (W : World) : (Instr.slice 54 (.slice A n c) none (some (.int .i64 (k : Int))) none).run Try.prog W = .ok (.slice A k c) W := by
  have hel : Try.prog.elem 54 = 5 := by simp [Program.elem, Try.underlying54]
  have hu : Try.prog.underlying 54 = some (.slice (Try.prog.elem 54)) := by rw [hel]; exact Try.underlying54
  obtain ⟨i0, hi0, hz0, hz1, hz2⟩ := info_parts info8
  have hsz : (sizeOf 5).run Try.prog W = .ok 1 W := by simp [sizeOf, typeInfo, hi0, hz1]
  have ha : (A.map fun x => x.add 0) = A := by cases A <;> simp [Addr.add]
  rw [run_slice_h W 54 A n c hu .i64 (k : Int) (by omega) (by omega), hel, hsz]
  simp [Result.andThen, sliced, ha]
def ErrV (b : Bool) (v : Value) : Prop := (b = true ∧ ∃ u x, v = .iface u x) ∨ (b = false ∧ v = .nilIface)
theorem addN_says {l : Nat → Nat} {w : World} {q p n : Nat} {V kv vv : Value} {S : List Slot} {kx vx : List Int} {dn : Bool} {A : Option Addr} {c m : Nat} {K : List Int} (hm : K.length = m)
    (h : Calls Try.prog 59 #[.pointer (some ⟨p, 0, none⟩), .slice A K.length c, .slice none 0 0, .bool true] w fun e w' => ∃ l1 V1 n1 S1, TrC l1 w' q p V1 n1 S1 kv kx vv vx dn ∧ n1 ≤ n + 1 ∧ Stp (Tz q) l l1 w w' ∧
      (if badK K = true then (∃ u x, e = .returned (.iface u x)) ∧ kvs S1 n1 = kvs S n else e = .returned .nilIface ∧ kvs S1 n1 = kvs S n ++ [⟨K, [], true⟩])) :
    Calls Try.prog 59 #[.pointer (some ⟨p, 0, none⟩), .slice A m c, .slice none 0 0, .bool true] w fun e w' => ∃ l1 V1 n1 S1 ev, e = .returned ev ∧ TrC l1 w' q p V1 n1 S1 kv kx vv vx dn ∧ n1 ≤ n + 1 ∧ Stp (Tz q) l l1 w w' ∧
      ErrV (badK K) ev ∧ kvs S1 n1 = if badK K = true then kvs S n else kvs S n ++ [⟨K, [], true⟩] := by
  subst hm
  refine h.mono ?_
  rintro e w' ⟨l1, V1, n1, S1, h1, h2, h3, h4⟩
  by_cases hb : badK K = true
  · rw [if_pos hb] at h4
    obtain ⟨⟨u, x, rfl⟩, h5⟩ := h4
    exact ⟨l1, V1, n1, S1, _, rfl, h1, h2, h3, .inl ⟨hb, u, x, rfl⟩, by rw [if_pos hb]; exact h5⟩
  · rw [if_neg hb] at h4
    obtain ⟨rfl, h5⟩ := h4
    exact ⟨l1, V1, n1, S1, _, rfl, h1, h2, h3, .inr ⟨by simpa using hb, rfl⟩, by rw [if_neg hb]; exact h5⟩
end Go.Proofs.Ytoimkmoalmmooaa.Own
set_option linter.unusedVariables false
set_option linter.unusedSimpArgs false
namespace Go.Proofs.Ytoimkmoalmmooaa.Own
open Go.RowKit Go.Proofs.YtoimkmoalmmooaaW.PrintWords Go.Proofs.YtoimkmoalmmooaaW.PrintLast Go.Proofs.YtoimkmoalmmooaaW.PrintMore Go.Proofs.Ytoimkmoalmmooaa.Base Go.Proofs.Ytoimkmoalmmooaa.Gv Go.Proofs.Ytoimkmoalmmooaa.Given
def linesOf (l : List KVx) : List Int := l.flatMap fun x => lineOf x.k x.v
def RgK (l : List KVx) : Prop := ∀ x ∈ l, ∀ b ∈ x.k, 0 ≤ b ∧ b ≤ 255
theorem lineOf_len (k v : List Int) : (lineOf k v).length ≤ k.length + v.length + 4 := by
  unfold lineOf
  split
  · simp; omega
  · simp
def sizeKV (l : List KVx) : Nat := (l.map fun x => x.k.length + x.v.length + 4).sum
theorem sizeKV_cons (x : KVx) (l : List KVx) : sizeKV (x :: l) = x.k.length + x.v.length + 4 + sizeKV l := by simp [sizeKV]
theorem KvS.kv {l : Nat → Nat} {w : World} {z n : Nat} {A : Option Addr} {c : Nat} {S : List Slot} (h : KvS l w z (.slice A n c) n S) {i : Nat} (hi : i < n) : ∃ a, A = some ⟨a, 0, none⟩ ∧ c = S.length ∧ n ≤ S.length ∧ Kv l w z a S := by
  obtain ⟨_, _, ⟨e, _, _⟩ | ⟨a, e, hle, _, hkv⟩⟩ := h
  · cases e; omega
  · cases e; exact ⟨a, rfl, rfl, hle, hkv⟩
set_option maxHeartbeats 4000000 in
set_option maxRecDepth 100000 in
theorem tAppend_calls (l : Nat → Nat) (w : World) (q zh zd p n : Nat) (V : Value) (S : List Slot) (cs : Array Value) (hd : Cl l w q p 58 cs) (hc : cs[0]? = some V) (hk : KvS l w zh V n S) (hn : n ≤ 1099511627775) (D : Value) (xs : List Int) (hD : Bf l w zd D xs) (z1 : zd ≠ q) (z2 : zd % 64 ≠ zh) (hr : RgK (kvs S n)) (hl : xs.length + (sizeKV (kvs S n) + 2) ≤ 140737488355328) :
    Calls Try.prog 53 #[.pointer (some ⟨p, 0, none⟩), D] w fun e w' => ∃ l1 A1 N1 c1, e = .returned (.slice A1 N1 c1) ∧ N1 = (xs ++ linesOf (kvs S n) ++ [13, 10]).length ∧ Bf l1 w' zd (.slice A1 N1 c1) (xs ++ linesOf (kvs S n) ++ [13, 10]) ∧ Stp (· = zd) l l1 w w' := by
  obtain ⟨A0, c0, rfl⟩ := hk.shape
  obtain ⟨AD, cD, rfl, _⟩ := hD.slice
  have x0 : w.cell? ⟨p, 0, none⟩ = some (.slice A0 n c0) := by rw [hd.cell]; exact hc
  have HD := Lib.hid hd
  have HC := Lib.hid hc
  have HK := Lib.hid hk
  have HB := Lib.hid hD
  have HRG := Lib.hid hr
  have HL := Lib.hid hl
  have HLEN := Lib.hid (kvs_length hk.le)
  obtain ⟨ND, hND⟩ : ∃ N, xs.length = N := ⟨_, rfl⟩
  rw [hND]
  have HND := Lib.hid hND
  obtain ⟨RES, hRES⟩ : ∃ R, xs ++ linesOf (kvs S n) = R := ⟨_, rfl⟩
  rw [hRES]
  have HRES := Lib.hid hRES
  clear hd hc hk hD hr hl hND hRES
  go_enter Try.func53, Try.ntmps53
  go_wp2
  go_quiet (fail)
  go_wp2
  go_loopw [1, 5, 7] (fun dv iv _ wr => ∃ (i N : Nat) (A : Option Addr) (c : Nat) (l1 : Nat → Nat) (acc : List Int), dv = .slice A N c ∧ iv = .int .i64 i ∧ i ≤ n ∧ Hid (N = acc.length) ∧ Hid (Bf l1 wr zd (.slice A N c) acc) ∧ Hid (acc ++ linesOf ((kvs S n).drop i) = RES) ∧ Hid (acc.length + (sizeKV ((kvs S n).drop i) + 2) ≤ 140737488355328) ∧ Hid (Stp (· = zd) l l1 w wr)) (fun _ iv _ _ => n - (intOf iv).toNat)
  case atStart => exact ⟨0, ND, AD, cD, l, xs, rfl, rfl, by omega, Lib.hid HND.out.symm, Lib.hid (by have := HB.out; rw [HND.out] at this; exact this.drewN _), Lib.hid (by rw [List.drop_zero]; exact HRES.out), Lib.hid (by rw [List.drop_zero]; exact HL.out), Lib.hid (drew_stp _ _ _ _)⟩
  case round =>
    obtain ⟨i, N, A, c, l1, acc, rfl, rfl, hi, HN, HBi, HE, HLi, HS⟩ := hrel
    by_cases hlt : i < n
    · have q1 : (i : Int) < (n : Int) := by omega
      have hdi := HD.out.keep HS.out (fun e => z1 e.symm)
      have hki := HK.out.keep HS.out (fun lab e => by subst e; exact z2)
      have y0 : wr.cell? ⟨p, 0, none⟩ = some (.slice A0 n c0) := by rw [hdi.cell]; exact HC.out
      obtain ⟨a, rfl, rfl, hle, hkv⟩ := hki.kv hlt
      obtain ⟨s, hs⟩ := get_some (S := S) (n := i) (by omega)
      obtain ⟨⟨A1, c1, ek, z0, hc1, r1⟩, ⟨A2, c2, ev, z3, hc2, r2⟩, z4⟩ := hkv.look hs
      have hat := kvs_at (n := n) hs hlt
      have hdr : (kvs S n).drop i = ⟨s.kx, s.vx, s.no⟩ :: (kvs S n).drop (i + 1) := by
        obtain ⟨h1, e⟩ := List.getElem?_eq_some_iff.1 hat
        rw [List.drop_eq_getElem_cons h1, e]
      have hrg : ∀ b ∈ s.kx, 0 ≤ b ∧ b ≤ 255 := HRG.out ⟨s.kx, s.vx, s.no⟩ (List.mem_of_getElem? hat)
      have hsz : acc.length + (s.kx.length + s.vx.length + 4 + sizeKV ((kvs S n).drop (i + 1)) + 2) ≤ 140737488355328 := by
        have := HLi.out
        rw [hdr, sizeKV_cons] at this
        exact this
      obtain ⟨wd, hwd⟩ : ∃ x, wr.drew = x := ⟨_, rfl⟩
      have hsd : Stp (· = zd) l1 l1 wr wd := by rw [← hwd]; exact drew_stp _ l1 wr 1
      have hkd : Kv l1 wd zh a S := by rw [← hwd]; exact hkv.drewN 1
      have hbd : Bf l1 wd zd (.slice A N c) acc := by rw [← hwd]; exact HBi.out.drewN 1
      have hsk : Src (· = zd) l1 wd A1 s.kx.length s.kx := by
        have := (hkd.row hs).1
        rw [ek] at this
        exact (Src.of_bf this (fun e => by have := kLab_zn (z := zh) (id := s.id) hkv.hz; rw [e] at this; exact z2 this)).2
      have hsv : Src (· = zd) l1 wd A2 s.vx.length s.vx := by
        have := (hkd.row hs).2
        rw [ev] at this
        exact (Src.of_bf this (fun e => by have := vLab_zn (z := zh) (id := s.id) hkv.hz; rw [e] at this; exact z2 this)).2
      have hcall := headerLine_calls l1 wd zd _ acc hbd A1 c1 s.kx hrg hsk A2 c2 s.vx hsv (by omega)
      have hnext : acc ++ lineOf s.kx s.vx ++ linesOf ((kvs S n).drop (i + 1)) = RES := by
        rw [← HE.out, hdr]; simp [linesOf]
      have hlen2 : (acc ++ lineOf s.kx s.vx).length + (sizeKV ((kvs S n).drop (i + 1)) + 2) ≤ 140737488355328 := by
        have := lineOf_len s.kx s.vx
        rw [List.length_append]; omega
      obtain ⟨kl, hkl⟩ : ∃ k, s.kx.length = k := ⟨_, rfl⟩
      obtain ⟨vl, hvl⟩ : ∃ k, s.vx.length = k := ⟨_, rfl⟩
      rw [hkl, hvl] at hcall
      rw [hkl] at z0
      rw [hvl] at z3
      have HCALL := Lib.hid hcall
      have HNEXT := Lib.hid hnext
      have HLEN2 := Lib.hid hlen2
      have HWD := Lib.hid hwd
      have HSD := Lib.hid (HS.out.trans hsd)
      have hiS : i < S.length := by omega
      clear hdi hki hle hkv hs ek ev r1 r2 hc1 hc2 hat hdr hrg hsz hsd hkd hbd hsk hsv hcall hnext hlen2 hkl hvl hwd
      go_wp2
      go_still_tail 9, (by kernel_rfl)
      change wpList _ _ _ _ _ wr.drew
      rw [HWD.out]
      go_wp2_with (go_at_call 71; refine HCALL.out.mono ?_; rintro e w2 ⟨l2, A3, c3, rfl, b3, s3⟩; obtain ⟨N3, hN3⟩ : ∃ k, (acc ++ lineOf s.kx s.vx).length = k := ⟨_, rfl⟩; rw [hN3] at b3 ⊢; have B3 := Lib.hid b3; have S3 := Lib.hid s3; have HN3 := Lib.hid hN3; clear b3 s3 hN3)
      go_roundw
      case rel => exact ⟨i + 1, N3, A3, c3, l2, _, rfl, by go_num, by omega, Lib.hid HN3.out.symm, B3, HNEXT, HLEN2, Lib.hid (HSD.out.trans S3.out)⟩
      case measure => simp [intOf]; omega
    · obtain rfl : n = i := by omega
      have q1 : ¬ ((n : Int) < (n : Int)) := by omega
      have hres : acc = RES := by
        have := HE.out
        rw [List.drop_eq_nil_of_le (by rw [HLEN.out]; exact Nat.le_refl _)] at this
        simpa [linesOf] using this
      have HRS := Lib.hid hres
      clear hres
      go_wp2_with (first
        | (go_at_call 72
           refine (hertzstr_StrCRLF.calls [13, 10] _ rfl).mono ?_
           rintro e w5 ⟨v5, rfl, ho5, hb5⟩
           obtain ⟨A5, k5, rfl⟩ := MR.R_slice ho5
           have R5 := Lib.hid (mr_read ho5)
           have B5 := Lib.hid (HBi.out.keep (below_stp hb5 (fun _ => False) l1) (fun k => k))
           have S5 := Lib.hid (HS.out.trans (below_stp hb5 (· = zd) l1))
           clear ho5 hb5)
        | (at_builtin
           refine app_row zd rfl (.tmp 34) (.tmp 35) 54 rfl Try.underlying54 info8 _ acc [13, 10] A5 2 k5 rfl rfl B5.out R5.out (by have := HLi.out; omega) ?_
           intro v6 w6 l6 hB st _
           obtain ⟨A6, c6, rfl, hc6⟩ := hB.slice
           obtain ⟨N6, hN6⟩ : ∃ N, (acc ++ [13, 10]).length = N := ⟨_, rfl⟩
           rw [hN6] at hB
           rw [hN6]
           have HN6 := Lib.hid hN6
           have B6 := Lib.hid hB
           have S6 := Lib.hid (S5.out.trans st)
           clear hB st hc6 hN6))
      go_ret
      rw [← HRS.out]
      exact ⟨_, A6, N6, c6, rfl, HN6.out.symm, B6.out, S6.out⟩
end Go.Proofs.Ytoimkmoalmmooaa.Own
set_option linter.unusedVariables false
set_option linter.unusedSimpArgs false
namespace Go.Proofs.Ytoimkmoalmmooaa.Own
open Go.RowKit Go.Proofs.YtoimkmoalmmooaaW.PrintWords Go.Proofs.YtoimkmoalmmooaaW.PrintLast Go.Proofs.YtoimkmoalmmooaaW.PrintMore Go.Proofs.Ytoimkmoalmmooaa.Base Go.Proofs.Ytoimkmoalmmooaa.Gv Go.Proofs.Ytoimkmoalmmooaa.Given Go.Proofs.Ytoimkmoalmmooaa.QA Go.Proofs.Ytoimkmoalmmooaa.PrX
def OutZ (w : World) (o : Nat) (xs : List S96) : Prop := ∃ v, w.heap[o]? = some (.cells #[v] 82 (0, 0)) ∧ Kd.R k96 96 w (o + 1) (fun k => k ≠ o) v xs
set_option maxHeartbeats 1000000 in
set_option maxRecDepth 100000 in
theorem zzClo_calls (w : World) (o : Nat) (A : Option Addr) (c : Nat) (ks : List Int) (B : Option Addr) (d : Nat) (vs : List Int) (hk : ReadsInt w .u8 A ks.length ks) (hv : ReadsInt w .u8 B vs.length vs) (xs : List S96) (ho : OutZ w o xs) (hl : (xs.length + 1) * 32 ≤ 140737488355328) :
    Calls Try.prog 78 #[.slice A ks.length c, .slice B vs.length d, .pointer (some ⟨o, 0, none⟩)] w fun e w' => e = .returned (.tuple #[]) ∧ OutZ w' o (xs ++ [⟨strOfNums ks, strOfNums vs⟩]) ∧ Below o w w' := by
  have hinfo : (Try.prog.info? 96).map (fun i => (i.zero, i.size, i.bytes)) = some (some (.agg #[.string ⟨#[]⟩, .string ⟨#[]⟩]), 2, 32) := by kernel_rfl
  obtain ⟨v, hc, hR⟩ := ho
  have hlt : o < w.heap.size := (Array.getElem?_eq_some_iff.1 hc).1
  have hcv1 := conv_read (c := c) hk
  have hcv2 := conv_read (c := d) hv
  obtain ⟨K, hK⟩ : ∃ k, ks.length = k := ⟨_, rfl⟩
  obtain ⟨M, hM⟩ : ∃ k, vs.length = k := ⟨_, rfl⟩
  obtain ⟨TK, hTK⟩ : ∃ k, strOfNums ks = k := ⟨_, rfl⟩
  obtain ⟨TV, hTV⟩ : ∃ k, strOfNums vs = k := ⟨_, rfl⟩
  rw [hK, hTK] at hcv1
  rw [hM, hTV] at hcv2
  rw [hK, hM, hTK, hTV]
  obtain ⟨AV, cV, hvs⟩ := Kd.R_slice hR
  have x0 : w.cell? ⟨o, 0, none⟩ = some v := by rw [cell_of_row w o 0 _ _ (0, 0) hc]; rfl
  obtain ⟨NV, hNV⟩ : ∃ k, xs.length = k := ⟨_, rfl⟩
  rw [hvs, hNV] at x0
  rw [hvs, hNV] at hR
  have HR := Lib.hid hR
  have HC := Lib.hid hc
  have HNV := Lib.hid hNV
  have HL := Lib.hid hl
  have HI := Lib.hid hinfo
  clear hk hv hc hR hK hM hTK hTV hNV hl hinfo hvs
  go_enter Try.func78, Try.ntmps78
  go_wp2_with (
    at_builtin
    refine Kd.R_append k96 (w0 := w) (o + 1) rfl (.tmp 5) (.tmp 11) 82 96 (.agg #[.string ⟨#[]⟩, .string ⟨#[]⟩]) 32 rfl Try.underlying82 HI.out rfl (by decide) (by omega) _ xs (⟨TK, TV⟩ : S96) [.string TK, .string TV] (fun k => k ≠ o) (fun _ => False) rfl (by first | rfl | (go_simp; done)) (k96_mkM _ _ _ _) (fun _ hk => hk.elim) (fun k hk => by omega) HR.out (Below.refl _ _) (by omega) HL.out ?_
    intro v1 w1 hr1 hb1 hg1 hat1
    obtain ⟨A1, c1, rfl⟩ := Kd.R_slice hr1
    obtain ⟨N1, hN1⟩ : ∃ k, (xs ++ [(⟨TK, TV⟩ : S96)]).length = k := ⟨_, rfl⟩
    rw [hN1] at hr1
    rw [hN1]
    have hc1 : w1.heap[o]? = some (.cells #[.slice AV NV cV] 82 (0, 0)) := by
      rw [hb1.block o (by omega)]
      have h0 := HC.out
      rw [h0]
      have := cell_of_row w o 0 _ _ (0, 0) h0
      rw [x0] at this
      simp at this
      rw [this]
    have y0 : w1.cell? ⟨o, 0, none⟩ = some (.slice AV NV cV) := by rw [cell_of_row w1 o 0 _ _ (0, 0) hc1]; rfl
    have g0 : w1.frozen? ⟨o, 0, none⟩ = false := frozen_of_row _ _ 0 _ _ hc1
    have hc2 := heap_setCell_same w1 o 0 _ 82 (.slice A1 N1 c1) hc1
    have HC2 := Lib.hid hc2
    have HR2 := Lib.hid (Kd.R_far (p := ⟨o, 0, none⟩) hr1 (fun k hk => hk) (.slice A1 N1 c1))
    have HB2 := Lib.hid ((⟨hb1.os, hb1.tape, hb1.output, hb1.size, fun i hi => hb1.block i (by omega)⟩ : Below o w w1).setCell (p := ⟨o, 0, none⟩) (Nat.le_refl o) (.slice A1 N1 c1))
    clear hr1 hb1 hg1 hat1 hc1 hc2 hN1)
  go_end0
  exact ⟨rfl, ⟨_, by have := HC2.out; simpa using this, HR2.out⟩, HB2.out⟩
def toZ (x : KVx) : S96 := ⟨strOfNums x.k, strOfNums x.v⟩
theorem OutZ.drew {w : World} {o : Nat} {xs : List S96} (h : OutZ w o xs) : OutZ w.drew o xs := by
  obtain ⟨v, h1, h2⟩ := h
  exact ⟨v, h1, Kd.R_drew h2⟩
set_option maxHeartbeats 2000000 in
set_option maxRecDepth 100000 in
theorem visitZ_calls (l : Nat → Nat) (w : World) (z n : Nat) (V : Value) (S : List Slot) (o : Nat) (hk : ∀ wr, Below o w wr → KvS l wr z V n S) (hn : n ≤ 1099511627776) (ho : OutZ w o []) :
    Calls Try.prog 79 #[V, .func (.func 78) #[] #[.pointer (some ⟨o, 0, none⟩)]] w fun e w' => e = .returned (.tuple #[]) ∧ OutZ w' o ((kvs S n).map toZ) ∧ Below o w w' := by
  have h0 := hk w (Below.refl _ _)
  have HLEN := Lib.hid (kvs_length h0.le)
  obtain ⟨A0, c0, rfl⟩ := h0.shape
  have HK := Lib.hid hk
  have HO := Lib.hid ho
  have hcf : ∀ (args : Array Value) (W : World), (callFunc 78 args).run Try.prog W = .ok (.enter 78 args) W := fun _ _ => rfl
  clear hk ho h0
  go_enter Try.func79, Try.ntmps79
  go_wp2
  go_loopw [4, 6] (fun iv _ wr => ∃ i : Nat, iv = .int .i64 i ∧ i ≤ n ∧ Hid (OutZ wr o (((kvs S n).take i).map toZ)) ∧ Hid (Below o w wr)) (fun iv _ _ => n - (intOf iv).toNat)
  case atStart => exact ⟨0, rfl, by omega, Lib.hid (by simpa using HO.out), Lib.hid (Below.refl _ _)⟩
  case round =>
    obtain ⟨i, rfl, hi, HOi, HBi⟩ := hrel
    by_cases hlt : i < n
    · have q1 : (i : Int) < (n : Int) := by omega
      obtain ⟨a, rfl, rfl, hle, hkv⟩ := (HK.out wr HBi.out).kv hlt
      obtain ⟨s, hs⟩ := get_some (S := S) (n := i) (by omega)
      obtain ⟨⟨A1, c1, ek, z0, hc1, r1⟩, ⟨A2, c2, ev, z3, hc2, r2⟩, z4⟩ := hkv.look hs
      have hat := kvs_at (n := n) hs hlt
      have htk : ((kvs S n).take (i + 1)).map toZ = ((kvs S n).take i).map toZ ++ [⟨strOfNums s.kx, strOfNums s.vx⟩] := by
        rw [List.take_add_one, hat, List.map_append]; rfl
      have hll : (((kvs S n).take i).map toZ).length = i := by rw [List.length_map, List.length_take, HLEN.out]; omega
      obtain ⟨wd, hwd⟩ : ∃ x, wr.drew = x := ⟨_, rfl⟩
      have hcall := zzClo_calls wd o A1 c1 s.kx A2 c2 s.vx (by rw [← hwd]; exact r1) (by rw [← hwd]; exact r2) _ (by rw [← hwd]; exact HOi.out.drew) (by rw [hll]; omega)
      rw [← htk] at hcall
      obtain ⟨kl, hkl⟩ : ∃ k, s.kx.length = k := ⟨_, rfl⟩
      obtain ⟨vl, hvl⟩ : ∃ k, s.vx.length = k := ⟨_, rfl⟩
      rw [hkl, hvl] at hcall
      rw [hkl] at z0
      rw [hvl] at z3
      have HCALL := Lib.hid hcall
      have HWD := Lib.hid hwd
      have hbd : Below o w wd := by rw [← hwd]; exact below_drew1 HBi.out
      have HBD := Lib.hid hbd
      have hiS : i < S.length := by omega
      clear hle hkv hs ek ev r1 r2 hc1 hc2 hat htk hll hcall hkl hvl hwd hbd
      go_wp2
      go_still_tail 9, (by kernel_rfl)
      change wpList _ _ _ _ _ wr.drew
      rw [HWD.out]
      go_wp2_with (go_at_call 78; refine HCALL.out.mono ?_; rintro e w2 ⟨rfl, b3, s3⟩; have B3 := Lib.hid b3; have S3 := Lib.hid s3; clear b3 s3)
      go_roundw
      case rel => exact ⟨i + 1, by go_num, by omega, B3, Lib.hid (HBD.out.trans S3.out)⟩
      case measure => simp [intOf]; omega
    · obtain rfl : n = i := by omega
      have q1 : ¬ ((n : Int) < (n : Int)) := by omega
      go_wp2
      go_end0
      refine ⟨rfl, ?_, HBi.out⟩
      have := HOi.out
      rw [List.take_of_length_le (by rw [HLEN.out]; exact Nat.le_refl _)] at this
      exact this
set_option maxHeartbeats 2000000 in
set_option maxRecDepth 100000 in
theorem tVisit_calls (l : Nat → Nat) (w : World) (q p n : Nat) (V kv vv : Value) (S : List Slot) (kx vx : List Int) (dn : Bool) (o : Nat) (h : ∀ wr, Below o w wr → TrC l wr q p V n S kv kx vv vx dn) (hn : n ≤ 1099511627775) (ho : OutZ w o []) :
    Calls Try.prog 67 #[.pointer (some ⟨p, 0, none⟩), .func (.func 78) #[] #[.pointer (some ⟨o, 0, none⟩)]] w fun e w' => e = .returned (.tuple #[]) ∧ OutZ w' o ((kvs S n).map toZ) ∧ Below o w w' := by
  have h0 := h w (Below.refl _ _)
  obtain ⟨A0, c0, rfl⟩ := h0.2.2.2.1.shape
  obtain ⟨x0, _⟩ := h0.c0
  have HV := Lib.hid (visitZ_calls l w (q + 3) n _ S o (fun wr hb => (h wr hb).2.2.2.1) (by omega) ho)
  clear h h0 ho
  go_enter Try.func67, Try.ntmps67
  go_wp2_with (go_at_call 79; refine HV.out.mono ?_; rintro e w2 ⟨rfl, b3, s3⟩; have B3 := Lib.hid b3; have S3 := Lib.hid s3; clear b3 s3)
  go_end0
  exact ⟨rfl, B3.out, S3.out⟩
set_option maxHeartbeats 2000000 in
set_option maxRecDepth 100000 in
theorem tAll_calls (l : Nat → Nat) (w : World) (q p n : Nat) (V kv vv : Value) (S : List Slot) (kx vx : List Int) (dn : Bool) (h : TrC l w q p V n S kv kx vv vx dn) (hn : n ≤ 1099511627775) :
    Calls Try.prog 66 #[.func (.func 67) #[.pointer (some ⟨p, 0, none⟩)] #[]] w fun e w' => ∃ v, e = .returned v ∧ Kd.R k96 96 w' w.heap.size (fun _ => True) v ((kvs S n).map toZ) ∧ Below w.heap.size w w' := by
  obtain ⟨W, hW⟩ : ∃ W, w.alloc (.cells #[.slice none 0 0] 82) = W := ⟨_, rfl⟩
  have hb : Below w.heap.size w W := by rw [← hW]; exact (Below.refl _ _).alloc (Nat.le_refl _) _
  have ho : OutZ W w.heap.size [] := ⟨_, by rw [← hW]; exact heap_alloc_new w _, Kd.R_nil _ _ _ _ _⟩
  have HV := Lib.hid (tVisit_calls l W q p n V kv vv S kx vx dn w.heap.size (fun wr hbr => h.keep (Stp.of_below_same (hb.trans hbr) (fun _ => False) l) (fun _ k => k.elim)) hn ho)
  have HB := Lib.hid hb
  have hmf : ∀ (fn : Fn) (first cap : Array Value) (w : World), (Instr.makeFunc fn first cap).run Try.prog w = .ok (.func fn first cap) w := fun _ _ _ _ => rfl
  have hcf : ∀ (args : Array Value) (W : World), (callFunc 67 args).run Try.prog W = .ok (.enter 67 args) W := fun _ _ => rfl
  have HW := Lib.hid hW
  clear h hW hb ho
  go_enter Try.func66, Try.ntmps66
  go_wp2_with (
    go_at_call 67
    rw [HW.out]
    refine HV.out.mono ?_
    rintro e w2 ⟨rfl, ⟨v, b1, b2⟩, s3⟩
    obtain ⟨A1, c1, rfl⟩ := Kd.R_slice b2
    obtain ⟨N1, hN1⟩ : ∃ k, ((kvs S n).map toZ).length = k := ⟨_, rfl⟩
    rw [hN1] at b1 b2
    have y0 : w2.cell? ⟨w.heap.size, 0, none⟩ = some (.slice A1 N1 c1) := by rw [cell_of_row w2 _ 0 _ _ (0, 0) b1]; rfl
    have B2 := Lib.hid b2
    have S3 := Lib.hid s3
    clear b1 b2 s3 hN1)
  go_ret
  exact ⟨_, rfl, Kd.R_mono (Kd.R_lower B2.out (by omega)) (fun _ _ => trivial), HB.out.trans S3.out⟩
set_option maxHeartbeats 2000000 in
set_option maxRecDepth 100000 in
theorem tZz_calls (l : Nat → Nat) (w : World) (q p n : Nat) (V kv vv : Value) (S : List Slot) (kx vx : List Int) (dn : Bool) (h : TrC l w q p V n S kv kx vv vx dn) (hn : n ≤ 1099511627775) :
    Calls Try.prog 48 #[.pointer (some ⟨p, 0, none⟩)] w fun e w' => ∃ v, e = .returned v ∧ Kd.R k96 96 w' w.heap.size (fun _ => True) v ((kvs S n).map toZ) ∧ Below w.heap.size w w' := by
  have HA := Lib.hid (tAll_calls l w q p n V kv vv S kx vx dn h hn)
  have hmf : ∀ (fn : Fn) (first cap : Array Value) (w : World), (Instr.makeFunc fn first cap).run Try.prog w = .ok (.func fn first cap) w := fun _ _ _ _ => rfl
  clear h
  go_enter Try.func48, Try.ntmps48
  go_wp2_with (
    go_at_call 66
    refine HA.out.mono ?_
    rintro e w2 ⟨v, rfl, b2, s3⟩
    have B2 := Lib.hid b2
    have S3 := Lib.hid s3
    clear b2 s3)
  go_ret
  exact ⟨_, rfl, B2.out, S3.out⟩
end Go.Proofs.Ytoimkmoalmmooaa.Own
set_option linter.unusedVariables false
set_option linter.unusedSimpArgs false
namespace Go.Proofs.Ytoimkmoalmmooaa.Own
open Go.RowKit Go.Proofs.YtoimkmoalmmooaaW.PrintWords Go.Proofs.YtoimkmoalmmooaaW.PrintLast Go.Proofs.YtoimkmoalmmooaaW.PrintMore Go.Proofs.Ytoimkmoalmmooaa.Base Go.Proofs.Ytoimkmoalmmooaa.Gv Go.Proofs.Ytoimkmoalmmooaa.Given
def HeadT (l : Nat → Nat) (w : World) (q p n : Nat) (V kv : Value) (S : List Slot) (kx : List Int) (dn : Bool) (T : List Int) (e : Ending) (w' : World) : Prop :=
  ∃ l1 A1 N1 c1, e = .returned (.slice A1 N1 c1) ∧ N1 = T.length ∧ TrC l1 w' q p V n S kv kx (.slice A1 N1 c1) T dn ∧ Stp (Tz q) l l1 w w'
set_option maxHeartbeats 1000000 in
set_option maxRecDepth 100000 in
theorem tHeader_calls (l : Nat → Nat) (w : World) (q p n : Nat) (V kv vv : Value) (S : List Slot) (kx vx : List Int) (dn : Bool) (h : TrC l w q p V n S kv kx vv vx dn) (hn : n ≤ 1099511627775) (hr : RgK (kvs S n)) (hl : sizeKV (kvs S n) + 2 ≤ 140737488355328) :
    Calls Try.prog 27 #[.pointer (some ⟨p, 0, none⟩)] w fun e w' => HeadT l w q p n V kv S kx dn (linesOf (kvs S n) ++ [13, 10]) e w' := by
  obtain ⟨q0, q1, t3, t4, t5, t6⟩ := h
  obtain ⟨A2, c2, rfl, _⟩ := t6.slice
  have hcz := cutz
  have x2 : w.cell? ⟨p, 2, none⟩ = some (.slice A2 vx.length c2) := by rw [t3.cell]; rfl
  obtain ⟨m, hm⟩ : ∃ m, vx.length = m := ⟨_, rfl⟩
  have HA := Lib.hid (tAppend_calls l w q (q + 3) (q + 2) p n V S _ t3 rfl t4 hn (.slice A2 0 c2) [] t6.cut0.2 (by omega) (by omega) hr (by simpa using hl))
  have T3 := Lib.hid t3
  have T4 := Lib.hid t4
  have T5 := Lib.hid t5
  rw [hm] at x2
  clear t3 t4 t5 t6 hm hr hl
  go_enter Try.func27, Try.ntmps27
  go_wp2_with (
    go_at_call 53
    refine HA.out.mono ?_
    rintro e w1 ⟨l1, A1, N1, c1, rfl, h1, h2, h3⟩
    rw [List.nil_append] at h1 h2
    obtain ⟨⟨y0, g0⟩, k1, k2, k3⟩ := T3.out.field h3 (by omega) 2 (.slice A1 N1 c1)
    have y1 : w1.cell? ⟨p, 2, none⟩ = some (.slice A2 vx.length c2) := y0
    obtain ⟨m2, hm2⟩ : ∃ m, vx.length = m := ⟨_, rfl⟩
    rw [hm2] at y1
    have k4 := (T4.out.keep h3 (fun lab e => by subst e; omega)).keep k3 (fun lab e => by subst e; omega)
    have k5 := (T5.out.keep h3 (by omega)).keep k3 (by omega)
    have k6 := h2.keep k3 (by omega)
    have y3 : (w1.setCell ⟨p, 2, none⟩ (.slice A1 N1 c1)).cell? ⟨p, 2, none⟩ = some (.slice A1 N1 c1) := by rw [k1.cell]; rfl
    have K1 := Lib.hid k1
    have K2 := Lib.hid k2
    have K4 := Lib.hid k4
    have K5 := Lib.hid k5
    have K6 := Lib.hid k6
    have H1 := Lib.hid h1
    clear h1 h2 h3 y0 k1 k2 k3 k4 k5 k6 hm2)
  go_ret
  exact ⟨_, A1, N1, c1, rfl, H1.out, ⟨q0, q1, K1.out, K4.out, K5.out, K6.out⟩, K2.out.mono (fun x e => e.elim .inl (fun e => .inr (.inr (.inl e))))⟩
def joinC : List (List Int) → List Int
  | [] => []
  | [k] => k
  | k :: t => k ++ [44, 32] ++ joinC t
theorem joinC_cons (k : List Int) (t : List (List Int)) : joinC (k :: t) = k ++ ((if t = [] then [] else [44, 32]) ++ joinC t) := by
  cases t with
  | nil => simp [joinC]
  | cons a b => simp [joinC]
theorem label_bound (l : Nat → Nat) : ∀ n : Nat, ∃ M, ∀ b, b < n → l b < M
  | 0 => ⟨0, fun b hb => absurd hb (by omega)⟩
  | k + 1 => by
    obtain ⟨M, hM⟩ := label_bound l k
    refine ⟨max M (l k + 1), fun b hb => ?_⟩
    rcases Nat.lt_or_ge b k with h | h
    · have := hM b h; omega
    · obtain rfl : b = k := by omega
      omega
theorem fresh_label (l : Nat → Nat) (n : Nat) : ∃ zd, (∀ b, b < n → l b ≠ zd) ∧ 64 ≤ zd ∧ zd % 64 = 0 := by
  obtain ⟨M, hM⟩ := label_bound l n
  exact ⟨64 * (M + 1), fun b hb e => by have := hM b hb; omega, by omega, by omega⟩
set_option maxHeartbeats 4000000 in
set_option maxRecDepth 100000 in
theorem tNames_calls (l : Nat → Nat) (w : World) (q p n : Nat) (V kv vv : Value) (S : List Slot) (kx vx : List Int) (dn : Bool) (h : TrC l w q p V n S kv kx vv vx dn) (hn : n ≤ 1099511627775) (hl : sizeKV (kvs S n) ≤ 140737488355328) :
    Calls Try.prog 46 #[.pointer (some ⟨p, 0, none⟩)] w fun e w' => ∃ A N c, e = .returned (.slice A N c) ∧ ReadsInt w' .u8 A N (joinC ((kvs S n).map KVx.k)) ∧ N ≤ c ∧ Below w.heap.size w w' := by
  obtain ⟨zd, f1, f2, f3⟩ := fresh_label l w.heap.size
  obtain ⟨q0, q1, t3, t4, _, _⟩ := h
  have hk := t4
  obtain ⟨A0, c0, rfl⟩ := hk.shape
  have x0 : w.cell? ⟨p, 0, none⟩ = some (.slice A0 n c0) := by rw [t3.cell]; rfl
  have HD := Lib.hid t3
  have HK := Lib.hid t4
  have HF := Lib.hid f1
  have HLEN := Lib.hid (kvs_length hk.le)
  obtain ⟨RES, hRES⟩ : ∃ R, joinC ((kvs S n).map KVx.k) = R := ⟨_, rfl⟩
  rw [hRES]
  have HRES := Lib.hid hRES
  have HL := Lib.hid hl
  have HZ1 := Lib.hid (show zd ≠ q by omega)
  have HZ2 := Lib.hid (show zd % 64 ≠ q + 3 by omega)
  clear t3 t4 hk hRES f1 f2 f3 hl
  go_enter Try.func46, Try.ntmps46
  go_wp2
  go_quiet (fail)
  go_wp2
  go_loopw [3, 4, 6] (fun dv iv _ wr => ∃ (i N : Nat) (A : Option Addr) (c : Nat) (l1 : Nat → Nat) (acc : List Int), dv = .slice A N c ∧ iv = .int .i64 i ∧ i ≤ n ∧ Hid (N = acc.length) ∧ Hid (Bf l1 wr zd (.slice A N c) acc) ∧ Hid (acc ++ joinC (((kvs S n).drop i).map KVx.k) = RES) ∧ Hid (acc.length + sizeKV ((kvs S n).drop i) ≤ 140737488355328) ∧ Hid (Stp (· = zd) l l1 w wr)) (fun _ iv _ _ => n - (intOf iv).toNat)
  case atStart => exact ⟨0, 0, none, 0, l, [], rfl, rfl, by omega, Lib.hid rfl, Lib.hid (Bf.nil _ _ _), Lib.hid (by rw [List.drop_zero, List.nil_append]; exact HRES.out), Lib.hid (by rw [List.drop_zero]; simpa using HL.out), Lib.hid (drew_stp _ _ _ _)⟩
  case round =>
    obtain ⟨i, N, A, c, l1, acc, rfl, rfl, hi, HN, HBi, HE, HLi, HS⟩ := hrel
    by_cases hlt : i < n
    · have q1' : (i : Int) < (n : Int) := by omega
      have hdi := HD.out.keep HS.out (fun e => HZ1.out e.symm)
      have hki := HK.out.keep HS.out (fun lab e => by subst e; exact HZ2.out)
      have y0 : wr.cell? ⟨p, 0, none⟩ = some (.slice A0 n c0) := by rw [hdi.cell]; rfl
      obtain ⟨a, rfl, rfl, hle, hkv⟩ := hki.kv hlt
      obtain ⟨s, hs⟩ := get_some (S := S) (n := i) (by omega)
      obtain ⟨⟨A1, c1, ek, z0, hc1, r1⟩, _, _⟩ := hkv.look hs
      have hat := kvs_at (n := n) hs hlt
      have hdr : (kvs S n).drop i = ⟨s.kx, s.vx, s.no⟩ :: (kvs S n).drop (i + 1) := by
        obtain ⟨h1, e⟩ := List.getElem?_eq_some_iff.1 hat
        rw [List.drop_eq_getElem_cons h1, e]
      have hsz : acc.length + (s.kx.length + s.vx.length + 4 + sizeKV ((kvs S n).drop (i + 1))) ≤ 140737488355328 := by
        have := HLi.out
        rw [hdr, sizeKV_cons] at this
        exact this
      have hnil : ((kvs S n).drop (i + 1) = []) ↔ ¬ (i + 1 < n) := by rw [List.drop_eq_nil_iff, HLEN.out]; omega
      have hnext : acc ++ s.kx ++ ((if i + 1 < n then [44, 32] else []) ++ joinC (((kvs S n).drop (i + 1)).map KVx.k)) = RES := by
        rw [← HE.out, hdr, List.map_cons, joinC_cons]
        by_cases hh : i + 1 < n
        · rw [if_pos hh, if_neg (by rw [List.map_eq_nil_iff, hnil]; omega)]; simp
        · rw [if_neg hh, if_pos (by rw [List.map_eq_nil_iff, hnil]; omega)]; simp
      obtain ⟨kl, hkl⟩ : ∃ k, s.kx.length = k := ⟨_, rfl⟩
      rw [hkl] at z0 r1 hsz
      have HKL := Lib.hid hkl
      have R1 := Lib.hid r1
      have HNEXT := Lib.hid hnext
      have HSZ := Lib.hid hsz
      have hiS : i < S.length := by omega
      clear hdi hki hle hkv hs ek r1 hc1 hat hdr hnil hnext hsz hkl
      by_cases hlast : i + 1 < n
      · have q2 : (i : Int) + 1 < (n : Int) := by omega
        have hn1 := HNEXT.out
        rw [if_pos hlast] at hn1
        have HN1 := Lib.hid hn1
        clear hn1
        go_wp2_with (first
          | (at_builtin
             refine app_row zd rfl (.tmp 23) (.tmp 27) 54 rfl Try.underlying54 info8 _ acc s.kx A1 kl c1 rfl rfl HBi.out R1.out (by have := HSZ.out; omega) ?_
             intro v1 w1 l2 hB st _
             obtain ⟨A4, c4, rfl, hc4⟩ := hB.slice
             obtain ⟨N4, hN4⟩ : ∃ k, (acc ++ s.kx).length = k := ⟨_, rfl⟩
             rw [hN4] at hB
             rw [hN4]
             have HN4 := Lib.hid hN4
             have B4 := Lib.hid hB
             have S4 := Lib.hid (HS.out.trans st)
             clear hB st hc4 hN4)
          | (go_at_call 65
             refine (hertzstr_StrCommaSpace.calls [44, 32] _ rfl).mono ?_
             rintro e w5 ⟨v5, rfl, ho5, hb5⟩
             obtain ⟨A5, k5, rfl⟩ := MR.R_slice ho5
             have R5 := Lib.hid (mr_read ho5)
             have B5 := Lib.hid (B4.out.keep (below_stp hb5 (fun _ => False) l2) (fun k => k))
             have S5 := Lib.hid (S4.out.trans (below_stp hb5 (· = zd) l2))
             clear ho5 hb5)
          | (at_builtin
             refine app_row zd rfl (.tmp 33) (.tmp 34) 54 rfl Try.underlying54 info8 _ (acc ++ s.kx) [44, 32] A5 2 k5 rfl rfl B5.out R5.out (by have := HSZ.out; rw [List.length_append, HKL.out]; omega) ?_
             intro v6 w6 l6 hB st _
             obtain ⟨A6, c6, rfl, hc6⟩ := hB.slice
             obtain ⟨N6, hN6⟩ : ∃ N, (acc ++ s.kx ++ [44, 32]).length = N := ⟨_, rfl⟩
             rw [hN6] at hB
             rw [hN6]
             have HN6 := Lib.hid hN6
             have B6 := Lib.hid hB
             have S6 := Lib.hid (S5.out.trans st)
             clear hB st hc6 hN6))
        go_roundw
        case rel => exact ⟨i + 1, N6, A6, c6, l6, _, rfl, by go_num, by omega, Lib.hid HN6.out.symm, B6, Lib.hid (by have := HN1.out; rw [← List.append_assoc] at this; exact this), Lib.hid (by have := HSZ.out; rw [List.length_append, List.length_append, HKL.out]; simp only [List.length_cons, List.length_nil]; omega), S6⟩
        case measure => simp [intOf]; omega
      · have q2 : ¬ ((i : Int) + 1 < (n : Int)) := by omega
        have hn1 := HNEXT.out
        rw [if_neg hlast] at hn1
        have HN1 := Lib.hid hn1
        clear hn1
        go_wp2_with (
          at_builtin
          refine app_row zd rfl (.tmp 23) (.tmp 27) 54 rfl Try.underlying54 info8 _ acc s.kx A1 kl c1 rfl rfl HBi.out R1.out (by have := HSZ.out; omega) ?_
          intro v1 w1 l2 hB st _
          obtain ⟨A4, c4, rfl, hc4⟩ := hB.slice
          obtain ⟨N4, hN4⟩ : ∃ k, (acc ++ s.kx).length = k := ⟨_, rfl⟩
          rw [hN4] at hB
          rw [hN4]
          have HN4 := Lib.hid hN4
          have B4 := Lib.hid hB
          have S4 := Lib.hid (HS.out.trans st)
          clear hB st hc4 hN4)
        go_roundw
        case rel => exact ⟨i + 1, N4, A4, c4, l2, _, rfl, by go_num, by omega, Lib.hid HN4.out.symm, B4, Lib.hid (by have := HN1.out; rwa [List.nil_append] at this), Lib.hid (by have := HSZ.out; rw [List.length_append, HKL.out]; omega), S4⟩
        case measure => simp [intOf]; omega
    · obtain rfl : n = i := by omega
      have q1' : ¬ ((n : Int) < (n : Int)) := by omega
      have hres : acc = RES := by
        have := HE.out
        rw [List.drop_eq_nil_of_le (by rw [HLEN.out]; exact Nat.le_refl _)] at this
        simpa [joinC] using this
      have HRS := Lib.hid hres
      clear hres
      go_wp2
      go_ret
      obtain ⟨A', c', e, hc'⟩ := HBi.out.slice
      cases e
      refine ⟨_, _, _, rfl, ?_, hc', HS.out.below (Nat.le_refl _) (fun b hb e => HF.out b hb e)⟩
      have := HBi.out.reads
      rw [← HRS.out]
      exact this
end Go.Proofs.Ytoimkmoalmmooaa.Own
set_option linter.unusedVariables false
set_option linter.unusedSimpArgs false
namespace Go.Proofs.Ytoimkmoalmmooaa.Own
open Go.RowKit Go.Proofs.YtoimkmoalmmooaaW.PrintWords Go.Proofs.YtoimkmoalmmooaaW.PrintLast Go.Proofs.YtoimkmoalmmooaaW.PrintMore Go.Proofs.Ytoimkmoalmmooaa.Base Go.Proofs.Ytoimkmoalmmooaa.Gv Go.Proofs.Ytoimkmoalmmooaa.Given Go.Proofs.Ytoimkmoalmmooaa.QA Go.Proofs.Ytoimkmoalmmooaa.PrX
abbrev Step := S28
abbrev Pair := S34
def toP (x : KVx) : Pair := ⟨strOfNums x.k, strOfNums x.v⟩
theorem pairs_l0 : ∀ (k i : Nat) (acc : List Pair) (Z : List S96), i ≤ Z.length → Z.length - i < k → Z.length ≤ 1099511627776 → acc.length ≤ i →
    impl_pairs.l0 k acc Z (Z.length : Int) (i : Int) = some (acc ++ (Z.drop i).map fun z => (⟨z.f0, z.f1⟩ : Pair))
  | 0, i, acc, Z, _, h, _, _ => by omega
  | k + 1, i, acc, Z, hi, hk, hz, ha => by
    rw [impl_pairs.l0]
    by_cases hlt : i < Z.length
    · rw [if_pos (by omega), if_pos (by omega), if_pos (by omega), if_pos (by omega)]
      have hw : wrap64 ((i : Int) + 1) = ((i + 1 : Nat) : Int) := by unfold wrap64; omega
      rw [hw, pairs_l0 k (i + 1) _ Z (by omega) (by omega) hz (by simp; omega)]
      have hd : Z.drop i = Z[i] :: Z.drop (i + 1) := List.drop_eq_getElem_cons hlt
      have hr : rd_T96 Z (i : Int) = Z[i] := by
        unfold rd_T96
        simp [List.getD_eq_getElem?_getD, hlt]
      rw [hr, hd, List.map_cons, List.append_assoc]; rfl
    · rw [if_neg (by omega), List.drop_eq_nil_of_le (by omega)]; simp
theorem pairs_toP (L : List KVx) (h : L.length ≤ 1099511627775) : impl_pairs.f (L.length + 1) (L.map toZ) = some (L.map toP) := by
  unfold impl_pairs.f
  have := pairs_l0 (L.length + 1) 0 [] (L.map toZ) (by omega) (by simp) (by simp; omega) (by simp)
  have e : (L.map toZ).map (fun z => (⟨z.f0, z.f1⟩ : Pair)) = L.map toP := by rw [List.map_map]; rfl
  rw [List.drop_zero, List.nil_append, e] at this
  exact this
instance (L : List KVx) : Decidable (RgK L) := by unfold RgK; infer_instance
def stepF (dn : Bool) (L : List KVx) (s : Step) : Option ((ByteArray × Bool × List Pair) × Bool × List KVx) :=
  if 1099511627775 < L.length ∨ 1099511627775 < s.f1.size ∨ 1099511627775 < s.f2.size then none
  else if s.f0 = 0 ∨ s.f0 = 1 ∨ s.f0 = 9 then
    if s.f1.size = 0 then none
    else if badK (if s.f0 = 9 then ns s.f1 else nkd dn (ns s.f1)) = true then some ((⟨#[]⟩, false, []), dn, L)
    else some ((⟨#[]⟩, true, []), dn, if s.f0 = 0 then setKV (nkd dn (ns s.f1)) (ns s.f2) L else if s.f0 = 1 then L ++ [⟨nkd dn (ns s.f1), ns s.f2, false⟩] else updKV (ns s.f1) (ns s.f2) L)
  else if s.f0 = 2 then some ((⟨#[]⟩, false, []), dn, delKV (strOfNums (nkd dn (ns s.f1))) L)
  else if s.f0 = 3 then some ((strOfNums ((getKV (nkd dn (ns s.f1)) L).getD []), false, []), dn, L)
  else if s.f0 = 4 then (setGo dn s.f2.size (ns s.f2) [] false).map fun r => ((⟨#[]⟩, !r.2, []), dn, r.1)
  else if s.f0 = 5 then if sizeKV L ≤ 140737488355328 then some ((strOfNums (joinC (L.map KVx.k)), false, []), dn, L) else none
  else if s.f0 = 6 then if RgK L ∧ sizeKV L + 2 ≤ 140737488355328 then some ((strOfNums (linesOf L ++ [13, 10]), false, []), dn, L) else none
  else if s.f0 = 7 then some ((⟨#[]⟩, false, L.map toP), dn, L)
  else if s.f0 = 8 then some ((⟨#[]⟩, decide (L.length = 0), []), dn, L)
  else if s.f0 = 10 then some ((⟨#[]⟩, false, []), true, L)
  else if s.f0 = 11 then some ((⟨#[]⟩, false, []), false, [])
  else some ((⟨#[]⟩, false, []), dn, L)
end Go.Proofs.Ytoimkmoalmmooaa.Own
set_option linter.unusedVariables false
set_option linter.unusedSimpArgs false
namespace Go.Proofs.Ytoimkmoalmmooaa.Own
open Go.RowKit Go.Proofs.YtoimkmoalmmooaaW.PrintWords Go.Proofs.YtoimkmoalmmooaaW.PrintLast Go.Proofs.YtoimkmoalmmooaaW.PrintMore Go.Proofs.Ytoimkmoalmmooaa.Base Go.Proofs.Ytoimkmoalmmooaa.Gv Go.Proofs.Ytoimkmoalmmooaa.Given Go.Proofs.Ytoimkmoalmmooaa.QA Go.Proofs.Ytoimkmoalmmooaa.PrX
def W3 (w : World) (s : S28) : World := ((w.alloc (.cells #[.int .i64 s.f0, .string s.f1, .string s.f2, .int .i64 s.f3, .int .i64 s.f4] 28)).alloc (.cells #[.string ⟨#[]⟩, .bool false, .int .i64 0, .slice none 0 0, .slice none 0 0] 32)).alloc (.cells #[.bool false] 4)
theorem W3_size (w : World) (s : S28) : (W3 w s).heap.size = w.heap.size + 3 := by simp [W3]
theorem W3_below (w : World) (s : S28) : Below w.heap.size w (W3 w s) := (((Below.refl _ _).alloc (Nat.le_refl _) _).alloc (by simp) _).alloc (by simp; omega) _
theorem W3_0 (w : World) (s : S28) : (W3 w s).heap[w.heap.size]? = some (.cells #[.int .i64 s.f0, .string s.f1, .string s.f2, .int .i64 s.f3, .int .i64 s.f4] 28 (0, 0)) := blk_alloc (blk_alloc (heap_alloc_new w _) _) _
theorem W3_1 (w : World) (s : S28) : (W3 w s).heap[w.heap.size + 1]? = some (.cells #[.string ⟨#[]⟩, .bool false, .int .i64 0, .slice none 0 0, .slice none 0 0] 32 (0, 0)) := by
  have := heap_alloc_new (w.alloc (.cells #[.int .i64 s.f0, .string s.f1, .string s.f2, .int .i64 s.f3, .int .i64 s.f4] 28)) (.cells #[.string ⟨#[]⟩, .bool false, .int .i64 0, .slice none 0 0, .slice none 0 0] 32)
  simp only [World.size_alloc] at this
  exact blk_alloc this _
theorem W3_2 (w : World) (s : S28) : (W3 w s).heap[w.heap.size + 2]? = some (.cells #[.bool false] 4 (0, 0)) := by
  have := heap_alloc_new ((w.alloc (.cells #[.int .i64 s.f0, .string s.f1, .string s.f2, .int .i64 s.f3, .int .i64 s.f4] 28)).alloc (.cells #[.string ⟨#[]⟩, .bool false, .int .i64 0, .slice none 0 0, .slice none 0 0] 32)) (.cells #[.bool false] 4)
  simpa [W3] using this
theorem Stp.setNew {F : Nat → Prop} {l l1 : Nat → Nat} {w w1 : World} (h : Stp F l l1 w w1) {a : Addr} (ha : w.heap.size ≤ a.block) (v : Value) : Stp F l l1 w (w1.setCell a v) :=
  ⟨h.os, h.tape, h.output, by rw [World.size_setCell]; exact h.size, h.lab, fun b hb hf => (Below.heap_setCell _ _ _ _ (by omega)).trans (h.block b hb hf)⟩
theorem TrC.setFar {l : Nat → Nat} {w : World} {q p n : Nat} {V kv vv : Value} {S : List Slot} {kx vx : List Int} {dn : Bool} (h : TrC l w q p V n S kv kx vv vx dn) {a : Addr} (ha : l a.block = 0) (v : Value) : TrC l (w.setCell a v) q p V n S kv kx vv vx dn :=
  h.keep (Stp.set w a v) (fun lab e k => by have := h.1; have := h.2.1; rw [ha] at e; subst e; unfold Tz at k; omega)
theorem trailer_idle (p q : Addr) (w : World) :
    CallsD Try.prog 40 #[.pointer (some p), .pointer (some q)] .returning w fun e u' w' => e = .returned (.tuple #[]) ∧ u' = .returning ∧ w' = w := by
  refine callsD_of_wpS Try.func40 rfl fun c₀ cs hu => ?_
  apply wpS_seq
  apply wpS_region
  simp [wpOpsS, go_sem, recoverD, hu, Try.ntmps40, Exit.thenS]
  refine wpS_cond (t := false) (by simp [Act.eval, Array.replicate]) ?_
  simp only [Bool.false_eq_true, if_false]
  refine wpS_of_wp (wp_skip ?_)
  cases c₀
  simp_all [bodyPostS, results, Try.results40]
theorem after5 {w : World} {b1 b2 : Nat} {a0 a1 a2 a3 a4 x : Value} (r1 : w.heap[b1]? = some (.cells #[a0, a1, a2, a3, a4] 32 (0, 0))) (r2 : w.heap[b2]? = some (.cells #[x] 4 (0, 0))) (hne : b1 ≠ b2) :
    ((((((w.setCell ⟨b1, 0, none⟩ a0).setCell ⟨b1, 1, none⟩ a1).setCell ⟨b1, 2, none⟩ a2).setCell ⟨b1, 3, none⟩ a3).setCell ⟨b1, 4, none⟩ a4).setCell ⟨b2, 0, none⟩ (.bool true)).heap[b1]? = some (.cells #[a0, a1, a2, a3, a4] 32 (0, 0)) ∧
    ((((((w.setCell ⟨b1, 0, none⟩ a0).setCell ⟨b1, 1, none⟩ a1).setCell ⟨b1, 2, none⟩ a2).setCell ⟨b1, 3, none⟩ a3).setCell ⟨b1, 4, none⟩ a4).setCell ⟨b2, 0, none⟩ (.bool true)).heap[b2]? = some (.cells #[.bool true] 4 (0, 0)) := by
  have s0 := heap_setCell_same w b1 0 _ 32 a0 r1
  have s1 := heap_setCell_same _ b1 1 _ 32 a1 s0
  have s2 := heap_setCell_same _ b1 2 _ 32 a2 s1
  have s3 := heap_setCell_same _ b1 3 _ 32 a3 s2
  have s4 := heap_setCell_same _ b1 4 _ 32 a4 s3
  have hn : ∀ (W : World) (o : Nat) (v : Value), (W.setCell ⟨b1, o, none⟩ v).heap[b2]? = W.heap[b2]? := fun W o v => Below.heap_setCell _ _ _ _ (fun e => hne e.symm)
  refine ⟨?_, ?_⟩
  · rw [Below.heap_setCell _ _ _ _ (show b1 ≠ b2 from hne), s4]
    rfl
  · have t0 : (((((w.setCell ⟨b1, 0, none⟩ a0).setCell ⟨b1, 1, none⟩ a1).setCell ⟨b1, 2, none⟩ a2).setCell ⟨b1, 3, none⟩ a3).setCell ⟨b1, 4, none⟩ a4).heap[b2]? = some (.cells #[x] 4 (0, 0)) := by rw [hn, hn, hn, hn, hn]; exact r2
    rw [heap_setCell_same _ b2 0 _ _ (.bool true) t0]
    rfl
def StepT (l : Nat → Nat) (w : World) (q p n : Nat) (dn' : Bool) (T : ByteArray) (is : Bool) (P : List S34) (R : List KVx) (e : Ending) (w' : World) : Prop :=
  ∃ l1 V1 n1 S1 kv1 kx1 vv1 vx1 PV, e = .returned (.tuple #[.agg #[.string T, .bool is, .int .i64 0, .slice none 0 0, PV], .bool true]) ∧ TrC l1 w' q p V1 n1 S1 kv1 kx1 vv1 vx1 dn' ∧ n1 ≤ n + 1 ∧ kvs S1 n1 = R ∧ Kd.R k34 34 w' w.heap.size (fun k => l1 k = 0) PV P ∧ Stp (Tz q) l l1 w w'
end Go.Proofs.Ytoimkmoalmmooaa.Own
