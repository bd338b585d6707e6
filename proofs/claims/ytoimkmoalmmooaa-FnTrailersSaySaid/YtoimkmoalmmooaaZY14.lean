/- Texts of this claim, one behind the other (merged by wip/prune.py of this repo, without what the proof does not use): QA4. -/
import Derived.Test.YtoimkmoalmmooaaZY4
import Derived.Test.YtoimkmoalmmooaaZY5
import Derived.Test.YtoimkmoalmmooaaZY13
set_option linter.unusedVariables false
set_option linter.unusedSimpArgs false
namespace Go.Proofs.Ytoimkmoalmmooaa.QA
open Go.Proofs.Ytoimkmoalmmooaa.Given
open Go.Proofs.Ytoimkmoalmmooaa.PrX
open Go.RowKit Go.Proofs.YtoimkmoalmmooaaW.PrintWords Go.Proofs.YtoimkmoalmmooaaW.PrintLast Go.Proofs.YtoimkmoalmmooaaW.PrintMore
set_option maxHeartbeats 8000000 in
set_option maxRecDepth 100000 in
theorem hertzproto_IsBadTrailer.calls_0 (k : Nat) (A0 : Option Addr) (c0 : Nat) (l0 : List Int) (r : Bool) (w : World) (hr0 : Kd.C (Kd.int .u8) w A0 l0.length l0) (hc0 : l0.length ≤ c0) (hcase : (Go.bits .or .u8 (rd l0 0) 32) = 99) (h : hertzproto_IsBadTrailer.f k l0 = some r) :
  Calls Try.prog 68 #[.slice A0 l0.length c0] w fun e w' => e = .returned (.bool r) ∧ Below w.heap.size w w' := by
 have HCASE_ := Aside0.mk hcase
 clear hcase
 have HR0 := Aside0.mk hr0
 have HC0 := Aside0.mk hc0
 clear hr0 hc0
 have HB := Aside0.mk (Below.refl w.heap.size w)
 have H : (if 0 < (l0.length : Int) then (if (Go.bits .or .u8 (rd l0 0) 32) = 97 then ((hertzstr_StrAuthorization.f).bind fun t104 => ((hertzutils_CaseInsensitiveCompare.f k l0 t104).bind fun t107 => (some t107))) else (if (Go.bits .or .u8 (rd l0 0) 32) = 99 then (if (l0.length : Int) ≥ 12 then (if 8 ≤ (l0.length : Int) then ((hertzstr_StrContentType.f).bind fun t109 => (if 8 ≤ (t109.length : Int) then ((hertzutils_CaseInsensitiveCompare.f k (l0.take 8) (t109.take 8)).bind fun t116 => (hertzproto_IsBadTrailer.j0 k l0 t116)) else (none))) else (none)) else (hertzproto_IsBadTrailer.j0 k l0 false)) else (if (Go.bits .or .u8 (rd l0 0) 32) = 101 then ((hertzstr_StrExpect.f).bind fun t157 => ((hertzutils_CaseInsensitiveCompare.f k l0 t157).bind fun t160 => (some t160))) else (if (Go.bits .or .u8 (rd l0 0) 32) = 104 then ((hertzstr_StrHost.f).bind fun t161 => ((hertzutils_CaseInsensitiveCompare.f k l0 t161).bind fun t164 => (some t164))) else (if (Go.bits .or .u8 (rd l0 0) 32) = 107 then ((hertzstr_StrKeepAlive.f).bind fun t165 => ((hertzutils_CaseInsensitiveCompare.f k l0 t165).bind fun t168 => (some t168))) else (if (Go.bits .or .u8 (rd l0 0) 32) = 109 then ((hertzstr_StrMaxForwards.f).bind fun t169 => ((hertzutils_CaseInsensitiveCompare.f k l0 t169).bind fun t172 => (some t172))) else (if (Go.bits .or .u8 (rd l0 0) 32) = 112 then (if (l0.length : Int) ≥ 16 then (if 6 ≤ (l0.length : Int) then ((hertzstr_StrProxyConnection.f).bind fun t174 => (if 6 ≤ (t174.length : Int) then ((hertzutils_CaseInsensitiveCompare.f k (l0.take 6) (t174.take 6)).bind fun t181 => (hertzproto_IsBadTrailer.j1 k l0 t181)) else (none))) else (none)) else (hertzproto_IsBadTrailer.j1 k l0 false)) else (if (Go.bits .or .u8 (rd l0 0) 32) = 114 then ((hertzstr_StrRange.f).bind fun t209 => ((hertzutils_CaseInsensitiveCompare.f k l0 t209).bind fun t212 => (some t212))) else (if (Go.bits .or .u8 (rd l0 0) 32) = 116 then ((hertzstr_StrTE.f).bind fun t213 => ((hertzutils_CaseInsensitiveCompare.f k l0 t213).bind fun t216 => (if t216 = true then (some true) else ((hertzstr_StrTrailer.f).bind fun t217 => ((hertzutils_CaseInsensitiveCompare.f k l0 t217).bind fun t220 => (if t220 = true then (some true) else ((hertzstr_StrTransferEncoding.f).bind fun t221 => ((hertzutils_CaseInsensitiveCompare.f k l0 t221).bind fun t224 => (some t224))))))))) else (if (Go.bits .or .u8 (rd l0 0) 32) = 119 then ((hertzstr_StrWWWAuthenticate.f).bind fun t225 => ((hertzutils_CaseInsensitiveCompare.f k l0 t225).bind fun t228 => (some t228))) else (some false))))))))))) else (none)) = some r := h
 clear h
 by_cases c2 : 0 < (l0.length : Int)
 ·rw [if_pos c2] at H
  have c2b0 : decide (0 < (l0.length : Int)) = true := decide_eq_true c2
  have c2b1 : decide (0 < l0.length) = true := decide_eq_true (by omega)
  clear c2
  by_cases c3 : (Go.bits .or .u8 (rd l0 0) 32) = 97
  ·exact absurd (HCASE_.out.symm.trans c3) (by decide)
  ·rw [if_neg c3] at H
   have c3b0 : ((Go.bits .or .u8 (rd l0 0) 32) == 97) = false := beq_eq_false_iff_ne.mpr c3
   have c3b1 : ((Go.bits .or .u8 (rd l0 0) 32) != 97) = true := bne_iff_ne.mpr c3
   by_cases c8 : (Go.bits .or .u8 (rd l0 0) 32) = 99
   ·rw [if_pos c8] at H
    have c8b0 : ((Go.bits .or .u8 (rd l0 0) 32) == 99) = true := beq_iff_eq.mpr c8
    have c8b1 : ((Go.bits .or .u8 (rd l0 0) 32) != 99) = false := bne_eq_false_iff_eq.mpr c8
    clear c8
    have HC9 := Aside0.mk H
    clear H
    have p103 : 0 ≤ (0 : Int) := (by omega)
    have q103 : 0 < (l0.length : Int) := of_decide_eq_true (by first | (with_reducible assumption) | assumption)
    obtain ⟨ad103, e103, hx103_0⟩ := Kd.at_int HR0.out 0 p103 q103
    cases e103
    have qi103 : (0 < l0.length) = True := eq_true (by omega)
    (try rw [show ((0 : Int)).toNat = 0 from rfl] at hx103_0)
    (try rw [Addr.add_zero'] at hx103_0)
    replace p103 := eq_true p103
    replace q103 := eq_true q103
    go_enter Try.func68, Try.ntmps68
    go_upto_region 5 with (fail)
    go_cut [23] (fun v23 wc => ∃ (kq : Nat) (x23_8 : Bool), v23 = .bool x23_8 ∧ Aside0 (hertzproto_IsBadTrailer.j0 kq l0 x23_8 = some r) ∧ Aside0 (kq ≤ k) ∧ Aside0 (Below w.heap.size w wc))
    case first =>
     have H := HC9.out
     clear HC9
     by_cases c10 : (l0.length : Int) ≥ 12
     ·rw [if_pos c10] at H
      have c10b0 : decide (12 ≤ (l0.length : Int)) = true := decide_eq_true c10
      have c10b1 : decide (12 ≤ l0.length) = true := decide_eq_true (by omega)
      clear c10
      (first | rw [c10b0] | (simp only [i64_w, i32_w]; rw [c10b0]) | skip)
      by_cases c11 : 8 ≤ (l0.length : Int)
      ·rw [if_pos c11] at H
       have c11b0 := eq_true c11
       have c11b1 : decide (8 ≤ (l0.length : Int)) = true := decide_eq_true c11
       clear c11
       replace H := Option.bind_eq_some_iff.mp H
       obtain ⟨t109, A120, H⟩ := H
       replace H : (if 8 ≤ (t109.length : Int) then ((hertzutils_CaseInsensitiveCompare.f k (l0.take 8) (t109.take 8)).bind fun t116 => (hertzproto_IsBadTrailer.j0 k l0 t116)) else (none)) = some r := H
       have A12 := Aside0.mk A120
       clear A120
       by_cases c13 : 8 ≤ (t109.length : Int)
       ·rw [if_pos c13] at H
        have c13b0 := eq_true c13
        have c13b1 : decide (8 ≤ (t109.length : Int)) = true := decide_eq_true c13
        clear c13
        obtain ⟨y112, hy112⟩ : ∃ y_ : List Int, y_ = (t109.take 8) := ⟨_, rfl⟩
        replace H : ((hertzutils_CaseInsensitiveCompare.f k (l0.take 8) y112).bind fun t116 => (hertzproto_IsBadTrailer.j0 k l0 t116)) = some r := by first | (rw [hy112]; with_reducible exact H) | (have H2_ := (Option.bind_some _ _).symm.trans H; rw [hy112]; with_reducible exact H2_) | (have H2_ := (Option.bind_some _ _).symm.trans H; with_reducible exact H2_) | with_reducible exact H | (rw [hy112]; exact H) | exact H
        have Ny112 := Aside0.mk hy112
        clear hy112
        replace H := Option.bind_eq_some_iff.mp H
        obtain ⟨t116, A140, H⟩ := H
        replace H : (hertzproto_IsBadTrailer.j0 k l0 t116) = some r := H
        have A14 := Aside0.mk A140
        clear A140
        have H' := Aside0.mk H
        clear H
        try go_wp2
        have n0_ := Aside0.mk (below_drew1 HB.out)
        clear HB
        have HB := n0_
        clear n0_
        obtain ⟨i016, hi016, _, hsz16, _⟩ := info_parts info5
        obtain ⟨hcut16, hA16, hC16⟩ := print_take_of (P := Try.prog) (Value.int .u8) 0 54 5 .i64 Try.underlying54 hi016 hsz16 (some ad103) c0 l0 8 (by omega) (of_decide_eq_true (by first | (with_reducible assumption) | assumption)) HC0.out
        have HR108 := Aside0.mk (Kd.C_of_reads (h1 := fun _ => rfl) (hA16 _ (Kd.reads_of_C HR0.out)))
        have HC108 := Aside0.mk hC16
        clear hA16 hC16 hi016 hsz16
        refine start_ (n := 10) (S := fun w' => True) (ds := []) #[false,false,false,false,false,false,false,false,false,false] (by kernel_rfl) rfl rfl trivial (fun hHeld => ?_); refine with_tabW hertzproto_IsBadTrailer.tab5 hertzproto_IsBadTrailer.bits5 (fun HT_ HW_ => ?_)
        generalize w.drew = w15 at HB HR108 hHeld ⊢
        refine pure_ (i := 0) (N := some 14) (v := ?_) (a' := ?_) #[true,false,false,false,false,false,false,false,false,false] rfl rfl (any_of HT_.out (by kernel_rfl)) (fun _ _ _ h => h) (Or.inl ⟨by rfl, ?_⟩) ?_ ?_
        rotate_left
        ·intro w'
         go_simp
         with_reducible rfl
        rotate_left
        ·simp only [Act.put, List.setIfInBounds_toArray, List.set_cons_zero, List.set_cons_succ, i64_w, i32_w]
         rfl
        refine pure_ (i := 1) (N := some 15) (v := ?_) (a' := ?_) #[true,true,false,false,false,false,false,false,false,false] rfl rfl (any_of HT_.out (by kernel_rfl)) (fun _ _ _ h => h) (Or.inl ⟨by rfl, ?_⟩) ?_ ?_
        rotate_left
        ·intro w'
         go_simp
         with_reducible rfl
        rotate_left
        ·simp only [Act.put, List.setIfInBounds_toArray, List.set_cons_zero, List.set_cons_succ, i64_w, i32_w]
         rfl
        refine pure_ (i := 2) (N := some 16) (v := ?_) (a' := ?_) #[true,true,true,false,false,false,false,false,false,false] rfl rfl (any_of HT_.out (by kernel_rfl)) (fun _ _ _ h => h) (Or.inl ⟨by rfl, ?_⟩) ?_ ?_
        rotate_left
        ·intro w'
         go_simp
         with_reducible rfl
        rotate_left
        ·simp only [Act.put, List.setIfInBounds_toArray, List.set_cons_zero, List.set_cons_succ, i64_w, i32_w]
         rfl
        refine pure_ (i := 3) (N := some 17) (v := ?_) (a' := ?_) #[true,true,true,true,false,false,false,false,false,false] rfl rfl (any_of HT_.out (by kernel_rfl)) (fun _ _ _ h => h) (Or.inl ⟨by rfl, ?_⟩) ?_ ?_
        rotate_left
        ·intro w'
         go_simp
         with_reducible rfl
        rotate_left
        ·simp only [Act.put, List.setIfInBounds_toArray, List.set_cons_zero, List.set_cons_succ, i64_w, i32_w]
         rfl
        refine pure_ (i := 4) (N := some 18) (v := ?_) (a' := ?_) #[true,true,true,true,true,false,false,false,false,false] rfl rfl (any_of HT_.out (by kernel_rfl)) (fun _ _ _ h => h) (Or.inl ⟨by rfl, ?_⟩) ?_ ?_
        rotate_left
        ·intro w'
         go_simp
         with_reducible rfl
        rotate_left
        ·simp only [Act.put, List.setIfInBounds_toArray, List.set_cons_zero, List.set_cons_succ, i64_w, i32_w]
         rfl
        refine pure_ (i := 5) (N := some 19) (v := ?_) (a' := ?_) #[true,true,true,true,true,true,false,false,false,false] rfl rfl (any_of HT_.out (by kernel_rfl)) (fun _ _ _ h => h) (Or.inl ⟨by rfl, ?_⟩) ?_ ?_
        rotate_left
        ·intro w'
         go_simp
         with_reducible rfl
        rotate_left
        ·simp only [Act.put, List.setIfInBounds_toArray, List.set_cons_zero, List.set_cons_succ, i64_w, i32_w]
         rfl
        refine one_ (i := 6) (N := some 20) #[true,true,true,true,true,true,true,false,false,false] rfl rfl (one_of HT_.out (by kernel_rfl)) (by decide) (fun K hK => ?_)
        refine goes_ Try.func82 (by kernel_rfl) rfl #[] (by rfl) rfl rfl (by (try simp only [List.map_toArray, List.map_cons, List.map_nil]); first | done | rfl | (simp only [List.length_drop, List.length_take]; rfl)) ?_
        with_reducible refine (hertzstr_StrContentType.calls  t109 _ A12.out).mono ?_
        rintro e w17 ⟨v110, rfl, ho0, hb⟩
        refine ⟨_, rfl, ?_⟩
        have n0_ := Aside0.mk (MR.R_lower ho0 (below_size (by repeat (first | (with_reducible first | exact HB.out | apply below_alloc | apply pw_below_drewN | apply below_drew1) | exact HB.out))))
        have n1_ := Aside0.mk (below_step (by repeat (first | (with_reducible first | exact HB.out | apply below_alloc | apply pw_below_drewN | apply below_drew1) | exact HB.out)) hb)
        clear HB
        have HO111 := n0_
        have HB := n1_
        clear n0_ n1_
        (try clear hb)
        (try clear hb2)
        (try clear hk)
        (try clear hi)
        (try clear ho0)
        obtain ⟨Ao19, co19, eo19⟩ := MR.R_slice HO111.out
        (first | subst eo19 | (injection eo19 with f1_ f2_ f3_; have f4_ := f1_.symm; have f5_ := f3_.symm; clear f1_ f2_ f3_; subst f4_; subst f5_))
        have q18 : (8 : Int) ≤ ((t109.length : Int) : Int) := of_decide_eq_true (by first | (with_reducible assumption) | assumption)
        obtain ⟨i018, hi018, _, hsz18, _⟩ := info_parts info5
        have hroom18 : t109.length ≤ co19 := (MR.R_reads' HO111.out).2.1
        have hC18 : Kd.C (Kd.int .u8) _ Ao19 t109.length t109 := (MR.R_reads' HO111.out).2.2
        have hcut18 := cut_to (P := Try.prog) 54 5 .i64 Try.underlying54 hi018 Ao19 t109.length co19 8 (by omega) q18 hroom18
        have hr18 := Kd.C_take (m := 8) hC18 (by omega)
        have hy18 : y112.length = (8 : Int).toNat := (by rw [Ny112.out, List.length_take]; omega)
        rw [← Ny112.out] at hr18
        rw [← hy18] at hcut18
        have HR115 := Aside0.mk hr18
        have HC115 := Aside0.mk (show y112.length ≤ co19 from by omega)
        clear hr18 hC18 hroom18 hi018 hsz18
        have KY18 := Aside0.mk hy18
        clear hy18
        have KL18 := Aside0.mk (show 8 ≤ t109.length from by omega)
        replace q18 := eq_true q18
        refine hK.out _ _ trivial (fun hHeld => ?_)
        clear hK K
        refine norm_ (a' := ?_) ?_ ?_
        rotate_left
        ·show Act.put _ (some 20) _ = _
         simp only [Act.put, List.setIfInBounds_toArray, List.set_cons_zero, List.set_cons_succ, i64_w, i32_w]
         rfl
        refine pure_ (i := 7) (N := some 21) (v := ?_) (a' := ?_) #[true,true,true,true,true,true,true,true,false,false] rfl rfl (any_of HT_.out (by kernel_rfl)) (fun _ _ _ h => h) (Or.inl ⟨by rfl, ?_⟩) ?_ ?_
        rotate_left
        ·intro w'
         go_simp
         with_reducible rfl
        rotate_left
        ·simp only [Act.put, List.setIfInBounds_toArray, List.set_cons_zero, List.set_cons_succ, i64_w, i32_w]
         rfl
        refine one_ (i := 8) (N := some 22) #[true,true,true,true,true,true,true,true,true,false] rfl rfl (one_of HT_.out (by kernel_rfl)) (by decide) (fun K hK => ?_)
        refine goes_ Try.func80 (by kernel_rfl) rfl #[.slice (some ad103) (l0.take 8).length c0, .slice Ao19 y112.length co19] (by rfl) rfl rfl (by (try simp only [List.map_toArray, List.map_cons, List.map_nil]); first | done | (rw [show (l0.take 8).length = 8 from (by rw [List.length_take]; have h_ : (8 : Int) ≤ (l0.length : Int) := of_decide_eq_true (by first | (with_reducible assumption) | assumption); omega)] <;> rfl) | rfl | (simp only [List.length_drop, List.length_take]; rfl)) ?_
        with_reducible refine (hertzutils_CaseInsensitiveCompare.calls k _ _ (l0.take 8) _ _ y112 t116 _ ?side1 ?side2 ?side3 ?side4 A14.out).mono ?_
        (case side1 => repeat (first | exact (Kd.C_below HR108.out HB.out) | (with_reducible refine Kd.C_alloc ?_ _) | (with_reducible refine Kd.C_drewN ?_ _) | (with_reducible refine Kd.C_drew ?_)))
        (case side2 => exact HC108.out)
        (case side3 => repeat (first | exact (by repeat (first | (with_reducible exact HR115.out) | (with_reducible refine Kd.C_alloc ?_ _) | (with_reducible refine Kd.C_drewN ?_ _) | (with_reducible refine Kd.C_drew ?_) | exact HR115.out)) | (with_reducible refine Kd.C_alloc ?_ _) | (with_reducible refine Kd.C_drewN ?_ _) | (with_reducible refine Kd.C_drew ?_)))
        (case side4 => exact HC115.out)
        rintro e w' ⟨rfl, ⟨nd, rfl⟩⟩
        refine ⟨_, rfl, ?_⟩
        refine hK.out _ _ trivial (fun hHeld => ?_)
        clear hK K
        refine norm_ (a' := ?_) ?_ ?_
        rotate_left
        ·show Act.put _ (some 22) _ = _
         simp only [Act.put, List.setIfInBounds_toArray, List.set_cons_zero, List.set_cons_succ, i64_w, i32_w]
         rfl
        refine pure_ (i := 9) (N := some 23) (v := ?_) (a' := ?_) #[true,true,true,true,true,true,true,true,true,true] rfl rfl (any_of HT_.out (by kernel_rfl)) (fun _ _ _ h => h) (Or.inl ⟨by rfl, ?_⟩) ?_ ?_
        rotate_left
        ·intro w'
         go_simp
         with_reducible rfl
        rotate_left
        ·simp only [Act.put, List.setIfInBounds_toArray, List.set_cons_zero, List.set_cons_succ, i64_w, i32_w]
         rfl
        refine done_ (done_of HT_.out (by kernel_rfl)) ?_
        try go_wp2
        go_meet
        case rel => exact ⟨_, (t116), (by first | rfl | (simp; done) | (rw [prx_ne]; first | done | rfl) | (simp [*]; done)), H', ⟨by first | omega | exact Nat.le_refl _⟩, ⟨by repeat (first | (with_reducible first | exact HB.out | apply below_alloc | apply pw_below_drewN | apply below_drew1) | exact HB.out)⟩⟩
       ·rw [if_neg c13] at H
        exact absurd H (by simp)
      ·rw [if_neg c11] at H
       exact absurd H (by simp)
     ·rw [if_neg c10] at H
      have c10b0 : decide (12 ≤ (l0.length : Int)) = false := decide_eq_false c10
      have c10b1 : decide (12 ≤ l0.length) = false := decide_eq_false (by omega)
      clear c10
      (first | rw [c10b0] | (simp only [i64_w, i32_w]; rw [c10b0]) | skip)
      have H' := Aside0.mk H
      clear H
      try go_wp2
      have n0_ := Aside0.mk (below_drew1 HB.out)
      clear HB
      have HB := n0_
      clear n0_
      refine start_ (n := 10) (S := fun w' => True) (ds := []) #[false,false,false,false,false,false,false,false,false,false] (by kernel_rfl) rfl rfl trivial (fun hHeld => ?_); refine with_tabW hertzproto_IsBadTrailer.tab5 hertzproto_IsBadTrailer.bits5 (fun HT_ HW_ => ?_)
      generalize w.drew = w20 at HB hHeld ⊢
      refine pure_ (i := 0) (N := some 14) (v := ?_) (a' := ?_) #[true,false,false,false,false,false,false,false,false,false] rfl rfl (any_of HT_.out (by kernel_rfl)) (fun _ _ _ h => h) (Or.inl ⟨by rfl, ?_⟩) ?_ ?_
      rotate_left
      ·intro w'
       go_simp
       with_reducible rfl
      rotate_left
      ·simp only [Act.put, List.setIfInBounds_toArray, List.set_cons_zero, List.set_cons_succ, i64_w, i32_w]
       rfl
      refine pure_ (i := 1) (N := some 15) (v := ?_) (a' := ?_) #[true,true,false,false,false,false,false,false,false,false] rfl rfl (any_of HT_.out (by kernel_rfl)) (fun _ _ _ h => h) (Or.inl ⟨by rfl, ?_⟩) ?_ ?_
      rotate_left
      ·intro w'
       go_simp
       with_reducible rfl
      rotate_left
      ·simp only [Act.put, List.setIfInBounds_toArray, List.set_cons_zero, List.set_cons_succ, i64_w, i32_w]
       rfl
      refine pure_ (i := 2) (N := some 16) (v := ?_) (a' := ?_) #[true,true,true,false,false,false,false,false,false,false] rfl rfl (any_of HT_.out (by kernel_rfl)) (fun _ _ _ h => h) (Or.inl ⟨by rfl, ?_⟩) ?_ ?_
      rotate_left
      ·intro w'
       go_simp
       with_reducible rfl
      rotate_left
      ·simp only [Act.put, List.setIfInBounds_toArray, List.set_cons_zero, List.set_cons_succ, i64_w, i32_w]
       rfl
      refine pure_ (i := 3) (N := some 17) (v := ?_) (a' := ?_) #[true,true,true,true,false,false,false,false,false,false] rfl rfl (any_of HT_.out (by kernel_rfl)) (fun _ _ _ h => h) (Or.inl ⟨by rfl, ?_⟩) ?_ ?_
      rotate_left
      ·intro w'
       go_simp
       with_reducible rfl
      rotate_left
      ·simp only [Act.put, List.setIfInBounds_toArray, List.set_cons_zero, List.set_cons_succ, i64_w, i32_w]
       rfl
      refine pure_ (i := 4) (N := some 18) (v := undef) (a' := ?_) #[true,true,true,true,true,false,false,false,false,false] rfl rfl (any_of HT_.out (by kernel_rfl)) (fun _ _ _ h => h) (Or.inr ⟨by rfl, rfl⟩) ?_ ?_
      rotate_left
      ·simp only [Act.put, List.setIfInBounds_toArray, List.set_cons_zero, List.set_cons_succ, i64_w, i32_w]
       rfl
      refine pure_ (i := 5) (N := some 19) (v := undef) (a' := ?_) #[true,true,true,true,true,true,false,false,false,false] rfl rfl (any_of HT_.out (by kernel_rfl)) (fun _ _ _ h => h) (Or.inr ⟨by rfl, rfl⟩) ?_ ?_
      rotate_left
      ·simp only [Act.put, List.setIfInBounds_toArray, List.set_cons_zero, List.set_cons_succ, i64_w, i32_w]
       rfl
      refine pure_ (i := 6) (N := some 20) (v := undef) (a' := ?_) #[true,true,true,true,true,true,true,false,false,false] rfl rfl (any_of HT_.out (by kernel_rfl)) (fun _ _ _ h => h) (Or.inr ⟨by rfl, rfl⟩) ?_ ?_
      rotate_left
      ·simp only [Act.put, List.setIfInBounds_toArray, List.set_cons_zero, List.set_cons_succ, i64_w, i32_w]
       rfl
      refine pure_ (i := 7) (N := some 21) (v := undef) (a' := ?_) #[true,true,true,true,true,true,true,true,false,false] rfl rfl (any_of HT_.out (by kernel_rfl)) (fun _ _ _ h => h) (Or.inr ⟨by rfl, rfl⟩) ?_ ?_
      rotate_left
      ·simp only [Act.put, List.setIfInBounds_toArray, List.set_cons_zero, List.set_cons_succ, i64_w, i32_w]
       rfl
      refine pure_ (i := 8) (N := some 22) (v := undef) (a' := ?_) #[true,true,true,true,true,true,true,true,true,false] rfl rfl (any_of HT_.out (by kernel_rfl)) (fun _ _ _ h => h) (Or.inr ⟨by rfl, rfl⟩) ?_ ?_
      rotate_left
      ·simp only [Act.put, List.setIfInBounds_toArray, List.set_cons_zero, List.set_cons_succ, i64_w, i32_w]
       rfl
      refine pure_ (i := 9) (N := some 23) (v := ?_) (a' := ?_) #[true,true,true,true,true,true,true,true,true,true] rfl rfl (any_of HT_.out (by kernel_rfl)) (fun _ _ _ h => h) (Or.inl ⟨by rfl, ?_⟩) ?_ ?_
      rotate_left
      ·intro w'
       go_simp
       with_reducible rfl
      rotate_left
      ·simp only [Act.put, List.setIfInBounds_toArray, List.set_cons_zero, List.set_cons_succ, i64_w, i32_w]
       rfl
      refine done_ (done_of HT_.out (by kernel_rfl)) ?_
      try go_wp2
      go_meet
      case rel => exact ⟨_, (false), (by first | rfl | (simp; done) | (rw [prx_ne]; first | done | rfl) | (simp [*]; done)), H', ⟨by first | omega | exact Nat.le_refl _⟩, ⟨by repeat (first | (with_reducible first | exact HB.out | apply below_alloc | apply pw_below_drewN | apply below_drew1) | exact HB.out)⟩⟩
    case rest =>
     clear HC9
     try clear c1
     try clear p1
     try clear q1
     try clear hx1
     try clear qi1
     try clear c2
     try clear c2b0
     try clear c2b1
     try clear p2
     try clear c3
     try clear c3b0
     try clear c3b1
     try clear c6
     try clear c8
     try clear c8b0
     try clear c8b1
     try clear c10
     try clear c10b0
     try clear c10b1
     try clear p10
     try clear q10
     try clear hx10
     try clear qi10
     try clear c11
     try clear c11b0
     try clear c11b1
     try clear c13
     try clear c13b0
     try clear c13b1
     try clear q18
     try clear hx103_0
     try clear p103
     try clear q103
     try clear q18
     obtain ⟨kq, x23_8, rfl, HA, HJ8, HB⟩ := hcut
     cases kq with
     | zero => exact absurd HA.out (by simp [hertzproto_IsBadTrailer.j0])
     | succ kj8 =>
      have H := HA.out
      clear HA
      simp only [hertzproto_IsBadTrailer.j0] at H
      by_cases c21 : x23_8 = true
      ·subst c21
       have H1 : (if 8 ≤ (l0.length : Int) then ((hertzstr_StrContentEncoding.f).bind fun t118 => (if 8 ≤ (t118.length : Int) then ((hertzutils_CaseInsensitiveCompare.f kj8 (l0.drop 8) (t118.drop 8)).bind fun t125 => (if t125 = true then (some true) else ((hertzstr_StrContentLength.f).bind fun t127 => (if 8 ≤ (t127.length : Int) then ((hertzutils_CaseInsensitiveCompare.f kj8 (l0.drop 8) (t127.drop 8)).bind fun t134 => (if t134 = true then (some true) else ((hertzstr_StrContentType.f).bind fun t136 => (if 8 ≤ (t136.length : Int) then ((hertzutils_CaseInsensitiveCompare.f kj8 (l0.drop 8) (t136.drop 8)).bind fun t143 => (if t143 = true then (some true) else ((hertzstr_StrContentRange.f).bind fun t145 => (if 8 ≤ (t145.length : Int) then ((hertzutils_CaseInsensitiveCompare.f kj8 (l0.drop 8) (t145.drop 8)).bind fun t152 => (some t152)) else (none))))) else (none))))) else (none))))) else (none))) else (none)) = some r := by rw [if_pos rfl] at H; exact H
       clear H
       have H := H1
       clear H1
       by_cases c22 : 8 ≤ (l0.length : Int)
       ·rw [if_pos c22] at H
        have c22b0 := eq_true c22
        have c22b1 : decide (8 ≤ (l0.length : Int)) = true := decide_eq_true c22
        clear c22
        replace H := Option.bind_eq_some_iff.mp H
        obtain ⟨t118, A230, H⟩ := H
        replace H : (if 8 ≤ (t118.length : Int) then ((hertzutils_CaseInsensitiveCompare.f kj8 (l0.drop 8) (t118.drop 8)).bind fun t125 => (if t125 = true then (some true) else ((hertzstr_StrContentLength.f).bind fun t127 => (if 8 ≤ (t127.length : Int) then ((hertzutils_CaseInsensitiveCompare.f kj8 (l0.drop 8) (t127.drop 8)).bind fun t134 => (if t134 = true then (some true) else ((hertzstr_StrContentType.f).bind fun t136 => (if 8 ≤ (t136.length : Int) then ((hertzutils_CaseInsensitiveCompare.f kj8 (l0.drop 8) (t136.drop 8)).bind fun t143 => (if t143 = true then (some true) else ((hertzstr_StrContentRange.f).bind fun t145 => (if 8 ≤ (t145.length : Int) then ((hertzutils_CaseInsensitiveCompare.f kj8 (l0.drop 8) (t145.drop 8)).bind fun t152 => (some t152)) else (none))))) else (none))))) else (none))))) else (none)) = some r := H
        have A23 := Aside0.mk A230
        clear A230
        by_cases c24 : 8 ≤ (t118.length : Int)
        ·rw [if_pos c24] at H
         have c24b0 := eq_true c24
         have c24b1 : decide (8 ≤ (t118.length : Int)) = true := decide_eq_true c24
         clear c24
         obtain ⟨y121, hy121⟩ : ∃ y_ : List Int, y_ = (t118.drop 8) := ⟨_, rfl⟩
         replace H : ((hertzutils_CaseInsensitiveCompare.f kj8 (l0.drop 8) y121).bind fun t125 => (if t125 = true then (some true) else ((hertzstr_StrContentLength.f).bind fun t127 => (if 8 ≤ (t127.length : Int) then ((hertzutils_CaseInsensitiveCompare.f kj8 (l0.drop 8) (t127.drop 8)).bind fun t134 => (if t134 = true then (some true) else ((hertzstr_StrContentType.f).bind fun t136 => (if 8 ≤ (t136.length : Int) then ((hertzutils_CaseInsensitiveCompare.f kj8 (l0.drop 8) (t136.drop 8)).bind fun t143 => (if t143 = true then (some true) else ((hertzstr_StrContentRange.f).bind fun t145 => (if 8 ≤ (t145.length : Int) then ((hertzutils_CaseInsensitiveCompare.f kj8 (l0.drop 8) (t145.drop 8)).bind fun t152 => (some t152)) else (none))))) else (none))))) else (none))))) = some r := by first | (rw [hy121]; with_reducible exact H) | (have H2_ := (Option.bind_some _ _).symm.trans H; rw [hy121]; with_reducible exact H2_) | (have H2_ := (Option.bind_some _ _).symm.trans H; with_reducible exact H2_) | with_reducible exact H | (rw [hy121]; exact H) | exact H
         have Ny121 := Aside0.mk hy121
         clear hy121
         replace H := Option.bind_eq_some_iff.mp H
         obtain ⟨t125, A250, H⟩ := H
         replace H : (if t125 = true then (some true) else ((hertzstr_StrContentLength.f).bind fun t127 => (if 8 ≤ (t127.length : Int) then ((hertzutils_CaseInsensitiveCompare.f kj8 (l0.drop 8) (t127.drop 8)).bind fun t134 => (if t134 = true then (some true) else ((hertzstr_StrContentType.f).bind fun t136 => (if 8 ≤ (t136.length : Int) then ((hertzutils_CaseInsensitiveCompare.f kj8 (l0.drop 8) (t136.drop 8)).bind fun t143 => (if t143 = true then (some true) else ((hertzstr_StrContentRange.f).bind fun t145 => (if 8 ≤ (t145.length : Int) then ((hertzutils_CaseInsensitiveCompare.f kj8 (l0.drop 8) (t145.drop 8)).bind fun t152 => (some t152)) else (none))))) else (none))))) else (none)))) = some r := H
         have A25 := Aside0.mk A250
         clear A250
         by_cases c26 : t125 = true
         ·subst c26
          have H1 : (some true) = some r := by rw [if_pos rfl] at H; exact H
          clear H
          have H := H1
          clear H1
          obtain rfl := Option.some.inj H
          try go_wp2
          have n0_ := Aside0.mk (below_drew1 HB.out)
          clear HB
          have HB := n0_
          clear n0_
          obtain ⟨i028, hi028, _, hsz28, _⟩ := info_parts info5
          obtain ⟨A28, hcut28, hA28, hC28⟩ := print_drop_of (P := Try.prog) (Value.int .u8) 0 54 5 .i64 Try.underlying54 hi028 hsz28 (some ad103) c0 l0 8 (by omega) (of_decide_eq_true (by first | (with_reducible assumption) | assumption)) HC0.out
          have HR117 := Aside0.mk (Kd.C_of_reads (h1 := fun _ => rfl) (hA28 _ (Kd.reads_of_C HR0.out)))
          have HC117 := Aside0.mk hC28
          clear hA28 hC28 hi028 hsz28
          refine start_ (n := 27) (S := fun w' => True) (ds := []) #[false,false,false,false,false,false,false,false,false,false,false,false,false,false,false,false,false,false,false,false,false,false,false,false,false,false,false] (by kernel_rfl) rfl rfl trivial (fun hHeld => ?_); refine with_tabW hertzproto_IsBadTrailer.tab6 hertzproto_IsBadTrailer.bits6 (fun HT_ HW_ => ?_)
          generalize wc.drew = w27 at HB HR117 hHeld ⊢
          refine pure_ (i := 0) (N := some 24) (v := ?_) (a' := ?_) #[true,false,false,false,false,false,false,false,false,false,false,false,false,false,false,false,false,false,false,false,false,false,false,false,false,false,false] rfl rfl (any_of HT_.out (by kernel_rfl)) (fun _ _ _ h => h) (Or.inl ⟨by rfl, ?_⟩) ?_ ?_
          rotate_left
          ·intro w'
           go_simp
           with_reducible rfl
          rotate_left
          ·simp only [Act.put, List.setIfInBounds_toArray, List.set_cons_zero, List.set_cons_succ, i64_w, i32_w]
           rfl
          refine pure_ (i := 1) (N := some 25) (v := ?_) (a' := ?_) #[true,true,false,false,false,false,false,false,false,false,false,false,false,false,false,false,false,false,false,false,false,false,false,false,false,false,false] rfl rfl (any_of HT_.out (by kernel_rfl)) (fun _ _ _ h => h) (Or.inl ⟨by rfl, ?_⟩) ?_ ?_
          rotate_left
          ·intro w'
           go_simp
           with_reducible rfl
          rotate_left
          ·simp only [Act.put, List.setIfInBounds_toArray, List.set_cons_zero, List.set_cons_succ, i64_w, i32_w]
           rfl
          refine one_ (i := 2) (N := some 26) #[true,true,true,false,false,false,false,false,false,false,false,false,false,false,false,false,false,false,false,false,false,false,false,false,false,false,false] rfl rfl (one_of HT_.out (by kernel_rfl)) (by decide) (fun K hK => ?_)
          refine goes_ Try.func83 (by kernel_rfl) rfl #[] (by rfl) rfl rfl (by (try simp only [List.map_toArray, List.map_cons, List.map_nil]); first | done | rfl | (simp only [List.length_drop, List.length_take]; rfl)) ?_
          with_reducible refine (hertzstr_StrContentEncoding.calls  t118 _ A23.out).mono ?_
          rintro e w29 ⟨v119, rfl, ho0, hb⟩
          refine ⟨_, rfl, ?_⟩
          have n0_ := Aside0.mk (MR.R_lower ho0 (below_size (by repeat (first | (with_reducible first | exact HB.out | apply below_alloc | apply pw_below_drewN | apply below_drew1) | exact HB.out))))
          have n1_ := Aside0.mk (below_step (by repeat (first | (with_reducible first | exact HB.out | apply below_alloc | apply pw_below_drewN | apply below_drew1) | exact HB.out)) hb)
          clear HB
          have HO120 := n0_
          have HB := n1_
          clear n0_ n1_
          (try clear hb)
          (try clear hb2)
          (try clear hk)
          (try clear hi)
          (try clear ho0)
          obtain ⟨Ao31, co31, eo31⟩ := MR.R_slice HO120.out
          (first | subst eo31 | (injection eo31 with f1_ f2_ f3_; have f4_ := f1_.symm; have f5_ := f3_.symm; clear f1_ f2_ f3_; subst f4_; subst f5_))
          have q30 : (8 : Int) ≤ ((t118.length : Int) : Int) := of_decide_eq_true (by first | (with_reducible assumption) | assumption)
          obtain ⟨i030, hi030, _, hsz30, _⟩ := info_parts info5
          have hroom30 : t118.length ≤ co31 := (MR.R_reads' HO120.out).2.1
          have hC30 : Kd.C (Kd.int .u8) _ Ao31 t118.length t118 := (MR.R_reads' HO120.out).2.2
          have hcut30 := cut_from (P := Try.prog) 54 5 .i64 Try.underlying54 hi030 1 hsz30 Ao31 t118.length co31 8 (by omega) q30
          have hr30 := Kd.C_drop (m := (8 : Int).toNat) (c := co31) hC30 (by omega) hroom30
          obtain ⟨A30, hA30⟩ : ∃ A1, A1 = (if co31 = (8 : Int).toNat then Ao31 else (Ao31 : Option Addr).map (·.add ((8 : Int).toNat * 1))) := ⟨_, rfl⟩
          obtain ⟨c30, hc30⟩ : ∃ c1, c1 = co31 - (8 : Int).toNat := ⟨_, rfl⟩
          have hy30 : y121.length = t118.length - (8 : Int).toNat := (by rw [Ny121.out, List.length_drop] <;> omega)
          rw [show (t118).drop (8 : Int).toNat = y121 from Ny121.out.symm] at hr30
          replace hr30 : Kd.C (Kd.int .u8) _ A30 y121.length y121 := (by rw [hA30]; exact hr30)
          rw [← hy30, ← hA30, ← hc30] at hcut30
          have HR124 := Aside0.mk hr30
          have HC124 := Aside0.mk (show y121.length ≤ c30 from by rw [hy30, hc30]; exact Nat.sub_le_sub_right hroom30 _)
          clear hr30 hC30 hroom30 hi030 hsz30 hc30
          have KY30 := Aside0.mk hy30
          have KA30 := Aside0.mk hA30
          clear hy30 hA30
          have KL30 := Aside0.mk (show 8 ≤ t118.length from by omega)
          replace q30 := eq_true q30
          refine hK.out _ _ trivial (fun hHeld => ?_)
          clear hK K
          refine norm_ (a' := ?_) ?_ ?_
          rotate_left
          ·show Act.put _ (some 26) _ = _
           simp only [Act.put, List.setIfInBounds_toArray, List.set_cons_zero, List.set_cons_succ, i64_w, i32_w]
           rfl
          refine pure_ (i := 3) (N := some 27) (v := ?_) (a' := ?_) #[true,true,true,true,false,false,false,false,false,false,false,false,false,false,false,false,false,false,false,false,false,false,false,false,false,false,false] rfl rfl (any_of HT_.out (by kernel_rfl)) (fun _ _ _ h => h) (Or.inl ⟨by rfl, ?_⟩) ?_ ?_
          rotate_left
          ·intro w'
           go_simp
           with_reducible rfl
          rotate_left
          ·simp only [Act.put, List.setIfInBounds_toArray, List.set_cons_zero, List.set_cons_succ, i64_w, i32_w]
           rfl
          refine one_ (i := 4) (N := some 28) #[true,true,true,true,true,false,false,false,false,false,false,false,false,false,false,false,false,false,false,false,false,false,false,false,false,false,false] rfl rfl (one_of HT_.out (by kernel_rfl)) (by decide) (fun K hK => ?_)
          refine goes_ Try.func80 (by kernel_rfl) rfl #[.slice A28 (l0.drop 8).length (c0 - 8), .slice A30 y121.length c30] (by rfl) rfl rfl (by (try simp only [List.map_toArray, List.map_cons, List.map_nil]); first | done | (rw [show (l0.drop 8).length = (l0.length - 8) from List.length_drop] <;> rfl) | rfl | (simp only [List.length_drop, List.length_take]; rfl)) ?_
          with_reducible refine (hertzutils_CaseInsensitiveCompare.calls kj8 _ _ (l0.drop 8) _ _ y121 true _ ?side1 ?side2 ?side3 ?side4 A25.out).mono ?_
          (case side1 => repeat (first | exact (Kd.C_below HR117.out HB.out) | (with_reducible refine Kd.C_alloc ?_ _) | (with_reducible refine Kd.C_drewN ?_ _) | (with_reducible refine Kd.C_drew ?_)))
          (case side2 => exact HC117.out)
          (case side3 => repeat (first | exact (by repeat (first | (with_reducible exact HR124.out) | (with_reducible refine Kd.C_alloc ?_ _) | (with_reducible refine Kd.C_drewN ?_ _) | (with_reducible refine Kd.C_drew ?_) | exact HR124.out)) | (with_reducible refine Kd.C_alloc ?_ _) | (with_reducible refine Kd.C_drewN ?_ _) | (with_reducible refine Kd.C_drew ?_)))
          (case side4 => exact HC124.out)
          rintro e w' ⟨rfl, ⟨nd, rfl⟩⟩
          refine ⟨_, rfl, ?_⟩
          refine hK.out _ _ trivial (fun hHeld => ?_)
          clear hK K
          refine norm_ (a' := ?_) ?_ ?_
          rotate_left
          ·show Act.put _ (some 28) _ = _
           simp only [Act.put, List.setIfInBounds_toArray, List.set_cons_zero, List.set_cons_succ, i64_w, i32_w]
           rfl
          refine pure_ (i := 5) (N := some 29) (v := ?_) (a' := ?_) #[true,true,true,true,true,true,false,false,false,false,false,false,false,false,false,false,false,false,false,false,false,false,false,false,false,false,false] rfl rfl (any_of HT_.out (by kernel_rfl)) (fun _ _ _ h => h) (Or.inl ⟨by rfl, ?_⟩) ?_ ?_
          rotate_left
          ·intro w'
           go_simp
           with_reducible rfl
          rotate_left
          ·simp only [Act.put, List.setIfInBounds_toArray, List.set_cons_zero, List.set_cons_succ, i64_w, i32_w]
           rfl
          refine pure_ (i := 6) (N := some 30) (v := undef) (a' := ?_) #[true,true,true,true,true,true,true,false,false,false,false,false,false,false,false,false,false,false,false,false,false,false,false,false,false,false,false] rfl rfl (any_of HT_.out (by kernel_rfl)) (fun _ _ _ h => h) (Or.inr ⟨by rfl, rfl⟩) ?_ ?_
          rotate_left
          ·simp only [Act.put, List.setIfInBounds_toArray, List.set_cons_zero, List.set_cons_succ, i64_w, i32_w]
           rfl
          refine pure_ (i := 7) (N := some 31) (v := undef) (a' := ?_) #[true,true,true,true,true,true,true,true,false,false,false,false,false,false,false,false,false,false,false,false,false,false,false,false,false,false,false] rfl rfl (any_of HT_.out (by kernel_rfl)) (fun _ _ _ h => h) (Or.inr ⟨by rfl, rfl⟩) ?_ ?_
          rotate_left
          ·simp only [Act.put, List.setIfInBounds_toArray, List.set_cons_zero, List.set_cons_succ, i64_w, i32_w]
           rfl
          refine pure_ (i := 8) (N := some 32) (v := undef) (a' := ?_) #[true,true,true,true,true,true,true,true,true,false,false,false,false,false,false,false,false,false,false,false,false,false,false,false,false,false,false] rfl rfl (any_of HT_.out (by kernel_rfl)) (fun _ _ _ h => h) (Or.inr ⟨by rfl, rfl⟩) ?_ ?_
          rotate_left
          ·simp only [Act.put, List.setIfInBounds_toArray, List.set_cons_zero, List.set_cons_succ, i64_w, i32_w]
           rfl
          refine pure_ (i := 9) (N := some 33) (v := undef) (a' := ?_) #[true,true,true,true,true,true,true,true,true,true,false,false,false,false,false,false,false,false,false,false,false,false,false,false,false,false,false] rfl rfl (any_of HT_.out (by kernel_rfl)) (fun _ _ _ h => h) (Or.inr ⟨by rfl, rfl⟩) ?_ ?_
          rotate_left
          ·simp only [Act.put, List.setIfInBounds_toArray, List.set_cons_zero, List.set_cons_succ, i64_w, i32_w]
           rfl
          refine pure_ (i := 10) (N := some 34) (v := undef) (a' := ?_) #[true,true,true,true,true,true,true,true,true,true,true,false,false,false,false,false,false,false,false,false,false,false,false,false,false,false,false] rfl rfl (any_of HT_.out (by kernel_rfl)) (fun _ _ _ h => h) (Or.inr ⟨by rfl, rfl⟩) ?_ ?_
          rotate_left
          ·simp only [Act.put, List.setIfInBounds_toArray, List.set_cons_zero, List.set_cons_succ, i64_w, i32_w]
           rfl
          refine pure_ (i := 11) (N := some 35) (v := ?_) (a' := ?_) #[true,true,true,true,true,true,true,true,true,true,true,true,false,false,false,false,false,false,false,false,false,false,false,false,false,false,false] rfl rfl (any_of HT_.out (by kernel_rfl)) (fun _ _ _ h => h) (Or.inl ⟨by rfl, ?_⟩) ?_ ?_
          rotate_left
          ·intro w'
           go_simp
           with_reducible rfl
          rotate_left
          ·simp only [Act.put, List.setIfInBounds_toArray, List.set_cons_zero, List.set_cons_succ, i64_w, i32_w]
           rfl
          refine pure_ (i := 12) (N := some 36) (v := ?_) (a' := ?_) #[true,true,true,true,true,true,true,true,true,true,true,true,true,false,false,false,false,false,false,false,false,false,false,false,false,false,false] rfl rfl (any_of HT_.out (by kernel_rfl)) (fun _ _ _ h => h) (Or.inl ⟨by rfl, ?_⟩) ?_ ?_
          rotate_left
          ·intro w'
           go_simp
           with_reducible rfl
          rotate_left
          ·simp only [Act.put, List.setIfInBounds_toArray, List.set_cons_zero, List.set_cons_succ, i64_w, i32_w]
           rfl
          refine pure_ (i := 13) (N := some 37) (v := undef) (a' := ?_) #[true,true,true,true,true,true,true,true,true,true,true,true,true,true,false,false,false,false,false,false,false,false,false,false,false,false,false] rfl rfl (any_of HT_.out (by kernel_rfl)) (fun _ _ _ h => h) (Or.inr ⟨by rfl, rfl⟩) ?_ ?_
          rotate_left
          ·simp only [Act.put, List.setIfInBounds_toArray, List.set_cons_zero, List.set_cons_succ, i64_w, i32_w]
           rfl
          refine pure_ (i := 14) (N := some 38) (v := undef) (a' := ?_) #[true,true,true,true,true,true,true,true,true,true,true,true,true,true,true,false,false,false,false,false,false,false,false,false,false,false,false] rfl rfl (any_of HT_.out (by kernel_rfl)) (fun _ _ _ h => h) (Or.inr ⟨by rfl, rfl⟩) ?_ ?_
          rotate_left
          ·simp only [Act.put, List.setIfInBounds_toArray, List.set_cons_zero, List.set_cons_succ, i64_w, i32_w]
           rfl
          refine pure_ (i := 15) (N := some 39) (v := undef) (a' := ?_) #[true,true,true,true,true,true,true,true,true,true,true,true,true,true,true,true,false,false,false,false,false,false,false,false,false,false,false] rfl rfl (any_of HT_.out (by kernel_rfl)) (fun _ _ _ h => h) (Or.inr ⟨by rfl, rfl⟩) ?_ ?_
          rotate_left
          ·simp only [Act.put, List.setIfInBounds_toArray, List.set_cons_zero, List.set_cons_succ, i64_w, i32_w]
           rfl
          refine pure_ (i := 16) (N := some 40) (v := undef) (a' := ?_) #[true,true,true,true,true,true,true,true,true,true,true,true,true,true,true,true,true,false,false,false,false,false,false,false,false,false,false] rfl rfl (any_of HT_.out (by kernel_rfl)) (fun _ _ _ h => h) (Or.inr ⟨by rfl, rfl⟩) ?_ ?_
          rotate_left
          ·simp only [Act.put, List.setIfInBounds_toArray, List.set_cons_zero, List.set_cons_succ, i64_w, i32_w]
           rfl
          refine pure_ (i := 17) (N := some 41) (v := undef) (a' := ?_) #[true,true,true,true,true,true,true,true,true,true,true,true,true,true,true,true,true,true,false,false,false,false,false,false,false,false,false] rfl rfl (any_of HT_.out (by kernel_rfl)) (fun _ _ _ h => h) (Or.inr ⟨by rfl, rfl⟩) ?_ ?_
          rotate_left
          ·simp only [Act.put, List.setIfInBounds_toArray, List.set_cons_zero, List.set_cons_succ, i64_w, i32_w]
           rfl
          refine pure_ (i := 18) (N := some 42) (v := ?_) (a' := ?_) #[true,true,true,true,true,true,true,true,true,true,true,true,true,true,true,true,true,true,true,false,false,false,false,false,false,false,false] rfl rfl (any_of HT_.out (by kernel_rfl)) (fun _ _ _ h => h) (Or.inl ⟨by rfl, ?_⟩) ?_ ?_
          rotate_left
          ·intro w'
           go_simp
           with_reducible rfl
          rotate_left
          ·simp only [Act.put, List.setIfInBounds_toArray, List.set_cons_zero, List.set_cons_succ, i64_w, i32_w]
           rfl
          refine pure_ (i := 19) (N := some 43) (v := ?_) (a' := ?_) #[true,true,true,true,true,true,true,true,true,true,true,true,true,true,true,true,true,true,true,true,false,false,false,false,false,false,false] rfl rfl (any_of HT_.out (by kernel_rfl)) (fun _ _ _ h => h) (Or.inl ⟨by rfl, ?_⟩) ?_ ?_
          rotate_left
          ·intro w'
           go_simp
           with_reducible rfl
          rotate_left
          ·simp only [Act.put, List.setIfInBounds_toArray, List.set_cons_zero, List.set_cons_succ, i64_w, i32_w]
           rfl
          refine pure_ (i := 20) (N := some 44) (v := undef) (a' := ?_) #[true,true,true,true,true,true,true,true,true,true,true,true,true,true,true,true,true,true,true,true,true,false,false,false,false,false,false] rfl rfl (any_of HT_.out (by kernel_rfl)) (fun _ _ _ h => h) (Or.inr ⟨by rfl, rfl⟩) ?_ ?_
          rotate_left
          ·simp only [Act.put, List.setIfInBounds_toArray, List.set_cons_zero, List.set_cons_succ, i64_w, i32_w]
           rfl
          refine pure_ (i := 21) (N := some 45) (v := undef) (a' := ?_) #[true,true,true,true,true,true,true,true,true,true,true,true,true,true,true,true,true,true,true,true,true,true,false,false,false,false,false] rfl rfl (any_of HT_.out (by kernel_rfl)) (fun _ _ _ h => h) (Or.inr ⟨by rfl, rfl⟩) ?_ ?_
          rotate_left
          ·simp only [Act.put, List.setIfInBounds_toArray, List.set_cons_zero, List.set_cons_succ, i64_w, i32_w]
           rfl
          refine pure_ (i := 22) (N := some 46) (v := undef) (a' := ?_) #[true,true,true,true,true,true,true,true,true,true,true,true,true,true,true,true,true,true,true,true,true,true,true,false,false,false,false] rfl rfl (any_of HT_.out (by kernel_rfl)) (fun _ _ _ h => h) (Or.inr ⟨by rfl, rfl⟩) ?_ ?_
          rotate_left
          ·simp only [Act.put, List.setIfInBounds_toArray, List.set_cons_zero, List.set_cons_succ, i64_w, i32_w]
           rfl
          refine pure_ (i := 23) (N := some 47) (v := undef) (a' := ?_) #[true,true,true,true,true,true,true,true,true,true,true,true,true,true,true,true,true,true,true,true,true,true,true,true,false,false,false] rfl rfl (any_of HT_.out (by kernel_rfl)) (fun _ _ _ h => h) (Or.inr ⟨by rfl, rfl⟩) ?_ ?_
          rotate_left
          ·simp only [Act.put, List.setIfInBounds_toArray, List.set_cons_zero, List.set_cons_succ, i64_w, i32_w]
           rfl
          refine pure_ (i := 24) (N := some 48) (v := undef) (a' := ?_) #[true,true,true,true,true,true,true,true,true,true,true,true,true,true,true,true,true,true,true,true,true,true,true,true,true,false,false] rfl rfl (any_of HT_.out (by kernel_rfl)) (fun _ _ _ h => h) (Or.inr ⟨by rfl, rfl⟩) ?_ ?_
          rotate_left
          ·simp only [Act.put, List.setIfInBounds_toArray, List.set_cons_zero, List.set_cons_succ, i64_w, i32_w]
           rfl
          refine pure_ (i := 25) (N := some 49) (v := ?_) (a' := ?_) #[true,true,true,true,true,true,true,true,true,true,true,true,true,true,true,true,true,true,true,true,true,true,true,true,true,true,false] rfl rfl (any_of HT_.out (by kernel_rfl)) (fun _ _ _ h => h) (Or.inl ⟨by rfl, ?_⟩) ?_ ?_
          rotate_left
          ·intro w'
           go_simp
           with_reducible rfl
          rotate_left
          ·simp only [Act.put, List.setIfInBounds_toArray, List.set_cons_zero, List.set_cons_succ, i64_w, i32_w]
           rfl
          refine pure_ (i := 26) (N := some 2) (v := ?_) (a' := ?_) #[true,true,true,true,true,true,true,true,true,true,true,true,true,true,true,true,true,true,true,true,true,true,true,true,true,true,true] rfl rfl (any_of HT_.out (by kernel_rfl)) (fun _ _ _ h => h) (Or.inl ⟨by rfl, ?_⟩) ?_ ?_
          rotate_left
          ·intro w'
           go_simp
           with_reducible rfl
          rotate_left
          ·simp only [Act.put, List.setIfInBounds_toArray, List.set_cons_zero, List.set_cons_succ, i64_w, i32_w]
           rfl
          refine done_ (done_of HT_.out (by kernel_rfl)) ?_
          try go_wp2
          go_ret
          exact ⟨by first | rfl | (simp [errW_none, errW_some] <;> rfl) | (simp [*, errW_none, errW_some] <;> rfl), by repeat (first | (with_reducible first | exact HB.out | apply below_alloc | apply pw_below_drewN | apply below_drew1) | exact HB.out)⟩
         ·replace c26 := Bool.eq_false_iff.mpr c26
          subst c26
          have H1 : ((hertzstr_StrContentLength.f).bind fun t127 => (if 8 ≤ (t127.length : Int) then ((hertzutils_CaseInsensitiveCompare.f kj8 (l0.drop 8) (t127.drop 8)).bind fun t134 => (if t134 = true then (some true) else ((hertzstr_StrContentType.f).bind fun t136 => (if 8 ≤ (t136.length : Int) then ((hertzutils_CaseInsensitiveCompare.f kj8 (l0.drop 8) (t136.drop 8)).bind fun t143 => (if t143 = true then (some true) else ((hertzstr_StrContentRange.f).bind fun t145 => (if 8 ≤ (t145.length : Int) then ((hertzutils_CaseInsensitiveCompare.f kj8 (l0.drop 8) (t145.drop 8)).bind fun t152 => (some t152)) else (none))))) else (none))))) else (none))) = some r := by rw [if_neg (show ¬ (false = true) by decide)] at H; exact H
          clear H
          have H := H1
          clear H1
          have c32b0 := eq_true (of_decide_eq_true (by first | (with_reducible assumption) | assumption) : 8 ≤ (l0.length : Int))
          replace H := Option.bind_eq_some_iff.mp H
          obtain ⟨t127, A330, H⟩ := H
          replace H : (if 8 ≤ (t127.length : Int) then ((hertzutils_CaseInsensitiveCompare.f kj8 (l0.drop 8) (t127.drop 8)).bind fun t134 => (if t134 = true then (some true) else ((hertzstr_StrContentType.f).bind fun t136 => (if 8 ≤ (t136.length : Int) then ((hertzutils_CaseInsensitiveCompare.f kj8 (l0.drop 8) (t136.drop 8)).bind fun t143 => (if t143 = true then (some true) else ((hertzstr_StrContentRange.f).bind fun t145 => (if 8 ≤ (t145.length : Int) then ((hertzutils_CaseInsensitiveCompare.f kj8 (l0.drop 8) (t145.drop 8)).bind fun t152 => (some t152)) else (none))))) else (none))))) else (none)) = some r := H
          have A33 := Aside0.mk A330
          clear A330
          by_cases c34 : 8 ≤ (t127.length : Int)
          ·rw [if_pos c34] at H
           have c34b0 := eq_true c34
           have c34b1 : decide (8 ≤ (t127.length : Int)) = true := decide_eq_true c34
           clear c34
           obtain ⟨y130, hy130⟩ : ∃ y_ : List Int, y_ = (t127.drop 8) := ⟨_, rfl⟩
           replace H : ((hertzutils_CaseInsensitiveCompare.f kj8 (l0.drop 8) y130).bind fun t134 => (if t134 = true then (some true) else ((hertzstr_StrContentType.f).bind fun t136 => (if 8 ≤ (t136.length : Int) then ((hertzutils_CaseInsensitiveCompare.f kj8 (l0.drop 8) (t136.drop 8)).bind fun t143 => (if t143 = true then (some true) else ((hertzstr_StrContentRange.f).bind fun t145 => (if 8 ≤ (t145.length : Int) then ((hertzutils_CaseInsensitiveCompare.f kj8 (l0.drop 8) (t145.drop 8)).bind fun t152 => (some t152)) else (none))))) else (none))))) = some r := by first | (rw [hy130]; with_reducible exact H) | (have H2_ := (Option.bind_some _ _).symm.trans H; rw [hy130]; with_reducible exact H2_) | (have H2_ := (Option.bind_some _ _).symm.trans H; with_reducible exact H2_) | with_reducible exact H | (rw [hy130]; exact H) | exact H
           have Ny130 := Aside0.mk hy130
           clear hy130
           replace H := Option.bind_eq_some_iff.mp H
           obtain ⟨t134, A350, H⟩ := H
           replace H : (if t134 = true then (some true) else ((hertzstr_StrContentType.f).bind fun t136 => (if 8 ≤ (t136.length : Int) then ((hertzutils_CaseInsensitiveCompare.f kj8 (l0.drop 8) (t136.drop 8)).bind fun t143 => (if t143 = true then (some true) else ((hertzstr_StrContentRange.f).bind fun t145 => (if 8 ≤ (t145.length : Int) then ((hertzutils_CaseInsensitiveCompare.f kj8 (l0.drop 8) (t145.drop 8)).bind fun t152 => (some t152)) else (none))))) else (none)))) = some r := H
           have A35 := Aside0.mk A350
           clear A350
           by_cases c36 : t134 = true
           ·subst c36
            have H1 : (some true) = some r := by rw [if_pos rfl] at H; exact H
            clear H
            have H := H1
            clear H1
            obtain rfl := Option.some.inj H
            try go_wp2
            have n0_ := Aside0.mk (below_drew1 HB.out)
            clear HB
            have HB := n0_
            clear n0_
            obtain ⟨i038, hi038, _, hsz38, _⟩ := info_parts info5
            obtain ⟨A38, hcut38, hA38, hC38⟩ := print_drop_of (P := Try.prog) (Value.int .u8) 0 54 5 .i64 Try.underlying54 hi038 hsz38 (some ad103) c0 l0 8 (by omega) (of_decide_eq_true (by first | (with_reducible assumption) | assumption)) HC0.out
            have HR117 := Aside0.mk (Kd.C_of_reads (h1 := fun _ => rfl) (hA38 _ (Kd.reads_of_C HR0.out)))
            have HC117 := Aside0.mk hC38
            clear hA38 hC38 hi038 hsz38
            refine start_ (n := 27) (S := fun w' => True) (ds := []) #[false,false,false,false,false,false,false,false,false,false,false,false,false,false,false,false,false,false,false,false,false,false,false,false,false,false,false] (by kernel_rfl) rfl rfl trivial (fun hHeld => ?_); refine with_tabW hertzproto_IsBadTrailer.tab6 hertzproto_IsBadTrailer.bits6 (fun HT_ HW_ => ?_)
            generalize wc.drew = w37 at HB HR117 hHeld ⊢
            refine pure_ (i := 0) (N := some 24) (v := ?_) (a' := ?_) #[true,false,false,false,false,false,false,false,false,false,false,false,false,false,false,false,false,false,false,false,false,false,false,false,false,false,false] rfl rfl (any_of HT_.out (by kernel_rfl)) (fun _ _ _ h => h) (Or.inl ⟨by rfl, ?_⟩) ?_ ?_
            rotate_left
            ·intro w'
             go_simp
             with_reducible rfl
            rotate_left
            ·simp only [Act.put, List.setIfInBounds_toArray, List.set_cons_zero, List.set_cons_succ, i64_w, i32_w]
             rfl
            refine pure_ (i := 1) (N := some 25) (v := ?_) (a' := ?_) #[true,true,false,false,false,false,false,false,false,false,false,false,false,false,false,false,false,false,false,false,false,false,false,false,false,false,false] rfl rfl (any_of HT_.out (by kernel_rfl)) (fun _ _ _ h => h) (Or.inl ⟨by rfl, ?_⟩) ?_ ?_
            rotate_left
            ·intro w'
             go_simp
             with_reducible rfl
            rotate_left
            ·simp only [Act.put, List.setIfInBounds_toArray, List.set_cons_zero, List.set_cons_succ, i64_w, i32_w]
             rfl
            refine one_ (i := 2) (N := some 26) #[true,true,true,false,false,false,false,false,false,false,false,false,false,false,false,false,false,false,false,false,false,false,false,false,false,false,false] rfl rfl (one_of HT_.out (by kernel_rfl)) (by decide) (fun K hK => ?_)
            refine goes_ Try.func83 (by kernel_rfl) rfl #[] (by rfl) rfl rfl (by (try simp only [List.map_toArray, List.map_cons, List.map_nil]); first | done | rfl | (simp only [List.length_drop, List.length_take]; rfl)) ?_
            with_reducible refine (hertzstr_StrContentEncoding.calls  t118 _ A23.out).mono ?_
            rintro e w39 ⟨v119, rfl, ho0, hb⟩
            refine ⟨_, rfl, ?_⟩
            have n0_ := Aside0.mk (MR.R_lower ho0 (below_size (by repeat (first | (with_reducible first | exact HB.out | apply below_alloc | apply pw_below_drewN | apply below_drew1) | exact HB.out))))
            have n1_ := Aside0.mk (below_step (by repeat (first | (with_reducible first | exact HB.out | apply below_alloc | apply pw_below_drewN | apply below_drew1) | exact HB.out)) hb)
            clear HB
            have HO120 := n0_
            have HB := n1_
            clear n0_ n1_
            (try clear hb)
            (try clear hb2)
            (try clear hk)
            (try clear hi)
            (try clear ho0)
            obtain ⟨Ao41, co41, eo41⟩ := MR.R_slice HO120.out
            (first | subst eo41 | (injection eo41 with f1_ f2_ f3_; have f4_ := f1_.symm; have f5_ := f3_.symm; clear f1_ f2_ f3_; subst f4_; subst f5_))
            have q40 : (8 : Int) ≤ ((t118.length : Int) : Int) := of_decide_eq_true (by first | (with_reducible assumption) | assumption)
            obtain ⟨i040, hi040, _, hsz40, _⟩ := info_parts info5
            have hroom40 : t118.length ≤ co41 := (MR.R_reads' HO120.out).2.1
            have hC40 : Kd.C (Kd.int .u8) _ Ao41 t118.length t118 := (MR.R_reads' HO120.out).2.2
            have hcut40 := cut_from (P := Try.prog) 54 5 .i64 Try.underlying54 hi040 1 hsz40 Ao41 t118.length co41 8 (by omega) q40
            have hr40 := Kd.C_drop (m := (8 : Int).toNat) (c := co41) hC40 (by omega) hroom40
            obtain ⟨A40, hA40⟩ : ∃ A1, A1 = (if co41 = (8 : Int).toNat then Ao41 else (Ao41 : Option Addr).map (·.add ((8 : Int).toNat * 1))) := ⟨_, rfl⟩
            obtain ⟨c40, hc40⟩ : ∃ c1, c1 = co41 - (8 : Int).toNat := ⟨_, rfl⟩
            have hy40 : y121.length = t118.length - (8 : Int).toNat := (by rw [Ny121.out, List.length_drop] <;> omega)
            rw [show (t118).drop (8 : Int).toNat = y121 from Ny121.out.symm] at hr40
            replace hr40 : Kd.C (Kd.int .u8) _ A40 y121.length y121 := (by rw [hA40]; exact hr40)
            rw [← hy40, ← hA40, ← hc40] at hcut40
            have HR124 := Aside0.mk hr40
            have HC124 := Aside0.mk (show y121.length ≤ c40 from by rw [hy40, hc40]; exact Nat.sub_le_sub_right hroom40 _)
            clear hr40 hC40 hroom40 hi040 hsz40 hc40
            have KY40 := Aside0.mk hy40
            have KA40 := Aside0.mk hA40
            clear hy40 hA40
            have KL40 := Aside0.mk (show 8 ≤ t118.length from by omega)
            replace q40 := eq_true q40
            refine hK.out _ _ trivial (fun hHeld => ?_)
            clear hK K
            refine norm_ (a' := ?_) ?_ ?_
            rotate_left
            ·show Act.put _ (some 26) _ = _
             simp only [Act.put, List.setIfInBounds_toArray, List.set_cons_zero, List.set_cons_succ, i64_w, i32_w]
             rfl
            refine pure_ (i := 3) (N := some 27) (v := ?_) (a' := ?_) #[true,true,true,true,false,false,false,false,false,false,false,false,false,false,false,false,false,false,false,false,false,false,false,false,false,false,false] rfl rfl (any_of HT_.out (by kernel_rfl)) (fun _ _ _ h => h) (Or.inl ⟨by rfl, ?_⟩) ?_ ?_
            rotate_left
            ·intro w'
             go_simp
             with_reducible rfl
            rotate_left
            ·simp only [Act.put, List.setIfInBounds_toArray, List.set_cons_zero, List.set_cons_succ, i64_w, i32_w]
             rfl
            refine one_ (i := 4) (N := some 28) #[true,true,true,true,true,false,false,false,false,false,false,false,false,false,false,false,false,false,false,false,false,false,false,false,false,false,false] rfl rfl (one_of HT_.out (by kernel_rfl)) (by decide) (fun K hK => ?_)
            refine goes_ Try.func80 (by kernel_rfl) rfl #[.slice A38 (l0.drop 8).length (c0 - 8), .slice A40 y121.length c40] (by rfl) rfl rfl (by (try simp only [List.map_toArray, List.map_cons, List.map_nil]); first | done | (rw [show (l0.drop 8).length = (l0.length - 8) from List.length_drop] <;> rfl) | rfl | (simp only [List.length_drop, List.length_take]; rfl)) ?_
            with_reducible refine (hertzutils_CaseInsensitiveCompare.calls kj8 _ _ (l0.drop 8) _ _ y121 false _ ?side1 ?side2 ?side3 ?side4 A25.out).mono ?_
            (case side1 => repeat (first | exact (Kd.C_below HR117.out HB.out) | (with_reducible refine Kd.C_alloc ?_ _) | (with_reducible refine Kd.C_drewN ?_ _) | (with_reducible refine Kd.C_drew ?_)))
            (case side2 => exact HC117.out)
            (case side3 => repeat (first | exact (by repeat (first | (with_reducible exact HR124.out) | (with_reducible refine Kd.C_alloc ?_ _) | (with_reducible refine Kd.C_drewN ?_ _) | (with_reducible refine Kd.C_drew ?_) | exact HR124.out)) | (with_reducible refine Kd.C_alloc ?_ _) | (with_reducible refine Kd.C_drewN ?_ _) | (with_reducible refine Kd.C_drew ?_)))
            (case side4 => exact HC124.out)
            rintro e w' ⟨rfl, ⟨nd, rfl⟩⟩
            refine ⟨_, rfl, ?_⟩
            obtain ⟨i042, hi042, _, hsz42, _⟩ := info_parts info5
            obtain ⟨A42, hcut42, hA42, hC42⟩ := print_drop_of (P := Try.prog) (Value.int .u8) 0 54 5 .i64 Try.underlying54 hi042 hsz42 (some ad103) c0 l0 8 (by omega) (of_decide_eq_true (by first | (with_reducible assumption) | assumption)) HC0.out
            have d42_ : A42 = A38 := MR.cut_same (hcut42 w) (hcut38 w)
            rw [d42_] at hA42
            clear hcut42 d42_
            have HR126 := Aside0.mk (Kd.C_of_reads (h1 := fun _ => rfl) (hA42 _ (Kd.reads_of_C HR0.out)))
            have HC126 := Aside0.mk hC42
            clear hA42 hC42 hi042 hsz42
            refine hK.out _ _ trivial (fun hHeld => ?_)
            clear hK K
            refine norm_ (a' := ?_) ?_ ?_
            rotate_left
            ·show Act.put _ (some 28) _ = _
             simp only [Act.put, List.setIfInBounds_toArray, List.set_cons_zero, List.set_cons_succ, i64_w, i32_w]
             rfl
            refine pure_ (i := 5) (N := some 29) (v := ?_) (a' := ?_) #[true,true,true,true,true,true,false,false,false,false,false,false,false,false,false,false,false,false,false,false,false,false,false,false,false,false,false] rfl rfl (any_of HT_.out (by kernel_rfl)) (fun _ _ _ h => h) (Or.inl ⟨by rfl, ?_⟩) ?_ ?_
            rotate_left
            ·intro w'
             go_simp
             with_reducible rfl
            rotate_left
            ·simp only [Act.put, List.setIfInBounds_toArray, List.set_cons_zero, List.set_cons_succ, i64_w, i32_w]
             rfl
            refine pure_ (i := 6) (N := some 30) (v := ?_) (a' := ?_) #[true,true,true,true,true,true,true,false,false,false,false,false,false,false,false,false,false,false,false,false,false,false,false,false,false,false,false] rfl rfl (any_of HT_.out (by kernel_rfl)) (fun _ _ _ h => h) (Or.inl ⟨by rfl, ?_⟩) ?_ ?_
            rotate_left
            ·intro w'
             go_simp
             with_reducible rfl
            rotate_left
            ·simp only [Act.put, List.setIfInBounds_toArray, List.set_cons_zero, List.set_cons_succ, i64_w, i32_w]
             rfl
            refine pure_ (i := 7) (N := some 31) (v := ?_) (a' := ?_) #[true,true,true,true,true,true,true,true,false,false,false,false,false,false,false,false,false,false,false,false,false,false,false,false,false,false,false] rfl rfl (any_of HT_.out (by kernel_rfl)) (fun _ _ _ h => h) (Or.inl ⟨by rfl, ?_⟩) ?_ ?_
            rotate_left
            ·intro w'
             go_simp
             with_reducible rfl
            rotate_left
            ·simp only [Act.put, List.setIfInBounds_toArray, List.set_cons_zero, List.set_cons_succ, i64_w, i32_w]
             rfl
            refine one_ (i := 8) (N := some 32) #[true,true,true,true,true,true,true,true,true,false,false,false,false,false,false,false,false,false,false,false,false,false,false,false,false,false,false] rfl rfl (one_of HT_.out (by kernel_rfl)) (by decide) (fun K hK => ?_)
            refine goes_ Try.func84 (by kernel_rfl) rfl #[] (by rfl) rfl rfl (by (try simp only [List.map_toArray, List.map_cons, List.map_nil]); first | done | rfl | (simp only [List.length_drop, List.length_take]; rfl)) ?_
            with_reducible refine (hertzstr_StrContentLength.calls  t127 _ A33.out).mono ?_
            rintro e w43 ⟨v128, rfl, ho0, hb⟩
            refine ⟨_, rfl, ?_⟩
            have n0_ := Aside0.mk (MR.R_elder' (by (with_reducible repeat (first | apply MR.R_alloc | apply MR.R_drewN | apply MR.R_drew)); exact HO120.out) (MR.R_base ho0) hb)
            have n1_ := Aside0.mk (MR.R_lower (MR.R_new' ho0 (MR.R_lt (by (with_reducible repeat (first | apply MR.R_alloc | apply MR.R_drewN | apply MR.R_drew)); exact HO120.out))) (below_size (by repeat (first | (with_reducible first | exact HB.out | apply below_alloc | apply pw_below_drewN | apply below_drew1) | exact HB.out))))
            have n2_ := Aside0.mk (Kd.C_below (by repeat (first | (with_reducible exact HR124.out) | (with_reducible refine Kd.C_alloc ?_ _) | (with_reducible refine Kd.C_drewN ?_ _) | (with_reducible refine Kd.C_drew ?_) | exact HR124.out)) hb)
            have n3_ := Aside0.mk (below_step (by repeat (first | (with_reducible first | exact HB.out | apply below_alloc | apply pw_below_drewN | apply below_drew1) | exact HB.out)) hb)
            clear HO120
            clear HR124
            clear HB
            have HO120 := n0_
            have HO129 := n1_
            have HR124 := n2_
            have HB := n3_
            clear n0_ n1_ n2_ n3_
            (try clear hb)
            (try clear hb2)
            (try clear hk)
            (try clear hi)
            (try clear ho0)
            obtain ⟨Ao45, co45, eo45⟩ := MR.R_slice HO129.out
            (first | subst eo45 | (injection eo45 with f1_ f2_ f3_; have f4_ := f1_.symm; have f5_ := f3_.symm; clear f1_ f2_ f3_; subst f4_; subst f5_))
            have q44 : (8 : Int) ≤ ((t127.length : Int) : Int) := of_decide_eq_true (by first | (with_reducible assumption) | assumption)
            obtain ⟨i044, hi044, _, hsz44, _⟩ := info_parts info5
            have hroom44 : t127.length ≤ co45 := (MR.R_reads' HO129.out).2.1
            have hC44 : Kd.C (Kd.int .u8) _ Ao45 t127.length t127 := (MR.R_reads' HO129.out).2.2
            have hcut44 := cut_from (P := Try.prog) 54 5 .i64 Try.underlying54 hi044 1 hsz44 Ao45 t127.length co45 8 (by omega) q44
            have hr44 := Kd.C_drop (m := (8 : Int).toNat) (c := co45) hC44 (by omega) hroom44
            obtain ⟨A44, hA44⟩ : ∃ A1, A1 = (if co45 = (8 : Int).toNat then Ao45 else (Ao45 : Option Addr).map (·.add ((8 : Int).toNat * 1))) := ⟨_, rfl⟩
            obtain ⟨c44, hc44⟩ : ∃ c1, c1 = co45 - (8 : Int).toNat := ⟨_, rfl⟩
            have hy44 : y130.length = t127.length - (8 : Int).toNat := (by rw [Ny130.out, List.length_drop] <;> omega)
            rw [show (t127).drop (8 : Int).toNat = y130 from Ny130.out.symm] at hr44
            replace hr44 : Kd.C (Kd.int .u8) _ A44 y130.length y130 := (by rw [hA44]; exact hr44)
            rw [← hy44, ← hA44, ← hc44] at hcut44
            have HR133 := Aside0.mk hr44
            have HC133 := Aside0.mk (show y130.length ≤ c44 from by rw [hy44, hc44]; exact Nat.sub_le_sub_right hroom44 _)
            clear hr44 hC44 hroom44 hi044 hsz44 hc44
            have KY44 := Aside0.mk hy44
            have KA44 := Aside0.mk hA44
            clear hy44 hA44
            have KL44 := Aside0.mk (show 8 ≤ t127.length from by omega)
            replace q44 := eq_true q44
            refine hK.out _ _ trivial (fun hHeld => ?_)
            clear hK K
            refine norm_ (a' := ?_) ?_ ?_
            rotate_left
            ·show Act.put _ (some 32) _ = _
             simp only [Act.put, List.setIfInBounds_toArray, List.set_cons_zero, List.set_cons_succ, i64_w, i32_w]
             rfl
            refine pure_ (i := 9) (N := some 33) (v := ?_) (a' := ?_) #[true,true,true,true,true,true,true,true,true,true,false,false,false,false,false,false,false,false,false,false,false,false,false,false,false,false,false] rfl rfl (any_of HT_.out (by kernel_rfl)) (fun _ _ _ h => h) (Or.inl ⟨by rfl, ?_⟩) ?_ ?_
            rotate_left
            ·intro w'
             go_simp
             with_reducible rfl
            rotate_left
            ·simp only [Act.put, List.setIfInBounds_toArray, List.set_cons_zero, List.set_cons_succ, i64_w, i32_w]
             rfl
            refine one_ (i := 10) (N := some 34) #[true,true,true,true,true,true,true,true,true,true,true,false,false,false,false,false,false,false,false,false,false,false,false,false,false,false,false] rfl rfl (one_of HT_.out (by kernel_rfl)) (by decide) (fun K hK => ?_)
            refine goes_ Try.func80 (by kernel_rfl) rfl #[.slice A38 (l0.drop 8).length (c0 - 8), .slice A44 y130.length c44] (by rfl) rfl rfl (by (try simp only [List.map_toArray, List.map_cons, List.map_nil]); first | done | (rw [show (l0.drop 8).length = (l0.length - 8) from List.length_drop] <;> rfl) | rfl | (simp only [List.length_drop, List.length_take]; rfl)) ?_
            with_reducible refine (hertzutils_CaseInsensitiveCompare.calls kj8 _ _ (l0.drop 8) _ _ y130 true _ ?side1 ?side2 ?side3 ?side4 A35.out).mono ?_
            (case side1 => repeat (first | exact (Kd.C_below HR126.out HB.out) | (with_reducible refine Kd.C_alloc ?_ _) | (with_reducible refine Kd.C_drewN ?_ _) | (with_reducible refine Kd.C_drew ?_)))
            (case side2 => exact HC126.out)
            (case side3 => repeat (first | exact (by repeat (first | (with_reducible exact HR133.out) | (with_reducible refine Kd.C_alloc ?_ _) | (with_reducible refine Kd.C_drewN ?_ _) | (with_reducible refine Kd.C_drew ?_) | exact HR133.out)) | (with_reducible refine Kd.C_alloc ?_ _) | (with_reducible refine Kd.C_drewN ?_ _) | (with_reducible refine Kd.C_drew ?_)))
            (case side4 => exact HC133.out)
            rintro e w' ⟨rfl, ⟨nd, rfl⟩⟩
            refine ⟨_, rfl, ?_⟩
            refine hK.out _ _ trivial (fun hHeld => ?_)
            clear hK K
            refine norm_ (a' := ?_) ?_ ?_
            rotate_left
            ·show Act.put _ (some 34) _ = _
             simp only [Act.put, List.setIfInBounds_toArray, List.set_cons_zero, List.set_cons_succ, i64_w, i32_w]
             rfl
            refine pure_ (i := 11) (N := some 35) (v := ?_) (a' := ?_) #[true,true,true,true,true,true,true,true,true,true,true,true,false,false,false,false,false,false,false,false,false,false,false,false,false,false,false] rfl rfl (any_of HT_.out (by kernel_rfl)) (fun _ _ _ h => h) (Or.inl ⟨by rfl, ?_⟩) ?_ ?_
            rotate_left
            ·intro w'
             go_simp
             with_reducible rfl
            rotate_left
            ·simp only [Act.put, List.setIfInBounds_toArray, List.set_cons_zero, List.set_cons_succ, i64_w, i32_w]
             rfl
            refine pure_ (i := 12) (N := some 36) (v := ?_) (a' := ?_) #[true,true,true,true,true,true,true,true,true,true,true,true,true,false,false,false,false,false,false,false,false,false,false,false,false,false,false] rfl rfl (any_of HT_.out (by kernel_rfl)) (fun _ _ _ h => h) (Or.inl ⟨by rfl, ?_⟩) ?_ ?_
            rotate_left
            ·intro w'
             go_simp
             with_reducible rfl
            rotate_left
            ·simp only [Act.put, List.setIfInBounds_toArray, List.set_cons_zero, List.set_cons_succ, i64_w, i32_w]
             rfl
            refine pure_ (i := 13) (N := some 37) (v := undef) (a' := ?_) #[true,true,true,true,true,true,true,true,true,true,true,true,true,true,false,false,false,false,false,false,false,false,false,false,false,false,false] rfl rfl (any_of HT_.out (by kernel_rfl)) (fun _ _ _ h => h) (Or.inr ⟨by rfl, rfl⟩) ?_ ?_
            rotate_left
            ·simp only [Act.put, List.setIfInBounds_toArray, List.set_cons_zero, List.set_cons_succ, i64_w, i32_w]
             rfl
            refine pure_ (i := 14) (N := some 38) (v := undef) (a' := ?_) #[true,true,true,true,true,true,true,true,true,true,true,true,true,true,true,false,false,false,false,false,false,false,false,false,false,false,false] rfl rfl (any_of HT_.out (by kernel_rfl)) (fun _ _ _ h => h) (Or.inr ⟨by rfl, rfl⟩) ?_ ?_
            rotate_left
            ·simp only [Act.put, List.setIfInBounds_toArray, List.set_cons_zero, List.set_cons_succ, i64_w, i32_w]
             rfl
            refine pure_ (i := 15) (N := some 39) (v := undef) (a' := ?_) #[true,true,true,true,true,true,true,true,true,true,true,true,true,true,true,true,false,false,false,false,false,false,false,false,false,false,false] rfl rfl (any_of HT_.out (by kernel_rfl)) (fun _ _ _ h => h) (Or.inr ⟨by rfl, rfl⟩) ?_ ?_
            rotate_left
            ·simp only [Act.put, List.setIfInBounds_toArray, List.set_cons_zero, List.set_cons_succ, i64_w, i32_w]
             rfl
            refine pure_ (i := 16) (N := some 40) (v := undef) (a' := ?_) #[true,true,true,true,true,true,true,true,true,true,true,true,true,true,true,true,true,false,false,false,false,false,false,false,false,false,false] rfl rfl (any_of HT_.out (by kernel_rfl)) (fun _ _ _ h => h) (Or.inr ⟨by rfl, rfl⟩) ?_ ?_
            rotate_left
            ·simp only [Act.put, List.setIfInBounds_toArray, List.set_cons_zero, List.set_cons_succ, i64_w, i32_w]
             rfl
            refine pure_ (i := 17) (N := some 41) (v := undef) (a' := ?_) #[true,true,true,true,true,true,true,true,true,true,true,true,true,true,true,true,true,true,false,false,false,false,false,false,false,false,false] rfl rfl (any_of HT_.out (by kernel_rfl)) (fun _ _ _ h => h) (Or.inr ⟨by rfl, rfl⟩) ?_ ?_
            rotate_left
            ·simp only [Act.put, List.setIfInBounds_toArray, List.set_cons_zero, List.set_cons_succ, i64_w, i32_w]
             rfl
            refine pure_ (i := 18) (N := some 42) (v := ?_) (a' := ?_) #[true,true,true,true,true,true,true,true,true,true,true,true,true,true,true,true,true,true,true,false,false,false,false,false,false,false,false] rfl rfl (any_of HT_.out (by kernel_rfl)) (fun _ _ _ h => h) (Or.inl ⟨by rfl, ?_⟩) ?_ ?_
            rotate_left
            ·intro w'
             go_simp
             with_reducible rfl
            rotate_left
            ·simp only [Act.put, List.setIfInBounds_toArray, List.set_cons_zero, List.set_cons_succ, i64_w, i32_w]
             rfl
            refine pure_ (i := 19) (N := some 43) (v := ?_) (a' := ?_) #[true,true,true,true,true,true,true,true,true,true,true,true,true,true,true,true,true,true,true,true,false,false,false,false,false,false,false] rfl rfl (any_of HT_.out (by kernel_rfl)) (fun _ _ _ h => h) (Or.inl ⟨by rfl, ?_⟩) ?_ ?_
            rotate_left
            ·intro w'
             go_simp
             with_reducible rfl
            rotate_left
            ·simp only [Act.put, List.setIfInBounds_toArray, List.set_cons_zero, List.set_cons_succ, i64_w, i32_w]
             rfl
            refine pure_ (i := 20) (N := some 44) (v := undef) (a' := ?_) #[true,true,true,true,true,true,true,true,true,true,true,true,true,true,true,true,true,true,true,true,true,false,false,false,false,false,false] rfl rfl (any_of HT_.out (by kernel_rfl)) (fun _ _ _ h => h) (Or.inr ⟨by rfl, rfl⟩) ?_ ?_
            rotate_left
            ·simp only [Act.put, List.setIfInBounds_toArray, List.set_cons_zero, List.set_cons_succ, i64_w, i32_w]
             rfl
            refine pure_ (i := 21) (N := some 45) (v := undef) (a' := ?_) #[true,true,true,true,true,true,true,true,true,true,true,true,true,true,true,true,true,true,true,true,true,true,false,false,false,false,false] rfl rfl (any_of HT_.out (by kernel_rfl)) (fun _ _ _ h => h) (Or.inr ⟨by rfl, rfl⟩) ?_ ?_
            rotate_left
            ·simp only [Act.put, List.setIfInBounds_toArray, List.set_cons_zero, List.set_cons_succ, i64_w, i32_w]
             rfl
            refine pure_ (i := 22) (N := some 46) (v := undef) (a' := ?_) #[true,true,true,true,true,true,true,true,true,true,true,true,true,true,true,true,true,true,true,true,true,true,true,false,false,false,false] rfl rfl (any_of HT_.out (by kernel_rfl)) (fun _ _ _ h => h) (Or.inr ⟨by rfl, rfl⟩) ?_ ?_
            rotate_left
            ·simp only [Act.put, List.setIfInBounds_toArray, List.set_cons_zero, List.set_cons_succ, i64_w, i32_w]
             rfl
            refine pure_ (i := 23) (N := some 47) (v := undef) (a' := ?_) #[true,true,true,true,true,true,true,true,true,true,true,true,true,true,true,true,true,true,true,true,true,true,true,true,false,false,false] rfl rfl (any_of HT_.out (by kernel_rfl)) (fun _ _ _ h => h) (Or.inr ⟨by rfl, rfl⟩) ?_ ?_
            rotate_left
            ·simp only [Act.put, List.setIfInBounds_toArray, List.set_cons_zero, List.set_cons_succ, i64_w, i32_w]
             rfl
            refine pure_ (i := 24) (N := some 48) (v := undef) (a' := ?_) #[true,true,true,true,true,true,true,true,true,true,true,true,true,true,true,true,true,true,true,true,true,true,true,true,true,false,false] rfl rfl (any_of HT_.out (by kernel_rfl)) (fun _ _ _ h => h) (Or.inr ⟨by rfl, rfl⟩) ?_ ?_
            rotate_left
            ·simp only [Act.put, List.setIfInBounds_toArray, List.set_cons_zero, List.set_cons_succ, i64_w, i32_w]
             rfl
            refine pure_ (i := 25) (N := some 49) (v := ?_) (a' := ?_) #[true,true,true,true,true,true,true,true,true,true,true,true,true,true,true,true,true,true,true,true,true,true,true,true,true,true,false] rfl rfl (any_of HT_.out (by kernel_rfl)) (fun _ _ _ h => h) (Or.inl ⟨by rfl, ?_⟩) ?_ ?_
            rotate_left
            ·intro w'
             go_simp
             with_reducible rfl
            rotate_left
            ·simp only [Act.put, List.setIfInBounds_toArray, List.set_cons_zero, List.set_cons_succ, i64_w, i32_w]
             rfl
            refine pure_ (i := 26) (N := some 2) (v := ?_) (a' := ?_) #[true,true,true,true,true,true,true,true,true,true,true,true,true,true,true,true,true,true,true,true,true,true,true,true,true,true,true] rfl rfl (any_of HT_.out (by kernel_rfl)) (fun _ _ _ h => h) (Or.inl ⟨by rfl, ?_⟩) ?_ ?_
            rotate_left
            ·intro w'
             go_simp
             with_reducible rfl
            rotate_left
            ·simp only [Act.put, List.setIfInBounds_toArray, List.set_cons_zero, List.set_cons_succ, i64_w, i32_w]
             rfl
            refine done_ (done_of HT_.out (by kernel_rfl)) ?_
            try go_wp2
            go_ret
            exact ⟨by first | rfl | (simp [errW_none, errW_some] <;> rfl) | (simp [*, errW_none, errW_some] <;> rfl), by repeat (first | (with_reducible first | exact HB.out | apply below_alloc | apply pw_below_drewN | apply below_drew1) | exact HB.out)⟩
           ·replace c36 := Bool.eq_false_iff.mpr c36
            subst c36
            have H1 : ((hertzstr_StrContentType.f).bind fun t136 => (if 8 ≤ (t136.length : Int) then ((hertzutils_CaseInsensitiveCompare.f kj8 (l0.drop 8) (t136.drop 8)).bind fun t143 => (if t143 = true then (some true) else ((hertzstr_StrContentRange.f).bind fun t145 => (if 8 ≤ (t145.length : Int) then ((hertzutils_CaseInsensitiveCompare.f kj8 (l0.drop 8) (t145.drop 8)).bind fun t152 => (some t152)) else (none))))) else (none))) = some r := by rw [if_neg (show ¬ (false = true) by decide)] at H; exact H
            clear H
            have H := H1
            clear H1
            have c46b0 := eq_true (of_decide_eq_true (by first | (with_reducible assumption) | assumption) : 8 ≤ (l0.length : Int))
            replace H := Option.bind_eq_some_iff.mp H
            obtain ⟨t136, A470, H⟩ := H
            replace H : (if 8 ≤ (t136.length : Int) then ((hertzutils_CaseInsensitiveCompare.f kj8 (l0.drop 8) (t136.drop 8)).bind fun t143 => (if t143 = true then (some true) else ((hertzstr_StrContentRange.f).bind fun t145 => (if 8 ≤ (t145.length : Int) then ((hertzutils_CaseInsensitiveCompare.f kj8 (l0.drop 8) (t145.drop 8)).bind fun t152 => (some t152)) else (none))))) else (none)) = some r := H
            have A47 := Aside0.mk A470
            clear A470
            by_cases c48 : 8 ≤ (t136.length : Int)
            ·rw [if_pos c48] at H
             have c48b0 := eq_true c48
             have c48b1 : decide (8 ≤ (t136.length : Int)) = true := decide_eq_true c48
             clear c48
             obtain ⟨y139, hy139⟩ : ∃ y_ : List Int, y_ = (t136.drop 8) := ⟨_, rfl⟩
             replace H : ((hertzutils_CaseInsensitiveCompare.f kj8 (l0.drop 8) y139).bind fun t143 => (if t143 = true then (some true) else ((hertzstr_StrContentRange.f).bind fun t145 => (if 8 ≤ (t145.length : Int) then ((hertzutils_CaseInsensitiveCompare.f kj8 (l0.drop 8) (t145.drop 8)).bind fun t152 => (some t152)) else (none))))) = some r := by first | (rw [hy139]; with_reducible exact H) | (have H2_ := (Option.bind_some _ _).symm.trans H; rw [hy139]; with_reducible exact H2_) | (have H2_ := (Option.bind_some _ _).symm.trans H; with_reducible exact H2_) | with_reducible exact H | (rw [hy139]; exact H) | exact H
             have Ny139 := Aside0.mk hy139
             clear hy139
             replace H := Option.bind_eq_some_iff.mp H
             obtain ⟨t143, A490, H⟩ := H
             replace H : (if t143 = true then (some true) else ((hertzstr_StrContentRange.f).bind fun t145 => (if 8 ≤ (t145.length : Int) then ((hertzutils_CaseInsensitiveCompare.f kj8 (l0.drop 8) (t145.drop 8)).bind fun t152 => (some t152)) else (none)))) = some r := H
             have A49 := Aside0.mk A490
             clear A490
             by_cases c50 : t143 = true
             ·subst c50
              have H1 : (some true) = some r := by rw [if_pos rfl] at H; exact H
              clear H
              have H := H1
              clear H1
              obtain rfl := Option.some.inj H
              try go_wp2
              have n0_ := Aside0.mk (below_drew1 HB.out)
              clear HB
              have HB := n0_
              clear n0_
              obtain ⟨i052, hi052, _, hsz52, _⟩ := info_parts info5
              obtain ⟨A52, hcut52, hA52, hC52⟩ := print_drop_of (P := Try.prog) (Value.int .u8) 0 54 5 .i64 Try.underlying54 hi052 hsz52 (some ad103) c0 l0 8 (by omega) (of_decide_eq_true (by first | (with_reducible assumption) | assumption)) HC0.out
              have HR117 := Aside0.mk (Kd.C_of_reads (h1 := fun _ => rfl) (hA52 _ (Kd.reads_of_C HR0.out)))
              have HC117 := Aside0.mk hC52
              clear hA52 hC52 hi052 hsz52
              refine start_ (n := 27) (S := fun w' => True) (ds := []) #[false,false,false,false,false,false,false,false,false,false,false,false,false,false,false,false,false,false,false,false,false,false,false,false,false,false,false] (by kernel_rfl) rfl rfl trivial (fun hHeld => ?_); refine with_tabW hertzproto_IsBadTrailer.tab6 hertzproto_IsBadTrailer.bits6 (fun HT_ HW_ => ?_)
              generalize wc.drew = w51 at HB HR117 hHeld ⊢
              refine pure_ (i := 0) (N := some 24) (v := ?_) (a' := ?_) #[true,false,false,false,false,false,false,false,false,false,false,false,false,false,false,false,false,false,false,false,false,false,false,false,false,false,false] rfl rfl (any_of HT_.out (by kernel_rfl)) (fun _ _ _ h => h) (Or.inl ⟨by rfl, ?_⟩) ?_ ?_
              rotate_left
              ·intro w'
               go_simp
               with_reducible rfl
              rotate_left
              ·simp only [Act.put, List.setIfInBounds_toArray, List.set_cons_zero, List.set_cons_succ, i64_w, i32_w]
               rfl
              refine pure_ (i := 1) (N := some 25) (v := ?_) (a' := ?_) #[true,true,false,false,false,false,false,false,false,false,false,false,false,false,false,false,false,false,false,false,false,false,false,false,false,false,false] rfl rfl (any_of HT_.out (by kernel_rfl)) (fun _ _ _ h => h) (Or.inl ⟨by rfl, ?_⟩) ?_ ?_
              rotate_left
              ·intro w'
               go_simp
               with_reducible rfl
              rotate_left
              ·simp only [Act.put, List.setIfInBounds_toArray, List.set_cons_zero, List.set_cons_succ, i64_w, i32_w]
               rfl
              refine one_ (i := 2) (N := some 26) #[true,true,true,false,false,false,false,false,false,false,false,false,false,false,false,false,false,false,false,false,false,false,false,false,false,false,false] rfl rfl (one_of HT_.out (by kernel_rfl)) (by decide) (fun K hK => ?_)
              refine goes_ Try.func83 (by kernel_rfl) rfl #[] (by rfl) rfl rfl (by (try simp only [List.map_toArray, List.map_cons, List.map_nil]); first | done | rfl | (simp only [List.length_drop, List.length_take]; rfl)) ?_
              with_reducible refine (hertzstr_StrContentEncoding.calls  t118 _ A23.out).mono ?_
              rintro e w53 ⟨v119, rfl, ho0, hb⟩
              refine ⟨_, rfl, ?_⟩
              have n0_ := Aside0.mk (MR.R_lower ho0 (below_size (by repeat (first | (with_reducible first | exact HB.out | apply below_alloc | apply pw_below_drewN | apply below_drew1) | exact HB.out))))
              have n1_ := Aside0.mk (below_step (by repeat (first | (with_reducible first | exact HB.out | apply below_alloc | apply pw_below_drewN | apply below_drew1) | exact HB.out)) hb)
              clear HB
              have HO120 := n0_
              have HB := n1_
              clear n0_ n1_
              (try clear hb)
              (try clear hb2)
              (try clear hk)
              (try clear hi)
              (try clear ho0)
              obtain ⟨Ao55, co55, eo55⟩ := MR.R_slice HO120.out
              (first | subst eo55 | (injection eo55 with f1_ f2_ f3_; have f4_ := f1_.symm; have f5_ := f3_.symm; clear f1_ f2_ f3_; subst f4_; subst f5_))
              have q54 : (8 : Int) ≤ ((t118.length : Int) : Int) := of_decide_eq_true (by first | (with_reducible assumption) | assumption)
              obtain ⟨i054, hi054, _, hsz54, _⟩ := info_parts info5
              have hroom54 : t118.length ≤ co55 := (MR.R_reads' HO120.out).2.1
              have hC54 : Kd.C (Kd.int .u8) _ Ao55 t118.length t118 := (MR.R_reads' HO120.out).2.2
              have hcut54 := cut_from (P := Try.prog) 54 5 .i64 Try.underlying54 hi054 1 hsz54 Ao55 t118.length co55 8 (by omega) q54
              have hr54 := Kd.C_drop (m := (8 : Int).toNat) (c := co55) hC54 (by omega) hroom54
              obtain ⟨A54, hA54⟩ : ∃ A1, A1 = (if co55 = (8 : Int).toNat then Ao55 else (Ao55 : Option Addr).map (·.add ((8 : Int).toNat * 1))) := ⟨_, rfl⟩
              obtain ⟨c54, hc54⟩ : ∃ c1, c1 = co55 - (8 : Int).toNat := ⟨_, rfl⟩
              have hy54 : y121.length = t118.length - (8 : Int).toNat := (by rw [Ny121.out, List.length_drop] <;> omega)
              rw [show (t118).drop (8 : Int).toNat = y121 from Ny121.out.symm] at hr54
              replace hr54 : Kd.C (Kd.int .u8) _ A54 y121.length y121 := (by rw [hA54]; exact hr54)
              rw [← hy54, ← hA54, ← hc54] at hcut54
              have HR124 := Aside0.mk hr54
              have HC124 := Aside0.mk (show y121.length ≤ c54 from by rw [hy54, hc54]; exact Nat.sub_le_sub_right hroom54 _)
              clear hr54 hC54 hroom54 hi054 hsz54 hc54
              have KY54 := Aside0.mk hy54
              have KA54 := Aside0.mk hA54
              clear hy54 hA54
              have KL54 := Aside0.mk (show 8 ≤ t118.length from by omega)
              replace q54 := eq_true q54
              refine hK.out _ _ trivial (fun hHeld => ?_)
              clear hK K
              refine norm_ (a' := ?_) ?_ ?_
              rotate_left
              ·show Act.put _ (some 26) _ = _
               simp only [Act.put, List.setIfInBounds_toArray, List.set_cons_zero, List.set_cons_succ, i64_w, i32_w]
               rfl
              refine pure_ (i := 3) (N := some 27) (v := ?_) (a' := ?_) #[true,true,true,true,false,false,false,false,false,false,false,false,false,false,false,false,false,false,false,false,false,false,false,false,false,false,false] rfl rfl (any_of HT_.out (by kernel_rfl)) (fun _ _ _ h => h) (Or.inl ⟨by rfl, ?_⟩) ?_ ?_
              rotate_left
              ·intro w'
               go_simp
               with_reducible rfl
              rotate_left
              ·simp only [Act.put, List.setIfInBounds_toArray, List.set_cons_zero, List.set_cons_succ, i64_w, i32_w]
               rfl
              refine one_ (i := 4) (N := some 28) #[true,true,true,true,true,false,false,false,false,false,false,false,false,false,false,false,false,false,false,false,false,false,false,false,false,false,false] rfl rfl (one_of HT_.out (by kernel_rfl)) (by decide) (fun K hK => ?_)
              refine goes_ Try.func80 (by kernel_rfl) rfl #[.slice A52 (l0.drop 8).length (c0 - 8), .slice A54 y121.length c54] (by rfl) rfl rfl (by (try simp only [List.map_toArray, List.map_cons, List.map_nil]); first | done | (rw [show (l0.drop 8).length = (l0.length - 8) from List.length_drop] <;> rfl) | rfl | (simp only [List.length_drop, List.length_take]; rfl)) ?_
              with_reducible refine (hertzutils_CaseInsensitiveCompare.calls kj8 _ _ (l0.drop 8) _ _ y121 false _ ?side1 ?side2 ?side3 ?side4 A25.out).mono ?_
              (case side1 => repeat (first | exact (Kd.C_below HR117.out HB.out) | (with_reducible refine Kd.C_alloc ?_ _) | (with_reducible refine Kd.C_drewN ?_ _) | (with_reducible refine Kd.C_drew ?_)))
              (case side2 => exact HC117.out)
              (case side3 => repeat (first | exact (by repeat (first | (with_reducible exact HR124.out) | (with_reducible refine Kd.C_alloc ?_ _) | (with_reducible refine Kd.C_drewN ?_ _) | (with_reducible refine Kd.C_drew ?_) | exact HR124.out)) | (with_reducible refine Kd.C_alloc ?_ _) | (with_reducible refine Kd.C_drewN ?_ _) | (with_reducible refine Kd.C_drew ?_)))
              (case side4 => exact HC124.out)
              rintro e w' ⟨rfl, ⟨nd, rfl⟩⟩
              refine ⟨_, rfl, ?_⟩
              obtain ⟨i056, hi056, _, hsz56, _⟩ := info_parts info5
              obtain ⟨A56, hcut56, hA56, hC56⟩ := print_drop_of (P := Try.prog) (Value.int .u8) 0 54 5 .i64 Try.underlying54 hi056 hsz56 (some ad103) c0 l0 8 (by omega) (of_decide_eq_true (by first | (with_reducible assumption) | assumption)) HC0.out
              have d56_ : A56 = A52 := MR.cut_same (hcut56 w) (hcut52 w)
              rw [d56_] at hA56
              clear hcut56 d56_
              have HR126 := Aside0.mk (Kd.C_of_reads (h1 := fun _ => rfl) (hA56 _ (Kd.reads_of_C HR0.out)))
              have HC126 := Aside0.mk hC56
              clear hA56 hC56 hi056 hsz56
              refine hK.out _ _ trivial (fun hHeld => ?_)
              clear hK K
              refine norm_ (a' := ?_) ?_ ?_
              rotate_left
              ·show Act.put _ (some 28) _ = _
               simp only [Act.put, List.setIfInBounds_toArray, List.set_cons_zero, List.set_cons_succ, i64_w, i32_w]
               rfl
              refine pure_ (i := 5) (N := some 29) (v := ?_) (a' := ?_) #[true,true,true,true,true,true,false,false,false,false,false,false,false,false,false,false,false,false,false,false,false,false,false,false,false,false,false] rfl rfl (any_of HT_.out (by kernel_rfl)) (fun _ _ _ h => h) (Or.inl ⟨by rfl, ?_⟩) ?_ ?_
              rotate_left
              ·intro w'
               go_simp
               with_reducible rfl
              rotate_left
              ·simp only [Act.put, List.setIfInBounds_toArray, List.set_cons_zero, List.set_cons_succ, i64_w, i32_w]
               rfl
              refine pure_ (i := 6) (N := some 30) (v := ?_) (a' := ?_) #[true,true,true,true,true,true,true,false,false,false,false,false,false,false,false,false,false,false,false,false,false,false,false,false,false,false,false] rfl rfl (any_of HT_.out (by kernel_rfl)) (fun _ _ _ h => h) (Or.inl ⟨by rfl, ?_⟩) ?_ ?_
              rotate_left
              ·intro w'
               go_simp
               with_reducible rfl
              rotate_left
              ·simp only [Act.put, List.setIfInBounds_toArray, List.set_cons_zero, List.set_cons_succ, i64_w, i32_w]
               rfl
              refine pure_ (i := 7) (N := some 31) (v := ?_) (a' := ?_) #[true,true,true,true,true,true,true,true,false,false,false,false,false,false,false,false,false,false,false,false,false,false,false,false,false,false,false] rfl rfl (any_of HT_.out (by kernel_rfl)) (fun _ _ _ h => h) (Or.inl ⟨by rfl, ?_⟩) ?_ ?_
              rotate_left
              ·intro w'
               go_simp
               with_reducible rfl
              rotate_left
              ·simp only [Act.put, List.setIfInBounds_toArray, List.set_cons_zero, List.set_cons_succ, i64_w, i32_w]
               rfl
              refine one_ (i := 8) (N := some 32) #[true,true,true,true,true,true,true,true,true,false,false,false,false,false,false,false,false,false,false,false,false,false,false,false,false,false,false] rfl rfl (one_of HT_.out (by kernel_rfl)) (by decide) (fun K hK => ?_)
              refine goes_ Try.func84 (by kernel_rfl) rfl #[] (by rfl) rfl rfl (by (try simp only [List.map_toArray, List.map_cons, List.map_nil]); first | done | rfl | (simp only [List.length_drop, List.length_take]; rfl)) ?_
              with_reducible refine (hertzstr_StrContentLength.calls  t127 _ A33.out).mono ?_
              rintro e w57 ⟨v128, rfl, ho0, hb⟩
              refine ⟨_, rfl, ?_⟩
              have n0_ := Aside0.mk (MR.R_elder' (by (with_reducible repeat (first | apply MR.R_alloc | apply MR.R_drewN | apply MR.R_drew)); exact HO120.out) (MR.R_base ho0) hb)
              have n1_ := Aside0.mk (MR.R_lower (MR.R_new' ho0 (MR.R_lt (by (with_reducible repeat (first | apply MR.R_alloc | apply MR.R_drewN | apply MR.R_drew)); exact HO120.out))) (below_size (by repeat (first | (with_reducible first | exact HB.out | apply below_alloc | apply pw_below_drewN | apply below_drew1) | exact HB.out))))
              have n2_ := Aside0.mk (Kd.C_below (by repeat (first | (with_reducible exact HR124.out) | (with_reducible refine Kd.C_alloc ?_ _) | (with_reducible refine Kd.C_drewN ?_ _) | (with_reducible refine Kd.C_drew ?_) | exact HR124.out)) hb)
              have n3_ := Aside0.mk (below_step (by repeat (first | (with_reducible first | exact HB.out | apply below_alloc | apply pw_below_drewN | apply below_drew1) | exact HB.out)) hb)
              clear HO120
              clear HR124
              clear HB
              have HO120 := n0_
              have HO129 := n1_
              have HR124 := n2_
              have HB := n3_
              clear n0_ n1_ n2_ n3_
              (try clear hb)
              (try clear hb2)
              (try clear hk)
              (try clear hi)
              (try clear ho0)
              obtain ⟨Ao59, co59, eo59⟩ := MR.R_slice HO129.out
              (first | subst eo59 | (injection eo59 with f1_ f2_ f3_; have f4_ := f1_.symm; have f5_ := f3_.symm; clear f1_ f2_ f3_; subst f4_; subst f5_))
              have q58 : (8 : Int) ≤ ((t127.length : Int) : Int) := of_decide_eq_true (by first | (with_reducible assumption) | assumption)
              obtain ⟨i058, hi058, _, hsz58, _⟩ := info_parts info5
              have hroom58 : t127.length ≤ co59 := (MR.R_reads' HO129.out).2.1
              have hC58 : Kd.C (Kd.int .u8) _ Ao59 t127.length t127 := (MR.R_reads' HO129.out).2.2
              have hcut58 := cut_from (P := Try.prog) 54 5 .i64 Try.underlying54 hi058 1 hsz58 Ao59 t127.length co59 8 (by omega) q58
              have hr58 := Kd.C_drop (m := (8 : Int).toNat) (c := co59) hC58 (by omega) hroom58
              obtain ⟨A58, hA58⟩ : ∃ A1, A1 = (if co59 = (8 : Int).toNat then Ao59 else (Ao59 : Option Addr).map (·.add ((8 : Int).toNat * 1))) := ⟨_, rfl⟩
              obtain ⟨c58, hc58⟩ : ∃ c1, c1 = co59 - (8 : Int).toNat := ⟨_, rfl⟩
              have hy58 : y130.length = t127.length - (8 : Int).toNat := (by rw [Ny130.out, List.length_drop] <;> omega)
              rw [show (t127).drop (8 : Int).toNat = y130 from Ny130.out.symm] at hr58
              replace hr58 : Kd.C (Kd.int .u8) _ A58 y130.length y130 := (by rw [hA58]; exact hr58)
              rw [← hy58, ← hA58, ← hc58] at hcut58
              have HR133 := Aside0.mk hr58
              have HC133 := Aside0.mk (show y130.length ≤ c58 from by rw [hy58, hc58]; exact Nat.sub_le_sub_right hroom58 _)
              clear hr58 hC58 hroom58 hi058 hsz58 hc58
              have KY58 := Aside0.mk hy58
              have KA58 := Aside0.mk hA58
              clear hy58 hA58
              have KL58 := Aside0.mk (show 8 ≤ t127.length from by omega)
              replace q58 := eq_true q58
              refine hK.out _ _ trivial (fun hHeld => ?_)
              clear hK K
              refine norm_ (a' := ?_) ?_ ?_
              rotate_left
              ·show Act.put _ (some 32) _ = _
               simp only [Act.put, List.setIfInBounds_toArray, List.set_cons_zero, List.set_cons_succ, i64_w, i32_w]
               rfl
              refine pure_ (i := 9) (N := some 33) (v := ?_) (a' := ?_) #[true,true,true,true,true,true,true,true,true,true,false,false,false,false,false,false,false,false,false,false,false,false,false,false,false,false,false] rfl rfl (any_of HT_.out (by kernel_rfl)) (fun _ _ _ h => h) (Or.inl ⟨by rfl, ?_⟩) ?_ ?_
              rotate_left
              ·intro w'
               go_simp
               with_reducible rfl
              rotate_left
              ·simp only [Act.put, List.setIfInBounds_toArray, List.set_cons_zero, List.set_cons_succ, i64_w, i32_w]
               rfl
              refine one_ (i := 10) (N := some 34) #[true,true,true,true,true,true,true,true,true,true,true,false,false,false,false,false,false,false,false,false,false,false,false,false,false,false,false] rfl rfl (one_of HT_.out (by kernel_rfl)) (by decide) (fun K hK => ?_)
              refine goes_ Try.func80 (by kernel_rfl) rfl #[.slice A52 (l0.drop 8).length (c0 - 8), .slice A58 y130.length c58] (by rfl) rfl rfl (by (try simp only [List.map_toArray, List.map_cons, List.map_nil]); first | done | (rw [show (l0.drop 8).length = (l0.length - 8) from List.length_drop] <;> rfl) | rfl | (simp only [List.length_drop, List.length_take]; rfl)) ?_
              with_reducible refine (hertzutils_CaseInsensitiveCompare.calls kj8 _ _ (l0.drop 8) _ _ y130 false _ ?side1 ?side2 ?side3 ?side4 A35.out).mono ?_
              (case side1 => repeat (first | exact (Kd.C_below HR126.out HB.out) | (with_reducible refine Kd.C_alloc ?_ _) | (with_reducible refine Kd.C_drewN ?_ _) | (with_reducible refine Kd.C_drew ?_)))
              (case side2 => exact HC126.out)
              (case side3 => repeat (first | exact (by repeat (first | (with_reducible exact HR133.out) | (with_reducible refine Kd.C_alloc ?_ _) | (with_reducible refine Kd.C_drewN ?_ _) | (with_reducible refine Kd.C_drew ?_) | exact HR133.out)) | (with_reducible refine Kd.C_alloc ?_ _) | (with_reducible refine Kd.C_drewN ?_ _) | (with_reducible refine Kd.C_drew ?_)))
              (case side4 => exact HC133.out)
              rintro e w' ⟨rfl, ⟨nd, rfl⟩⟩
              refine ⟨_, rfl, ?_⟩
              obtain ⟨i060, hi060, _, hsz60, _⟩ := info_parts info5
              obtain ⟨A60, hcut60, hA60, hC60⟩ := print_drop_of (P := Try.prog) (Value.int .u8) 0 54 5 .i64 Try.underlying54 hi060 hsz60 (some ad103) c0 l0 8 (by omega) (of_decide_eq_true (by first | (with_reducible assumption) | assumption)) HC0.out
              have d60_ : A60 = A52 := MR.cut_same (hcut60 w) (hcut52 w)
              rw [d60_] at hA60
              clear hcut60 d60_
              have HR135 := Aside0.mk (Kd.C_of_reads (h1 := fun _ => rfl) (hA60 _ (Kd.reads_of_C HR0.out)))
              have HC135 := Aside0.mk hC60
              clear hA60 hC60 hi060 hsz60
              refine hK.out _ _ trivial (fun hHeld => ?_)
              clear hK K
              refine norm_ (a' := ?_) ?_ ?_
              rotate_left
              ·show Act.put _ (some 34) _ = _
               simp only [Act.put, List.setIfInBounds_toArray, List.set_cons_zero, List.set_cons_succ, i64_w, i32_w]
               rfl
              refine pure_ (i := 11) (N := some 35) (v := ?_) (a' := ?_) #[true,true,true,true,true,true,true,true,true,true,true,true,false,false,false,false,false,false,false,false,false,false,false,false,false,false,false] rfl rfl (any_of HT_.out (by kernel_rfl)) (fun _ _ _ h => h) (Or.inl ⟨by rfl, ?_⟩) ?_ ?_
              rotate_left
              ·intro w'
               go_simp
               with_reducible rfl
              rotate_left
              ·simp only [Act.put, List.setIfInBounds_toArray, List.set_cons_zero, List.set_cons_succ, i64_w, i32_w]
               rfl
              refine pure_ (i := 12) (N := some 36) (v := ?_) (a' := ?_) #[true,true,true,true,true,true,true,true,true,true,true,true,true,false,false,false,false,false,false,false,false,false,false,false,false,false,false] rfl rfl (any_of HT_.out (by kernel_rfl)) (fun _ _ _ h => h) (Or.inl ⟨by rfl, ?_⟩) ?_ ?_
              rotate_left
              ·intro w'
               go_simp
               with_reducible rfl
              rotate_left
              ·simp only [Act.put, List.setIfInBounds_toArray, List.set_cons_zero, List.set_cons_succ, i64_w, i32_w]
               rfl
              refine pure_ (i := 13) (N := some 37) (v := ?_) (a' := ?_) #[true,true,true,true,true,true,true,true,true,true,true,true,true,true,false,false,false,false,false,false,false,false,false,false,false,false,false] rfl rfl (any_of HT_.out (by kernel_rfl)) (fun _ _ _ h => h) (Or.inl ⟨by rfl, ?_⟩) ?_ ?_
              rotate_left
              ·intro w'
               go_simp
               with_reducible rfl
              rotate_left
              ·simp only [Act.put, List.setIfInBounds_toArray, List.set_cons_zero, List.set_cons_succ, i64_w, i32_w]
               rfl
              refine pure_ (i := 14) (N := some 38) (v := ?_) (a' := ?_) #[true,true,true,true,true,true,true,true,true,true,true,true,true,true,true,false,false,false,false,false,false,false,false,false,false,false,false] rfl rfl (any_of HT_.out (by kernel_rfl)) (fun _ _ _ h => h) (Or.inl ⟨by rfl, ?_⟩) ?_ ?_
              rotate_left
              ·intro w'
               go_simp
               with_reducible rfl
              rotate_left
              ·simp only [Act.put, List.setIfInBounds_toArray, List.set_cons_zero, List.set_cons_succ, i64_w, i32_w]
               rfl
              refine one_ (i := 15) (N := some 39) #[true,true,true,true,true,true,true,true,true,true,true,true,true,true,true,true,false,false,false,false,false,false,false,false,false,false,false] rfl rfl (one_of HT_.out (by kernel_rfl)) (by decide) (fun K hK => ?_)
              refine goes_ Try.func82 (by kernel_rfl) rfl #[] (by rfl) rfl rfl (by (try simp only [List.map_toArray, List.map_cons, List.map_nil]); first | done | rfl | (simp only [List.length_drop, List.length_take]; rfl)) ?_
              with_reducible refine (hertzstr_StrContentType.calls  t136 _ A47.out).mono ?_
              rintro e w61 ⟨v137, rfl, ho0, hb⟩
              refine ⟨_, rfl, ?_⟩
              have n0_ := Aside0.mk (MR.R_elder' (by (with_reducible repeat (first | apply MR.R_alloc | apply MR.R_drewN | apply MR.R_drew)); exact HO120.out) (MR.R_base ho0) hb)
              have n1_ := Aside0.mk (MR.R_elder' (by (with_reducible repeat (first | apply MR.R_alloc | apply MR.R_drewN | apply MR.R_drew)); exact HO129.out) (MR.R_base ho0) hb)
              have n2_ := Aside0.mk (MR.R_lower (MR.R_new' (MR.R_new' ho0 (MR.R_lt (by (with_reducible repeat (first | apply MR.R_alloc | apply MR.R_drewN | apply MR.R_drew)); exact HO120.out))) (MR.R_lt (by (with_reducible repeat (first | apply MR.R_alloc | apply MR.R_drewN | apply MR.R_drew)); exact HO129.out))) (below_size (by repeat (first | (with_reducible first | exact HB.out | apply below_alloc | apply pw_below_drewN | apply below_drew1) | exact HB.out))))
              have n3_ := Aside0.mk (Kd.C_below (by repeat (first | (with_reducible exact HR124.out) | (with_reducible refine Kd.C_alloc ?_ _) | (with_reducible refine Kd.C_drewN ?_ _) | (with_reducible refine Kd.C_drew ?_) | exact HR124.out)) hb)
              have n4_ := Aside0.mk (Kd.C_below (by repeat (first | (with_reducible exact HR133.out) | (with_reducible refine Kd.C_alloc ?_ _) | (with_reducible refine Kd.C_drewN ?_ _) | (with_reducible refine Kd.C_drew ?_) | exact HR133.out)) hb)
              have n5_ := Aside0.mk (below_step (by repeat (first | (with_reducible first | exact HB.out | apply below_alloc | apply pw_below_drewN | apply below_drew1) | exact HB.out)) hb)
              clear HO120
              clear HO129
              clear HR124
              clear HR133
              clear HB
              have HO120 := n0_
              have HO129 := n1_
              have HO138 := n2_
              have HR124 := n3_
              have HR133 := n4_
              have HB := n5_
              clear n0_ n1_ n2_ n3_ n4_ n5_
              (try clear hb)
              (try clear hb2)
              (try clear hk)
              (try clear hi)
              (try clear ho0)
              obtain ⟨Ao63, co63, eo63⟩ := MR.R_slice HO138.out
              (first | subst eo63 | (injection eo63 with f1_ f2_ f3_; have f4_ := f1_.symm; have f5_ := f3_.symm; clear f1_ f2_ f3_; subst f4_; subst f5_))
              have q62 : (8 : Int) ≤ ((t136.length : Int) : Int) := of_decide_eq_true (by first | (with_reducible assumption) | assumption)
              obtain ⟨i062, hi062, _, hsz62, _⟩ := info_parts info5
              have hroom62 : t136.length ≤ co63 := (MR.R_reads' HO138.out).2.1
              have hC62 : Kd.C (Kd.int .u8) _ Ao63 t136.length t136 := (MR.R_reads' HO138.out).2.2
              have hcut62 := cut_from (P := Try.prog) 54 5 .i64 Try.underlying54 hi062 1 hsz62 Ao63 t136.length co63 8 (by omega) q62
              have hr62 := Kd.C_drop (m := (8 : Int).toNat) (c := co63) hC62 (by omega) hroom62
              obtain ⟨A62, hA62⟩ : ∃ A1, A1 = (if co63 = (8 : Int).toNat then Ao63 else (Ao63 : Option Addr).map (·.add ((8 : Int).toNat * 1))) := ⟨_, rfl⟩
              obtain ⟨c62, hc62⟩ : ∃ c1, c1 = co63 - (8 : Int).toNat := ⟨_, rfl⟩
              have hy62 : y139.length = t136.length - (8 : Int).toNat := (by rw [Ny139.out, List.length_drop] <;> omega)
              rw [show (t136).drop (8 : Int).toNat = y139 from Ny139.out.symm] at hr62
              replace hr62 : Kd.C (Kd.int .u8) _ A62 y139.length y139 := (by rw [hA62]; exact hr62)
              rw [← hy62, ← hA62, ← hc62] at hcut62
              have HR142 := Aside0.mk hr62
              have HC142 := Aside0.mk (show y139.length ≤ c62 from by rw [hy62, hc62]; exact Nat.sub_le_sub_right hroom62 _)
              clear hr62 hC62 hroom62 hi062 hsz62 hc62
              have KY62 := Aside0.mk hy62
              have KA62 := Aside0.mk hA62
              clear hy62 hA62
              have KL62 := Aside0.mk (show 8 ≤ t136.length from by omega)
              replace q62 := eq_true q62
              refine hK.out _ _ trivial (fun hHeld => ?_)
              clear hK K
              refine norm_ (a' := ?_) ?_ ?_
              rotate_left
              ·show Act.put _ (some 39) _ = _
               simp only [Act.put, List.setIfInBounds_toArray, List.set_cons_zero, List.set_cons_succ, i64_w, i32_w]
               rfl
              refine pure_ (i := 16) (N := some 40) (v := ?_) (a' := ?_) #[true,true,true,true,true,true,true,true,true,true,true,true,true,true,true,true,true,false,false,false,false,false,false,false,false,false,false] rfl rfl (any_of HT_.out (by kernel_rfl)) (fun _ _ _ h => h) (Or.inl ⟨by rfl, ?_⟩) ?_ ?_
              rotate_left
              ·intro w'
               go_simp
               with_reducible rfl
              rotate_left
              ·simp only [Act.put, List.setIfInBounds_toArray, List.set_cons_zero, List.set_cons_succ, i64_w, i32_w]
               rfl
              refine one_ (i := 17) (N := some 41) #[true,true,true,true,true,true,true,true,true,true,true,true,true,true,true,true,true,true,false,false,false,false,false,false,false,false,false] rfl rfl (one_of HT_.out (by kernel_rfl)) (by decide) (fun K hK => ?_)
              refine goes_ Try.func80 (by kernel_rfl) rfl #[.slice A52 (l0.drop 8).length (c0 - 8), .slice A62 y139.length c62] (by rfl) rfl rfl (by (try simp only [List.map_toArray, List.map_cons, List.map_nil]); first | done | (rw [show (l0.drop 8).length = (l0.length - 8) from List.length_drop] <;> rfl) | rfl | (simp only [List.length_drop, List.length_take]; rfl)) ?_
              with_reducible refine (hertzutils_CaseInsensitiveCompare.calls kj8 _ _ (l0.drop 8) _ _ y139 true _ ?side1 ?side2 ?side3 ?side4 A49.out).mono ?_
              (case side1 => repeat (first | exact (Kd.C_below HR135.out HB.out) | (with_reducible refine Kd.C_alloc ?_ _) | (with_reducible refine Kd.C_drewN ?_ _) | (with_reducible refine Kd.C_drew ?_)))
              (case side2 => exact HC135.out)
              (case side3 => repeat (first | exact (by repeat (first | (with_reducible exact HR142.out) | (with_reducible refine Kd.C_alloc ?_ _) | (with_reducible refine Kd.C_drewN ?_ _) | (with_reducible refine Kd.C_drew ?_) | exact HR142.out)) | (with_reducible refine Kd.C_alloc ?_ _) | (with_reducible refine Kd.C_drewN ?_ _) | (with_reducible refine Kd.C_drew ?_)))
              (case side4 => exact HC142.out)
              rintro e w' ⟨rfl, ⟨nd, rfl⟩⟩
              refine ⟨_, rfl, ?_⟩
              refine hK.out _ _ trivial (fun hHeld => ?_)
              clear hK K
              refine norm_ (a' := ?_) ?_ ?_
              rotate_left
              ·show Act.put _ (some 41) _ = _
               simp only [Act.put, List.setIfInBounds_toArray, List.set_cons_zero, List.set_cons_succ, i64_w, i32_w]
               rfl
              refine pure_ (i := 18) (N := some 42) (v := ?_) (a' := ?_) #[true,true,true,true,true,true,true,true,true,true,true,true,true,true,true,true,true,true,true,false,false,false,false,false,false,false,false] rfl rfl (any_of HT_.out (by kernel_rfl)) (fun _ _ _ h => h) (Or.inl ⟨by rfl, ?_⟩) ?_ ?_
              rotate_left
              ·intro w'
               go_simp
               with_reducible rfl
              rotate_left
              ·simp only [Act.put, List.setIfInBounds_toArray, List.set_cons_zero, List.set_cons_succ, i64_w, i32_w]
               rfl
              refine pure_ (i := 19) (N := some 43) (v := ?_) (a' := ?_) #[true,true,true,true,true,true,true,true,true,true,true,true,true,true,true,true,true,true,true,true,false,false,false,false,false,false,false] rfl rfl (any_of HT_.out (by kernel_rfl)) (fun _ _ _ h => h) (Or.inl ⟨by rfl, ?_⟩) ?_ ?_
              rotate_left
              ·intro w'
               go_simp
               with_reducible rfl
              rotate_left
              ·simp only [Act.put, List.setIfInBounds_toArray, List.set_cons_zero, List.set_cons_succ, i64_w, i32_w]
               rfl
              refine pure_ (i := 20) (N := some 44) (v := undef) (a' := ?_) #[true,true,true,true,true,true,true,true,true,true,true,true,true,true,true,true,true,true,true,true,true,false,false,false,false,false,false] rfl rfl (any_of HT_.out (by kernel_rfl)) (fun _ _ _ h => h) (Or.inr ⟨by rfl, rfl⟩) ?_ ?_
              rotate_left
              ·simp only [Act.put, List.setIfInBounds_toArray, List.set_cons_zero, List.set_cons_succ, i64_w, i32_w]
               rfl
              refine pure_ (i := 21) (N := some 45) (v := undef) (a' := ?_) #[true,true,true,true,true,true,true,true,true,true,true,true,true,true,true,true,true,true,true,true,true,true,false,false,false,false,false] rfl rfl (any_of HT_.out (by kernel_rfl)) (fun _ _ _ h => h) (Or.inr ⟨by rfl, rfl⟩) ?_ ?_
              rotate_left
              ·simp only [Act.put, List.setIfInBounds_toArray, List.set_cons_zero, List.set_cons_succ, i64_w, i32_w]
               rfl
              refine pure_ (i := 22) (N := some 46) (v := undef) (a' := ?_) #[true,true,true,true,true,true,true,true,true,true,true,true,true,true,true,true,true,true,true,true,true,true,true,false,false,false,false] rfl rfl (any_of HT_.out (by kernel_rfl)) (fun _ _ _ h => h) (Or.inr ⟨by rfl, rfl⟩) ?_ ?_
              rotate_left
              ·simp only [Act.put, List.setIfInBounds_toArray, List.set_cons_zero, List.set_cons_succ, i64_w, i32_w]
               rfl
              refine pure_ (i := 23) (N := some 47) (v := undef) (a' := ?_) #[true,true,true,true,true,true,true,true,true,true,true,true,true,true,true,true,true,true,true,true,true,true,true,true,false,false,false] rfl rfl (any_of HT_.out (by kernel_rfl)) (fun _ _ _ h => h) (Or.inr ⟨by rfl, rfl⟩) ?_ ?_
              rotate_left
              ·simp only [Act.put, List.setIfInBounds_toArray, List.set_cons_zero, List.set_cons_succ, i64_w, i32_w]
               rfl
              refine pure_ (i := 24) (N := some 48) (v := undef) (a' := ?_) #[true,true,true,true,true,true,true,true,true,true,true,true,true,true,true,true,true,true,true,true,true,true,true,true,true,false,false] rfl rfl (any_of HT_.out (by kernel_rfl)) (fun _ _ _ h => h) (Or.inr ⟨by rfl, rfl⟩) ?_ ?_
              rotate_left
              ·simp only [Act.put, List.setIfInBounds_toArray, List.set_cons_zero, List.set_cons_succ, i64_w, i32_w]
               rfl
              refine pure_ (i := 25) (N := some 49) (v := ?_) (a' := ?_) #[true,true,true,true,true,true,true,true,true,true,true,true,true,true,true,true,true,true,true,true,true,true,true,true,true,true,false] rfl rfl (any_of HT_.out (by kernel_rfl)) (fun _ _ _ h => h) (Or.inl ⟨by rfl, ?_⟩) ?_ ?_
              rotate_left
              ·intro w'
               go_simp
               with_reducible rfl
              rotate_left
              ·simp only [Act.put, List.setIfInBounds_toArray, List.set_cons_zero, List.set_cons_succ, i64_w, i32_w]
               rfl
              refine pure_ (i := 26) (N := some 2) (v := ?_) (a' := ?_) #[true,true,true,true,true,true,true,true,true,true,true,true,true,true,true,true,true,true,true,true,true,true,true,true,true,true,true] rfl rfl (any_of HT_.out (by kernel_rfl)) (fun _ _ _ h => h) (Or.inl ⟨by rfl, ?_⟩) ?_ ?_
              rotate_left
              ·intro w'
               go_simp
               with_reducible rfl
              rotate_left
              ·simp only [Act.put, List.setIfInBounds_toArray, List.set_cons_zero, List.set_cons_succ, i64_w, i32_w]
               rfl
              refine done_ (done_of HT_.out (by kernel_rfl)) ?_
              try go_wp2
              go_ret
              exact ⟨by first | rfl | (simp [errW_none, errW_some] <;> rfl) | (simp [*, errW_none, errW_some] <;> rfl), by repeat (first | (with_reducible first | exact HB.out | apply below_alloc | apply pw_below_drewN | apply below_drew1) | exact HB.out)⟩
             ·replace c50 := Bool.eq_false_iff.mpr c50
              subst c50
              have H1 : ((hertzstr_StrContentRange.f).bind fun t145 => (if 8 ≤ (t145.length : Int) then ((hertzutils_CaseInsensitiveCompare.f kj8 (l0.drop 8) (t145.drop 8)).bind fun t152 => (some t152)) else (none))) = some r := by rw [if_neg (show ¬ (false = true) by decide)] at H; exact H
              clear H
              have H := H1
              clear H1
              have c64b0 := eq_true (of_decide_eq_true (by first | (with_reducible assumption) | assumption) : 8 ≤ (l0.length : Int))
              replace H := Option.bind_eq_some_iff.mp H
              obtain ⟨t145, A650, H⟩ := H
              replace H : (if 8 ≤ (t145.length : Int) then ((hertzutils_CaseInsensitiveCompare.f kj8 (l0.drop 8) (t145.drop 8)).bind fun t152 => (some t152)) else (none)) = some r := H
              have A65 := Aside0.mk A650
              clear A650
              by_cases c66 : 8 ≤ (t145.length : Int)
              ·rw [if_pos c66] at H
               have c66b0 := eq_true c66
               have c66b1 : decide (8 ≤ (t145.length : Int)) = true := decide_eq_true c66
               clear c66
               obtain ⟨y148, hy148⟩ : ∃ y_ : List Int, y_ = (t145.drop 8) := ⟨_, rfl⟩
               replace H : ((hertzutils_CaseInsensitiveCompare.f kj8 (l0.drop 8) y148).bind fun t152 => (some t152)) = some r := by first | (rw [hy148]; with_reducible exact H) | (have H2_ := (Option.bind_some _ _).symm.trans H; rw [hy148]; with_reducible exact H2_) | (have H2_ := (Option.bind_some _ _).symm.trans H; with_reducible exact H2_) | with_reducible exact H | (rw [hy148]; exact H) | exact H
               have Ny148 := Aside0.mk hy148
               clear hy148
               replace H := Option.bind_eq_some_iff.mp H
               obtain ⟨t152, A670, H⟩ := H
               replace H : (some t152) = some r := H
               have A67 := Aside0.mk A670
               clear A670
               obtain rfl := Option.some.inj H
               try go_wp2
               have n0_ := Aside0.mk (below_drew1 HB.out)
               clear HB
               have HB := n0_
               clear n0_
               obtain ⟨i069, hi069, _, hsz69, _⟩ := info_parts info5
               obtain ⟨A69, hcut69, hA69, hC69⟩ := print_drop_of (P := Try.prog) (Value.int .u8) 0 54 5 .i64 Try.underlying54 hi069 hsz69 (some ad103) c0 l0 8 (by omega) (of_decide_eq_true (by first | (with_reducible assumption) | assumption)) HC0.out
               have HR117 := Aside0.mk (Kd.C_of_reads (h1 := fun _ => rfl) (hA69 _ (Kd.reads_of_C HR0.out)))
               have HC117 := Aside0.mk hC69
               clear hA69 hC69 hi069 hsz69
               refine start_ (n := 27) (S := fun w' => True) (ds := []) #[false,false,false,false,false,false,false,false,false,false,false,false,false,false,false,false,false,false,false,false,false,false,false,false,false,false,false] (by kernel_rfl) rfl rfl trivial (fun hHeld => ?_); refine with_tabW hertzproto_IsBadTrailer.tab6 hertzproto_IsBadTrailer.bits6 (fun HT_ HW_ => ?_)
               generalize wc.drew = w68 at HB HR117 hHeld ⊢
               refine pure_ (i := 0) (N := some 24) (v := ?_) (a' := ?_) #[true,false,false,false,false,false,false,false,false,false,false,false,false,false,false,false,false,false,false,false,false,false,false,false,false,false,false] rfl rfl (any_of HT_.out (by kernel_rfl)) (fun _ _ _ h => h) (Or.inl ⟨by rfl, ?_⟩) ?_ ?_
               rotate_left
               ·intro w'
                go_simp
                with_reducible rfl
               rotate_left
               ·simp only [Act.put, List.setIfInBounds_toArray, List.set_cons_zero, List.set_cons_succ, i64_w, i32_w]
                rfl
               refine pure_ (i := 1) (N := some 25) (v := ?_) (a' := ?_) #[true,true,false,false,false,false,false,false,false,false,false,false,false,false,false,false,false,false,false,false,false,false,false,false,false,false,false] rfl rfl (any_of HT_.out (by kernel_rfl)) (fun _ _ _ h => h) (Or.inl ⟨by rfl, ?_⟩) ?_ ?_
               rotate_left
               ·intro w'
                go_simp
                with_reducible rfl
               rotate_left
               ·simp only [Act.put, List.setIfInBounds_toArray, List.set_cons_zero, List.set_cons_succ, i64_w, i32_w]
                rfl
               refine one_ (i := 2) (N := some 26) #[true,true,true,false,false,false,false,false,false,false,false,false,false,false,false,false,false,false,false,false,false,false,false,false,false,false,false] rfl rfl (one_of HT_.out (by kernel_rfl)) (by decide) (fun K hK => ?_)
               refine goes_ Try.func83 (by kernel_rfl) rfl #[] (by rfl) rfl rfl (by (try simp only [List.map_toArray, List.map_cons, List.map_nil]); first | done | rfl | (simp only [List.length_drop, List.length_take]; rfl)) ?_
               with_reducible refine (hertzstr_StrContentEncoding.calls  t118 _ A23.out).mono ?_
               rintro e w70 ⟨v119, rfl, ho0, hb⟩
               refine ⟨_, rfl, ?_⟩
               have n0_ := Aside0.mk (MR.R_lower ho0 (below_size (by repeat (first | (with_reducible first | exact HB.out | apply below_alloc | apply pw_below_drewN | apply below_drew1) | exact HB.out))))
               have n1_ := Aside0.mk (below_step (by repeat (first | (with_reducible first | exact HB.out | apply below_alloc | apply pw_below_drewN | apply below_drew1) | exact HB.out)) hb)
               clear HB
               have HO120 := n0_
               have HB := n1_
               clear n0_ n1_
               (try clear hb)
               (try clear hb2)
               (try clear hk)
               (try clear hi)
               (try clear ho0)
               obtain ⟨Ao72, co72, eo72⟩ := MR.R_slice HO120.out
               (first | subst eo72 | (injection eo72 with f1_ f2_ f3_; have f4_ := f1_.symm; have f5_ := f3_.symm; clear f1_ f2_ f3_; subst f4_; subst f5_))
               have q71 : (8 : Int) ≤ ((t118.length : Int) : Int) := of_decide_eq_true (by first | (with_reducible assumption) | assumption)
               obtain ⟨i071, hi071, _, hsz71, _⟩ := info_parts info5
               have hroom71 : t118.length ≤ co72 := (MR.R_reads' HO120.out).2.1
               have hC71 : Kd.C (Kd.int .u8) _ Ao72 t118.length t118 := (MR.R_reads' HO120.out).2.2
               have hcut71 := cut_from (P := Try.prog) 54 5 .i64 Try.underlying54 hi071 1 hsz71 Ao72 t118.length co72 8 (by omega) q71
               have hr71 := Kd.C_drop (m := (8 : Int).toNat) (c := co72) hC71 (by omega) hroom71
               obtain ⟨A71, hA71⟩ : ∃ A1, A1 = (if co72 = (8 : Int).toNat then Ao72 else (Ao72 : Option Addr).map (·.add ((8 : Int).toNat * 1))) := ⟨_, rfl⟩
               obtain ⟨c71, hc71⟩ : ∃ c1, c1 = co72 - (8 : Int).toNat := ⟨_, rfl⟩
               have hy71 : y121.length = t118.length - (8 : Int).toNat := (by rw [Ny121.out, List.length_drop] <;> omega)
               rw [show (t118).drop (8 : Int).toNat = y121 from Ny121.out.symm] at hr71
               replace hr71 : Kd.C (Kd.int .u8) _ A71 y121.length y121 := (by rw [hA71]; exact hr71)
               rw [← hy71, ← hA71, ← hc71] at hcut71
               have HR124 := Aside0.mk hr71
               have HC124 := Aside0.mk (show y121.length ≤ c71 from by rw [hy71, hc71]; exact Nat.sub_le_sub_right hroom71 _)
               clear hr71 hC71 hroom71 hi071 hsz71 hc71
               have KY71 := Aside0.mk hy71
               have KA71 := Aside0.mk hA71
               clear hy71 hA71
               have KL71 := Aside0.mk (show 8 ≤ t118.length from by omega)
               replace q71 := eq_true q71
               refine hK.out _ _ trivial (fun hHeld => ?_)
               clear hK K
               refine norm_ (a' := ?_) ?_ ?_
               rotate_left
               ·show Act.put _ (some 26) _ = _
                simp only [Act.put, List.setIfInBounds_toArray, List.set_cons_zero, List.set_cons_succ, i64_w, i32_w]
                rfl
               refine pure_ (i := 3) (N := some 27) (v := ?_) (a' := ?_) #[true,true,true,true,false,false,false,false,false,false,false,false,false,false,false,false,false,false,false,false,false,false,false,false,false,false,false] rfl rfl (any_of HT_.out (by kernel_rfl)) (fun _ _ _ h => h) (Or.inl ⟨by rfl, ?_⟩) ?_ ?_
               rotate_left
               ·intro w'
                go_simp
                with_reducible rfl
               rotate_left
               ·simp only [Act.put, List.setIfInBounds_toArray, List.set_cons_zero, List.set_cons_succ, i64_w, i32_w]
                rfl
               refine one_ (i := 4) (N := some 28) #[true,true,true,true,true,false,false,false,false,false,false,false,false,false,false,false,false,false,false,false,false,false,false,false,false,false,false] rfl rfl (one_of HT_.out (by kernel_rfl)) (by decide) (fun K hK => ?_)
               refine goes_ Try.func80 (by kernel_rfl) rfl #[.slice A69 (l0.drop 8).length (c0 - 8), .slice A71 y121.length c71] (by rfl) rfl rfl (by (try simp only [List.map_toArray, List.map_cons, List.map_nil]); first | done | (rw [show (l0.drop 8).length = (l0.length - 8) from List.length_drop] <;> rfl) | rfl | (simp only [List.length_drop, List.length_take]; rfl)) ?_
               with_reducible refine (hertzutils_CaseInsensitiveCompare.calls kj8 _ _ (l0.drop 8) _ _ y121 false _ ?side1 ?side2 ?side3 ?side4 A25.out).mono ?_
               (case side1 => repeat (first | exact (Kd.C_below HR117.out HB.out) | (with_reducible refine Kd.C_alloc ?_ _) | (with_reducible refine Kd.C_drewN ?_ _) | (with_reducible refine Kd.C_drew ?_)))
               (case side2 => exact HC117.out)
               (case side3 => repeat (first | exact (by repeat (first | (with_reducible exact HR124.out) | (with_reducible refine Kd.C_alloc ?_ _) | (with_reducible refine Kd.C_drewN ?_ _) | (with_reducible refine Kd.C_drew ?_) | exact HR124.out)) | (with_reducible refine Kd.C_alloc ?_ _) | (with_reducible refine Kd.C_drewN ?_ _) | (with_reducible refine Kd.C_drew ?_)))
               (case side4 => exact HC124.out)
               rintro e w' ⟨rfl, ⟨nd, rfl⟩⟩
               refine ⟨_, rfl, ?_⟩
               obtain ⟨i073, hi073, _, hsz73, _⟩ := info_parts info5
               obtain ⟨A73, hcut73, hA73, hC73⟩ := print_drop_of (P := Try.prog) (Value.int .u8) 0 54 5 .i64 Try.underlying54 hi073 hsz73 (some ad103) c0 l0 8 (by omega) (of_decide_eq_true (by first | (with_reducible assumption) | assumption)) HC0.out
               have d73_ : A73 = A69 := MR.cut_same (hcut73 w) (hcut69 w)
               rw [d73_] at hA73
               clear hcut73 d73_
               have HR126 := Aside0.mk (Kd.C_of_reads (h1 := fun _ => rfl) (hA73 _ (Kd.reads_of_C HR0.out)))
               have HC126 := Aside0.mk hC73
               clear hA73 hC73 hi073 hsz73
               refine hK.out _ _ trivial (fun hHeld => ?_)
               clear hK K
               refine norm_ (a' := ?_) ?_ ?_
               rotate_left
               ·show Act.put _ (some 28) _ = _
                simp only [Act.put, List.setIfInBounds_toArray, List.set_cons_zero, List.set_cons_succ, i64_w, i32_w]
                rfl
               refine pure_ (i := 5) (N := some 29) (v := ?_) (a' := ?_) #[true,true,true,true,true,true,false,false,false,false,false,false,false,false,false,false,false,false,false,false,false,false,false,false,false,false,false] rfl rfl (any_of HT_.out (by kernel_rfl)) (fun _ _ _ h => h) (Or.inl ⟨by rfl, ?_⟩) ?_ ?_
               rotate_left
               ·intro w'
                go_simp
                with_reducible rfl
               rotate_left
               ·simp only [Act.put, List.setIfInBounds_toArray, List.set_cons_zero, List.set_cons_succ, i64_w, i32_w]
                rfl
               refine pure_ (i := 6) (N := some 30) (v := ?_) (a' := ?_) #[true,true,true,true,true,true,true,false,false,false,false,false,false,false,false,false,false,false,false,false,false,false,false,false,false,false,false] rfl rfl (any_of HT_.out (by kernel_rfl)) (fun _ _ _ h => h) (Or.inl ⟨by rfl, ?_⟩) ?_ ?_
               rotate_left
               ·intro w'
                go_simp
                with_reducible rfl
               rotate_left
               ·simp only [Act.put, List.setIfInBounds_toArray, List.set_cons_zero, List.set_cons_succ, i64_w, i32_w]
                rfl
               refine pure_ (i := 7) (N := some 31) (v := ?_) (a' := ?_) #[true,true,true,true,true,true,true,true,false,false,false,false,false,false,false,false,false,false,false,false,false,false,false,false,false,false,false] rfl rfl (any_of HT_.out (by kernel_rfl)) (fun _ _ _ h => h) (Or.inl ⟨by rfl, ?_⟩) ?_ ?_
               rotate_left
               ·intro w'
                go_simp
                with_reducible rfl
               rotate_left
               ·simp only [Act.put, List.setIfInBounds_toArray, List.set_cons_zero, List.set_cons_succ, i64_w, i32_w]
                rfl
               refine one_ (i := 8) (N := some 32) #[true,true,true,true,true,true,true,true,true,false,false,false,false,false,false,false,false,false,false,false,false,false,false,false,false,false,false] rfl rfl (one_of HT_.out (by kernel_rfl)) (by decide) (fun K hK => ?_)
               refine goes_ Try.func84 (by kernel_rfl) rfl #[] (by rfl) rfl rfl (by (try simp only [List.map_toArray, List.map_cons, List.map_nil]); first | done | rfl | (simp only [List.length_drop, List.length_take]; rfl)) ?_
               with_reducible refine (hertzstr_StrContentLength.calls  t127 _ A33.out).mono ?_
               rintro e w74 ⟨v128, rfl, ho0, hb⟩
               refine ⟨_, rfl, ?_⟩
               have n0_ := Aside0.mk (MR.R_elder' (by (with_reducible repeat (first | apply MR.R_alloc | apply MR.R_drewN | apply MR.R_drew)); exact HO120.out) (MR.R_base ho0) hb)
               have n1_ := Aside0.mk (MR.R_lower (MR.R_new' ho0 (MR.R_lt (by (with_reducible repeat (first | apply MR.R_alloc | apply MR.R_drewN | apply MR.R_drew)); exact HO120.out))) (below_size (by repeat (first | (with_reducible first | exact HB.out | apply below_alloc | apply pw_below_drewN | apply below_drew1) | exact HB.out))))
               have n2_ := Aside0.mk (Kd.C_below (by repeat (first | (with_reducible exact HR124.out) | (with_reducible refine Kd.C_alloc ?_ _) | (with_reducible refine Kd.C_drewN ?_ _) | (with_reducible refine Kd.C_drew ?_) | exact HR124.out)) hb)
               have n3_ := Aside0.mk (below_step (by repeat (first | (with_reducible first | exact HB.out | apply below_alloc | apply pw_below_drewN | apply below_drew1) | exact HB.out)) hb)
               clear HO120
               clear HR124
               clear HB
               have HO120 := n0_
               have HO129 := n1_
               have HR124 := n2_
               have HB := n3_
               clear n0_ n1_ n2_ n3_
               (try clear hb)
               (try clear hb2)
               (try clear hk)
               (try clear hi)
               (try clear ho0)
               obtain ⟨Ao76, co76, eo76⟩ := MR.R_slice HO129.out
               (first | subst eo76 | (injection eo76 with f1_ f2_ f3_; have f4_ := f1_.symm; have f5_ := f3_.symm; clear f1_ f2_ f3_; subst f4_; subst f5_))
               have q75 : (8 : Int) ≤ ((t127.length : Int) : Int) := of_decide_eq_true (by first | (with_reducible assumption) | assumption)
               obtain ⟨i075, hi075, _, hsz75, _⟩ := info_parts info5
               have hroom75 : t127.length ≤ co76 := (MR.R_reads' HO129.out).2.1
               have hC75 : Kd.C (Kd.int .u8) _ Ao76 t127.length t127 := (MR.R_reads' HO129.out).2.2
               have hcut75 := cut_from (P := Try.prog) 54 5 .i64 Try.underlying54 hi075 1 hsz75 Ao76 t127.length co76 8 (by omega) q75
               have hr75 := Kd.C_drop (m := (8 : Int).toNat) (c := co76) hC75 (by omega) hroom75
               obtain ⟨A75, hA75⟩ : ∃ A1, A1 = (if co76 = (8 : Int).toNat then Ao76 else (Ao76 : Option Addr).map (·.add ((8 : Int).toNat * 1))) := ⟨_, rfl⟩
               obtain ⟨c75, hc75⟩ : ∃ c1, c1 = co76 - (8 : Int).toNat := ⟨_, rfl⟩
               have hy75 : y130.length = t127.length - (8 : Int).toNat := (by rw [Ny130.out, List.length_drop] <;> omega)
               rw [show (t127).drop (8 : Int).toNat = y130 from Ny130.out.symm] at hr75
               replace hr75 : Kd.C (Kd.int .u8) _ A75 y130.length y130 := (by rw [hA75]; exact hr75)
               rw [← hy75, ← hA75, ← hc75] at hcut75
               have HR133 := Aside0.mk hr75
               have HC133 := Aside0.mk (show y130.length ≤ c75 from by rw [hy75, hc75]; exact Nat.sub_le_sub_right hroom75 _)
               clear hr75 hC75 hroom75 hi075 hsz75 hc75
               have KY75 := Aside0.mk hy75
               have KA75 := Aside0.mk hA75
               clear hy75 hA75
               have KL75 := Aside0.mk (show 8 ≤ t127.length from by omega)
               replace q75 := eq_true q75
               refine hK.out _ _ trivial (fun hHeld => ?_)
               clear hK K
               refine norm_ (a' := ?_) ?_ ?_
               rotate_left
               ·show Act.put _ (some 32) _ = _
                simp only [Act.put, List.setIfInBounds_toArray, List.set_cons_zero, List.set_cons_succ, i64_w, i32_w]
                rfl
               refine pure_ (i := 9) (N := some 33) (v := ?_) (a' := ?_) #[true,true,true,true,true,true,true,true,true,true,false,false,false,false,false,false,false,false,false,false,false,false,false,false,false,false,false] rfl rfl (any_of HT_.out (by kernel_rfl)) (fun _ _ _ h => h) (Or.inl ⟨by rfl, ?_⟩) ?_ ?_
               rotate_left
               ·intro w'
                go_simp
                with_reducible rfl
               rotate_left
               ·simp only [Act.put, List.setIfInBounds_toArray, List.set_cons_zero, List.set_cons_succ, i64_w, i32_w]
                rfl
               refine one_ (i := 10) (N := some 34) #[true,true,true,true,true,true,true,true,true,true,true,false,false,false,false,false,false,false,false,false,false,false,false,false,false,false,false] rfl rfl (one_of HT_.out (by kernel_rfl)) (by decide) (fun K hK => ?_)
               refine goes_ Try.func80 (by kernel_rfl) rfl #[.slice A69 (l0.drop 8).length (c0 - 8), .slice A75 y130.length c75] (by rfl) rfl rfl (by (try simp only [List.map_toArray, List.map_cons, List.map_nil]); first | done | (rw [show (l0.drop 8).length = (l0.length - 8) from List.length_drop] <;> rfl) | rfl | (simp only [List.length_drop, List.length_take]; rfl)) ?_
               with_reducible refine (hertzutils_CaseInsensitiveCompare.calls kj8 _ _ (l0.drop 8) _ _ y130 false _ ?side1 ?side2 ?side3 ?side4 A35.out).mono ?_
               (case side1 => repeat (first | exact (Kd.C_below HR126.out HB.out) | (with_reducible refine Kd.C_alloc ?_ _) | (with_reducible refine Kd.C_drewN ?_ _) | (with_reducible refine Kd.C_drew ?_)))
               (case side2 => exact HC126.out)
               (case side3 => repeat (first | exact (by repeat (first | (with_reducible exact HR133.out) | (with_reducible refine Kd.C_alloc ?_ _) | (with_reducible refine Kd.C_drewN ?_ _) | (with_reducible refine Kd.C_drew ?_) | exact HR133.out)) | (with_reducible refine Kd.C_alloc ?_ _) | (with_reducible refine Kd.C_drewN ?_ _) | (with_reducible refine Kd.C_drew ?_)))
               (case side4 => exact HC133.out)
               rintro e w' ⟨rfl, ⟨nd, rfl⟩⟩
               refine ⟨_, rfl, ?_⟩
               obtain ⟨i077, hi077, _, hsz77, _⟩ := info_parts info5
               obtain ⟨A77, hcut77, hA77, hC77⟩ := print_drop_of (P := Try.prog) (Value.int .u8) 0 54 5 .i64 Try.underlying54 hi077 hsz77 (some ad103) c0 l0 8 (by omega) (of_decide_eq_true (by first | (with_reducible assumption) | assumption)) HC0.out
               have d77_ : A77 = A69 := MR.cut_same (hcut77 w) (hcut69 w)
               rw [d77_] at hA77
               clear hcut77 d77_
               have HR135 := Aside0.mk (Kd.C_of_reads (h1 := fun _ => rfl) (hA77 _ (Kd.reads_of_C HR0.out)))
               have HC135 := Aside0.mk hC77
               clear hA77 hC77 hi077 hsz77
               refine hK.out _ _ trivial (fun hHeld => ?_)
               clear hK K
               refine norm_ (a' := ?_) ?_ ?_
               rotate_left
               ·show Act.put _ (some 34) _ = _
                simp only [Act.put, List.setIfInBounds_toArray, List.set_cons_zero, List.set_cons_succ, i64_w, i32_w]
                rfl
               refine pure_ (i := 11) (N := some 35) (v := ?_) (a' := ?_) #[true,true,true,true,true,true,true,true,true,true,true,true,false,false,false,false,false,false,false,false,false,false,false,false,false,false,false] rfl rfl (any_of HT_.out (by kernel_rfl)) (fun _ _ _ h => h) (Or.inl ⟨by rfl, ?_⟩) ?_ ?_
               rotate_left
               ·intro w'
                go_simp
                with_reducible rfl
               rotate_left
               ·simp only [Act.put, List.setIfInBounds_toArray, List.set_cons_zero, List.set_cons_succ, i64_w, i32_w]
                rfl
               refine pure_ (i := 12) (N := some 36) (v := ?_) (a' := ?_) #[true,true,true,true,true,true,true,true,true,true,true,true,true,false,false,false,false,false,false,false,false,false,false,false,false,false,false] rfl rfl (any_of HT_.out (by kernel_rfl)) (fun _ _ _ h => h) (Or.inl ⟨by rfl, ?_⟩) ?_ ?_
               rotate_left
               ·intro w'
                go_simp
                with_reducible rfl
               rotate_left
               ·simp only [Act.put, List.setIfInBounds_toArray, List.set_cons_zero, List.set_cons_succ, i64_w, i32_w]
                rfl
               refine pure_ (i := 13) (N := some 37) (v := ?_) (a' := ?_) #[true,true,true,true,true,true,true,true,true,true,true,true,true,true,false,false,false,false,false,false,false,false,false,false,false,false,false] rfl rfl (any_of HT_.out (by kernel_rfl)) (fun _ _ _ h => h) (Or.inl ⟨by rfl, ?_⟩) ?_ ?_
               rotate_left
               ·intro w'
                go_simp
                with_reducible rfl
               rotate_left
               ·simp only [Act.put, List.setIfInBounds_toArray, List.set_cons_zero, List.set_cons_succ, i64_w, i32_w]
                rfl
               refine pure_ (i := 14) (N := some 38) (v := ?_) (a' := ?_) #[true,true,true,true,true,true,true,true,true,true,true,true,true,true,true,false,false,false,false,false,false,false,false,false,false,false,false] rfl rfl (any_of HT_.out (by kernel_rfl)) (fun _ _ _ h => h) (Or.inl ⟨by rfl, ?_⟩) ?_ ?_
               rotate_left
               ·intro w'
                go_simp
                with_reducible rfl
               rotate_left
               ·simp only [Act.put, List.setIfInBounds_toArray, List.set_cons_zero, List.set_cons_succ, i64_w, i32_w]
                rfl
               refine one_ (i := 15) (N := some 39) #[true,true,true,true,true,true,true,true,true,true,true,true,true,true,true,true,false,false,false,false,false,false,false,false,false,false,false] rfl rfl (one_of HT_.out (by kernel_rfl)) (by decide) (fun K hK => ?_)
               refine goes_ Try.func82 (by kernel_rfl) rfl #[] (by rfl) rfl rfl (by (try simp only [List.map_toArray, List.map_cons, List.map_nil]); first | done | rfl | (simp only [List.length_drop, List.length_take]; rfl)) ?_
               with_reducible refine (hertzstr_StrContentType.calls  t136 _ A47.out).mono ?_
               rintro e w78 ⟨v137, rfl, ho0, hb⟩
               refine ⟨_, rfl, ?_⟩
               have n0_ := Aside0.mk (MR.R_elder' (by (with_reducible repeat (first | apply MR.R_alloc | apply MR.R_drewN | apply MR.R_drew)); exact HO120.out) (MR.R_base ho0) hb)
               have n1_ := Aside0.mk (MR.R_elder' (by (with_reducible repeat (first | apply MR.R_alloc | apply MR.R_drewN | apply MR.R_drew)); exact HO129.out) (MR.R_base ho0) hb)
               have n2_ := Aside0.mk (MR.R_lower (MR.R_new' (MR.R_new' ho0 (MR.R_lt (by (with_reducible repeat (first | apply MR.R_alloc | apply MR.R_drewN | apply MR.R_drew)); exact HO120.out))) (MR.R_lt (by (with_reducible repeat (first | apply MR.R_alloc | apply MR.R_drewN | apply MR.R_drew)); exact HO129.out))) (below_size (by repeat (first | (with_reducible first | exact HB.out | apply below_alloc | apply pw_below_drewN | apply below_drew1) | exact HB.out))))
               have n3_ := Aside0.mk (Kd.C_below (by repeat (first | (with_reducible exact HR124.out) | (with_reducible refine Kd.C_alloc ?_ _) | (with_reducible refine Kd.C_drewN ?_ _) | (with_reducible refine Kd.C_drew ?_) | exact HR124.out)) hb)
               have n4_ := Aside0.mk (Kd.C_below (by repeat (first | (with_reducible exact HR133.out) | (with_reducible refine Kd.C_alloc ?_ _) | (with_reducible refine Kd.C_drewN ?_ _) | (with_reducible refine Kd.C_drew ?_) | exact HR133.out)) hb)
               have n5_ := Aside0.mk (below_step (by repeat (first | (with_reducible first | exact HB.out | apply below_alloc | apply pw_below_drewN | apply below_drew1) | exact HB.out)) hb)
               clear HO120
               clear HO129
               clear HR124
               clear HR133
               clear HB
               have HO120 := n0_
               have HO129 := n1_
               have HO138 := n2_
               have HR124 := n3_
               have HR133 := n4_
               have HB := n5_
               clear n0_ n1_ n2_ n3_ n4_ n5_
               (try clear hb)
               (try clear hb2)
               (try clear hk)
               (try clear hi)
               (try clear ho0)
               obtain ⟨Ao80, co80, eo80⟩ := MR.R_slice HO138.out
               (first | subst eo80 | (injection eo80 with f1_ f2_ f3_; have f4_ := f1_.symm; have f5_ := f3_.symm; clear f1_ f2_ f3_; subst f4_; subst f5_))
               have q79 : (8 : Int) ≤ ((t136.length : Int) : Int) := of_decide_eq_true (by first | (with_reducible assumption) | assumption)
               obtain ⟨i079, hi079, _, hsz79, _⟩ := info_parts info5
               have hroom79 : t136.length ≤ co80 := (MR.R_reads' HO138.out).2.1
               have hC79 : Kd.C (Kd.int .u8) _ Ao80 t136.length t136 := (MR.R_reads' HO138.out).2.2
               have hcut79 := cut_from (P := Try.prog) 54 5 .i64 Try.underlying54 hi079 1 hsz79 Ao80 t136.length co80 8 (by omega) q79
               have hr79 := Kd.C_drop (m := (8 : Int).toNat) (c := co80) hC79 (by omega) hroom79
               obtain ⟨A79, hA79⟩ : ∃ A1, A1 = (if co80 = (8 : Int).toNat then Ao80 else (Ao80 : Option Addr).map (·.add ((8 : Int).toNat * 1))) := ⟨_, rfl⟩
               obtain ⟨c79, hc79⟩ : ∃ c1, c1 = co80 - (8 : Int).toNat := ⟨_, rfl⟩
               have hy79 : y139.length = t136.length - (8 : Int).toNat := (by rw [Ny139.out, List.length_drop] <;> omega)
               rw [show (t136).drop (8 : Int).toNat = y139 from Ny139.out.symm] at hr79
               replace hr79 : Kd.C (Kd.int .u8) _ A79 y139.length y139 := (by rw [hA79]; exact hr79)
               rw [← hy79, ← hA79, ← hc79] at hcut79
               have HR142 := Aside0.mk hr79
               have HC142 := Aside0.mk (show y139.length ≤ c79 from by rw [hy79, hc79]; exact Nat.sub_le_sub_right hroom79 _)
               clear hr79 hC79 hroom79 hi079 hsz79 hc79
               have KY79 := Aside0.mk hy79
               have KA79 := Aside0.mk hA79
               clear hy79 hA79
               have KL79 := Aside0.mk (show 8 ≤ t136.length from by omega)
               replace q79 := eq_true q79
               refine hK.out _ _ trivial (fun hHeld => ?_)
               clear hK K
               refine norm_ (a' := ?_) ?_ ?_
               rotate_left
               ·show Act.put _ (some 39) _ = _
                simp only [Act.put, List.setIfInBounds_toArray, List.set_cons_zero, List.set_cons_succ, i64_w, i32_w]
                rfl
               refine pure_ (i := 16) (N := some 40) (v := ?_) (a' := ?_) #[true,true,true,true,true,true,true,true,true,true,true,true,true,true,true,true,true,false,false,false,false,false,false,false,false,false,false] rfl rfl (any_of HT_.out (by kernel_rfl)) (fun _ _ _ h => h) (Or.inl ⟨by rfl, ?_⟩) ?_ ?_
               rotate_left
               ·intro w'
                go_simp
                with_reducible rfl
               rotate_left
               ·simp only [Act.put, List.setIfInBounds_toArray, List.set_cons_zero, List.set_cons_succ, i64_w, i32_w]
                rfl
               refine one_ (i := 17) (N := some 41) #[true,true,true,true,true,true,true,true,true,true,true,true,true,true,true,true,true,true,false,false,false,false,false,false,false,false,false] rfl rfl (one_of HT_.out (by kernel_rfl)) (by decide) (fun K hK => ?_)
               refine goes_ Try.func80 (by kernel_rfl) rfl #[.slice A69 (l0.drop 8).length (c0 - 8), .slice A79 y139.length c79] (by rfl) rfl rfl (by (try simp only [List.map_toArray, List.map_cons, List.map_nil]); first | done | (rw [show (l0.drop 8).length = (l0.length - 8) from List.length_drop] <;> rfl) | rfl | (simp only [List.length_drop, List.length_take]; rfl)) ?_
               with_reducible refine (hertzutils_CaseInsensitiveCompare.calls kj8 _ _ (l0.drop 8) _ _ y139 false _ ?side1 ?side2 ?side3 ?side4 A49.out).mono ?_
               (case side1 => repeat (first | exact (Kd.C_below HR135.out HB.out) | (with_reducible refine Kd.C_alloc ?_ _) | (with_reducible refine Kd.C_drewN ?_ _) | (with_reducible refine Kd.C_drew ?_)))
               (case side2 => exact HC135.out)
               (case side3 => repeat (first | exact (by repeat (first | (with_reducible exact HR142.out) | (with_reducible refine Kd.C_alloc ?_ _) | (with_reducible refine Kd.C_drewN ?_ _) | (with_reducible refine Kd.C_drew ?_) | exact HR142.out)) | (with_reducible refine Kd.C_alloc ?_ _) | (with_reducible refine Kd.C_drewN ?_ _) | (with_reducible refine Kd.C_drew ?_)))
               (case side4 => exact HC142.out)
               rintro e w' ⟨rfl, ⟨nd, rfl⟩⟩
               refine ⟨_, rfl, ?_⟩
               obtain ⟨i081, hi081, _, hsz81, _⟩ := info_parts info5
               obtain ⟨A81, hcut81, hA81, hC81⟩ := print_drop_of (P := Try.prog) (Value.int .u8) 0 54 5 .i64 Try.underlying54 hi081 hsz81 (some ad103) c0 l0 8 (by omega) (of_decide_eq_true (by first | (with_reducible assumption) | assumption)) HC0.out
               have d81_ : A81 = A69 := MR.cut_same (hcut81 w) (hcut69 w)
               rw [d81_] at hA81
               clear hcut81 d81_
               have HR144 := Aside0.mk (Kd.C_of_reads (h1 := fun _ => rfl) (hA81 _ (Kd.reads_of_C HR0.out)))
               have HC144 := Aside0.mk hC81
               clear hA81 hC81 hi081 hsz81
               refine hK.out _ _ trivial (fun hHeld => ?_)
               clear hK K
               refine norm_ (a' := ?_) ?_ ?_
               rotate_left
               ·show Act.put _ (some 41) _ = _
                simp only [Act.put, List.setIfInBounds_toArray, List.set_cons_zero, List.set_cons_succ, i64_w, i32_w]
                rfl
               refine pure_ (i := 18) (N := some 42) (v := ?_) (a' := ?_) #[true,true,true,true,true,true,true,true,true,true,true,true,true,true,true,true,true,true,true,false,false,false,false,false,false,false,false] rfl rfl (any_of HT_.out (by kernel_rfl)) (fun _ _ _ h => h) (Or.inl ⟨by rfl, ?_⟩) ?_ ?_
               rotate_left
               ·intro w'
                go_simp
                with_reducible rfl
               rotate_left
               ·simp only [Act.put, List.setIfInBounds_toArray, List.set_cons_zero, List.set_cons_succ, i64_w, i32_w]
                rfl
               refine pure_ (i := 19) (N := some 43) (v := ?_) (a' := ?_) #[true,true,true,true,true,true,true,true,true,true,true,true,true,true,true,true,true,true,true,true,false,false,false,false,false,false,false] rfl rfl (any_of HT_.out (by kernel_rfl)) (fun _ _ _ h => h) (Or.inl ⟨by rfl, ?_⟩) ?_ ?_
               rotate_left
               ·intro w'
                go_simp
                with_reducible rfl
               rotate_left
               ·simp only [Act.put, List.setIfInBounds_toArray, List.set_cons_zero, List.set_cons_succ, i64_w, i32_w]
                rfl
               refine pure_ (i := 20) (N := some 44) (v := ?_) (a' := ?_) #[true,true,true,true,true,true,true,true,true,true,true,true,true,true,true,true,true,true,true,true,true,false,false,false,false,false,false] rfl rfl (any_of HT_.out (by kernel_rfl)) (fun _ _ _ h => h) (Or.inl ⟨by rfl, ?_⟩) ?_ ?_
               rotate_left
               ·intro w'
                go_simp
                with_reducible rfl
               rotate_left
               ·simp only [Act.put, List.setIfInBounds_toArray, List.set_cons_zero, List.set_cons_succ, i64_w, i32_w]
                rfl
               refine pure_ (i := 21) (N := some 45) (v := ?_) (a' := ?_) #[true,true,true,true,true,true,true,true,true,true,true,true,true,true,true,true,true,true,true,true,true,true,false,false,false,false,false] rfl rfl (any_of HT_.out (by kernel_rfl)) (fun _ _ _ h => h) (Or.inl ⟨by rfl, ?_⟩) ?_ ?_
               rotate_left
               ·intro w'
                go_simp
                with_reducible rfl
               rotate_left
               ·simp only [Act.put, List.setIfInBounds_toArray, List.set_cons_zero, List.set_cons_succ, i64_w, i32_w]
                rfl
               refine one_ (i := 22) (N := some 46) #[true,true,true,true,true,true,true,true,true,true,true,true,true,true,true,true,true,true,true,true,true,true,true,false,false,false,false] rfl rfl (one_of HT_.out (by kernel_rfl)) (by decide) (fun K hK => ?_)
               refine goes_ Try.func85 (by kernel_rfl) rfl #[] (by rfl) rfl rfl (by (try simp only [List.map_toArray, List.map_cons, List.map_nil]); first | done | rfl | (simp only [List.length_drop, List.length_take]; rfl)) ?_
               with_reducible refine (hertzstr_StrContentRange.calls  t145 _ A65.out).mono ?_
               rintro e w82 ⟨v146, rfl, ho0, hb⟩
               refine ⟨_, rfl, ?_⟩
               have n0_ := Aside0.mk (MR.R_elder' (by (with_reducible repeat (first | apply MR.R_alloc | apply MR.R_drewN | apply MR.R_drew)); exact HO120.out) (MR.R_base ho0) hb)
               have n1_ := Aside0.mk (MR.R_elder' (by (with_reducible repeat (first | apply MR.R_alloc | apply MR.R_drewN | apply MR.R_drew)); exact HO129.out) (MR.R_base ho0) hb)
               have n2_ := Aside0.mk (MR.R_elder' (by (with_reducible repeat (first | apply MR.R_alloc | apply MR.R_drewN | apply MR.R_drew)); exact HO138.out) (MR.R_base ho0) hb)
               have n3_ := Aside0.mk (MR.R_lower (MR.R_new' (MR.R_new' (MR.R_new' ho0 (MR.R_lt (by (with_reducible repeat (first | apply MR.R_alloc | apply MR.R_drewN | apply MR.R_drew)); exact HO120.out))) (MR.R_lt (by (with_reducible repeat (first | apply MR.R_alloc | apply MR.R_drewN | apply MR.R_drew)); exact HO129.out))) (MR.R_lt (by (with_reducible repeat (first | apply MR.R_alloc | apply MR.R_drewN | apply MR.R_drew)); exact HO138.out))) (below_size (by repeat (first | (with_reducible first | exact HB.out | apply below_alloc | apply pw_below_drewN | apply below_drew1) | exact HB.out))))
               have n4_ := Aside0.mk (Kd.C_below (by repeat (first | (with_reducible exact HR124.out) | (with_reducible refine Kd.C_alloc ?_ _) | (with_reducible refine Kd.C_drewN ?_ _) | (with_reducible refine Kd.C_drew ?_) | exact HR124.out)) hb)
               have n5_ := Aside0.mk (Kd.C_below (by repeat (first | (with_reducible exact HR133.out) | (with_reducible refine Kd.C_alloc ?_ _) | (with_reducible refine Kd.C_drewN ?_ _) | (with_reducible refine Kd.C_drew ?_) | exact HR133.out)) hb)
               have n6_ := Aside0.mk (Kd.C_below (by repeat (first | (with_reducible exact HR142.out) | (with_reducible refine Kd.C_alloc ?_ _) | (with_reducible refine Kd.C_drewN ?_ _) | (with_reducible refine Kd.C_drew ?_) | exact HR142.out)) hb)
               have n7_ := Aside0.mk (below_step (by repeat (first | (with_reducible first | exact HB.out | apply below_alloc | apply pw_below_drewN | apply below_drew1) | exact HB.out)) hb)
               clear HO120
               clear HO129
               clear HO138
               clear HR124
               clear HR133
               clear HR142
               clear HB
               have HO120 := n0_
               have HO129 := n1_
               have HO138 := n2_
               have HO147 := n3_
               have HR124 := n4_
               have HR133 := n5_
               have HR142 := n6_
               have HB := n7_
               clear n0_ n1_ n2_ n3_ n4_ n5_ n6_ n7_
               (try clear hb)
               (try clear hb2)
               (try clear hk)
               (try clear hi)
               (try clear ho0)
               obtain ⟨Ao84, co84, eo84⟩ := MR.R_slice HO147.out
               (first | subst eo84 | (injection eo84 with f1_ f2_ f3_; have f4_ := f1_.symm; have f5_ := f3_.symm; clear f1_ f2_ f3_; subst f4_; subst f5_))
               have q83 : (8 : Int) ≤ ((t145.length : Int) : Int) := of_decide_eq_true (by first | (with_reducible assumption) | assumption)
               obtain ⟨i083, hi083, _, hsz83, _⟩ := info_parts info5
               have hroom83 : t145.length ≤ co84 := (MR.R_reads' HO147.out).2.1
               have hC83 : Kd.C (Kd.int .u8) _ Ao84 t145.length t145 := (MR.R_reads' HO147.out).2.2
               have hcut83 := cut_from (P := Try.prog) 54 5 .i64 Try.underlying54 hi083 1 hsz83 Ao84 t145.length co84 8 (by omega) q83
               have hr83 := Kd.C_drop (m := (8 : Int).toNat) (c := co84) hC83 (by omega) hroom83
               obtain ⟨A83, hA83⟩ : ∃ A1, A1 = (if co84 = (8 : Int).toNat then Ao84 else (Ao84 : Option Addr).map (·.add ((8 : Int).toNat * 1))) := ⟨_, rfl⟩
               obtain ⟨c83, hc83⟩ : ∃ c1, c1 = co84 - (8 : Int).toNat := ⟨_, rfl⟩
               have hy83 : y148.length = t145.length - (8 : Int).toNat := (by rw [Ny148.out, List.length_drop] <;> omega)
               rw [show (t145).drop (8 : Int).toNat = y148 from Ny148.out.symm] at hr83
               replace hr83 : Kd.C (Kd.int .u8) _ A83 y148.length y148 := (by rw [hA83]; exact hr83)
               rw [← hy83, ← hA83, ← hc83] at hcut83
               have HR151 := Aside0.mk hr83
               have HC151 := Aside0.mk (show y148.length ≤ c83 from by rw [hy83, hc83]; exact Nat.sub_le_sub_right hroom83 _)
               clear hr83 hC83 hroom83 hi083 hsz83 hc83
               have KY83 := Aside0.mk hy83
               have KA83 := Aside0.mk hA83
               clear hy83 hA83
               have KL83 := Aside0.mk (show 8 ≤ t145.length from by omega)
               replace q83 := eq_true q83
               refine hK.out _ _ trivial (fun hHeld => ?_)
               clear hK K
               refine norm_ (a' := ?_) ?_ ?_
               rotate_left
               ·show Act.put _ (some 46) _ = _
                simp only [Act.put, List.setIfInBounds_toArray, List.set_cons_zero, List.set_cons_succ, i64_w, i32_w]
                rfl
               refine pure_ (i := 23) (N := some 47) (v := ?_) (a' := ?_) #[true,true,true,true,true,true,true,true,true,true,true,true,true,true,true,true,true,true,true,true,true,true,true,true,false,false,false] rfl rfl (any_of HT_.out (by kernel_rfl)) (fun _ _ _ h => h) (Or.inl ⟨by rfl, ?_⟩) ?_ ?_
               rotate_left
               ·intro w'
                go_simp
                with_reducible rfl
               rotate_left
               ·simp only [Act.put, List.setIfInBounds_toArray, List.set_cons_zero, List.set_cons_succ, i64_w, i32_w]
                rfl
               refine one_ (i := 24) (N := some 48) #[true,true,true,true,true,true,true,true,true,true,true,true,true,true,true,true,true,true,true,true,true,true,true,true,true,false,false] rfl rfl (one_of HT_.out (by kernel_rfl)) (by decide) (fun K hK => ?_)
               refine goes_ Try.func80 (by kernel_rfl) rfl #[.slice A69 (l0.drop 8).length (c0 - 8), .slice A83 y148.length c83] (by rfl) rfl rfl (by (try simp only [List.map_toArray, List.map_cons, List.map_nil]); first | done | (rw [show (l0.drop 8).length = (l0.length - 8) from List.length_drop] <;> rfl) | rfl | (simp only [List.length_drop, List.length_take]; rfl)) ?_
               with_reducible refine (hertzutils_CaseInsensitiveCompare.calls kj8 _ _ (l0.drop 8) _ _ y148 t152 _ ?side1 ?side2 ?side3 ?side4 A67.out).mono ?_
               (case side1 => repeat (first | exact (Kd.C_below HR144.out HB.out) | (with_reducible refine Kd.C_alloc ?_ _) | (with_reducible refine Kd.C_drewN ?_ _) | (with_reducible refine Kd.C_drew ?_)))
               (case side2 => exact HC144.out)
               (case side3 => repeat (first | exact (by repeat (first | (with_reducible exact HR151.out) | (with_reducible refine Kd.C_alloc ?_ _) | (with_reducible refine Kd.C_drewN ?_ _) | (with_reducible refine Kd.C_drew ?_) | exact HR151.out)) | (with_reducible refine Kd.C_alloc ?_ _) | (with_reducible refine Kd.C_drewN ?_ _) | (with_reducible refine Kd.C_drew ?_)))
               (case side4 => exact HC151.out)
               rintro e w' ⟨rfl, ⟨nd, rfl⟩⟩
               refine ⟨_, rfl, ?_⟩
               refine hK.out _ _ trivial (fun hHeld => ?_)
               clear hK K
               refine norm_ (a' := ?_) ?_ ?_
               rotate_left
               ·show Act.put _ (some 48) _ = _
                simp only [Act.put, List.setIfInBounds_toArray, List.set_cons_zero, List.set_cons_succ, i64_w, i32_w]
                rfl
               refine pure_ (i := 25) (N := some 49) (v := ?_) (a' := ?_) #[true,true,true,true,true,true,true,true,true,true,true,true,true,true,true,true,true,true,true,true,true,true,true,true,true,true,false] rfl rfl (any_of HT_.out (by kernel_rfl)) (fun _ _ _ h => h) (Or.inl ⟨by rfl, ?_⟩) ?_ ?_
               rotate_left
               ·intro w'
                go_simp
                with_reducible rfl
               rotate_left
               ·simp only [Act.put, List.setIfInBounds_toArray, List.set_cons_zero, List.set_cons_succ, i64_w, i32_w]
                rfl
               refine pure_ (i := 26) (N := some 2) (v := ?_) (a' := ?_) #[true,true,true,true,true,true,true,true,true,true,true,true,true,true,true,true,true,true,true,true,true,true,true,true,true,true,true] rfl rfl (any_of HT_.out (by kernel_rfl)) (fun _ _ _ h => h) (Or.inl ⟨by rfl, ?_⟩) ?_ ?_
               rotate_left
               ·intro w'
                go_simp
                with_reducible rfl
               rotate_left
               ·simp only [Act.put, List.setIfInBounds_toArray, List.set_cons_zero, List.set_cons_succ, i64_w, i32_w]
                rfl
               refine done_ (done_of HT_.out (by kernel_rfl)) ?_
               try go_wp2
               go_ret
               exact ⟨by first | rfl | (simp [errW_none, errW_some] <;> rfl) | (simp [*, errW_none, errW_some] <;> rfl), by repeat (first | (with_reducible first | exact HB.out | apply below_alloc | apply pw_below_drewN | apply below_drew1) | exact HB.out)⟩
              ·rw [if_neg c66] at H
               exact absurd H (by simp)
            ·rw [if_neg c48] at H
             exact absurd H (by simp)
          ·rw [if_neg c34] at H
           exact absurd H (by simp)
        ·rw [if_neg c24] at H
         exact absurd H (by simp)
       ·rw [if_neg c22] at H
        exact absurd H (by simp)
      ·replace c21 := Bool.eq_false_iff.mpr c21
       subst c21
       have H1 : ((hertzstr_StrConnection.f).bind fun t153 => ((hertzutils_CaseInsensitiveCompare.f kj8 l0 t153).bind fun t156 => (some t156))) = some r := by rw [if_neg (show ¬ (false = true) by decide)] at H; exact H
       clear H
       have H := H1
       clear H1
       replace H := Option.bind_eq_some_iff.mp H
       obtain ⟨t153, A850, H⟩ := H
       replace H : ((hertzutils_CaseInsensitiveCompare.f kj8 l0 t153).bind fun t156 => (some t156)) = some r := H
       have A85 := Aside0.mk A850
       clear A850
       replace H := Option.bind_eq_some_iff.mp H
       obtain ⟨t156, A860, H⟩ := H
       replace H : (some t156) = some r := H
       have A86 := Aside0.mk A860
       clear A860
       obtain rfl := Option.some.inj H
       go_wp2_with (first | ((with_reducible refine gate_callee (f := 86) rfl ?_); refine goesL_ (some 51) rfl rfl Try.func86 (by kernel_rfl) rfl #[] rfl (by (try simp only [List.map_toArray, List.map_cons, List.map_nil]); first | done | rfl | (simp only [List.length_drop, List.length_take]; rfl)) ?_; (with_reducible refine (hertzstr_StrConnection.calls  t153 _ A85.out).mono ?_); rintro e w87 ⟨v154, rfl, ho0, hb⟩; refine ⟨_, rfl, ?_⟩; have n0_ := Aside0.mk (MR.R_lower ho0 (below_size (by repeat (first | (with_reducible first | exact HB.out | apply below_alloc | apply pw_below_drewN | apply below_drew1) | exact HB.out)))); have n1_ := Aside0.mk (below_step (by repeat (first | (with_reducible first | exact HB.out | apply below_alloc | apply pw_below_drewN | apply below_drew1) | exact HB.out)) hb); clear HB; have HO155 := n0_; have HB := n1_; clear n0_ n1_; (try clear hb); (try clear hb2); (try clear hk); (try clear hi); (try clear ho0); obtain ⟨Ao88, co88, eo88⟩ := MR.R_slice HO155.out; subst eo88) | ((with_reducible refine gate_callee (f := 80) rfl ?_); refine goesL_ (some 52) rfl rfl Try.func80 (by kernel_rfl) rfl #[.slice (some ad103) l0.length c0, .slice Ao88 t153.length co88] rfl (by (try simp only [List.map_toArray, List.map_cons, List.map_nil]); first | done | rfl | (simp only [List.length_drop, List.length_take]; rfl)) ?_; (with_reducible refine (hertzutils_CaseInsensitiveCompare.calls kj8 _ _ l0 _ _ t153 t156 _ ?side1 ?side2 ?side3 ?side4 A86.out).mono ?_); (case side1 => repeat (first | exact (Kd.C_below HR0.out HB.out) | (with_reducible refine Kd.C_alloc ?_ _) | (with_reducible refine Kd.C_drewN ?_ _) | (with_reducible refine Kd.C_drew ?_))); (case side2 => exact HC0.out); (case side3 => repeat (first | exact (MR.R_reads' HO155.out).2.2 | (with_reducible refine Kd.C_alloc ?_ _) | (with_reducible refine Kd.C_drewN ?_ _) | (with_reducible refine Kd.C_drew ?_))); (case side4 => exact (MR.R_reads' HO155.out).2.1); rintro e w' ⟨rfl, ⟨nd, rfl⟩⟩; refine ⟨_, rfl, ?_⟩))
       go_ret
       exact ⟨by first | rfl | (simp [errW_none, errW_some] <;> rfl) | (simp [*, errW_none, errW_some] <;> rfl), by repeat (first | (with_reducible first | exact HB.out | apply below_alloc | apply pw_below_drewN | apply below_drew1) | exact HB.out)⟩
   ·exact absurd HCASE_.out c8
 ·rw [if_neg c2] at H
  exact absurd H (by simp)
end Go.Proofs.Ytoimkmoalmmooaa.QA
