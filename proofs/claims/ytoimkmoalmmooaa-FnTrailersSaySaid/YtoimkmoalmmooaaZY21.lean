/- Texts of this claim, one behind the other (merged by wip/prune.py of this repo, without what the proof does not use): SayW. -/
import Derived.Test.YtoimkmoalmmooaaZY4
import Derived.Test.YtoimkmoalmmooaaZY5
import Derived.Test.YtoimkmoalmmooaaZY20
set_option linter.unusedVariables false
set_option linter.unusedSimpArgs false
namespace Go.Proofs.Ytoimkmoalmmooaa.Pure
open Go.RowKit Go.Proofs.YtoimkmoalmmooaaW.PrintWords Go.Proofs.YtoimkmoalmmooaaW.PrintLast Go.Proofs.YtoimkmoalmmooaaW.PrintMore Go.Proofs.Ytoimkmoalmmooaa.Base Go.Proofs.Ytoimkmoalmmooaa.Gv Go.Proofs.Ytoimkmoalmmooaa.Given Go.Proofs.Ytoimkmoalmmooaa.QA Go.Proofs.Ytoimkmoalmmooaa.Own
theorem zz3s_calls (w : World) (A0 : Option Addr) (c0 : Nat) (xs : List Step) (hr0 : Kd.C k28 w A0 xs.length xs) (hc0 : xs.length ≤ c0) (b : Bool) (hb : fits3 xs = b) :
    Calls Try.prog 18 #[.slice A0 xs.length c0] w fun e w' => e = .returned (.bool b) ∧ Below w.heap.size w w' := by
  obtain ⟨k, hk⟩ := fits3_ends xs
  rw [hb] at hk
  exact laws_zzFits3.calls k A0 c0 xs b w hr0 hc0 (hk k (Nat.le_refl _))
theorem script_C (w : World) (A0 : Option Addr) (c0 : Nat) (ys : List Step) (h : Kd.C k28 w A0 ys.length ys) (hc : ys.length ≤ c0) {L : List Ans} {T : ByteArray} {M : Nat} (x : impl_TrailerScript.f ys = some (L, T, true)) (hM : L.length = M) :
    Calls Try.prog 9 #[.slice A0 ys.length c0] w fun e w' => ∃ A c, e = .returned (.tuple #[.slice A M c, .string T, .bool true]) ∧ Kd.C k32 w' A M L ∧ Below w.heap.size w w' := by
  subst hM
  refine (impl_TrailerScript.calls A0 c0 ys L T true w h hc x).mono ?_
  rintro e w' ⟨v, rfl, hS, hb⟩
  obtain ⟨A2, c2, rfl, _, hC2⟩ := Kd.S_reads hS
  exact ⟨A2, c2, rfl, hC2, hb⟩
theorem stepsOf_at (w : World) (A0 : Option Addr) (c0 : Nat) (xs : List Step) (hr : Kd.C k28 w A0 xs.length xs) (hc : xs.length ≤ c0) (hN : xs.length ≤ 1000) :
    Calls Try.prog 24 #[.slice A0 xs.length c0] w fun e w' => ∃ A c, e = .returned (.slice A xs.length c) ∧ Kd.C k66 w' A xs.length (xs.map toSt) ∧ Below w.heap.size w w' := by
  obtain ⟨k, hk⟩ := stepsOf_ends xs (by omega)
  refine (laws_stepsOf.calls k A0 c0 xs _ w hr hc (hk k (Nat.le_refl _))).mono ?_
  rintro e w' ⟨v, rfl, hR, hb⟩
  obtain ⟨A2, c2, rfl, _, hC2⟩ := Kd.R_reads hR
  rw [List.length_map] at hC2 ⊢
  exact ⟨A2, c2, rfl, hC2, hb⟩
theorem specT_at (w : World) (A : Option Addr) (c : Nat) (xs : List Step) (hr : Kd.C k66 w A xs.length (xs.map toSt)) (hN : xs.length ≤ 1000) (hz : ∀ x ∈ xs, x.f1.size ≤ 1000000 ∧ x.f2.size ≤ 1000000) (R : Option (List SAn)) (hR : specRun [] [] (xs.map toSt) = R) :
    Calls Try.prog 23 #[.slice A xs.length c] w fun e w' => SpecT w R e w' := by
  have h := specT_calls w A c (xs.map toSt) (by rw [List.length_map]; exact hr) (by rw [List.length_map]; exact hN) (fun x hx => by
    obtain ⟨y, hy, rfl⟩ := List.mem_map.1 hx
    exact hz y hy) R hR
  rw [List.length_map] at h
  exact h
set_option maxHeartbeats 2000000 in
set_option maxRecDepth 100000 in
theorem say_all (w : World) (A0 : Option Addr) (c0 : Nat) (xs : List Step) (hr0 : Kd.C k28 w A0 xs.length xs) (hc0 : xs.length ≤ c0) :
    Calls Try.prog 7 #[.slice A0 xs.length c0] w fun e w' => e = .returned (.bool true) ∧ Below w.heap.size w w' := by
  cases hb : fits3 xs with
  | false =>
    have HZ := Lib.hid (zz3s_calls w A0 c0 xs hr0 hc0 false hb)
    clear hb
    go_enter Try.func7, Try.ntmps7
    go_wp2_with (go_at_call 18; refine HZ.out.mono ?_; rintro e w1 ⟨rfl, hb1⟩)
    go_ret
    exact ⟨rfl, hb1⟩
  | true =>
    have HZ := Lib.hid (zz3s_calls w A0 c0 xs hr0 hc0 true hb)
    obtain ⟨T1, x1⟩ := add_get_script
    have X1 := Lib.hid (script_is (by decide) x1)
    obtain ⟨hl31, hft⟩ := fits3_mem hb
    obtain ⟨kc, hkc⟩ := calm_ends xs hl31 hft
    obtain ⟨cb, hcb⟩ : ∃ b, isCalm xs = b := ⟨_, rfl⟩
    have hkc2 := hkc kc (Nat.le_refl _)
    rw [hcb] at hkc2
    have HCM := Lib.hid (fun W (h : Below w.heap.size w W) => laws_calm.calls kc A0 c0 xs cb W (Kd.C_below hr0 h) hc0 hkc2)
    have HR := Lib.hid hr0
    have HC0 := Lib.hid hc0
    clear hkc hkc2 x1 hr0 hb
    cases cb with
    | false =>
      clear hcb hft
      go_enter Try.func7, Try.ntmps7
      go_wp2_with (first
      | (go_at_call 18; refine HZ.out.mono ?_; rintro e w1 ⟨rfl, hb1⟩; have HB := Lib.hid hb1; clear hb1)
      | (go_at_call 9
         refine (impl_TrailerScript.calls (some ⟨w1.heap.size, 0, none⟩) 2 [⟨1, ⟨#[120, 45, 97]⟩, ⟨#[98]⟩, 0, 0⟩, ⟨3, ⟨#[88, 45, 65]⟩, ⟨#[]⟩, 0, 0⟩] _ _ _ _ (steps_lit w1 _ (by decide) _ rfl) (by decide) X1.out).mono ?_
         rintro e w2 ⟨v, rfl, hS, hB⟩
         obtain ⟨g, o, c, rfl, y0, y1, y2, y3⟩ := two_read hS
         have HB2 := Lib.hid (HB.out.trans (bwk HB.out.size (((Below.refl _ _).alloc (Nat.le_refl _) _).trans (bwk (by simp) hB))))
         clear hS hB)
      | (go_at_call 19; refine (HCM.out _ HB2.out).mono ?_; rintro e w3 ⟨rfl, hb3⟩; have HB3 := Lib.hid (HB2.out.trans (bwk HB2.out.size hb3)); clear hb3))
      go_ret
      exact ⟨rfl, HB3.out⟩
    | true =>
      obtain ⟨m1, m2⟩ := calm_mem hcb
      obtain ⟨R, hR⟩ : ∃ R, specRun [] [] (xs.map toSt) = R := ⟨_, rfl⟩
      have HSO := Lib.hid (fun W (h : Below w.heap.size w W) => stepsOf_at W A0 c0 xs (Kd.C_below HR.out h) HC0.out (by omega))
      have HSP := Lib.hid (fun W A c (h : Kd.C k66 W A xs.length (xs.map toSt)) => specT_at W A c xs h (by omega) (fun x hx => by have := m2 x hx; omega) R hR)
      cases R with
      | none =>
        clear hft hcb hR m1 m2
        go_enter Try.func7, Try.ntmps7
        go_upto_region 4 with (first
        | (go_at_call 18; refine HZ.out.mono ?_; rintro e w1 ⟨rfl, hb1⟩; have HB := Lib.hid hb1; clear hb1)
        | (go_at_call 9
           refine (impl_TrailerScript.calls (some ⟨w1.heap.size, 0, none⟩) 2 [⟨1, ⟨#[120, 45, 97]⟩, ⟨#[98]⟩, 0, 0⟩, ⟨3, ⟨#[88, 45, 65]⟩, ⟨#[]⟩, 0, 0⟩] _ _ _ _ (steps_lit w1 _ (by decide) _ rfl) (by decide) X1.out).mono ?_
           rintro e w2 ⟨v, rfl, hS, hB⟩
           obtain ⟨g, o, c, rfl, y0, y1, y2, y3⟩ := two_read hS
           have HB2 := Lib.hid (HB.out.trans (bwk HB.out.size (((Below.refl _ _).alloc (Nat.le_refl _) _).trans (bwk (by simp) hB))))
           clear hS hB))
        go_wp2_with (first
        | (go_at_call 19; refine (HCM.out _ HB2.out).mono ?_; rintro e w3 ⟨rfl, hb3⟩; have HB3 := Lib.hid (HB2.out.trans (bwk HB2.out.size hb3)); clear hb3)
        | (go_at_call 24; refine (HSO.out _ HB3.out).mono ?_; rintro e w4 ⟨A4, c4, rfl, hC4, hb4⟩; have HB4 := Lib.hid (HB3.out.trans (bwk HB3.out.size hb4)); have HC4 := Lib.hid hC4; clear hb4 hC4)
        | (go_at_call 23; refine (HSP.out _ _ _ HC4.out).mono ?_; rintro e w5 ⟨rfl, hb5⟩; have HB5 := Lib.hid (HB4.out.trans (bwk HB4.out.size hb5)); clear hb5))
        go_ret
        exact ⟨rfl, HB5.out⟩
      | some bs =>
        obtain ⟨T, xb, bl, bf⟩ := said_script xs bs m1 (fun s hs => by have := m2 s hs; omega) hR
        have XB := Lib.hid xb
        have HBF := Lib.hid bf
        have HML := Lib.hid (show (bs.map conv).length = bs.length from List.length_map _)
        have HML2 := Lib.hid (show bs.length ≤ 40 by omega)
        clear hft hcb hR m1 m2 xb bl bf
        go_enter Try.func7, Try.ntmps7
        go_upto_region 4 with (first
        | (go_at_call 18; refine HZ.out.mono ?_; rintro e w1 ⟨rfl, hb1⟩; have HB := Lib.hid hb1; clear hb1)
        | (go_at_call 9
           refine (impl_TrailerScript.calls (some ⟨w1.heap.size, 0, none⟩) 2 [⟨1, ⟨#[120, 45, 97]⟩, ⟨#[98]⟩, 0, 0⟩, ⟨3, ⟨#[88, 45, 65]⟩, ⟨#[]⟩, 0, 0⟩] _ _ _ _ (steps_lit w1 _ (by decide) _ rfl) (by decide) X1.out).mono ?_
           rintro e w2 ⟨v, rfl, hS, hB⟩
           obtain ⟨g, o, c, rfl, y0, y1, y2, y3⟩ := two_read hS
           have HB2 := Lib.hid (HB.out.trans (bwk HB.out.size (((Below.refl _ _).alloc (Nat.le_refl _) _).trans (bwk (by simp) hB))))
           clear hS hB))
        go_wp2_with (first
        | (go_at_call 19; refine (HCM.out _ HB2.out).mono ?_; rintro e w3 ⟨rfl, hb3⟩; have HB3 := Lib.hid (HB2.out.trans (bwk HB2.out.size hb3)); clear hb3)
        | (go_at_call 24; refine (HSO.out _ HB3.out).mono ?_; rintro e w4 ⟨A4, c4, rfl, hC4, hb4⟩; have HB4 := Lib.hid (HB3.out.trans (bwk HB3.out.size hb4)); have HC4 := Lib.hid hC4; clear hb4 hC4)
        | (go_at_call 23; refine (HSP.out _ _ _ HC4.out).mono ?_; rintro e w5 ⟨A5, c5, rfl, hc5, hC5, hb5⟩; have HB5 := Lib.hid (HB4.out.trans (bwk HB4.out.size hb5)); have HC5 := Lib.hid hC5; clear hb5 hc5 hC5)
        | (go_at_call 9; refine (script_C w5 A0 c0 xs (Kd.C_below HR.out HB5.out) HC0.out XB.out HML.out).mono ?_; rintro e w6 ⟨A6, c6, rfl, hC6, hb6⟩; have HB6 := Lib.hid (HB5.out.trans (bwk HB5.out.size hb6)); have HC6 := Lib.hid hC6; have HC56 := Lib.hid (Kd.C_below HC5.out hb6); clear hb6 hC6)
        | (go_at_call 25; refine (alikeAll_calls w6 bs HBF.out (by have := HML2.out; omega) A6 A5 c6 c5 HC6.out HC56.out).mono ?_; rintro e w7 ⟨rfl, hb7⟩; have HB7 := Lib.hid (HB6.out.trans (bwk HB6.out.size hb7)); clear hb7))
        go_ret
        exact ⟨rfl, HB7.out⟩
end Go.Proofs.Ytoimkmoalmmooaa.Pure
