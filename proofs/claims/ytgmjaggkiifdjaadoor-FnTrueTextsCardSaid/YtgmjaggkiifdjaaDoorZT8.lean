/- Texts of this claim, one behind the other (merged by wip/prune.py of this repo, without what the proof does not use): GTrue, TrueW. -/
import Derived.Test.YtgmjaggkiifdjaaDoorZT4
import Derived.Test.YtgmjaggkiifdjaaDoorZT5
import Derived.Test.YtgmjaggkiifdjaaDoorZT6
import Derived.Test.YtgmjaggkiifdjaaDoorZT7
import Derived.Lib.LaidU8T
import Derived.PinnedBridge
import Derived.ProofKit
set_option linter.unusedVariables false
set_option linter.unusedSimpArgs false
namespace Go.Proofs.YtgmjaggkiifdjaaDoor.Given
open Go.RowKit Go.Proofs.YtgmjaggkiifdjaaDoorW.PrintWords Go.Proofs.YtgmjaggkiifdjaaDoor.Base Go.Proofs.YtgmjaggkiifdjaaDoor.Gv
def TabsU (w : World) : Prop := Go.Lib.CaseVar (sh_lays159_ren.g 13) Go.Lib.caseA w ∧ Go.Lib.Utf8Tabs (sh_lays159_ren.g 3) (sh_lays159_ren.g 4) w
theorem TabsU.below {w w' : World} (h : TabsU w) (hb : Below w.heap.size w w') : TabsU w' := ⟨Go.Lib.CaseVar_below h.1 hb, Utf8Tabs_below h.2 hb⟩
theorem caseX : CaseExtra Tryd.prog sh_lays159_ren := ⟨by kernel_rfl, by kernel_rfl, by kernel_rfl, by kernel_rfl, by kernel_rfl, by kernel_rfl⟩
theorem u8X : U8Extra Tryd.prog sh_lays159_ren := ⟨by kernel_rfl, by kernel_rfl, by kernel_rfl, by kernel_rfl, by kernel_rfl, by kernel_rfl, by kernel_rfl⟩
theorem tabsU_of {W : World} (h1 : Go.Lib.VarReads Tryd.prog W "unicode.CaseRanges" Go.Lib.caseData) (h2 : Go.Lib.VarReads Tryd.prog W "unicode/utf8.first" Go.Lib.firstData) (h3 : Go.Lib.VarReads Tryd.prog W "unicode/utf8.acceptRanges" Go.Lib.acceptData) : TabsU W :=
  ⟨caseVar_of_reads { sh_lays159 with } sh_lays159.t206 caseX h1, utf8Tabs_of_readsT { sh_lays159 with } u8X h2 h3⟩
set_option maxHeartbeats 1000000 in
set_option maxRecDepth 100000 in
theorem isTrueString_calls (s : ByteArray) (w : World) (hs : s.size ≤ 1099511627776) (hT : TabsU w) : Calls Tryd.prog 51 #[.string s] w fun e w' => e = .returned (.bool (isTrue s)) ∧ Below w.heap.size w w' := by
  have hc := sh_strings_ToLower_any s w (by omega) hT.1 hT.2
  have e := lower_true s
  obtain ⟨L, hL⟩ : ∃ L, (⟨(Go.Lib.toLowerD s.data.toList).toArray⟩ : ByteArray) = L := ⟨_, rfl⟩
  rw [hL] at hc e
  have HC := Lib.hid hc
  clear hc hL hT
  go_enter Tryd.func51, Tryd.ntmps51
  go_wp2_with (go_at_call 79; refine HC.out.mono ?_; rintro e w1 ⟨rfl, hb⟩)
  go_ret
  exact ⟨by first | rfl | simp, hb⟩
set_option maxHeartbeats 1000000 in
theorem trueText_calls (s : ByteArray) (w : World) (hs : s.size ≤ 1099511627776) (hT : TabsU w) : Calls Tryd.prog 10 #[.string s] w fun e w' => e = .returned (.bool (isTrue s)) ∧ Below w.heap.size w w' := by
  have HC := Lib.hid (isTrueString_calls s w hs hT)
  clear hT
  go_enter Tryd.func10, Tryd.ntmps10
  go_wp2_with (go_at_call 51; refine HC.out.mono ?_; rintro e w1 ⟨rfl, hb⟩)
  go_ret
  exact ⟨rfl, hb⟩
end Go.Proofs.YtgmjaggkiifdjaaDoor.Given
namespace Go.Proofs.YtgmjaggkiifdjaaDoor.Pure
open Go.RowKit Go.Proofs.YtgmjaggkiifdjaaDoorW.PrintWords Go.Proofs.YtgmjaggkiifdjaaDoor.Base Go.Proofs.YtgmjaggkiifdjaaDoor.Gv Go.Proofs.YtgmjaggkiifdjaaDoor.Given Go.Proofs.YtgmjaggkiifdjaaDoor.QA Go.Proofs.YtgmjaggkiifdjaaDoor.Hlp
set_option maxHeartbeats 1000000 in
set_option maxRecDepth 100000 in
theorem true_all (a0 : ByteArray) (w : World) (hT : TabsU w) : Calls Tryd.prog 4 #[.string a0] w fun e w' => e = .returned (.bool true) ∧ Below w.heap.size w w' := by
  by_cases h0 : 2147483647 < a0.size
  · have b0 : decide (2147483647 < (a0.size : Int)) = true := decide_eq_true (by omega)
    have b1 : decide (2147483647 < a0.size) = true := decide_eq_true (by omega)
    go_enter Tryd.func4, Tryd.ntmps4
    go_wp2
    go_ret
    exact ⟨rfl, Below.refl _ _⟩
  · have b0 : decide (2147483647 < (a0.size : Int)) = false := decide_eq_false (by omega)
    have b1 : decide (2147483647 < a0.size) = false := decide_eq_false (by omega)
    have c1 := fun W (h : TabsU W) => trueText_calls (⟨#[116, 114, 117, 101]⟩ : ByteArray) W (by decide) h
    have c2 := fun W (h : TabsU W) => trueText_calls (⟨#[120]⟩ : ByteArray) W (by decide) h
    have c3 := fun W (h : TabsU W) => trueText_calls a0 W (by omega) h
    rw [show isTrue (⟨#[116, 114, 117, 101]⟩ : ByteArray) = true by decide +kernel] at c1
    rw [show isTrue (⟨#[120]⟩ : ByteArray) = false by decide +kernel] at c2
    obtain ⟨L, hL⟩ : ∃ L, strOfNums ((ns a0).map lo) = L := ⟨_, rfl⟩
    have c4 := fun W => low_calls a0 W (by omega)
    have e4 := low_true a0
    rw [hL] at c4 e4
    obtain ⟨b, hb⟩ : ∃ b, isTrue a0 = b := ⟨_, rfl⟩
    rw [hb] at c3 e4
    obtain ⟨sb, hsb⟩ : ∃ b, areShort [a0] = b := ⟨_, rfl⟩
    obtain ⟨ks, hks⟩ := (short_ends [a0] (by simp)).rounds
    rw [hsb] at hks
    have SH := Lib.hid (fun W A (h : Kd.C Kd.string W A 1 [a0]) => dB (laws_short.calls ks A 1 [a0] _ W h (by simp) hks))
    have C1 := Lib.hid c1
    have C2 := Lib.hid c2
    have C3 := Lib.hid c3
    have C4 := Lib.hid c4
    have HT := Lib.hid hT
    clear c1 c2 c3 c4 hT hks hL hb hsb h0
    cases sb with
    | false =>
      go_enter Tryd.func4, Tryd.ntmps4
      go_upto_region 3 with (fail)
      go_upto_region 5 with (first
        | (go_at_call 10; with_reducible show Calls _ _ #[.string (⟨#[116, 114, 117, 101]⟩ : ByteArray)] _ _; refine (C1.out _ HT.out).mono ?_; rintro e w1 ⟨rfl, hb⟩; have HB1 := Lib.hid hb; clear hb)
        | (go_at_call 10; refine (C2.out _ (HT.out.below HB1.out)).mono ?_; rintro e w2 ⟨rfl, hb⟩; have HB2 := Lib.hid (HB1.out.trans (bwk HB1.out.size hb)); clear hb))
      go_wp2_with (first
        | (go_at_call 11; refine (SH.out _ _ (strs_lit w2 [a0] (by simp) _ rfl)).mono ?_; rintro e w3 ⟨rfl, hb⟩; have HB3 := Lib.hid (HB2.out.trans (bwk HB2.out.size (((Below.refl w2.heap.size w2).alloc (Nat.le_refl _) _).trans (bwk (by simp) hb)))); clear hb))
      go_ret
      exact ⟨rfl, HB3.out⟩
    | true =>
      go_enter Tryd.func4, Tryd.ntmps4
      go_upto_region 3 with (fail)
      go_upto_region 5 with (first
        | (go_at_call 10; with_reducible show Calls _ _ #[.string (⟨#[116, 114, 117, 101]⟩ : ByteArray)] _ _; refine (C1.out _ HT.out).mono ?_; rintro e w1 ⟨rfl, hb⟩; have HB1 := Lib.hid hb; clear hb)
        | (go_at_call 10; refine (C2.out _ (HT.out.below HB1.out)).mono ?_; rintro e w2 ⟨rfl, hb⟩; have HB2 := Lib.hid (HB1.out.trans (bwk HB1.out.size hb)); clear hb))
      go_wp2_with (first
        | (go_at_call 11; refine (SH.out _ _ (strs_lit w2 [a0] (by simp) _ rfl)).mono ?_; rintro e w3 ⟨rfl, hb⟩; have HB3 := Lib.hid (HB2.out.trans (bwk HB2.out.size (((Below.refl w2.heap.size w2).alloc (Nat.le_refl _) _).trans (bwk (by simp) hb)))); clear hb)
        | (go_at_call 10; refine (C3.out _ (HT.out.below HB3.out)).mono ?_; rintro e w4 ⟨rfl, hb⟩; have HB4 := Lib.hid (HB3.out.trans (bwk HB3.out.size hb)); clear hb)
        | (go_at_call 12; refine (C4.out _).mono ?_; rintro e w5 ⟨rfl, hb⟩; have HB5 := Lib.hid (HB4.out.trans (bwk HB4.out.size hb)); clear hb))
      go_ret
      exact ⟨by first | rfl | simp, HB5.out⟩
end Go.Proofs.YtgmjaggkiifdjaaDoor.Pure
