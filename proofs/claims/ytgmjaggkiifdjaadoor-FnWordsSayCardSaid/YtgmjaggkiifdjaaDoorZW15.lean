/- Texts of this claim, one behind the other (merged by wip/prune.py of this repo, without what the proof does not use): GTrue. -/
import Derived.Test.YtgmjaggkiifdjaaDoorZW12
import Derived.Test.YtgmjaggkiifdjaaDoorZW13
import Derived.Lib.LaidU8T
import Derived.PinnedBridge
import Derived.ProofKit
set_option linter.unusedVariables false
set_option linter.unusedSimpArgs false
namespace Go.Proofs.YtgmjaggkiifdjaaDoor.Given
open Go.RowKit Go.Proofs.YtgmjaggkiifdjaaDoorW.PrintWords Go.Proofs.YtgmjaggkiifdjaaDoorW.PrintLast Go.Proofs.YtgmjaggkiifdjaaDoorW.PrintMore Go.Proofs.YtgmjaggkiifdjaaDoor.Base Go.Proofs.YtgmjaggkiifdjaaDoor.Gv
def TabsU (w : World) : Prop := Go.Lib.CaseVar (sh_lays159_ren.g 13) Go.Lib.caseA w ∧ Go.Lib.Utf8Tabs (sh_lays159_ren.g 3) (sh_lays159_ren.g 4) w
theorem TabsU.below {w w' : World} (h : TabsU w) (hb : Below w.heap.size w w') : TabsU w' := ⟨Go.Lib.CaseVar_below h.1 hb, Utf8Tabs_below h.2 hb⟩
theorem caseX : CaseExtra Tryd.prog sh_lays159_ren := ⟨by kernel_rfl, by kernel_rfl, by kernel_rfl, by kernel_rfl, by kernel_rfl, by kernel_rfl⟩
theorem u8X : U8Extra Tryd.prog sh_lays159_ren := ⟨by kernel_rfl, by kernel_rfl, by kernel_rfl, by kernel_rfl, by kernel_rfl, by kernel_rfl, by kernel_rfl⟩
theorem tabsU_of {W : World} (h1 : Go.Lib.VarReads Tryd.prog W "unicode.CaseRanges" Go.Lib.caseData) (h2 : Go.Lib.VarReads Tryd.prog W "unicode/utf8.first" Go.Lib.firstData) (h3 : Go.Lib.VarReads Tryd.prog W "unicode/utf8.acceptRanges" Go.Lib.acceptData) : TabsU W :=
  ⟨caseVar_of_reads { sh_lays159 with } sh_lays159.t206 caseX h1, utf8Tabs_of_readsT { sh_lays159 with } u8X h2 h3⟩
set_option maxHeartbeats 1000000 in
set_option maxRecDepth 100000 in
theorem isTrueString_calls (s : ByteArray) (w : World) (hs : s.size ≤ 1099511627776) (hT : TabsU w) : Calls Tryd.prog 51 #[.string s] w fun e w' => e = .returned (.bool (isTrue s)) ∧ Below w.heap.size w w' := by
  have hc := sh_strings_ToLower_any s w (by omega) hT.1 hT.2
  have e := lower_true s
  obtain ⟨L, hL⟩ : ∃ L, (⟨(Go.Lib.toLowerD s.data.toList).toArray⟩ : ByteArray) = L := ⟨_, rfl⟩
  rw [hL] at hc e
  have HC := Lib.hid hc
  clear hc hL hT
  go_enter Tryd.func51, Tryd.ntmps51
  go_wp2_with (go_at_call 79; refine HC.out.mono ?_; rintro e w1 ⟨rfl, hb⟩)
  go_ret
  exact ⟨by first | rfl | simp, hb⟩
set_option maxHeartbeats 1000000 in
theorem trueText_calls (s : ByteArray) (w : World) (hs : s.size ≤ 1099511627776) (hT : TabsU w) : Calls Tryd.prog 10 #[.string s] w fun e w' => e = .returned (.bool (isTrue s)) ∧ Below w.heap.size w w' := by
  have HC := Lib.hid (isTrueString_calls s w hs hT)
  clear hT
  go_enter Tryd.func10, Tryd.ntmps10
  go_wp2_with (go_at_call 51; refine HC.out.mono ?_; rintro e w1 ⟨rfl, hb⟩)
  go_ret
  exact ⟨rfl, hb⟩
end Go.Proofs.YtgmjaggkiifdjaaDoor.Given
