/- Texts of this claim, one behind the other (merged by wip/prune.py of this repo, without what the proof does not use): GTabP. -/
import Derived.Test.YtgmjaggkiifdjaaDoorZU9
import Derived.Lib.LaidU8
import Derived.ProofKit
set_option linter.unusedVariables false
set_option linter.unusedSimpArgs false
namespace Go.Proofs.YtgmjaggkiifdjaaDoor.Given
open Go.RowKit
theorem tabP_of {W : World} (h : Go.Lib.VarReads Tryd.prog W "internal/strconv.uint64pow10" (Go.Lib.tabData .u64 Go.Lib.pow10Tab)) : TabP W := by
  obtain ⟨g', t', cs, fuel, p, hg', ht', hvar, hd⟩ := h
  obtain rfl := Option.some.inj ((show Tryd.prog.globalNamed "internal/strconv.uint64pow10" = some 3 by kernel_rfl).symm.trans hg')
  obtain rfl := Option.some.inj ((show (Tryd.prog.globals[3]?).map (·.type) = some 111 by kernel_rfl).symm.trans ht')
  unfold TabP Go.Lib.TabIs
  rw [hvar, ← Go.Lib.cells_of_tab Tryd.underlying111 Tryd.underlying84 (by kernel_rfl) (by kernel_rfl) hd]
end Go.Proofs.YtgmjaggkiifdjaaDoor.Given
