/- Texts of this claim, one behind the other (merged by wip/prune.py of this repo, without what the proof does not use): GStat3. -/
import Derived.Test.YtgmjaggkiifdjaaDoorZW7
import Derived.Test.YtgmjaggkiifdjaaDoorZW9
import Derived.Lib.ItoaLen
set_option linter.unusedVariables false
set_option linter.unusedSimpArgs false
namespace Go.Proofs.YtgmjaggkiifdjaaDoor.Given
open Go.RowKit Go.Proofs.YtgmjaggkiifdjaaDoorW.PrintWords Go.Proofs.YtgmjaggkiifdjaaDoorW.PrintLast Go.Proofs.YtgmjaggkiifdjaaDoorW.PrintMore Go.Proofs.YtgmjaggkiifdjaaDoor.Base Go.Proofs.YtgmjaggkiifdjaaDoor.Gv
set_option maxHeartbeats 1000000 in
theorem implMsg_calls (n : Int) (w : World) : Calls Tryd.prog 9 #[.int .i64 n] w fun e w' => e = .returned (.string (statMsg n)) ∧ Below w.heap.size w w' := by
  have C := Lib.hid (statMsg_calls n w)
  go_enter Tryd.func9, Tryd.ntmps9
  go_wp2_with (go_at_call 50; refine C.out.mono ?_; rintro e w1 ⟨rfl, hb⟩; have HB := Lib.hid hb; clear hb)
  go_ret
  exact ⟨rfl, HB.out⟩
end Go.Proofs.YtgmjaggkiifdjaaDoor.Given
