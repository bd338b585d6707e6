/- Printed by wip/pr.py (a program of this repo over the print program of the kit). Not trusted: Lean checks it. -/
import Derived.Test.YtkbmababljcabaaProg
import Derived.Below
import Derived.Deep.Draws
import Derived.Deep.AppendLies
import Derived.Maps.AppendAt
import Derived.OwnWalk
import Derived.Laws.BytesArg
import Derived.Laws.MakeOwn
import Derived.Laws.OwnMore
import Derived.Deep.OwnRows
import Derived.Tactics
import Derived.Lib.ConvBytes
import Derived.Laws.Slices
import Derived.WalkKit
import Derived.KernelRfl
import Derived.RowKit3
import Derived.Deep.LoopGhost
import Derived.Deep.QuietTactic
import Derived.BigQuiet
import Derived.WideLaws
import Derived.Deep.DeepCutAuto
import Derived.Deep.CutBlock
import Derived.Deep.RegionHeld3
import Derived.Laws.Rows
import Derived.Lib.AppendStr
import Derived.ArgAppend
import Derived.Laws.IdiomCopy
import Derived.OrdersHeld
import Derived.Laws.BitsLemmas
import Derived.RowKit
import Derived.Test.YtkbmababljcabaaPrX
import Derived.Test.YtkbmababljcabaaWWords
import Derived.Test.YtkbmababljcabaaWLast
import Derived.Test.YtkbmababljcabaaWTab
import Derived.Test.YtkbmababljcabaaWFour
import Derived.Test.YtkbmababljcabaaWQPut
import Derived.Test.YtkbmababljcabaaWApart
import Derived.Test.YtkbmababljcabaaWArr
import Derived.Test.YtkbmababljcabaaWZeros
import Derived.Test.YtkbmababljcabaaWFoot
import Derived.Test.YtkbmababljcabaaWKept
import Derived.Test.YtkbmababljcabaaWShare
import Derived.Test.YtkbmababljcabaaWN
import Derived.Test.YtkbmababljcabaaWFootNe
import Derived.Test.YtkbmababljcabaaWAt
import Derived.Test.YtkbmababljcabaaWEqStruct
import Derived.Test.YtkbmababljcabaaWRepsOne
import Derived.Test.YtkbmababljcabaaWInv
import Derived.Test.YtkbmababljcabaaWInvWords
import Derived.Test.YtkbmababljcabaaWGuard
import Derived.Test.YtkbmababljcabaaWNEv
import Derived.Test.YtkbmababljcabaaWMore
namespace Go.Proofs.Ytkbmababljcabaa.QA
open Go.Proofs.Ytkbmababljcabaa.Given
open Go.Proofs.Ytkbmababljcabaa.PrX
open Go.RowKit Go.Proofs.YtkbmababljcabaaW.PrintWords Go.Proofs.YtkbmababljcabaaW.PrintLast Go.Proofs.YtkbmababljcabaaW.PrintMore
attribute [local go_sem] max2_int min2_int max_two min_two max_three min_three max_four min_four   -- for this text's walks alone
set_option linter.unusedVariables false
set_option linter.unusedSimpArgs false



def errW : Option Int → Value
  | none => .nilIface
  | some c => .iface 0 (.int .i64 c)
theorem errW_none : errW none = .nilIface := rfl
theorem errW_some (c : Int) : errW (some c) = .iface 0 (.int .i64 c) := rfl

theorem info9 : (Try.prog.info? 9).map (fun i => (i.zero, i.size, i.bytes)) = some (some (.string ⟨#[]⟩), 1, 16) := by kernel_rfl
-- the values' own types

end Go.Proofs.Ytkbmababljcabaa.QA
