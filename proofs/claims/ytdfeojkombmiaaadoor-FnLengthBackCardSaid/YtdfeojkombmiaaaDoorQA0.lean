/- Printed by wip/pr.py (a program of this repo over the print program of the kit). Not trusted: Lean checks it. -/
import Derived.Test.YtdfeojkombmiaaaDoorProg
import Derived.Below
import Derived.Deep.Draws
import Derived.Deep.AppendLies
import Derived.Maps.AppendAt
import Derived.OwnWalk
import Derived.Laws.BytesArg
import Derived.Laws.MakeOwn
import Derived.Laws.OwnMore
import Derived.Deep.OwnRows
import Derived.Tactics
import Derived.Lib.ConvBytes
import Derived.Laws.Slices
import Derived.WalkKit
import Derived.KernelRfl
import Derived.RowKit3
import Derived.Deep.LoopGhost
import Derived.Deep.QuietTactic
import Derived.BigQuiet
import Derived.WideLaws
import Derived.Deep.DeepCutAuto
import Derived.Deep.CutBlock
import Derived.Deep.RegionHeld3
import Derived.Laws.Rows
import Derived.Lib.AppendStr
import Derived.ArgAppend
import Derived.Laws.IdiomCopy
import Derived.OrdersHeld
import Derived.Laws.BitsLemmas
import Derived.RowKit
import Derived.Test.YtdfeojkombmiaaaDoorPrX
import Derived.Test.YtdfeojkombmiaaaDoorWWords
import Derived.Test.YtdfeojkombmiaaaDoorWLast
import Derived.Test.YtdfeojkombmiaaaDoorWTab
import Derived.Test.YtdfeojkombmiaaaDoorWFour
import Derived.Test.YtdfeojkombmiaaaDoorWQPut
import Derived.Test.YtdfeojkombmiaaaDoorWApart
import Derived.Test.YtdfeojkombmiaaaDoorWArr
import Derived.Test.YtdfeojkombmiaaaDoorWZeros
import Derived.Test.YtdfeojkombmiaaaDoorWFoot
import Derived.Test.YtdfeojkombmiaaaDoorWKept
import Derived.Test.YtdfeojkombmiaaaDoorWShare
import Derived.Test.YtdfeojkombmiaaaDoorWN
import Derived.Test.YtdfeojkombmiaaaDoorWFootNe
import Derived.Test.YtdfeojkombmiaaaDoorWAt
import Derived.Test.YtdfeojkombmiaaaDoorWEqStruct
import Derived.Test.YtdfeojkombmiaaaDoorWRepsOne
import Derived.Test.YtdfeojkombmiaaaDoorWInv
import Derived.Test.YtdfeojkombmiaaaDoorWInvWords
import Derived.Test.YtdfeojkombmiaaaDoorWGuard
import Derived.Test.YtdfeojkombmiaaaDoorWNEv
import Derived.Test.YtdfeojkombmiaaaDoorWMore
namespace Go.Proofs.YtdfeojkombmiaaaDoor.QA
open Go.Proofs.YtdfeojkombmiaaaDoor.Given
open Go.Proofs.YtdfeojkombmiaaaDoor.PrX
open Go.RowKit Go.Proofs.YtdfeojkombmiaaaDoorW.PrintWords Go.Proofs.YtdfeojkombmiaaaDoorW.PrintLast Go.Proofs.YtdfeojkombmiaaaDoorW.PrintMore
attribute [local go_sem] max2_int min2_int max_two min_two max_three min_three max_four min_four   -- for this text's walks alone
set_option linter.unusedVariables false
set_option linter.unusedSimpArgs false



def errW : Option Int → Value
  | none => .nilIface
  | some c => .iface 0 (.int .i64 c)
theorem errW_none : errW none = .nilIface := rfl
theorem errW_some (c : Int) : errW (some c) = .iface 0 (.int .i64 c) := rfl

theorem info5 : (Tryd.prog.info? 5).map (fun i => (i.zero, i.size, i.bytes)) = some (some (.int .u8 0), 1, 1) := by kernel_rfl
theorem info9 : (Tryd.prog.info? 9).map (fun i => (i.zero, i.size, i.bytes)) = some (some (.string ⟨#[]⟩), 1, 16) := by kernel_rfl
-- the values' own types

end Go.Proofs.YtdfeojkombmiaaaDoor.QA
