/- Printed by wip/pr.py (a program of this repo over the print program of the kit). Not trusted: Lean checks it. -/
import Derived.Test.YtdfeojkombmiaaaProg
import Derived.Below
import Derived.Deep.Draws
import Derived.Deep.AppendLies
import Derived.Maps.AppendAt
import Derived.OwnWalk
import Derived.Laws.BytesArg
import Derived.Laws.MakeOwn
import Derived.Laws.OwnMore
import Derived.Deep.OwnRows
import Derived.Tactics
import Derived.Lib.ConvBytes
import Derived.Laws.Slices
import Derived.WalkKit
import Derived.KernelRfl
import Derived.RowKit3
import Derived.Deep.LoopGhost
import Derived.Deep.QuietTactic
import Derived.BigQuiet
import Derived.WideLaws
import Derived.Deep.DeepCutAuto
import Derived.Deep.CutBlock
import Derived.Deep.RegionHeld3
import Derived.Laws.Rows
import Derived.Lib.AppendStr
import Derived.ArgAppend
import Derived.Laws.IdiomCopy
import Derived.OrdersHeld
import Derived.Laws.BitsLemmas
import Derived.RowKit
import Derived.Test.YtdfeojkombmiaaaPrX
import Derived.Test.YtdfeojkombmiaaaWWords
import Derived.Test.YtdfeojkombmiaaaWLast
import Derived.Test.YtdfeojkombmiaaaWTab
import Derived.Test.YtdfeojkombmiaaaWFour
import Derived.Test.YtdfeojkombmiaaaWQPut
import Derived.Test.YtdfeojkombmiaaaWApart
import Derived.Test.YtdfeojkombmiaaaWArr
import Derived.Test.YtdfeojkombmiaaaWZeros
import Derived.Test.YtdfeojkombmiaaaWFoot
import Derived.Test.YtdfeojkombmiaaaWKept
import Derived.Test.YtdfeojkombmiaaaWShare
import Derived.Test.YtdfeojkombmiaaaWN
import Derived.Test.YtdfeojkombmiaaaWFootNe
import Derived.Test.YtdfeojkombmiaaaWAt
import Derived.Test.YtdfeojkombmiaaaWEqStruct
import Derived.Test.YtdfeojkombmiaaaWRepsOne
import Derived.Test.YtdfeojkombmiaaaWInv
import Derived.Test.YtdfeojkombmiaaaWInvWords
import Derived.Test.YtdfeojkombmiaaaWGuard
import Derived.Test.YtdfeojkombmiaaaWNEv
import Derived.Test.YtdfeojkombmiaaaWMore
namespace Go.Proofs.Ytdfeojkombmiaaa.QA
open Go.Proofs.Ytdfeojkombmiaaa.Given
open Go.Proofs.Ytdfeojkombmiaaa.PrX
open Go.RowKit Go.Proofs.YtdfeojkombmiaaaW.PrintWords Go.Proofs.YtdfeojkombmiaaaW.PrintLast Go.Proofs.YtdfeojkombmiaaaW.PrintMore
attribute [local go_sem] max2_int min2_int max_two min_two max_three min_three max_four min_four   -- for this text's walks alone
set_option linter.unusedVariables false
set_option linter.unusedSimpArgs false



def errW : Option Int → Value
  | none => .nilIface
  | some c => .iface 0 (.int .i64 c)
theorem errW_none : errW none = .nilIface := rfl
theorem errW_some (c : Int) : errW (some c) = .iface 0 (.int .i64 c) := rfl

theorem info5 : (Try.prog.info? 5).map (fun i => (i.zero, i.size, i.bytes)) = some (some (.int .u8 0), 1, 1) := by kernel_rfl
theorem info9 : (Try.prog.info? 9).map (fun i => (i.zero, i.size, i.bytes)) = some (some (.string ⟨#[]⟩), 1, 16) := by kernel_rfl
-- the values' own types

end Go.Proofs.Ytdfeojkombmiaaa.QA
