/- Printed by wip/pr.py (a program of this repo over the print program of the kit). Not trusted: Lean checks it. -/
import Derived.Test.YtjnnadpecendpaaProg
import Derived.Below
import Derived.Deep.Draws
import Derived.Deep.AppendLies
import Derived.Maps.AppendAt
import Derived.OwnWalk
import Derived.Laws.BytesArg
import Derived.Laws.MakeOwn
import Derived.Laws.OwnMore
import Derived.Deep.OwnRows
import Derived.Tactics
import Derived.Lib.ConvBytes
import Derived.Laws.Slices
import Derived.WalkKit
import Derived.KernelRfl
import Derived.RowKit3
import Derived.Deep.LoopGhost
import Derived.Deep.QuietTactic
import Derived.BigQuiet
import Derived.WideLaws
import Derived.Deep.DeepCutAuto
import Derived.Deep.CutBlock
import Derived.Deep.RegionHeld3
import Derived.Laws.Rows
import Derived.Lib.AppendStr
import Derived.ArgAppend
import Derived.Laws.IdiomCopy
import Derived.OrdersHeld
import Derived.Laws.BitsLemmas
import Derived.RowKit
import Derived.Test.YtjnnadpecendpaaPrX
import Derived.Test.YtjnnadpecendpaaWWords
import Derived.Test.YtjnnadpecendpaaWLast
import Derived.Test.YtjnnadpecendpaaWTab
import Derived.Test.YtjnnadpecendpaaWFour
import Derived.Test.YtjnnadpecendpaaWQPut
import Derived.Test.YtjnnadpecendpaaWApart
import Derived.Test.YtjnnadpecendpaaWArr
import Derived.Test.YtjnnadpecendpaaWZeros
import Derived.Test.YtjnnadpecendpaaWFoot
import Derived.Test.YtjnnadpecendpaaWKept
import Derived.Test.YtjnnadpecendpaaWShare
import Derived.Test.YtjnnadpecendpaaWN
import Derived.Test.YtjnnadpecendpaaWFootNe
import Derived.Test.YtjnnadpecendpaaWAt
import Derived.Test.YtjnnadpecendpaaWEqStruct
import Derived.Test.YtjnnadpecendpaaWRepsOne
import Derived.Test.YtjnnadpecendpaaWInv
import Derived.Test.YtjnnadpecendpaaWInvWords
import Derived.Test.YtjnnadpecendpaaWGuard
import Derived.Test.YtjnnadpecendpaaWNEv
import Derived.Test.YtjnnadpecendpaaWMore
namespace Go.Proofs.Ytjnnadpecendpaa.QA
open Go.Proofs.Ytjnnadpecendpaa.Given
open Go.Proofs.Ytjnnadpecendpaa.PrX
open Go.RowKit Go.Proofs.YtjnnadpecendpaaW.PrintWords Go.Proofs.YtjnnadpecendpaaW.PrintLast Go.Proofs.YtjnnadpecendpaaW.PrintMore
attribute [local go_sem] max2_int min2_int max_two min_two max_three min_three max_four min_four   -- for this text's walks alone
set_option linter.unusedVariables false
set_option linter.unusedSimpArgs false



def errW : Option Int → Value
  | none => .nilIface
  | some c => .iface 0 (.int .i64 c)
theorem errW_none : errW none = .nilIface := rfl
theorem errW_some (c : Int) : errW (some c) = .iface 0 (.int .i64 c) := rfl

theorem info5 : (Try.prog.info? 5).map (fun i => (i.zero, i.size, i.bytes)) = some (some (.int .u8 0), 1, 1) := by kernel_rfl
theorem info9 : (Try.prog.info? 9).map (fun i => (i.zero, i.size, i.bytes)) = some (some (.string ⟨#[]⟩), 1, 16) := by kernel_rfl
-- the values' own types

end Go.Proofs.Ytjnnadpecendpaa.QA
