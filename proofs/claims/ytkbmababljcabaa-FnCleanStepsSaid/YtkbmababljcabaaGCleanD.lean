/- What impl.CleanPath tells of a path that begins with a slash. -/
import Derived.Test.YtkbmababljcabaaLClean
namespace Go.Proofs.Ytkbmababljcabaa.Given
open Go.RowKit Go.Proofs.YtkbmababljcabaaW.PrintWords Go.Proofs.YtkbmababljcabaaW.PrintLast Go.Proofs.YtkbmababljcabaaW.PrintMore Go.Proofs.Ytkbmababljcabaa.Base Go.Proofs.Ytkbmababljcabaa.Cln
def impl_CleanPath.f (s : ByteArray) : Option (ByteArray × Bool) := if s.size ≤ 35184372088832 ∧ 1 < s.size ∧ (ns s).headD 0 = 47 then some (strOfNums (cleanP (ns s)), true) else none
end Go.Proofs.Ytkbmababljcabaa.Given
