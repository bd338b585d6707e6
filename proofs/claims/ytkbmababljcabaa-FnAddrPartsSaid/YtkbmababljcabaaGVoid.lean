/- Functions that no run of this seat's laws comes to: nothing is told of them (no input answers), so nothing is to be shown. -/
import Derived.Test.YtkbmababljcabaaGvBase
set_option linter.unusedVariables false
namespace Go.Proofs.Ytkbmababljcabaa.Given
open Go.RowKit Go.Proofs.YtkbmababljcabaaW.PrintWords Go.Proofs.YtkbmababljcabaaW.PrintLast Go.Proofs.YtkbmababljcabaaW.PrintMore
def bytealg_LastIndexRabinKarp_string.f (a0 a1 : ByteArray) : Option Int := none
theorem bytealg_LastIndexRabinKarp_string.calls (a0 a1 : ByteArray) (r : Int) (w : World) (h : bytealg_LastIndexRabinKarp_string.f a0 a1 = some r) :
    Calls Try.prog 91 #[.string a0, .string a1] w fun e w' => e = .returned (.int .i64 r) ∧ Drawn0 w w' := by
  cases h
end Go.Proofs.Ytkbmababljcabaa.Given
