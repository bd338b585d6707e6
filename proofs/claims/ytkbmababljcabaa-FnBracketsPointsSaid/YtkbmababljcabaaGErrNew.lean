/- errors.New: an error that is not nil. -/
import Derived.Test.YtkbmababljcabaaGvBase
set_option linter.unusedVariables false
namespace Go.Proofs.Ytkbmababljcabaa.Given
open Go.RowKit Go.Proofs.YtkbmababljcabaaW.PrintWords Go.Proofs.YtkbmababljcabaaW.PrintLast Go.Proofs.YtkbmababljcabaaW.PrintMore
set_option maxHeartbeats 1000000 in
theorem errNew_calls (s : ByteArray) (w : World) : Calls Try.prog 82 #[.string s] w fun e w' => Below w.heap.size w w' ∧ ∃ u x, e = .returned (.iface u x) := by
  go_enter Try.func82, Try.ntmps82
  go_wp2
  go_ret
  exact ⟨(Below.refl _ _).alloc (Nat.le_refl _) _, _, _, rfl⟩
end Go.Proofs.Ytkbmababljcabaa.Given
