/- bytestr.MIMEFormData, StrBoundary: the bytes of a constant: a row that can be read, its end marked. -/
import Derived.Test.YtjnnadpecendpaaMR
import Derived.Test.YtjnnadpecendpaaGvBase
import Derived.WalkMore
set_option linter.unusedVariables false
namespace Go.Proofs.Ytjnnadpecendpaa.Given
open Go.RowKit Go.Proofs.YtjnnadpecendpaaW.PrintWords Go.Proofs.YtjnnadpecendpaaW.PrintLast Go.Proofs.YtjnnadpecendpaaW.PrintMore

def hertzstr_MIMEFormData.f : Option (List Int) := some ([109, 117, 108, 116, 105, 112, 97, 114, 116, 47, 102, 111, 114, 109, 45, 100, 97, 116, 97] : List Int)
theorem hertzstr_MIMEFormData.calls (r : List Int) (w : World) (h : hertzstr_MIMEFormData.f = some r) :
    Calls Try.prog 72 #[] w fun e w' => ∃ v0_ : Value, e = .returned (v0_) ∧ MR.R (Kd.int .u8) 5 w' w.heap.size (fun _ => True) v0_ r ∧ Below w.heap.size w w' := by
  obtain rfl := Option.some.inj h
  have kc := fun (w : World) (C : Array Value) (n c : Nat) => Lib.run_convert_bytes_const (P := Try.prog) w 56 5 C n c Try.underlying56 Try.underlying5
  go_enter Try.func72, Try.ntmps72
  go_wp2
  go_ret
  exact ⟨_, rfl, MR.made w [109, 117, 108, 116, 105, 112, 97, 114, 116, 47, 102, 111, 114, 109, 45, 100, 97, 116, 97] (by decide) _ _ rfl, (Below.refl _ _).alloc (Nat.le_refl _) _⟩

def hertzstr_StrBoundary.f : Option (List Int) := some ([98, 111, 117, 110, 100, 97, 114, 121] : List Int)
theorem hertzstr_StrBoundary.calls (r : List Int) (w : World) (h : hertzstr_StrBoundary.f = some r) :
    Calls Try.prog 73 #[] w fun e w' => ∃ v0_ : Value, e = .returned (v0_) ∧ MR.R (Kd.int .u8) 5 w' w.heap.size (fun _ => True) v0_ r ∧ Below w.heap.size w w' := by
  obtain rfl := Option.some.inj h
  have kc := fun (w : World) (C : Array Value) (n c : Nat) => Lib.run_convert_bytes_const (P := Try.prog) w 56 5 C n c Try.underlying56 Try.underlying5
  go_enter Try.func73, Try.ntmps73
  go_wp2
  go_ret
  exact ⟨_, rfl, MR.made w [98, 111, 117, 110, 100, 97, 114, 121] (by decide) _ _ rfl, (Below.refl _ _).alloc (Nat.le_refl _) _⟩

end Go.Proofs.Ytjnnadpecendpaa.Given
