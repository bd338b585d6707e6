/- bytestr.StrX: the bytes of a constant: a row that can be read, its end marked. -/
import Derived.Test.YtjnnadpecendpaaMR
import Derived.Test.YtjnnadpecendpaaGvBase
import Derived.WalkMore
set_option linter.unusedVariables false
namespace Go.Proofs.Ytjnnadpecendpaa.Given
open Go.RowKit Go.Proofs.YtjnnadpecendpaaW.PrintWords Go.Proofs.YtjnnadpecendpaaW.PrintLast Go.Proofs.YtjnnadpecendpaaW.PrintMore

def hertzstr_StrAuthorization.f : Option (List Int) := some ([65, 117, 116, 104, 111, 114, 105, 122, 97, 116, 105, 111, 110] : List Int)
theorem hertzstr_StrAuthorization.calls (r : List Int) (w : World) (h : hertzstr_StrAuthorization.f = some r) :
    Calls Try.prog 53 #[] w fun e w' => ∃ v0_ : Value, e = .returned (v0_) ∧ MR.R (Kd.int .u8) 5 w' w.heap.size (fun _ => True) v0_ r ∧ Below w.heap.size w w' := by
  obtain rfl := Option.some.inj h
  have kc := fun (w : World) (C : Array Value) (n c : Nat) => Lib.run_convert_bytes_const (P := Try.prog) w 56 5 C n c Try.underlying56 Try.underlying5
  go_enter Try.func53, Try.ntmps53
  go_wp2
  go_ret
  exact ⟨_, rfl, MR.made w [65, 117, 116, 104, 111, 114, 105, 122, 97, 116, 105, 111, 110] (by decide) _ _ rfl, (Below.refl _ _).alloc (Nat.le_refl _) _⟩

def hertzstr_StrContentType.f : Option (List Int) := some ([67, 111, 110, 116, 101, 110, 116, 45, 84, 121, 112, 101] : List Int)
theorem hertzstr_StrContentType.calls (r : List Int) (w : World) (h : hertzstr_StrContentType.f = some r) :
    Calls Try.prog 54 #[] w fun e w' => ∃ v0_ : Value, e = .returned (v0_) ∧ MR.R (Kd.int .u8) 5 w' w.heap.size (fun _ => True) v0_ r ∧ Below w.heap.size w w' := by
  obtain rfl := Option.some.inj h
  have kc := fun (w : World) (C : Array Value) (n c : Nat) => Lib.run_convert_bytes_const (P := Try.prog) w 56 5 C n c Try.underlying56 Try.underlying5
  go_enter Try.func54, Try.ntmps54
  go_wp2
  go_ret
  exact ⟨_, rfl, MR.made w [67, 111, 110, 116, 101, 110, 116, 45, 84, 121, 112, 101] (by decide) _ _ rfl, (Below.refl _ _).alloc (Nat.le_refl _) _⟩

def hertzstr_StrContentEncoding.f : Option (List Int) := some ([67, 111, 110, 116, 101, 110, 116, 45, 69, 110, 99, 111, 100, 105, 110, 103] : List Int)
theorem hertzstr_StrContentEncoding.calls (r : List Int) (w : World) (h : hertzstr_StrContentEncoding.f = some r) :
    Calls Try.prog 55 #[] w fun e w' => ∃ v0_ : Value, e = .returned (v0_) ∧ MR.R (Kd.int .u8) 5 w' w.heap.size (fun _ => True) v0_ r ∧ Below w.heap.size w w' := by
  obtain rfl := Option.some.inj h
  have kc := fun (w : World) (C : Array Value) (n c : Nat) => Lib.run_convert_bytes_const (P := Try.prog) w 56 5 C n c Try.underlying56 Try.underlying5
  go_enter Try.func55, Try.ntmps55
  go_wp2
  go_ret
  exact ⟨_, rfl, MR.made w [67, 111, 110, 116, 101, 110, 116, 45, 69, 110, 99, 111, 100, 105, 110, 103] (by decide) _ _ rfl, (Below.refl _ _).alloc (Nat.le_refl _) _⟩

def hertzstr_StrContentLength.f : Option (List Int) := some ([67, 111, 110, 116, 101, 110, 116, 45, 76, 101, 110, 103, 116, 104] : List Int)
theorem hertzstr_StrContentLength.calls (r : List Int) (w : World) (h : hertzstr_StrContentLength.f = some r) :
    Calls Try.prog 56 #[] w fun e w' => ∃ v0_ : Value, e = .returned (v0_) ∧ MR.R (Kd.int .u8) 5 w' w.heap.size (fun _ => True) v0_ r ∧ Below w.heap.size w w' := by
  obtain rfl := Option.some.inj h
  have kc := fun (w : World) (C : Array Value) (n c : Nat) => Lib.run_convert_bytes_const (P := Try.prog) w 56 5 C n c Try.underlying56 Try.underlying5
  go_enter Try.func56, Try.ntmps56
  go_wp2
  go_ret
  exact ⟨_, rfl, MR.made w [67, 111, 110, 116, 101, 110, 116, 45, 76, 101, 110, 103, 116, 104] (by decide) _ _ rfl, (Below.refl _ _).alloc (Nat.le_refl _) _⟩

def hertzstr_StrContentRange.f : Option (List Int) := some ([67, 111, 110, 116, 101, 110, 116, 45, 82, 97, 110, 103, 101] : List Int)
theorem hertzstr_StrContentRange.calls (r : List Int) (w : World) (h : hertzstr_StrContentRange.f = some r) :
    Calls Try.prog 57 #[] w fun e w' => ∃ v0_ : Value, e = .returned (v0_) ∧ MR.R (Kd.int .u8) 5 w' w.heap.size (fun _ => True) v0_ r ∧ Below w.heap.size w w' := by
  obtain rfl := Option.some.inj h
  have kc := fun (w : World) (C : Array Value) (n c : Nat) => Lib.run_convert_bytes_const (P := Try.prog) w 56 5 C n c Try.underlying56 Try.underlying5
  go_enter Try.func57, Try.ntmps57
  go_wp2
  go_ret
  exact ⟨_, rfl, MR.made w [67, 111, 110, 116, 101, 110, 116, 45, 82, 97, 110, 103, 101] (by decide) _ _ rfl, (Below.refl _ _).alloc (Nat.le_refl _) _⟩

def hertzstr_StrConnection.f : Option (List Int) := some ([67, 111, 110, 110, 101, 99, 116, 105, 111, 110] : List Int)
theorem hertzstr_StrConnection.calls (r : List Int) (w : World) (h : hertzstr_StrConnection.f = some r) :
    Calls Try.prog 58 #[] w fun e w' => ∃ v0_ : Value, e = .returned (v0_) ∧ MR.R (Kd.int .u8) 5 w' w.heap.size (fun _ => True) v0_ r ∧ Below w.heap.size w w' := by
  obtain rfl := Option.some.inj h
  have kc := fun (w : World) (C : Array Value) (n c : Nat) => Lib.run_convert_bytes_const (P := Try.prog) w 56 5 C n c Try.underlying56 Try.underlying5
  go_enter Try.func58, Try.ntmps58
  go_wp2
  go_ret
  exact ⟨_, rfl, MR.made w [67, 111, 110, 110, 101, 99, 116, 105, 111, 110] (by decide) _ _ rfl, (Below.refl _ _).alloc (Nat.le_refl _) _⟩

def hertzstr_StrExpect.f : Option (List Int) := some ([69, 120, 112, 101, 99, 116] : List Int)
theorem hertzstr_StrExpect.calls (r : List Int) (w : World) (h : hertzstr_StrExpect.f = some r) :
    Calls Try.prog 59 #[] w fun e w' => ∃ v0_ : Value, e = .returned (v0_) ∧ MR.R (Kd.int .u8) 5 w' w.heap.size (fun _ => True) v0_ r ∧ Below w.heap.size w w' := by
  obtain rfl := Option.some.inj h
  have kc := fun (w : World) (C : Array Value) (n c : Nat) => Lib.run_convert_bytes_const (P := Try.prog) w 56 5 C n c Try.underlying56 Try.underlying5
  go_enter Try.func59, Try.ntmps59
  go_wp2
  go_ret
  exact ⟨_, rfl, MR.made w [69, 120, 112, 101, 99, 116] (by decide) _ _ rfl, (Below.refl _ _).alloc (Nat.le_refl _) _⟩

def hertzstr_StrHost.f : Option (List Int) := some ([72, 111, 115, 116] : List Int)
theorem hertzstr_StrHost.calls (r : List Int) (w : World) (h : hertzstr_StrHost.f = some r) :
    Calls Try.prog 60 #[] w fun e w' => ∃ v0_ : Value, e = .returned (v0_) ∧ MR.R (Kd.int .u8) 5 w' w.heap.size (fun _ => True) v0_ r ∧ Below w.heap.size w w' := by
  obtain rfl := Option.some.inj h
  have kc := fun (w : World) (C : Array Value) (n c : Nat) => Lib.run_convert_bytes_const (P := Try.prog) w 56 5 C n c Try.underlying56 Try.underlying5
  go_enter Try.func60, Try.ntmps60
  go_wp2
  go_ret
  exact ⟨_, rfl, MR.made w [72, 111, 115, 116] (by decide) _ _ rfl, (Below.refl _ _).alloc (Nat.le_refl _) _⟩

def hertzstr_StrKeepAlive.f : Option (List Int) := some ([107, 101, 101, 112, 45, 97, 108, 105, 118, 101] : List Int)
theorem hertzstr_StrKeepAlive.calls (r : List Int) (w : World) (h : hertzstr_StrKeepAlive.f = some r) :
    Calls Try.prog 61 #[] w fun e w' => ∃ v0_ : Value, e = .returned (v0_) ∧ MR.R (Kd.int .u8) 5 w' w.heap.size (fun _ => True) v0_ r ∧ Below w.heap.size w w' := by
  obtain rfl := Option.some.inj h
  have kc := fun (w : World) (C : Array Value) (n c : Nat) => Lib.run_convert_bytes_const (P := Try.prog) w 56 5 C n c Try.underlying56 Try.underlying5
  go_enter Try.func61, Try.ntmps61
  go_wp2
  go_ret
  exact ⟨_, rfl, MR.made w [107, 101, 101, 112, 45, 97, 108, 105, 118, 101] (by decide) _ _ rfl, (Below.refl _ _).alloc (Nat.le_refl _) _⟩

def hertzstr_StrMaxForwards.f : Option (List Int) := some ([77, 97, 120, 45, 70, 111, 114, 119, 97, 114, 100, 115] : List Int)
theorem hertzstr_StrMaxForwards.calls (r : List Int) (w : World) (h : hertzstr_StrMaxForwards.f = some r) :
    Calls Try.prog 62 #[] w fun e w' => ∃ v0_ : Value, e = .returned (v0_) ∧ MR.R (Kd.int .u8) 5 w' w.heap.size (fun _ => True) v0_ r ∧ Below w.heap.size w w' := by
  obtain rfl := Option.some.inj h
  have kc := fun (w : World) (C : Array Value) (n c : Nat) => Lib.run_convert_bytes_const (P := Try.prog) w 56 5 C n c Try.underlying56 Try.underlying5
  go_enter Try.func62, Try.ntmps62
  go_wp2
  go_ret
  exact ⟨_, rfl, MR.made w [77, 97, 120, 45, 70, 111, 114, 119, 97, 114, 100, 115] (by decide) _ _ rfl, (Below.refl _ _).alloc (Nat.le_refl _) _⟩

def hertzstr_StrProxyConnection.f : Option (List Int) := some ([80, 114, 111, 120, 121, 45, 67, 111, 110, 110, 101, 99, 116, 105, 111, 110] : List Int)
theorem hertzstr_StrProxyConnection.calls (r : List Int) (w : World) (h : hertzstr_StrProxyConnection.f = some r) :
    Calls Try.prog 63 #[] w fun e w' => ∃ v0_ : Value, e = .returned (v0_) ∧ MR.R (Kd.int .u8) 5 w' w.heap.size (fun _ => True) v0_ r ∧ Below w.heap.size w w' := by
  obtain rfl := Option.some.inj h
  have kc := fun (w : World) (C : Array Value) (n c : Nat) => Lib.run_convert_bytes_const (P := Try.prog) w 56 5 C n c Try.underlying56 Try.underlying5
  go_enter Try.func63, Try.ntmps63
  go_wp2
  go_ret
  exact ⟨_, rfl, MR.made w [80, 114, 111, 120, 121, 45, 67, 111, 110, 110, 101, 99, 116, 105, 111, 110] (by decide) _ _ rfl, (Below.refl _ _).alloc (Nat.le_refl _) _⟩

def hertzstr_StrProxyAuthenticate.f : Option (List Int) := some ([80, 114, 111, 120, 121, 45, 65, 117, 116, 104, 101, 110, 116, 105, 99, 97, 116, 101] : List Int)
theorem hertzstr_StrProxyAuthenticate.calls (r : List Int) (w : World) (h : hertzstr_StrProxyAuthenticate.f = some r) :
    Calls Try.prog 64 #[] w fun e w' => ∃ v0_ : Value, e = .returned (v0_) ∧ MR.R (Kd.int .u8) 5 w' w.heap.size (fun _ => True) v0_ r ∧ Below w.heap.size w w' := by
  obtain rfl := Option.some.inj h
  have kc := fun (w : World) (C : Array Value) (n c : Nat) => Lib.run_convert_bytes_const (P := Try.prog) w 56 5 C n c Try.underlying56 Try.underlying5
  go_enter Try.func64, Try.ntmps64
  go_wp2
  go_ret
  exact ⟨_, rfl, MR.made w [80, 114, 111, 120, 121, 45, 65, 117, 116, 104, 101, 110, 116, 105, 99, 97, 116, 101] (by decide) _ _ rfl, (Below.refl _ _).alloc (Nat.le_refl _) _⟩

def hertzstr_StrProxyAuthorization.f : Option (List Int) := some ([80, 114, 111, 120, 121, 45, 65, 117, 116, 104, 111, 114, 105, 122, 97, 116, 105, 111, 110] : List Int)
theorem hertzstr_StrProxyAuthorization.calls (r : List Int) (w : World) (h : hertzstr_StrProxyAuthorization.f = some r) :
    Calls Try.prog 65 #[] w fun e w' => ∃ v0_ : Value, e = .returned (v0_) ∧ MR.R (Kd.int .u8) 5 w' w.heap.size (fun _ => True) v0_ r ∧ Below w.heap.size w w' := by
  obtain rfl := Option.some.inj h
  have kc := fun (w : World) (C : Array Value) (n c : Nat) => Lib.run_convert_bytes_const (P := Try.prog) w 56 5 C n c Try.underlying56 Try.underlying5
  go_enter Try.func65, Try.ntmps65
  go_wp2
  go_ret
  exact ⟨_, rfl, MR.made w [80, 114, 111, 120, 121, 45, 65, 117, 116, 104, 111, 114, 105, 122, 97, 116, 105, 111, 110] (by decide) _ _ rfl, (Below.refl _ _).alloc (Nat.le_refl _) _⟩

def hertzstr_StrRange.f : Option (List Int) := some ([82, 97, 110, 103, 101] : List Int)
theorem hertzstr_StrRange.calls (r : List Int) (w : World) (h : hertzstr_StrRange.f = some r) :
    Calls Try.prog 66 #[] w fun e w' => ∃ v0_ : Value, e = .returned (v0_) ∧ MR.R (Kd.int .u8) 5 w' w.heap.size (fun _ => True) v0_ r ∧ Below w.heap.size w w' := by
  obtain rfl := Option.some.inj h
  have kc := fun (w : World) (C : Array Value) (n c : Nat) => Lib.run_convert_bytes_const (P := Try.prog) w 56 5 C n c Try.underlying56 Try.underlying5
  go_enter Try.func66, Try.ntmps66
  go_wp2
  go_ret
  exact ⟨_, rfl, MR.made w [82, 97, 110, 103, 101] (by decide) _ _ rfl, (Below.refl _ _).alloc (Nat.le_refl _) _⟩

def hertzstr_StrTE.f : Option (List Int) := some ([84, 69] : List Int)
theorem hertzstr_StrTE.calls (r : List Int) (w : World) (h : hertzstr_StrTE.f = some r) :
    Calls Try.prog 67 #[] w fun e w' => ∃ v0_ : Value, e = .returned (v0_) ∧ MR.R (Kd.int .u8) 5 w' w.heap.size (fun _ => True) v0_ r ∧ Below w.heap.size w w' := by
  obtain rfl := Option.some.inj h
  have kc := fun (w : World) (C : Array Value) (n c : Nat) => Lib.run_convert_bytes_const (P := Try.prog) w 56 5 C n c Try.underlying56 Try.underlying5
  go_enter Try.func67, Try.ntmps67
  go_wp2
  go_ret
  exact ⟨_, rfl, MR.made w [84, 69] (by decide) _ _ rfl, (Below.refl _ _).alloc (Nat.le_refl _) _⟩

def hertzstr_StrTrailer.f : Option (List Int) := some ([84, 114, 97, 105, 108, 101, 114] : List Int)
theorem hertzstr_StrTrailer.calls (r : List Int) (w : World) (h : hertzstr_StrTrailer.f = some r) :
    Calls Try.prog 68 #[] w fun e w' => ∃ v0_ : Value, e = .returned (v0_) ∧ MR.R (Kd.int .u8) 5 w' w.heap.size (fun _ => True) v0_ r ∧ Below w.heap.size w w' := by
  obtain rfl := Option.some.inj h
  have kc := fun (w : World) (C : Array Value) (n c : Nat) => Lib.run_convert_bytes_const (P := Try.prog) w 56 5 C n c Try.underlying56 Try.underlying5
  go_enter Try.func68, Try.ntmps68
  go_wp2
  go_ret
  exact ⟨_, rfl, MR.made w [84, 114, 97, 105, 108, 101, 114] (by decide) _ _ rfl, (Below.refl _ _).alloc (Nat.le_refl _) _⟩

def hertzstr_StrTransferEncoding.f : Option (List Int) := some ([84, 114, 97, 110, 115, 102, 101, 114, 45, 69, 110, 99, 111, 100, 105, 110, 103] : List Int)
theorem hertzstr_StrTransferEncoding.calls (r : List Int) (w : World) (h : hertzstr_StrTransferEncoding.f = some r) :
    Calls Try.prog 69 #[] w fun e w' => ∃ v0_ : Value, e = .returned (v0_) ∧ MR.R (Kd.int .u8) 5 w' w.heap.size (fun _ => True) v0_ r ∧ Below w.heap.size w w' := by
  obtain rfl := Option.some.inj h
  have kc := fun (w : World) (C : Array Value) (n c : Nat) => Lib.run_convert_bytes_const (P := Try.prog) w 56 5 C n c Try.underlying56 Try.underlying5
  go_enter Try.func69, Try.ntmps69
  go_wp2
  go_ret
  exact ⟨_, rfl, MR.made w [84, 114, 97, 110, 115, 102, 101, 114, 45, 69, 110, 99, 111, 100, 105, 110, 103] (by decide) _ _ rfl, (Below.refl _ _).alloc (Nat.le_refl _) _⟩

def hertzstr_StrWWWAuthenticate.f : Option (List Int) := some ([87, 87, 87, 45, 65, 117, 116, 104, 101, 110, 116, 105, 99, 97, 116, 101] : List Int)
theorem hertzstr_StrWWWAuthenticate.calls (r : List Int) (w : World) (h : hertzstr_StrWWWAuthenticate.f = some r) :
    Calls Try.prog 70 #[] w fun e w' => ∃ v0_ : Value, e = .returned (v0_) ∧ MR.R (Kd.int .u8) 5 w' w.heap.size (fun _ => True) v0_ r ∧ Below w.heap.size w w' := by
  obtain rfl := Option.some.inj h
  have kc := fun (w : World) (C : Array Value) (n c : Nat) => Lib.run_convert_bytes_const (P := Try.prog) w 56 5 C n c Try.underlying56 Try.underlying5
  go_enter Try.func70, Try.ntmps70
  go_wp2
  go_ret
  exact ⟨_, rfl, MR.made w [87, 87, 87, 45, 65, 117, 116, 104, 101, 110, 116, 105, 99, 97, 116, 101] (by decide) _ _ rfl, (Below.refl _ _).alloc (Nat.le_refl _) _⟩

end Go.Proofs.Ytjnnadpecendpaa.Given
