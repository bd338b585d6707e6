/- Texts of this claim, one behind the other (merged by wip/prune.py of this repo, without what the proof does not use): GStr, GStr3, QA3, QA5, LBad. -/
import Derived.Test.YtoimkmoalmmooaaZY1
import Derived.Test.YtoimkmoalmmooaaZY2
import Derived.Test.YtoimkmoalmmooaaZY3
import Derived.Test.YtoimkmoalmmooaaZY4
import Derived.Test.YtoimkmoalmmooaaZY5
import Derived.Test.YtoimkmoalmmooaaZY6
import Derived.Test.YtoimkmoalmmooaaZY8
import Derived.Below
import Derived.BigQuiet
import Derived.Deep.LoopGhost
import Derived.Deep.QuietTactic
import Derived.KernelRfl
import Derived.Laws.BytesArg
import Derived.Laws.RangeAny
import Derived.Laws.RangeString
import Derived.Laws.Slices
import Derived.Lib.ConvBytes
import Derived.Lib.Hide
import Derived.Lib.TrimU
import Derived.Outline
import Derived.OwnWalk
import Derived.RowKit3
import Derived.Tactics
import Derived.Test.YtoimkmoalmmooaaProg
import Derived.WalkKit
import Derived.WalkLawsBesides
import Derived.WalkMore
import Derived.WalkSpells
import Derived.WideLaws
set_option linter.unusedVariables false
set_option linter.unusedSimpArgs false
namespace Go.Proofs.Ytoimkmoalmmooaa.Given
open Go.RowKit Go.Proofs.YtoimkmoalmmooaaW.PrintWords Go.Proofs.YtoimkmoalmmooaaW.PrintLast Go.Proofs.YtoimkmoalmmooaaW.PrintMore
def hertzstr_StrAuthorization.f : Option (List Int) := some ([65, 117, 116, 104, 111, 114, 105, 122, 97, 116, 105, 111, 110] : List Int)
theorem hertzstr_StrAuthorization.calls (r : List Int) (w : World) (h : hertzstr_StrAuthorization.f = some r) :
    Calls Try.prog 81 #[] w fun e w' => ∃ v0_ : Value, e = .returned (v0_) ∧ MR.R (Kd.int .u8) 5 w' w.heap.size (fun _ => True) v0_ r ∧ Below w.heap.size w w' := by
  obtain rfl := Option.some.inj h
  have kc := fun (w : World) (C : Array Value) (n c : Nat) => Lib.run_convert_bytes_const (P := Try.prog) w 54 5 C n c Try.underlying54 Try.underlying5
  go_enter Try.func81, Try.ntmps81
  go_wp2
  go_ret
  exact ⟨_, rfl, MR.made w [65, 117, 116, 104, 111, 114, 105, 122, 97, 116, 105, 111, 110] (by decide) _ _ rfl, (Below.refl _ _).alloc (Nat.le_refl _) _⟩
def hertzstr_StrContentType.f : Option (List Int) := some ([67, 111, 110, 116, 101, 110, 116, 45, 84, 121, 112, 101] : List Int)
theorem hertzstr_StrContentType.calls (r : List Int) (w : World) (h : hertzstr_StrContentType.f = some r) :
    Calls Try.prog 82 #[] w fun e w' => ∃ v0_ : Value, e = .returned (v0_) ∧ MR.R (Kd.int .u8) 5 w' w.heap.size (fun _ => True) v0_ r ∧ Below w.heap.size w w' := by
  obtain rfl := Option.some.inj h
  have kc := fun (w : World) (C : Array Value) (n c : Nat) => Lib.run_convert_bytes_const (P := Try.prog) w 54 5 C n c Try.underlying54 Try.underlying5
  go_enter Try.func82, Try.ntmps82
  go_wp2
  go_ret
  exact ⟨_, rfl, MR.made w [67, 111, 110, 116, 101, 110, 116, 45, 84, 121, 112, 101] (by decide) _ _ rfl, (Below.refl _ _).alloc (Nat.le_refl _) _⟩
def hertzstr_StrContentEncoding.f : Option (List Int) := some ([67, 111, 110, 116, 101, 110, 116, 45, 69, 110, 99, 111, 100, 105, 110, 103] : List Int)
theorem hertzstr_StrContentEncoding.calls (r : List Int) (w : World) (h : hertzstr_StrContentEncoding.f = some r) :
    Calls Try.prog 83 #[] w fun e w' => ∃ v0_ : Value, e = .returned (v0_) ∧ MR.R (Kd.int .u8) 5 w' w.heap.size (fun _ => True) v0_ r ∧ Below w.heap.size w w' := by
  obtain rfl := Option.some.inj h
  have kc := fun (w : World) (C : Array Value) (n c : Nat) => Lib.run_convert_bytes_const (P := Try.prog) w 54 5 C n c Try.underlying54 Try.underlying5
  go_enter Try.func83, Try.ntmps83
  go_wp2
  go_ret
  exact ⟨_, rfl, MR.made w [67, 111, 110, 116, 101, 110, 116, 45, 69, 110, 99, 111, 100, 105, 110, 103] (by decide) _ _ rfl, (Below.refl _ _).alloc (Nat.le_refl _) _⟩
def hertzstr_StrContentLength.f : Option (List Int) := some ([67, 111, 110, 116, 101, 110, 116, 45, 76, 101, 110, 103, 116, 104] : List Int)
theorem hertzstr_StrContentLength.calls (r : List Int) (w : World) (h : hertzstr_StrContentLength.f = some r) :
    Calls Try.prog 84 #[] w fun e w' => ∃ v0_ : Value, e = .returned (v0_) ∧ MR.R (Kd.int .u8) 5 w' w.heap.size (fun _ => True) v0_ r ∧ Below w.heap.size w w' := by
  obtain rfl := Option.some.inj h
  have kc := fun (w : World) (C : Array Value) (n c : Nat) => Lib.run_convert_bytes_const (P := Try.prog) w 54 5 C n c Try.underlying54 Try.underlying5
  go_enter Try.func84, Try.ntmps84
  go_wp2
  go_ret
  exact ⟨_, rfl, MR.made w [67, 111, 110, 116, 101, 110, 116, 45, 76, 101, 110, 103, 116, 104] (by decide) _ _ rfl, (Below.refl _ _).alloc (Nat.le_refl _) _⟩
def hertzstr_StrContentRange.f : Option (List Int) := some ([67, 111, 110, 116, 101, 110, 116, 45, 82, 97, 110, 103, 101] : List Int)
theorem hertzstr_StrContentRange.calls (r : List Int) (w : World) (h : hertzstr_StrContentRange.f = some r) :
    Calls Try.prog 85 #[] w fun e w' => ∃ v0_ : Value, e = .returned (v0_) ∧ MR.R (Kd.int .u8) 5 w' w.heap.size (fun _ => True) v0_ r ∧ Below w.heap.size w w' := by
  obtain rfl := Option.some.inj h
  have kc := fun (w : World) (C : Array Value) (n c : Nat) => Lib.run_convert_bytes_const (P := Try.prog) w 54 5 C n c Try.underlying54 Try.underlying5
  go_enter Try.func85, Try.ntmps85
  go_wp2
  go_ret
  exact ⟨_, rfl, MR.made w [67, 111, 110, 116, 101, 110, 116, 45, 82, 97, 110, 103, 101] (by decide) _ _ rfl, (Below.refl _ _).alloc (Nat.le_refl _) _⟩
def hertzstr_StrConnection.f : Option (List Int) := some ([67, 111, 110, 110, 101, 99, 116, 105, 111, 110] : List Int)
theorem hertzstr_StrConnection.calls (r : List Int) (w : World) (h : hertzstr_StrConnection.f = some r) :
    Calls Try.prog 86 #[] w fun e w' => ∃ v0_ : Value, e = .returned (v0_) ∧ MR.R (Kd.int .u8) 5 w' w.heap.size (fun _ => True) v0_ r ∧ Below w.heap.size w w' := by
  obtain rfl := Option.some.inj h
  have kc := fun (w : World) (C : Array Value) (n c : Nat) => Lib.run_convert_bytes_const (P := Try.prog) w 54 5 C n c Try.underlying54 Try.underlying5
  go_enter Try.func86, Try.ntmps86
  go_wp2
  go_ret
  exact ⟨_, rfl, MR.made w [67, 111, 110, 110, 101, 99, 116, 105, 111, 110] (by decide) _ _ rfl, (Below.refl _ _).alloc (Nat.le_refl _) _⟩
def hertzstr_StrExpect.f : Option (List Int) := some ([69, 120, 112, 101, 99, 116] : List Int)
theorem hertzstr_StrExpect.calls (r : List Int) (w : World) (h : hertzstr_StrExpect.f = some r) :
    Calls Try.prog 87 #[] w fun e w' => ∃ v0_ : Value, e = .returned (v0_) ∧ MR.R (Kd.int .u8) 5 w' w.heap.size (fun _ => True) v0_ r ∧ Below w.heap.size w w' := by
  obtain rfl := Option.some.inj h
  have kc := fun (w : World) (C : Array Value) (n c : Nat) => Lib.run_convert_bytes_const (P := Try.prog) w 54 5 C n c Try.underlying54 Try.underlying5
  go_enter Try.func87, Try.ntmps87
  go_wp2
  go_ret
  exact ⟨_, rfl, MR.made w [69, 120, 112, 101, 99, 116] (by decide) _ _ rfl, (Below.refl _ _).alloc (Nat.le_refl _) _⟩
def hertzstr_StrHost.f : Option (List Int) := some ([72, 111, 115, 116] : List Int)
theorem hertzstr_StrHost.calls (r : List Int) (w : World) (h : hertzstr_StrHost.f = some r) :
    Calls Try.prog 88 #[] w fun e w' => ∃ v0_ : Value, e = .returned (v0_) ∧ MR.R (Kd.int .u8) 5 w' w.heap.size (fun _ => True) v0_ r ∧ Below w.heap.size w w' := by
  obtain rfl := Option.some.inj h
  have kc := fun (w : World) (C : Array Value) (n c : Nat) => Lib.run_convert_bytes_const (P := Try.prog) w 54 5 C n c Try.underlying54 Try.underlying5
  go_enter Try.func88, Try.ntmps88
  go_wp2
  go_ret
  exact ⟨_, rfl, MR.made w [72, 111, 115, 116] (by decide) _ _ rfl, (Below.refl _ _).alloc (Nat.le_refl _) _⟩
def hertzstr_StrKeepAlive.f : Option (List Int) := some ([107, 101, 101, 112, 45, 97, 108, 105, 118, 101] : List Int)
theorem hertzstr_StrKeepAlive.calls (r : List Int) (w : World) (h : hertzstr_StrKeepAlive.f = some r) :
    Calls Try.prog 89 #[] w fun e w' => ∃ v0_ : Value, e = .returned (v0_) ∧ MR.R (Kd.int .u8) 5 w' w.heap.size (fun _ => True) v0_ r ∧ Below w.heap.size w w' := by
  obtain rfl := Option.some.inj h
  have kc := fun (w : World) (C : Array Value) (n c : Nat) => Lib.run_convert_bytes_const (P := Try.prog) w 54 5 C n c Try.underlying54 Try.underlying5
  go_enter Try.func89, Try.ntmps89
  go_wp2
  go_ret
  exact ⟨_, rfl, MR.made w [107, 101, 101, 112, 45, 97, 108, 105, 118, 101] (by decide) _ _ rfl, (Below.refl _ _).alloc (Nat.le_refl _) _⟩
def hertzstr_StrMaxForwards.f : Option (List Int) := some ([77, 97, 120, 45, 70, 111, 114, 119, 97, 114, 100, 115] : List Int)
theorem hertzstr_StrMaxForwards.calls (r : List Int) (w : World) (h : hertzstr_StrMaxForwards.f = some r) :
    Calls Try.prog 90 #[] w fun e w' => ∃ v0_ : Value, e = .returned (v0_) ∧ MR.R (Kd.int .u8) 5 w' w.heap.size (fun _ => True) v0_ r ∧ Below w.heap.size w w' := by
  obtain rfl := Option.some.inj h
  have kc := fun (w : World) (C : Array Value) (n c : Nat) => Lib.run_convert_bytes_const (P := Try.prog) w 54 5 C n c Try.underlying54 Try.underlying5
  go_enter Try.func90, Try.ntmps90
  go_wp2
  go_ret
  exact ⟨_, rfl, MR.made w [77, 97, 120, 45, 70, 111, 114, 119, 97, 114, 100, 115] (by decide) _ _ rfl, (Below.refl _ _).alloc (Nat.le_refl _) _⟩
def hertzstr_StrProxyConnection.f : Option (List Int) := some ([80, 114, 111, 120, 121, 45, 67, 111, 110, 110, 101, 99, 116, 105, 111, 110] : List Int)
theorem hertzstr_StrProxyConnection.calls (r : List Int) (w : World) (h : hertzstr_StrProxyConnection.f = some r) :
    Calls Try.prog 91 #[] w fun e w' => ∃ v0_ : Value, e = .returned (v0_) ∧ MR.R (Kd.int .u8) 5 w' w.heap.size (fun _ => True) v0_ r ∧ Below w.heap.size w w' := by
  obtain rfl := Option.some.inj h
  have kc := fun (w : World) (C : Array Value) (n c : Nat) => Lib.run_convert_bytes_const (P := Try.prog) w 54 5 C n c Try.underlying54 Try.underlying5
  go_enter Try.func91, Try.ntmps91
  go_wp2
  go_ret
  exact ⟨_, rfl, MR.made w [80, 114, 111, 120, 121, 45, 67, 111, 110, 110, 101, 99, 116, 105, 111, 110] (by decide) _ _ rfl, (Below.refl _ _).alloc (Nat.le_refl _) _⟩
def hertzstr_StrProxyAuthenticate.f : Option (List Int) := some ([80, 114, 111, 120, 121, 45, 65, 117, 116, 104, 101, 110, 116, 105, 99, 97, 116, 101] : List Int)
theorem hertzstr_StrProxyAuthenticate.calls (r : List Int) (w : World) (h : hertzstr_StrProxyAuthenticate.f = some r) :
    Calls Try.prog 92 #[] w fun e w' => ∃ v0_ : Value, e = .returned (v0_) ∧ MR.R (Kd.int .u8) 5 w' w.heap.size (fun _ => True) v0_ r ∧ Below w.heap.size w w' := by
  obtain rfl := Option.some.inj h
  have kc := fun (w : World) (C : Array Value) (n c : Nat) => Lib.run_convert_bytes_const (P := Try.prog) w 54 5 C n c Try.underlying54 Try.underlying5
  go_enter Try.func92, Try.ntmps92
  go_wp2
  go_ret
  exact ⟨_, rfl, MR.made w [80, 114, 111, 120, 121, 45, 65, 117, 116, 104, 101, 110, 116, 105, 99, 97, 116, 101] (by decide) _ _ rfl, (Below.refl _ _).alloc (Nat.le_refl _) _⟩
def hertzstr_StrProxyAuthorization.f : Option (List Int) := some ([80, 114, 111, 120, 121, 45, 65, 117, 116, 104, 111, 114, 105, 122, 97, 116, 105, 111, 110] : List Int)
theorem hertzstr_StrProxyAuthorization.calls (r : List Int) (w : World) (h : hertzstr_StrProxyAuthorization.f = some r) :
    Calls Try.prog 93 #[] w fun e w' => ∃ v0_ : Value, e = .returned (v0_) ∧ MR.R (Kd.int .u8) 5 w' w.heap.size (fun _ => True) v0_ r ∧ Below w.heap.size w w' := by
  obtain rfl := Option.some.inj h
  have kc := fun (w : World) (C : Array Value) (n c : Nat) => Lib.run_convert_bytes_const (P := Try.prog) w 54 5 C n c Try.underlying54 Try.underlying5
  go_enter Try.func93, Try.ntmps93
  go_wp2
  go_ret
  exact ⟨_, rfl, MR.made w [80, 114, 111, 120, 121, 45, 65, 117, 116, 104, 111, 114, 105, 122, 97, 116, 105, 111, 110] (by decide) _ _ rfl, (Below.refl _ _).alloc (Nat.le_refl _) _⟩
def hertzstr_StrRange.f : Option (List Int) := some ([82, 97, 110, 103, 101] : List Int)
theorem hertzstr_StrRange.calls (r : List Int) (w : World) (h : hertzstr_StrRange.f = some r) :
    Calls Try.prog 94 #[] w fun e w' => ∃ v0_ : Value, e = .returned (v0_) ∧ MR.R (Kd.int .u8) 5 w' w.heap.size (fun _ => True) v0_ r ∧ Below w.heap.size w w' := by
  obtain rfl := Option.some.inj h
  have kc := fun (w : World) (C : Array Value) (n c : Nat) => Lib.run_convert_bytes_const (P := Try.prog) w 54 5 C n c Try.underlying54 Try.underlying5
  go_enter Try.func94, Try.ntmps94
  go_wp2
  go_ret
  exact ⟨_, rfl, MR.made w [82, 97, 110, 103, 101] (by decide) _ _ rfl, (Below.refl _ _).alloc (Nat.le_refl _) _⟩
def hertzstr_StrTE.f : Option (List Int) := some ([84, 69] : List Int)
theorem hertzstr_StrTE.calls (r : List Int) (w : World) (h : hertzstr_StrTE.f = some r) :
    Calls Try.prog 95 #[] w fun e w' => ∃ v0_ : Value, e = .returned (v0_) ∧ MR.R (Kd.int .u8) 5 w' w.heap.size (fun _ => True) v0_ r ∧ Below w.heap.size w w' := by
  obtain rfl := Option.some.inj h
  have kc := fun (w : World) (C : Array Value) (n c : Nat) => Lib.run_convert_bytes_const (P := Try.prog) w 54 5 C n c Try.underlying54 Try.underlying5
  go_enter Try.func95, Try.ntmps95
  go_wp2
  go_ret
  exact ⟨_, rfl, MR.made w [84, 69] (by decide) _ _ rfl, (Below.refl _ _).alloc (Nat.le_refl _) _⟩
def hertzstr_StrTrailer.f : Option (List Int) := some ([84, 114, 97, 105, 108, 101, 114] : List Int)
theorem hertzstr_StrTrailer.calls (r : List Int) (w : World) (h : hertzstr_StrTrailer.f = some r) :
    Calls Try.prog 96 #[] w fun e w' => ∃ v0_ : Value, e = .returned (v0_) ∧ MR.R (Kd.int .u8) 5 w' w.heap.size (fun _ => True) v0_ r ∧ Below w.heap.size w w' := by
  obtain rfl := Option.some.inj h
  have kc := fun (w : World) (C : Array Value) (n c : Nat) => Lib.run_convert_bytes_const (P := Try.prog) w 54 5 C n c Try.underlying54 Try.underlying5
  go_enter Try.func96, Try.ntmps96
  go_wp2
  go_ret
  exact ⟨_, rfl, MR.made w [84, 114, 97, 105, 108, 101, 114] (by decide) _ _ rfl, (Below.refl _ _).alloc (Nat.le_refl _) _⟩
def hertzstr_StrTransferEncoding.f : Option (List Int) := some ([84, 114, 97, 110, 115, 102, 101, 114, 45, 69, 110, 99, 111, 100, 105, 110, 103] : List Int)
theorem hertzstr_StrTransferEncoding.calls (r : List Int) (w : World) (h : hertzstr_StrTransferEncoding.f = some r) :
    Calls Try.prog 97 #[] w fun e w' => ∃ v0_ : Value, e = .returned (v0_) ∧ MR.R (Kd.int .u8) 5 w' w.heap.size (fun _ => True) v0_ r ∧ Below w.heap.size w w' := by
  obtain rfl := Option.some.inj h
  have kc := fun (w : World) (C : Array Value) (n c : Nat) => Lib.run_convert_bytes_const (P := Try.prog) w 54 5 C n c Try.underlying54 Try.underlying5
  go_enter Try.func97, Try.ntmps97
  go_wp2
  go_ret
  exact ⟨_, rfl, MR.made w [84, 114, 97, 110, 115, 102, 101, 114, 45, 69, 110, 99, 111, 100, 105, 110, 103] (by decide) _ _ rfl, (Below.refl _ _).alloc (Nat.le_refl _) _⟩
def hertzstr_StrWWWAuthenticate.f : Option (List Int) := some ([87, 87, 87, 45, 65, 117, 116, 104, 101, 110, 116, 105, 99, 97, 116, 101] : List Int)
theorem hertzstr_StrWWWAuthenticate.calls (r : List Int) (w : World) (h : hertzstr_StrWWWAuthenticate.f = some r) :
    Calls Try.prog 98 #[] w fun e w' => ∃ v0_ : Value, e = .returned (v0_) ∧ MR.R (Kd.int .u8) 5 w' w.heap.size (fun _ => True) v0_ r ∧ Below w.heap.size w w' := by
  obtain rfl := Option.some.inj h
  have kc := fun (w : World) (C : Array Value) (n c : Nat) => Lib.run_convert_bytes_const (P := Try.prog) w 54 5 C n c Try.underlying54 Try.underlying5
  go_enter Try.func98, Try.ntmps98
  go_wp2
  go_ret
  exact ⟨_, rfl, MR.made w [87, 87, 87, 45, 65, 117, 116, 104, 101, 110, 116, 105, 99, 97, 116, 101] (by decide) _ _ rfl, (Below.refl _ _).alloc (Nat.le_refl _) _⟩
def hertzstr_StrCommaSpace.f : Option (List Int) := some ([44, 32] : List Int)
theorem hertzstr_StrCommaSpace.calls (r : List Int) (w : World) (h : hertzstr_StrCommaSpace.f = some r) :
    Calls Try.prog 65 #[] w fun e w' => ∃ v0_ : Value, e = .returned (v0_) ∧ MR.R (Kd.int .u8) 5 w' w.heap.size (fun _ => True) v0_ r ∧ Below w.heap.size w w' := by
  obtain rfl := Option.some.inj h
  have kc := fun (w : World) (C : Array Value) (n c : Nat) => Lib.run_convert_bytes_const (P := Try.prog) w 54 5 C n c Try.underlying54 Try.underlying5
  go_enter Try.func65, Try.ntmps65
  go_wp2
  go_ret
  exact ⟨_, rfl, MR.made w [44, 32] (by decide) _ _ rfl, (Below.refl _ _).alloc (Nat.le_refl _) _⟩
def hertzstr_StrCRLF.f : Option (List Int) := some ([13, 10] : List Int)
theorem hertzstr_StrCRLF.calls (r : List Int) (w : World) (h : hertzstr_StrCRLF.f = some r) :
    Calls Try.prog 72 #[] w fun e w' => ∃ v0_ : Value, e = .returned (v0_) ∧ MR.R (Kd.int .u8) 5 w' w.heap.size (fun _ => True) v0_ r ∧ Below w.heap.size w w' := by
  obtain rfl := Option.some.inj h
  have kc := fun (w : World) (C : Array Value) (n c : Nat) => Lib.run_convert_bytes_const (P := Try.prog) w 54 5 C n c Try.underlying54 Try.underlying5
  go_enter Try.func72, Try.ntmps72
  go_wp2
  go_ret
  exact ⟨_, rfl, MR.made w [13, 10] (by decide) _ _ rfl, (Below.refl _ _).alloc (Nat.le_refl _) _⟩
def hertzstr_StrColonSpace.f : Option (List Int) := some ([58, 32] : List Int)
theorem hertzstr_StrColonSpace.calls (r : List Int) (w : World) (h : hertzstr_StrColonSpace.f = some r) :
    Calls Try.prog 100 #[] w fun e w' => ∃ v0_ : Value, e = .returned (v0_) ∧ MR.R (Kd.int .u8) 5 w' w.heap.size (fun _ => True) v0_ r ∧ Below w.heap.size w w' := by
  obtain rfl := Option.some.inj h
  have kc := fun (w : World) (C : Array Value) (n c : Nat) => Lib.run_convert_bytes_const (P := Try.prog) w 54 5 C n c Try.underlying54 Try.underlying5
  go_enter Try.func100, Try.ntmps100
  go_wp2
  go_ret
  exact ⟨_, rfl, MR.made w [58, 32] (by decide) _ _ rfl, (Below.refl _ _).alloc (Nat.le_refl _) _⟩
end Go.Proofs.Ytoimkmoalmmooaa.Given
namespace Go.Proofs.Ytoimkmoalmmooaa.QA
open Go.Proofs.Ytoimkmoalmmooaa.Given
open Go.Proofs.Ytoimkmoalmmooaa.PrX
open Go.RowKit Go.Proofs.YtoimkmoalmmooaaW.PrintWords Go.Proofs.YtoimkmoalmmooaaW.PrintLast Go.Proofs.YtoimkmoalmmooaaW.PrintMore
mutual
def hertzproto_IsBadTrailer.j0 : Nat → List Int → Bool → Option (Bool)
  | 0, _, _ => none
  | k + 1, x0, x23 => if x23 = true then (if 8 ≤ (x0.length : Int) then ((hertzstr_StrContentEncoding.f).bind fun t118 => (if 8 ≤ (t118.length : Int) then ((hertzutils_CaseInsensitiveCompare.f k (x0.drop 8) (t118.drop 8)).bind fun t125 => (if t125 = true then (some true) else ((hertzstr_StrContentLength.f).bind fun t127 => (if 8 ≤ (t127.length : Int) then ((hertzutils_CaseInsensitiveCompare.f k (x0.drop 8) (t127.drop 8)).bind fun t134 => (if t134 = true then (some true) else ((hertzstr_StrContentType.f).bind fun t136 => (if 8 ≤ (t136.length : Int) then ((hertzutils_CaseInsensitiveCompare.f k (x0.drop 8) (t136.drop 8)).bind fun t143 => (if t143 = true then (some true) else ((hertzstr_StrContentRange.f).bind fun t145 => (if 8 ≤ (t145.length : Int) then ((hertzutils_CaseInsensitiveCompare.f k (x0.drop 8) (t145.drop 8)).bind fun t152 => (some t152)) else (none))))) else (none))))) else (none))))) else (none))) else (none)) else ((hertzstr_StrConnection.f).bind fun t153 => ((hertzutils_CaseInsensitiveCompare.f k x0 t153).bind fun t156 => (some t156)))
def hertzproto_IsBadTrailer.j1 : Nat → List Int → Bool → Option (Bool)
  | 0, _, _ => none
  | k + 1, x0, x84 => if x84 = true then (if 6 ≤ (x0.length : Int) then ((hertzstr_StrProxyConnection.f).bind fun t183 => (if 6 ≤ (t183.length : Int) then ((hertzutils_CaseInsensitiveCompare.f k (x0.drop 6) (t183.drop 6)).bind fun t190 => (if t190 = true then (some true) else ((hertzstr_StrProxyAuthenticate.f).bind fun t192 => (if 6 ≤ (t192.length : Int) then ((hertzutils_CaseInsensitiveCompare.f k (x0.drop 6) (t192.drop 6)).bind fun t199 => (if t199 = true then (some true) else ((hertzstr_StrProxyAuthorization.f).bind fun t201 => (if 6 ≤ (t201.length : Int) then ((hertzutils_CaseInsensitiveCompare.f k (x0.drop 6) (t201.drop 6)).bind fun t208 => (some t208)) else (none))))) else (none))))) else (none))) else (none)) else (some false)
end
def hertzproto_IsBadTrailer.f (k : Nat) (l0 : List Int) : Option (Bool) := if 0 < (l0.length : Int) then (if (Go.bits .or .u8 (rd l0 0) 32) = 97 then ((hertzstr_StrAuthorization.f).bind fun t104 => ((hertzutils_CaseInsensitiveCompare.f k l0 t104).bind fun t107 => (some t107))) else (if (Go.bits .or .u8 (rd l0 0) 32) = 99 then (if (l0.length : Int) ≥ 12 then (if 8 ≤ (l0.length : Int) then ((hertzstr_StrContentType.f).bind fun t109 => (if 8 ≤ (t109.length : Int) then ((hertzutils_CaseInsensitiveCompare.f k (l0.take 8) (t109.take 8)).bind fun t116 => (hertzproto_IsBadTrailer.j0 k l0 t116)) else (none))) else (none)) else (hertzproto_IsBadTrailer.j0 k l0 false)) else (if (Go.bits .or .u8 (rd l0 0) 32) = 101 then ((hertzstr_StrExpect.f).bind fun t157 => ((hertzutils_CaseInsensitiveCompare.f k l0 t157).bind fun t160 => (some t160))) else (if (Go.bits .or .u8 (rd l0 0) 32) = 104 then ((hertzstr_StrHost.f).bind fun t161 => ((hertzutils_CaseInsensitiveCompare.f k l0 t161).bind fun t164 => (some t164))) else (if (Go.bits .or .u8 (rd l0 0) 32) = 107 then ((hertzstr_StrKeepAlive.f).bind fun t165 => ((hertzutils_CaseInsensitiveCompare.f k l0 t165).bind fun t168 => (some t168))) else (if (Go.bits .or .u8 (rd l0 0) 32) = 109 then ((hertzstr_StrMaxForwards.f).bind fun t169 => ((hertzutils_CaseInsensitiveCompare.f k l0 t169).bind fun t172 => (some t172))) else (if (Go.bits .or .u8 (rd l0 0) 32) = 112 then (if (l0.length : Int) ≥ 16 then (if 6 ≤ (l0.length : Int) then ((hertzstr_StrProxyConnection.f).bind fun t174 => (if 6 ≤ (t174.length : Int) then ((hertzutils_CaseInsensitiveCompare.f k (l0.take 6) (t174.take 6)).bind fun t181 => (hertzproto_IsBadTrailer.j1 k l0 t181)) else (none))) else (none)) else (hertzproto_IsBadTrailer.j1 k l0 false)) else (if (Go.bits .or .u8 (rd l0 0) 32) = 114 then ((hertzstr_StrRange.f).bind fun t209 => ((hertzutils_CaseInsensitiveCompare.f k l0 t209).bind fun t212 => (some t212))) else (if (Go.bits .or .u8 (rd l0 0) 32) = 116 then ((hertzstr_StrTE.f).bind fun t213 => ((hertzutils_CaseInsensitiveCompare.f k l0 t213).bind fun t216 => (if t216 = true then (some true) else ((hertzstr_StrTrailer.f).bind fun t217 => ((hertzutils_CaseInsensitiveCompare.f k l0 t217).bind fun t220 => (if t220 = true then (some true) else ((hertzstr_StrTransferEncoding.f).bind fun t221 => ((hertzutils_CaseInsensitiveCompare.f k l0 t221).bind fun t224 => (some t224))))))))) else (if (Go.bits .or .u8 (rd l0 0) 32) = 119 then ((hertzstr_StrWWWAuthenticate.f).bind fun t225 => ((hertzutils_CaseInsensitiveCompare.f k l0 t225).bind fun t228 => (some t228))) else (some false))))))))))) else (none)
def hertzproto_IsBadTrailer.T5 : Bool × List (List Nat × List Nat) := (true, [([], []), ([0], [0]), ([1], [1]), ([2], [2]), ([3], [3]), ([4, 3], [3, 4]), ([3, 3], [3]), ([6, 3], [3, 6]), ([5, 7, 6, 3], [3, 5, 7]), ([3, 8], [3, 8])])
def hertzproto_IsBadTrailer.B5 : List Nat := [0, 1, 3, 7, 15, 31, 15, 79, 255, 511]
theorem hertzproto_IsBadTrailer.tab5 : rtab .any (opsOf Try.f68 5) = hertzproto_IsBadTrailer.T5 := by kernel_rfl
theorem hertzproto_IsBadTrailer.bits5 : waitsOk hertzproto_IsBadTrailer.T5.2 hertzproto_IsBadTrailer.B5 = true := by kernel_rfl
def hertzproto_IsBadTrailer.T6 : Bool × List (List Nat × List Nat) := (true, [([], []), ([0], [0]), ([], []), ([2], [2]), ([1, 3, 2], [1, 3]), ([4, 4], [4]), ([5], [5]), ([6, 5], [5, 6]), ([5, 5], [5]), ([8, 5], [5, 8]), ([7, 9, 8, 5], [5, 7, 9]), ([5, 10], [5, 10]), ([11, 10], [11]), ([12], [12]), ([13, 12], [12, 13]), ([12, 12], [12]), ([15, 12], [12, 15]), ([14, 16, 15, 12], [12, 14, 16]), ([12, 17], [12, 17]), ([18, 17], [18]), ([19], [19]), ([20, 19], [19, 20]), ([19, 19], [19]), ([22, 19], [19, 22]), ([21, 23, 22, 19], [19, 21, 23]), ([19, 24], [19, 24]), ([25, 24, 0, 1, 2, 3, 4, 5, 6, 7, 8, 9, 10, 11, 12, 13, 14, 15, 16, 17, 18, 19, 20, 21, 22, 23, 24, 25], [25])])
def hertzproto_IsBadTrailer.B6 : List Nat := [0, 1, 0, 4, 15, 31, 63, 127, 63, 319, 1023, 2047, 4095, 8191, 16383, 8191, 40959, 131071, 262143, 524287, 1048575, 2097151, 1048575, 5242879, 16777215, 33554431, 67108863]
theorem hertzproto_IsBadTrailer.tab6 : rtab .any (opsOf Try.f68 6) = hertzproto_IsBadTrailer.T6 := by kernel_rfl
theorem hertzproto_IsBadTrailer.bits6 : waitsOk hertzproto_IsBadTrailer.T6.2 hertzproto_IsBadTrailer.B6 = true := by kernel_rfl
def hertzproto_IsBadTrailer.T17 : Bool × List (List Nat × List Nat) := (true, [([], []), ([0], [0]), ([1], [1]), ([2], [2]), ([3], [3]), ([4, 3], [3, 4]), ([3, 3], [3]), ([6, 3], [3, 6]), ([5, 7, 6, 3], [3, 5, 7]), ([3, 8], [3, 8])])
def hertzproto_IsBadTrailer.B17 : List Nat := [0, 1, 3, 7, 15, 31, 15, 79, 255, 511]
theorem hertzproto_IsBadTrailer.tab17 : rtab .any (opsOf Try.f68 17) = hertzproto_IsBadTrailer.T17 := by kernel_rfl
theorem hertzproto_IsBadTrailer.bits17 : waitsOk hertzproto_IsBadTrailer.T17.2 hertzproto_IsBadTrailer.B17 = true := by kernel_rfl
def hertzproto_IsBadTrailer.T18 : Bool × List (List Nat × List Nat) := (true, [([], []), ([0], [0]), ([], []), ([2], [2]), ([1, 3, 2], [1, 3]), ([4, 4], [4]), ([5], [5]), ([6, 5], [5, 6]), ([5, 5], [5]), ([8, 5], [5, 8]), ([7, 9, 8, 5], [5, 7, 9]), ([5, 10], [5, 10]), ([11, 10], [11]), ([12], [12]), ([13, 12], [12, 13]), ([12, 12], [12]), ([15, 12], [12, 15]), ([14, 16, 15, 12], [12, 14, 16]), ([12, 17], [12, 17]), ([18, 17, 0, 1, 2, 3, 4, 5, 6, 7, 8, 9, 10, 11, 12, 13, 14, 15, 16, 17, 18], [18])])
def hertzproto_IsBadTrailer.B18 : List Nat := [0, 1, 0, 4, 15, 31, 63, 127, 63, 319, 1023, 2047, 4095, 8191, 16383, 8191, 40959, 131071, 262143, 524287]
theorem hertzproto_IsBadTrailer.tab18 : rtab .any (opsOf Try.f68 18) = hertzproto_IsBadTrailer.T18 := by kernel_rfl
theorem hertzproto_IsBadTrailer.bits18 : waitsOk hertzproto_IsBadTrailer.T18.2 hertzproto_IsBadTrailer.B18 = true := by kernel_rfl
end Go.Proofs.Ytoimkmoalmmooaa.QA
namespace Go.Proofs.Ytoimkmoalmmooaa.QA
open Go.Proofs.Ytoimkmoalmmooaa.Given
open Go.Proofs.Ytoimkmoalmmooaa.PrX
open Go.RowKit Go.Proofs.YtoimkmoalmmooaaW.PrintWords Go.Proofs.YtoimkmoalmmooaaW.PrintLast Go.Proofs.YtoimkmoalmmooaaW.PrintMore
set_option maxHeartbeats 8000000 in
set_option maxRecDepth 100000 in
theorem hertzproto_IsBadTrailer.calls_1 (k : Nat) (A0 : Option Addr) (c0 : Nat) (l0 : List Int) (r : Bool) (w : World) (hr0 : Kd.C (Kd.int .u8) w A0 l0.length l0) (hc0 : l0.length ≤ c0) (hcase : (Go.bits .or .u8 (rd l0 0) 32) = 112) (h : hertzproto_IsBadTrailer.f k l0 = some r) :
  Calls Try.prog 68 #[.slice A0 l0.length c0] w fun e w' => e = .returned (.bool r) ∧ Below w.heap.size w w' := by
 have HCASE_ := Aside0.mk hcase
 clear hcase
 have HR0 := Aside0.mk hr0
 have HC0 := Aside0.mk hc0
 clear hr0 hc0
 have HB := Aside0.mk (Below.refl w.heap.size w)
 have H : (if 0 < (l0.length : Int) then (if (Go.bits .or .u8 (rd l0 0) 32) = 97 then ((hertzstr_StrAuthorization.f).bind fun t104 => ((hertzutils_CaseInsensitiveCompare.f k l0 t104).bind fun t107 => (some t107))) else (if (Go.bits .or .u8 (rd l0 0) 32) = 99 then (if (l0.length : Int) ≥ 12 then (if 8 ≤ (l0.length : Int) then ((hertzstr_StrContentType.f).bind fun t109 => (if 8 ≤ (t109.length : Int) then ((hertzutils_CaseInsensitiveCompare.f k (l0.take 8) (t109.take 8)).bind fun t116 => (hertzproto_IsBadTrailer.j0 k l0 t116)) else (none))) else (none)) else (hertzproto_IsBadTrailer.j0 k l0 false)) else (if (Go.bits .or .u8 (rd l0 0) 32) = 101 then ((hertzstr_StrExpect.f).bind fun t157 => ((hertzutils_CaseInsensitiveCompare.f k l0 t157).bind fun t160 => (some t160))) else (if (Go.bits .or .u8 (rd l0 0) 32) = 104 then ((hertzstr_StrHost.f).bind fun t161 => ((hertzutils_CaseInsensitiveCompare.f k l0 t161).bind fun t164 => (some t164))) else (if (Go.bits .or .u8 (rd l0 0) 32) = 107 then ((hertzstr_StrKeepAlive.f).bind fun t165 => ((hertzutils_CaseInsensitiveCompare.f k l0 t165).bind fun t168 => (some t168))) else (if (Go.bits .or .u8 (rd l0 0) 32) = 109 then ((hertzstr_StrMaxForwards.f).bind fun t169 => ((hertzutils_CaseInsensitiveCompare.f k l0 t169).bind fun t172 => (some t172))) else (if (Go.bits .or .u8 (rd l0 0) 32) = 112 then (if (l0.length : Int) ≥ 16 then (if 6 ≤ (l0.length : Int) then ((hertzstr_StrProxyConnection.f).bind fun t174 => (if 6 ≤ (t174.length : Int) then ((hertzutils_CaseInsensitiveCompare.f k (l0.take 6) (t174.take 6)).bind fun t181 => (hertzproto_IsBadTrailer.j1 k l0 t181)) else (none))) else (none)) else (hertzproto_IsBadTrailer.j1 k l0 false)) else (if (Go.bits .or .u8 (rd l0 0) 32) = 114 then ((hertzstr_StrRange.f).bind fun t209 => ((hertzutils_CaseInsensitiveCompare.f k l0 t209).bind fun t212 => (some t212))) else (if (Go.bits .or .u8 (rd l0 0) 32) = 116 then ((hertzstr_StrTE.f).bind fun t213 => ((hertzutils_CaseInsensitiveCompare.f k l0 t213).bind fun t216 => (if t216 = true then (some true) else ((hertzstr_StrTrailer.f).bind fun t217 => ((hertzutils_CaseInsensitiveCompare.f k l0 t217).bind fun t220 => (if t220 = true then (some true) else ((hertzstr_StrTransferEncoding.f).bind fun t221 => ((hertzutils_CaseInsensitiveCompare.f k l0 t221).bind fun t224 => (some t224))))))))) else (if (Go.bits .or .u8 (rd l0 0) 32) = 119 then ((hertzstr_StrWWWAuthenticate.f).bind fun t225 => ((hertzutils_CaseInsensitiveCompare.f k l0 t225).bind fun t228 => (some t228))) else (some false))))))))))) else (none)) = some r := h
 clear h
 by_cases c2 : 0 < (l0.length : Int)
 ·rw [if_pos c2] at H
  have c2b0 : decide (0 < (l0.length : Int)) = true := decide_eq_true c2
  have c2b1 : decide (0 < l0.length) = true := decide_eq_true (by omega)
  clear c2
  by_cases c3 : (Go.bits .or .u8 (rd l0 0) 32) = 97
  ·exact absurd (HCASE_.out.symm.trans c3) (by decide)
  ·rw [if_neg c3] at H
   have c3b0 : ((Go.bits .or .u8 (rd l0 0) 32) == 97) = false := beq_eq_false_iff_ne.mpr c3
   have c3b1 : ((Go.bits .or .u8 (rd l0 0) 32) != 97) = true := bne_iff_ne.mpr c3
   by_cases c8 : (Go.bits .or .u8 (rd l0 0) 32) = 99
   ·exact absurd (HCASE_.out.symm.trans c8) (by decide)
   ·rw [if_neg c8] at H
    have c8b0 : ((Go.bits .or .u8 (rd l0 0) 32) == 99) = false := beq_eq_false_iff_ne.mpr c8
    have c8b1 : ((Go.bits .or .u8 (rd l0 0) 32) != 99) = true := bne_iff_ne.mpr c8
    by_cases c89 : (Go.bits .or .u8 (rd l0 0) 32) = 101
    ·exact absurd (HCASE_.out.symm.trans c89) (by decide)
    ·rw [if_neg c89] at H
     have c89b0 : ((Go.bits .or .u8 (rd l0 0) 32) == 101) = false := beq_eq_false_iff_ne.mpr c89
     have c89b1 : ((Go.bits .or .u8 (rd l0 0) 32) != 101) = true := bne_iff_ne.mpr c89
     by_cases c94 : (Go.bits .or .u8 (rd l0 0) 32) = 104
     ·exact absurd (HCASE_.out.symm.trans c94) (by decide)
     ·rw [if_neg c94] at H
      have c94b0 : ((Go.bits .or .u8 (rd l0 0) 32) == 104) = false := beq_eq_false_iff_ne.mpr c94
      have c94b1 : ((Go.bits .or .u8 (rd l0 0) 32) != 104) = true := bne_iff_ne.mpr c94
      by_cases c99 : (Go.bits .or .u8 (rd l0 0) 32) = 107
      ·exact absurd (HCASE_.out.symm.trans c99) (by decide)
      ·rw [if_neg c99] at H
       have c99b0 : ((Go.bits .or .u8 (rd l0 0) 32) == 107) = false := beq_eq_false_iff_ne.mpr c99
       have c99b1 : ((Go.bits .or .u8 (rd l0 0) 32) != 107) = true := bne_iff_ne.mpr c99
       by_cases c104 : (Go.bits .or .u8 (rd l0 0) 32) = 109
       ·exact absurd (HCASE_.out.symm.trans c104) (by decide)
       ·rw [if_neg c104] at H
        have c104b0 : ((Go.bits .or .u8 (rd l0 0) 32) == 109) = false := beq_eq_false_iff_ne.mpr c104
        have c104b1 : ((Go.bits .or .u8 (rd l0 0) 32) != 109) = true := bne_iff_ne.mpr c104
        by_cases c109 : (Go.bits .or .u8 (rd l0 0) 32) = 112
        ·rw [if_pos c109] at H
         have c109b0 : ((Go.bits .or .u8 (rd l0 0) 32) == 112) = true := beq_iff_eq.mpr c109
         have c109b1 : ((Go.bits .or .u8 (rd l0 0) 32) != 112) = false := bne_eq_false_iff_eq.mpr c109
         clear c109
         have HC110 := Aside0.mk H
         clear H
         have p103 : 0 ≤ (0 : Int) := (by omega)
         have q103 : 0 < (l0.length : Int) := of_decide_eq_true (by first | (with_reducible assumption) | assumption)
         obtain ⟨ad103, e103, hx103_0⟩ := Kd.at_int HR0.out 0 p103 q103
         cases e103
         have qi103 : (0 < l0.length) = True := eq_true (by omega)
         (try rw [show ((0 : Int)).toNat = 0 from rfl] at hx103_0)
         (try rw [Addr.add_zero'] at hx103_0)
         replace p103 := eq_true p103
         replace q103 := eq_true q103
         go_enter Try.func68, Try.ntmps68
         go_upto_region 17 with (fail)
         go_cut [84] (fun v84 wc => ∃ (kq : Nat) (x84_109 : Bool), v84 = .bool x84_109 ∧ Aside0 (hertzproto_IsBadTrailer.j1 kq l0 x84_109 = some r) ∧ Aside0 (kq ≤ k) ∧ Aside0 (Below w.heap.size w wc))
         case first =>
          have H := HC110.out
          clear HC110
          by_cases c111 : (l0.length : Int) ≥ 16
          ·rw [if_pos c111] at H
           have c111b0 : decide (16 ≤ (l0.length : Int)) = true := decide_eq_true c111
           have c111b1 : decide (16 ≤ l0.length) = true := decide_eq_true (by omega)
           clear c111
           (first | rw [c111b0] | (simp only [i64_w, i32_w]; rw [c111b0]) | skip)
           by_cases c112 : 6 ≤ (l0.length : Int)
           ·rw [if_pos c112] at H
            have c112b0 := eq_true c112
            have c112b1 : decide (6 ≤ (l0.length : Int)) = true := decide_eq_true c112
            clear c112
            replace H := Option.bind_eq_some_iff.mp H
            obtain ⟨t174, A1130, H⟩ := H
            replace H : (if 6 ≤ (t174.length : Int) then ((hertzutils_CaseInsensitiveCompare.f k (l0.take 6) (t174.take 6)).bind fun t181 => (hertzproto_IsBadTrailer.j1 k l0 t181)) else (none)) = some r := H
            have A113 := Aside0.mk A1130
            clear A1130
            by_cases c114 : 6 ≤ (t174.length : Int)
            ·rw [if_pos c114] at H
             have c114b0 := eq_true c114
             have c114b1 : decide (6 ≤ (t174.length : Int)) = true := decide_eq_true c114
             clear c114
             obtain ⟨y177, hy177⟩ : ∃ y_ : List Int, y_ = (t174.take 6) := ⟨_, rfl⟩
             replace H : ((hertzutils_CaseInsensitiveCompare.f k (l0.take 6) y177).bind fun t181 => (hertzproto_IsBadTrailer.j1 k l0 t181)) = some r := by first | (rw [hy177]; with_reducible exact H) | (have H2_ := (Option.bind_some _ _).symm.trans H; rw [hy177]; with_reducible exact H2_) | (have H2_ := (Option.bind_some _ _).symm.trans H; with_reducible exact H2_) | with_reducible exact H | (rw [hy177]; exact H) | exact H
             have Ny177 := Aside0.mk hy177
             clear hy177
             replace H := Option.bind_eq_some_iff.mp H
             obtain ⟨t181, A1150, H⟩ := H
             replace H : (hertzproto_IsBadTrailer.j1 k l0 t181) = some r := H
             have A115 := Aside0.mk A1150
             clear A1150
             have H' := Aside0.mk H
             clear H
             try go_wp2
             have n0_ := Aside0.mk (below_drew1 HB.out)
             clear HB
             have HB := n0_
             clear n0_
             obtain ⟨i0117, hi0117, _, hsz117, _⟩ := info_parts info5
             obtain ⟨hcut117, hA117, hC117⟩ := print_take_of (P := Try.prog) (Value.int .u8) 0 54 5 .i64 Try.underlying54 hi0117 hsz117 (some ad103) c0 l0 6 (by omega) (of_decide_eq_true (by first | (with_reducible assumption) | assumption)) HC0.out
             have HR173 := Aside0.mk (Kd.C_of_reads (h1 := fun _ => rfl) (hA117 _ (Kd.reads_of_C HR0.out)))
             have HC173 := Aside0.mk hC117
             clear hA117 hC117 hi0117 hsz117
             refine start_ (n := 10) (S := fun w' => True) (ds := []) #[false,false,false,false,false,false,false,false,false,false] (by kernel_rfl) rfl rfl trivial (fun hHeld => ?_); refine with_tabW hertzproto_IsBadTrailer.tab17 hertzproto_IsBadTrailer.bits17 (fun HT_ HW_ => ?_)
             generalize w.drew = w116 at HB HR173 hHeld ⊢
             refine pure_ (i := 0) (N := some 75) (v := ?_) (a' := ?_) #[true,false,false,false,false,false,false,false,false,false] rfl rfl (any_of HT_.out (by kernel_rfl)) (fun _ _ _ h => h) (Or.inl ⟨by rfl, ?_⟩) ?_ ?_
             rotate_left
             ·intro w'
              go_simp
              with_reducible rfl
             rotate_left
             ·simp only [Act.put, List.setIfInBounds_toArray, List.set_cons_zero, List.set_cons_succ, i64_w, i32_w]
              rfl
             refine pure_ (i := 1) (N := some 76) (v := ?_) (a' := ?_) #[true,true,false,false,false,false,false,false,false,false] rfl rfl (any_of HT_.out (by kernel_rfl)) (fun _ _ _ h => h) (Or.inl ⟨by rfl, ?_⟩) ?_ ?_
             rotate_left
             ·intro w'
              go_simp
              with_reducible rfl
             rotate_left
             ·simp only [Act.put, List.setIfInBounds_toArray, List.set_cons_zero, List.set_cons_succ, i64_w, i32_w]
              rfl
             refine pure_ (i := 2) (N := some 77) (v := ?_) (a' := ?_) #[true,true,true,false,false,false,false,false,false,false] rfl rfl (any_of HT_.out (by kernel_rfl)) (fun _ _ _ h => h) (Or.inl ⟨by rfl, ?_⟩) ?_ ?_
             rotate_left
             ·intro w'
              go_simp
              with_reducible rfl
             rotate_left
             ·simp only [Act.put, List.setIfInBounds_toArray, List.set_cons_zero, List.set_cons_succ, i64_w, i32_w]
              rfl
             refine pure_ (i := 3) (N := some 78) (v := ?_) (a' := ?_) #[true,true,true,true,false,false,false,false,false,false] rfl rfl (any_of HT_.out (by kernel_rfl)) (fun _ _ _ h => h) (Or.inl ⟨by rfl, ?_⟩) ?_ ?_
             rotate_left
             ·intro w'
              go_simp
              with_reducible rfl
             rotate_left
             ·simp only [Act.put, List.setIfInBounds_toArray, List.set_cons_zero, List.set_cons_succ, i64_w, i32_w]
              rfl
             refine pure_ (i := 4) (N := some 79) (v := ?_) (a' := ?_) #[true,true,true,true,true,false,false,false,false,false] rfl rfl (any_of HT_.out (by kernel_rfl)) (fun _ _ _ h => h) (Or.inl ⟨by rfl, ?_⟩) ?_ ?_
             rotate_left
             ·intro w'
              go_simp
              with_reducible rfl
             rotate_left
             ·simp only [Act.put, List.setIfInBounds_toArray, List.set_cons_zero, List.set_cons_succ, i64_w, i32_w]
              rfl
             refine pure_ (i := 5) (N := some 80) (v := ?_) (a' := ?_) #[true,true,true,true,true,true,false,false,false,false] rfl rfl (any_of HT_.out (by kernel_rfl)) (fun _ _ _ h => h) (Or.inl ⟨by rfl, ?_⟩) ?_ ?_
             rotate_left
             ·intro w'
              go_simp
              with_reducible rfl
             rotate_left
             ·simp only [Act.put, List.setIfInBounds_toArray, List.set_cons_zero, List.set_cons_succ, i64_w, i32_w]
              rfl
             refine one_ (i := 6) (N := some 81) #[true,true,true,true,true,true,true,false,false,false] rfl rfl (one_of HT_.out (by kernel_rfl)) (by decide) (fun K hK => ?_)
             refine goes_ Try.func91 (by kernel_rfl) rfl #[] (by rfl) rfl rfl (by (try simp only [List.map_toArray, List.map_cons, List.map_nil]); first | done | rfl | (simp only [List.length_drop, List.length_take]; rfl)) ?_
             with_reducible refine (hertzstr_StrProxyConnection.calls  t174 _ A113.out).mono ?_
             rintro e w118 ⟨v175, rfl, ho0, hb⟩
             refine ⟨_, rfl, ?_⟩
             have n0_ := Aside0.mk (MR.R_lower ho0 (below_size (by repeat (first | (with_reducible first | exact HB.out | apply below_alloc | apply pw_below_drewN | apply below_drew1) | exact HB.out))))
             have n1_ := Aside0.mk (below_step (by repeat (first | (with_reducible first | exact HB.out | apply below_alloc | apply pw_below_drewN | apply below_drew1) | exact HB.out)) hb)
             clear HB
             have HO176 := n0_
             have HB := n1_
             clear n0_ n1_
             (try clear hb)
             (try clear hb2)
             (try clear hk)
             (try clear hi)
             (try clear ho0)
             obtain ⟨Ao120, co120, eo120⟩ := MR.R_slice HO176.out
             (first | subst eo120 | (injection eo120 with f1_ f2_ f3_; have f4_ := f1_.symm; have f5_ := f3_.symm; clear f1_ f2_ f3_; subst f4_; subst f5_))
             have q119 : (6 : Int) ≤ ((t174.length : Int) : Int) := of_decide_eq_true (by first | (with_reducible assumption) | assumption)
             obtain ⟨i0119, hi0119, _, hsz119, _⟩ := info_parts info5
             have hroom119 : t174.length ≤ co120 := (MR.R_reads' HO176.out).2.1
             have hC119 : Kd.C (Kd.int .u8) _ Ao120 t174.length t174 := (MR.R_reads' HO176.out).2.2
             have hcut119 := cut_to (P := Try.prog) 54 5 .i64 Try.underlying54 hi0119 Ao120 t174.length co120 6 (by omega) q119 hroom119
             have hr119 := Kd.C_take (m := 6) hC119 (by omega)
             have hy119 : y177.length = (6 : Int).toNat := (by rw [Ny177.out, List.length_take]; omega)
             rw [← Ny177.out] at hr119
             rw [← hy119] at hcut119
             have HR180 := Aside0.mk hr119
             have HC180 := Aside0.mk (show y177.length ≤ co120 from by omega)
             clear hr119 hC119 hroom119 hi0119 hsz119
             have KY119 := Aside0.mk hy119
             clear hy119
             have KL119 := Aside0.mk (show 6 ≤ t174.length from by omega)
             replace q119 := eq_true q119
             refine hK.out _ _ trivial (fun hHeld => ?_)
             clear hK K
             refine norm_ (a' := ?_) ?_ ?_
             rotate_left
             ·show Act.put _ (some 81) _ = _
              simp only [Act.put, List.setIfInBounds_toArray, List.set_cons_zero, List.set_cons_succ, i64_w, i32_w]
              rfl
             refine pure_ (i := 7) (N := some 82) (v := ?_) (a' := ?_) #[true,true,true,true,true,true,true,true,false,false] rfl rfl (any_of HT_.out (by kernel_rfl)) (fun _ _ _ h => h) (Or.inl ⟨by rfl, ?_⟩) ?_ ?_
             rotate_left
             ·intro w'
              go_simp
              with_reducible rfl
             rotate_left
             ·simp only [Act.put, List.setIfInBounds_toArray, List.set_cons_zero, List.set_cons_succ, i64_w, i32_w]
              rfl
             refine one_ (i := 8) (N := some 83) #[true,true,true,true,true,true,true,true,true,false] rfl rfl (one_of HT_.out (by kernel_rfl)) (by decide) (fun K hK => ?_)
             refine goes_ Try.func80 (by kernel_rfl) rfl #[.slice (some ad103) (l0.take 6).length c0, .slice Ao120 y177.length co120] (by rfl) rfl rfl (by (try simp only [List.map_toArray, List.map_cons, List.map_nil]); first | done | (rw [show (l0.take 6).length = 6 from (by rw [List.length_take]; have h_ : (6 : Int) ≤ (l0.length : Int) := of_decide_eq_true (by first | (with_reducible assumption) | assumption); omega)] <;> rfl) | rfl | (simp only [List.length_drop, List.length_take]; rfl)) ?_
             with_reducible refine (hertzutils_CaseInsensitiveCompare.calls k _ _ (l0.take 6) _ _ y177 t181 _ ?side1 ?side2 ?side3 ?side4 A115.out).mono ?_
             (case side1 => repeat (first | exact (Kd.C_below HR173.out HB.out) | (with_reducible refine Kd.C_alloc ?_ _) | (with_reducible refine Kd.C_drewN ?_ _) | (with_reducible refine Kd.C_drew ?_)))
             (case side2 => exact HC173.out)
             (case side3 => repeat (first | exact (by repeat (first | (with_reducible exact HR180.out) | (with_reducible refine Kd.C_alloc ?_ _) | (with_reducible refine Kd.C_drewN ?_ _) | (with_reducible refine Kd.C_drew ?_) | exact HR180.out)) | (with_reducible refine Kd.C_alloc ?_ _) | (with_reducible refine Kd.C_drewN ?_ _) | (with_reducible refine Kd.C_drew ?_)))
             (case side4 => exact HC180.out)
             rintro e w' ⟨rfl, ⟨nd, rfl⟩⟩
             refine ⟨_, rfl, ?_⟩
             refine hK.out _ _ trivial (fun hHeld => ?_)
             clear hK K
             refine norm_ (a' := ?_) ?_ ?_
             rotate_left
             ·show Act.put _ (some 83) _ = _
              simp only [Act.put, List.setIfInBounds_toArray, List.set_cons_zero, List.set_cons_succ, i64_w, i32_w]
              rfl
             refine pure_ (i := 9) (N := some 84) (v := ?_) (a' := ?_) #[true,true,true,true,true,true,true,true,true,true] rfl rfl (any_of HT_.out (by kernel_rfl)) (fun _ _ _ h => h) (Or.inl ⟨by rfl, ?_⟩) ?_ ?_
             rotate_left
             ·intro w'
              go_simp
              with_reducible rfl
             rotate_left
             ·simp only [Act.put, List.setIfInBounds_toArray, List.set_cons_zero, List.set_cons_succ, i64_w, i32_w]
              rfl
             refine done_ (done_of HT_.out (by kernel_rfl)) ?_
             try go_wp2
             go_meet
             case rel => exact ⟨_, (t181), (by first | rfl | (simp; done) | (rw [prx_ne]; first | done | rfl) | (simp [*]; done)), H', ⟨by first | omega | exact Nat.le_refl _⟩, ⟨by repeat (first | (with_reducible first | exact HB.out | apply below_alloc | apply pw_below_drewN | apply below_drew1) | exact HB.out)⟩⟩
            ·rw [if_neg c114] at H
             exact absurd H (by simp)
           ·rw [if_neg c112] at H
            exact absurd H (by simp)
          ·rw [if_neg c111] at H
           have c111b0 : decide (16 ≤ (l0.length : Int)) = false := decide_eq_false c111
           have c111b1 : decide (16 ≤ l0.length) = false := decide_eq_false (by omega)
           clear c111
           (first | rw [c111b0] | (simp only [i64_w, i32_w]; rw [c111b0]) | skip)
           have H' := Aside0.mk H
           clear H
           try go_wp2
           have n0_ := Aside0.mk (below_drew1 HB.out)
           clear HB
           have HB := n0_
           clear n0_
           refine start_ (n := 10) (S := fun w' => True) (ds := []) #[false,false,false,false,false,false,false,false,false,false] (by kernel_rfl) rfl rfl trivial (fun hHeld => ?_); refine with_tabW hertzproto_IsBadTrailer.tab17 hertzproto_IsBadTrailer.bits17 (fun HT_ HW_ => ?_)
           generalize w.drew = w121 at HB hHeld ⊢
           refine pure_ (i := 0) (N := some 75) (v := ?_) (a' := ?_) #[true,false,false,false,false,false,false,false,false,false] rfl rfl (any_of HT_.out (by kernel_rfl)) (fun _ _ _ h => h) (Or.inl ⟨by rfl, ?_⟩) ?_ ?_
           rotate_left
           ·intro w'
            go_simp
            with_reducible rfl
           rotate_left
           ·simp only [Act.put, List.setIfInBounds_toArray, List.set_cons_zero, List.set_cons_succ, i64_w, i32_w]
            rfl
           refine pure_ (i := 1) (N := some 76) (v := ?_) (a' := ?_) #[true,true,false,false,false,false,false,false,false,false] rfl rfl (any_of HT_.out (by kernel_rfl)) (fun _ _ _ h => h) (Or.inl ⟨by rfl, ?_⟩) ?_ ?_
           rotate_left
           ·intro w'
            go_simp
            with_reducible rfl
           rotate_left
           ·simp only [Act.put, List.setIfInBounds_toArray, List.set_cons_zero, List.set_cons_succ, i64_w, i32_w]
            rfl
           refine pure_ (i := 2) (N := some 77) (v := ?_) (a' := ?_) #[true,true,true,false,false,false,false,false,false,false] rfl rfl (any_of HT_.out (by kernel_rfl)) (fun _ _ _ h => h) (Or.inl ⟨by rfl, ?_⟩) ?_ ?_
           rotate_left
           ·intro w'
            go_simp
            with_reducible rfl
           rotate_left
           ·simp only [Act.put, List.setIfInBounds_toArray, List.set_cons_zero, List.set_cons_succ, i64_w, i32_w]
            rfl
           refine pure_ (i := 3) (N := some 78) (v := ?_) (a' := ?_) #[true,true,true,true,false,false,false,false,false,false] rfl rfl (any_of HT_.out (by kernel_rfl)) (fun _ _ _ h => h) (Or.inl ⟨by rfl, ?_⟩) ?_ ?_
           rotate_left
           ·intro w'
            go_simp
            with_reducible rfl
           rotate_left
           ·simp only [Act.put, List.setIfInBounds_toArray, List.set_cons_zero, List.set_cons_succ, i64_w, i32_w]
            rfl
           refine pure_ (i := 4) (N := some 79) (v := undef) (a' := ?_) #[true,true,true,true,true,false,false,false,false,false] rfl rfl (any_of HT_.out (by kernel_rfl)) (fun _ _ _ h => h) (Or.inr ⟨by rfl, rfl⟩) ?_ ?_
           rotate_left
           ·simp only [Act.put, List.setIfInBounds_toArray, List.set_cons_zero, List.set_cons_succ, i64_w, i32_w]
            rfl
           refine pure_ (i := 5) (N := some 80) (v := undef) (a' := ?_) #[true,true,true,true,true,true,false,false,false,false] rfl rfl (any_of HT_.out (by kernel_rfl)) (fun _ _ _ h => h) (Or.inr ⟨by rfl, rfl⟩) ?_ ?_
           rotate_left
           ·simp only [Act.put, List.setIfInBounds_toArray, List.set_cons_zero, List.set_cons_succ, i64_w, i32_w]
            rfl
           refine pure_ (i := 6) (N := some 81) (v := undef) (a' := ?_) #[true,true,true,true,true,true,true,false,false,false] rfl rfl (any_of HT_.out (by kernel_rfl)) (fun _ _ _ h => h) (Or.inr ⟨by rfl, rfl⟩) ?_ ?_
           rotate_left
           ·simp only [Act.put, List.setIfInBounds_toArray, List.set_cons_zero, List.set_cons_succ, i64_w, i32_w]
            rfl
           refine pure_ (i := 7) (N := some 82) (v := undef) (a' := ?_) #[true,true,true,true,true,true,true,true,false,false] rfl rfl (any_of HT_.out (by kernel_rfl)) (fun _ _ _ h => h) (Or.inr ⟨by rfl, rfl⟩) ?_ ?_
           rotate_left
           ·simp only [Act.put, List.setIfInBounds_toArray, List.set_cons_zero, List.set_cons_succ, i64_w, i32_w]
            rfl
           refine pure_ (i := 8) (N := some 83) (v := undef) (a' := ?_) #[true,true,true,true,true,true,true,true,true,false] rfl rfl (any_of HT_.out (by kernel_rfl)) (fun _ _ _ h => h) (Or.inr ⟨by rfl, rfl⟩) ?_ ?_
           rotate_left
           ·simp only [Act.put, List.setIfInBounds_toArray, List.set_cons_zero, List.set_cons_succ, i64_w, i32_w]
            rfl
           refine pure_ (i := 9) (N := some 84) (v := ?_) (a' := ?_) #[true,true,true,true,true,true,true,true,true,true] rfl rfl (any_of HT_.out (by kernel_rfl)) (fun _ _ _ h => h) (Or.inl ⟨by rfl, ?_⟩) ?_ ?_
           rotate_left
           ·intro w'
            go_simp
            with_reducible rfl
           rotate_left
           ·simp only [Act.put, List.setIfInBounds_toArray, List.set_cons_zero, List.set_cons_succ, i64_w, i32_w]
            rfl
           refine done_ (done_of HT_.out (by kernel_rfl)) ?_
           try go_wp2
           go_meet
           case rel => exact ⟨_, (false), (by first | rfl | (simp; done) | (rw [prx_ne]; first | done | rfl) | (simp [*]; done)), H', ⟨by first | omega | exact Nat.le_refl _⟩, ⟨by repeat (first | (with_reducible first | exact HB.out | apply below_alloc | apply pw_below_drewN | apply below_drew1) | exact HB.out)⟩⟩
         case rest =>
          clear HC110
          try clear c1
          try clear p1
          try clear q1
          try clear hx1
          try clear qi1
          try clear c2
          try clear p2
          try clear c3
          try clear c4
          try clear c6
          try clear c7
          try clear c8
          try clear c8b0
          try clear c8b1
          try clear q8
          try clear c9
          try clear c10
          try clear p10
          try clear q10
          try clear hx10
          try clear qi10
          try clear c11
          try clear q11
          try clear c21
          try clear c22
          try clear c24
          try clear c34
          try clear c48
          try clear c66
          try clear c68
          try clear c79
          try clear c80
          try clear c83
          try clear q83
          try clear c85
          try clear c86
          try clear c87
          try clear c88
          try clear c89
          try clear c89b0
          try clear c89b1
          try clear c90
          try clear c91
          try clear c94
          try clear c94b0
          try clear c94b1
          try clear c99
          try clear c99b0
          try clear c99b1
          try clear p103
          try clear q103
          try clear hx103
          try clear qi103
          try clear c104
          try clear c104b0
          try clear c104b1
          try clear c109
          try clear c109b0
          try clear c109b1
          try clear c111
          try clear c111b0
          try clear c111b1
          try clear c112
          try clear c112b0
          try clear c112b1
          try clear c114
          try clear c114b0
          try clear c114b1
          try clear q119
          try clear hx103_0
          try clear p103
          try clear q103
          try clear q119
          try clear q83
          obtain ⟨kq, x84_109, rfl, HA, HJ109, HB⟩ := hcut
          cases kq with
          | zero => exact absurd HA.out (by simp [hertzproto_IsBadTrailer.j1])
          | succ kj109 =>
           have H := HA.out
           clear HA
           simp only [hertzproto_IsBadTrailer.j1] at H
           by_cases c122 : x84_109 = true
           ·subst c122
            have H1 : (if 6 ≤ (l0.length : Int) then ((hertzstr_StrProxyConnection.f).bind fun t183 => (if 6 ≤ (t183.length : Int) then ((hertzutils_CaseInsensitiveCompare.f kj109 (l0.drop 6) (t183.drop 6)).bind fun t190 => (if t190 = true then (some true) else ((hertzstr_StrProxyAuthenticate.f).bind fun t192 => (if 6 ≤ (t192.length : Int) then ((hertzutils_CaseInsensitiveCompare.f kj109 (l0.drop 6) (t192.drop 6)).bind fun t199 => (if t199 = true then (some true) else ((hertzstr_StrProxyAuthorization.f).bind fun t201 => (if 6 ≤ (t201.length : Int) then ((hertzutils_CaseInsensitiveCompare.f kj109 (l0.drop 6) (t201.drop 6)).bind fun t208 => (some t208)) else (none))))) else (none))))) else (none))) else (none)) = some r := by rw [if_pos rfl] at H; exact H
            clear H
            have H := H1
            clear H1
            by_cases c123 : 6 ≤ (l0.length : Int)
            ·rw [if_pos c123] at H
             have c123b0 := eq_true c123
             have c123b1 : decide (6 ≤ (l0.length : Int)) = true := decide_eq_true c123
             clear c123
             replace H := Option.bind_eq_some_iff.mp H
             obtain ⟨t183, A1240, H⟩ := H
             replace H : (if 6 ≤ (t183.length : Int) then ((hertzutils_CaseInsensitiveCompare.f kj109 (l0.drop 6) (t183.drop 6)).bind fun t190 => (if t190 = true then (some true) else ((hertzstr_StrProxyAuthenticate.f).bind fun t192 => (if 6 ≤ (t192.length : Int) then ((hertzutils_CaseInsensitiveCompare.f kj109 (l0.drop 6) (t192.drop 6)).bind fun t199 => (if t199 = true then (some true) else ((hertzstr_StrProxyAuthorization.f).bind fun t201 => (if 6 ≤ (t201.length : Int) then ((hertzutils_CaseInsensitiveCompare.f kj109 (l0.drop 6) (t201.drop 6)).bind fun t208 => (some t208)) else (none))))) else (none))))) else (none)) = some r := H
             have A124 := Aside0.mk A1240
             clear A1240
             by_cases c125 : 6 ≤ (t183.length : Int)
             ·rw [if_pos c125] at H
              have c125b0 := eq_true c125
              have c125b1 : decide (6 ≤ (t183.length : Int)) = true := decide_eq_true c125
              clear c125
              obtain ⟨y186, hy186⟩ : ∃ y_ : List Int, y_ = (t183.drop 6) := ⟨_, rfl⟩
              replace H : ((hertzutils_CaseInsensitiveCompare.f kj109 (l0.drop 6) y186).bind fun t190 => (if t190 = true then (some true) else ((hertzstr_StrProxyAuthenticate.f).bind fun t192 => (if 6 ≤ (t192.length : Int) then ((hertzutils_CaseInsensitiveCompare.f kj109 (l0.drop 6) (t192.drop 6)).bind fun t199 => (if t199 = true then (some true) else ((hertzstr_StrProxyAuthorization.f).bind fun t201 => (if 6 ≤ (t201.length : Int) then ((hertzutils_CaseInsensitiveCompare.f kj109 (l0.drop 6) (t201.drop 6)).bind fun t208 => (some t208)) else (none))))) else (none))))) = some r := by first | (rw [hy186]; with_reducible exact H) | (have H2_ := (Option.bind_some _ _).symm.trans H; rw [hy186]; with_reducible exact H2_) | (have H2_ := (Option.bind_some _ _).symm.trans H; with_reducible exact H2_) | with_reducible exact H | (rw [hy186]; exact H) | exact H
              have Ny186 := Aside0.mk hy186
              clear hy186
              replace H := Option.bind_eq_some_iff.mp H
              obtain ⟨t190, A1260, H⟩ := H
              replace H : (if t190 = true then (some true) else ((hertzstr_StrProxyAuthenticate.f).bind fun t192 => (if 6 ≤ (t192.length : Int) then ((hertzutils_CaseInsensitiveCompare.f kj109 (l0.drop 6) (t192.drop 6)).bind fun t199 => (if t199 = true then (some true) else ((hertzstr_StrProxyAuthorization.f).bind fun t201 => (if 6 ≤ (t201.length : Int) then ((hertzutils_CaseInsensitiveCompare.f kj109 (l0.drop 6) (t201.drop 6)).bind fun t208 => (some t208)) else (none))))) else (none)))) = some r := H
              have A126 := Aside0.mk A1260
              clear A1260
              by_cases c127 : t190 = true
              ·subst c127
               have H1 : (some true) = some r := by rw [if_pos rfl] at H; exact H
               clear H
               have H := H1
               clear H1
               obtain rfl := Option.some.inj H
               try go_wp2
               have n0_ := Aside0.mk (below_drew1 HB.out)
               clear HB
               have HB := n0_
               clear n0_
               obtain ⟨i0129, hi0129, _, hsz129, _⟩ := info_parts info5
               obtain ⟨A129, hcut129, hA129, hC129⟩ := print_drop_of (P := Try.prog) (Value.int .u8) 0 54 5 .i64 Try.underlying54 hi0129 hsz129 (some ad103) c0 l0 6 (by omega) (of_decide_eq_true (by first | (with_reducible assumption) | assumption)) HC0.out
               have HR182 := Aside0.mk (Kd.C_of_reads (h1 := fun _ => rfl) (hA129 _ (Kd.reads_of_C HR0.out)))
               have HC182 := Aside0.mk hC129
               clear hA129 hC129 hi0129 hsz129
               refine start_ (n := 20) (S := fun w' => True) (ds := []) #[false,false,false,false,false,false,false,false,false,false,false,false,false,false,false,false,false,false,false,false] (by kernel_rfl) rfl rfl trivial (fun hHeld => ?_); refine with_tabW hertzproto_IsBadTrailer.tab18 hertzproto_IsBadTrailer.bits18 (fun HT_ HW_ => ?_)
               generalize wc.drew = w128 at HB HR182 hHeld ⊢
               refine pure_ (i := 0) (N := some 85) (v := ?_) (a' := ?_) #[true,false,false,false,false,false,false,false,false,false,false,false,false,false,false,false,false,false,false,false] rfl rfl (any_of HT_.out (by kernel_rfl)) (fun _ _ _ h => h) (Or.inl ⟨by rfl, ?_⟩) ?_ ?_
               rotate_left
               ·intro w'
                go_simp
                with_reducible rfl
               rotate_left
               ·simp only [Act.put, List.setIfInBounds_toArray, List.set_cons_zero, List.set_cons_succ, i64_w, i32_w]
                rfl
               refine pure_ (i := 1) (N := some 86) (v := ?_) (a' := ?_) #[true,true,false,false,false,false,false,false,false,false,false,false,false,false,false,false,false,false,false,false] rfl rfl (any_of HT_.out (by kernel_rfl)) (fun _ _ _ h => h) (Or.inl ⟨by rfl, ?_⟩) ?_ ?_
               rotate_left
               ·intro w'
                go_simp
                with_reducible rfl
               rotate_left
               ·simp only [Act.put, List.setIfInBounds_toArray, List.set_cons_zero, List.set_cons_succ, i64_w, i32_w]
                rfl
               refine one_ (i := 2) (N := some 87) #[true,true,true,false,false,false,false,false,false,false,false,false,false,false,false,false,false,false,false,false] rfl rfl (one_of HT_.out (by kernel_rfl)) (by decide) (fun K hK => ?_)
               refine goes_ Try.func91 (by kernel_rfl) rfl #[] (by rfl) rfl rfl (by (try simp only [List.map_toArray, List.map_cons, List.map_nil]); first | done | rfl | (simp only [List.length_drop, List.length_take]; rfl)) ?_
               with_reducible refine (hertzstr_StrProxyConnection.calls  t183 _ A124.out).mono ?_
               rintro e w130 ⟨v184, rfl, ho0, hb⟩
               refine ⟨_, rfl, ?_⟩
               have n0_ := Aside0.mk (MR.R_lower ho0 (below_size (by repeat (first | (with_reducible first | exact HB.out | apply below_alloc | apply pw_below_drewN | apply below_drew1) | exact HB.out))))
               have n1_ := Aside0.mk (below_step (by repeat (first | (with_reducible first | exact HB.out | apply below_alloc | apply pw_below_drewN | apply below_drew1) | exact HB.out)) hb)
               clear HB
               have HO185 := n0_
               have HB := n1_
               clear n0_ n1_
               (try clear hb)
               (try clear hb2)
               (try clear hk)
               (try clear hi)
               (try clear ho0)
               obtain ⟨Ao132, co132, eo132⟩ := MR.R_slice HO185.out
               (first | subst eo132 | (injection eo132 with f1_ f2_ f3_; have f4_ := f1_.symm; have f5_ := f3_.symm; clear f1_ f2_ f3_; subst f4_; subst f5_))
               have q131 : (6 : Int) ≤ ((t183.length : Int) : Int) := of_decide_eq_true (by first | (with_reducible assumption) | assumption)
               obtain ⟨i0131, hi0131, _, hsz131, _⟩ := info_parts info5
               have hroom131 : t183.length ≤ co132 := (MR.R_reads' HO185.out).2.1
               have hC131 : Kd.C (Kd.int .u8) _ Ao132 t183.length t183 := (MR.R_reads' HO185.out).2.2
               have hcut131 := cut_from (P := Try.prog) 54 5 .i64 Try.underlying54 hi0131 1 hsz131 Ao132 t183.length co132 6 (by omega) q131
               have hr131 := Kd.C_drop (m := (6 : Int).toNat) (c := co132) hC131 (by omega) hroom131
               obtain ⟨A131, hA131⟩ : ∃ A1, A1 = (if co132 = (6 : Int).toNat then Ao132 else (Ao132 : Option Addr).map (·.add ((6 : Int).toNat * 1))) := ⟨_, rfl⟩
               obtain ⟨c131, hc131⟩ : ∃ c1, c1 = co132 - (6 : Int).toNat := ⟨_, rfl⟩
               have hy131 : y186.length = t183.length - (6 : Int).toNat := (by rw [Ny186.out, List.length_drop] <;> omega)
               rw [show (t183).drop (6 : Int).toNat = y186 from Ny186.out.symm] at hr131
               replace hr131 : Kd.C (Kd.int .u8) _ A131 y186.length y186 := (by rw [hA131]; exact hr131)
               rw [← hy131, ← hA131, ← hc131] at hcut131
               have HR189 := Aside0.mk hr131
               have HC189 := Aside0.mk (show y186.length ≤ c131 from by rw [hy131, hc131]; exact Nat.sub_le_sub_right hroom131 _)
               clear hr131 hC131 hroom131 hi0131 hsz131 hc131
               have KY131 := Aside0.mk hy131
               have KA131 := Aside0.mk hA131
               clear hy131 hA131
               have KL131 := Aside0.mk (show 6 ≤ t183.length from by omega)
               replace q131 := eq_true q131
               refine hK.out _ _ trivial (fun hHeld => ?_)
               clear hK K
               refine norm_ (a' := ?_) ?_ ?_
               rotate_left
               ·show Act.put _ (some 87) _ = _
                simp only [Act.put, List.setIfInBounds_toArray, List.set_cons_zero, List.set_cons_succ, i64_w, i32_w]
                rfl
               refine pure_ (i := 3) (N := some 88) (v := ?_) (a' := ?_) #[true,true,true,true,false,false,false,false,false,false,false,false,false,false,false,false,false,false,false,false] rfl rfl (any_of HT_.out (by kernel_rfl)) (fun _ _ _ h => h) (Or.inl ⟨by rfl, ?_⟩) ?_ ?_
               rotate_left
               ·intro w'
                go_simp
                with_reducible rfl
               rotate_left
               ·simp only [Act.put, List.setIfInBounds_toArray, List.set_cons_zero, List.set_cons_succ, i64_w, i32_w]
                rfl
               refine one_ (i := 4) (N := some 89) #[true,true,true,true,true,false,false,false,false,false,false,false,false,false,false,false,false,false,false,false] rfl rfl (one_of HT_.out (by kernel_rfl)) (by decide) (fun K hK => ?_)
               refine goes_ Try.func80 (by kernel_rfl) rfl #[.slice A129 (l0.drop 6).length (c0 - 6), .slice A131 y186.length c131] (by rfl) rfl rfl (by (try simp only [List.map_toArray, List.map_cons, List.map_nil]); first | done | (rw [show (l0.drop 6).length = (l0.length - 6) from List.length_drop] <;> rfl) | rfl | (simp only [List.length_drop, List.length_take]; rfl)) ?_
               with_reducible refine (hertzutils_CaseInsensitiveCompare.calls kj109 _ _ (l0.drop 6) _ _ y186 true _ ?side1 ?side2 ?side3 ?side4 A126.out).mono ?_
               (case side1 => repeat (first | exact (Kd.C_below HR182.out HB.out) | (with_reducible refine Kd.C_alloc ?_ _) | (with_reducible refine Kd.C_drewN ?_ _) | (with_reducible refine Kd.C_drew ?_)))
               (case side2 => exact HC182.out)
               (case side3 => repeat (first | exact (by repeat (first | (with_reducible exact HR189.out) | (with_reducible refine Kd.C_alloc ?_ _) | (with_reducible refine Kd.C_drewN ?_ _) | (with_reducible refine Kd.C_drew ?_) | exact HR189.out)) | (with_reducible refine Kd.C_alloc ?_ _) | (with_reducible refine Kd.C_drewN ?_ _) | (with_reducible refine Kd.C_drew ?_)))
               (case side4 => exact HC189.out)
               rintro e w' ⟨rfl, ⟨nd, rfl⟩⟩
               refine ⟨_, rfl, ?_⟩
               refine hK.out _ _ trivial (fun hHeld => ?_)
               clear hK K
               refine norm_ (a' := ?_) ?_ ?_
               rotate_left
               ·show Act.put _ (some 89) _ = _
                simp only [Act.put, List.setIfInBounds_toArray, List.set_cons_zero, List.set_cons_succ, i64_w, i32_w]
                rfl
               refine pure_ (i := 5) (N := some 90) (v := ?_) (a' := ?_) #[true,true,true,true,true,true,false,false,false,false,false,false,false,false,false,false,false,false,false,false] rfl rfl (any_of HT_.out (by kernel_rfl)) (fun _ _ _ h => h) (Or.inl ⟨by rfl, ?_⟩) ?_ ?_
               rotate_left
               ·intro w'
                go_simp
                with_reducible rfl
               rotate_left
               ·simp only [Act.put, List.setIfInBounds_toArray, List.set_cons_zero, List.set_cons_succ, i64_w, i32_w]
                rfl
               refine pure_ (i := 6) (N := some 91) (v := undef) (a' := ?_) #[true,true,true,true,true,true,true,false,false,false,false,false,false,false,false,false,false,false,false,false] rfl rfl (any_of HT_.out (by kernel_rfl)) (fun _ _ _ h => h) (Or.inr ⟨by rfl, rfl⟩) ?_ ?_
               rotate_left
               ·simp only [Act.put, List.setIfInBounds_toArray, List.set_cons_zero, List.set_cons_succ, i64_w, i32_w]
                rfl
               refine pure_ (i := 7) (N := some 92) (v := undef) (a' := ?_) #[true,true,true,true,true,true,true,true,false,false,false,false,false,false,false,false,false,false,false,false] rfl rfl (any_of HT_.out (by kernel_rfl)) (fun _ _ _ h => h) (Or.inr ⟨by rfl, rfl⟩) ?_ ?_
               rotate_left
               ·simp only [Act.put, List.setIfInBounds_toArray, List.set_cons_zero, List.set_cons_succ, i64_w, i32_w]
                rfl
               refine pure_ (i := 8) (N := some 93) (v := undef) (a' := ?_) #[true,true,true,true,true,true,true,true,true,false,false,false,false,false,false,false,false,false,false,false] rfl rfl (any_of HT_.out (by kernel_rfl)) (fun _ _ _ h => h) (Or.inr ⟨by rfl, rfl⟩) ?_ ?_
               rotate_left
               ·simp only [Act.put, List.setIfInBounds_toArray, List.set_cons_zero, List.set_cons_succ, i64_w, i32_w]
                rfl
               refine pure_ (i := 9) (N := some 94) (v := undef) (a' := ?_) #[true,true,true,true,true,true,true,true,true,true,false,false,false,false,false,false,false,false,false,false] rfl rfl (any_of HT_.out (by kernel_rfl)) (fun _ _ _ h => h) (Or.inr ⟨by rfl, rfl⟩) ?_ ?_
               rotate_left
               ·simp only [Act.put, List.setIfInBounds_toArray, List.set_cons_zero, List.set_cons_succ, i64_w, i32_w]
                rfl
               refine pure_ (i := 10) (N := some 95) (v := undef) (a' := ?_) #[true,true,true,true,true,true,true,true,true,true,true,false,false,false,false,false,false,false,false,false] rfl rfl (any_of HT_.out (by kernel_rfl)) (fun _ _ _ h => h) (Or.inr ⟨by rfl, rfl⟩) ?_ ?_
               rotate_left
               ·simp only [Act.put, List.setIfInBounds_toArray, List.set_cons_zero, List.set_cons_succ, i64_w, i32_w]
                rfl
               refine pure_ (i := 11) (N := some 96) (v := ?_) (a' := ?_) #[true,true,true,true,true,true,true,true,true,true,true,true,false,false,false,false,false,false,false,false] rfl rfl (any_of HT_.out (by kernel_rfl)) (fun _ _ _ h => h) (Or.inl ⟨by rfl, ?_⟩) ?_ ?_
               rotate_left
               ·intro w'
                go_simp
                with_reducible rfl
               rotate_left
               ·simp only [Act.put, List.setIfInBounds_toArray, List.set_cons_zero, List.set_cons_succ, i64_w, i32_w]
                rfl
               refine pure_ (i := 12) (N := some 97) (v := ?_) (a' := ?_) #[true,true,true,true,true,true,true,true,true,true,true,true,true,false,false,false,false,false,false,false] rfl rfl (any_of HT_.out (by kernel_rfl)) (fun _ _ _ h => h) (Or.inl ⟨by rfl, ?_⟩) ?_ ?_
               rotate_left
               ·intro w'
                go_simp
                with_reducible rfl
               rotate_left
               ·simp only [Act.put, List.setIfInBounds_toArray, List.set_cons_zero, List.set_cons_succ, i64_w, i32_w]
                rfl
               refine pure_ (i := 13) (N := some 98) (v := undef) (a' := ?_) #[true,true,true,true,true,true,true,true,true,true,true,true,true,true,false,false,false,false,false,false] rfl rfl (any_of HT_.out (by kernel_rfl)) (fun _ _ _ h => h) (Or.inr ⟨by rfl, rfl⟩) ?_ ?_
               rotate_left
               ·simp only [Act.put, List.setIfInBounds_toArray, List.set_cons_zero, List.set_cons_succ, i64_w, i32_w]
                rfl
               refine pure_ (i := 14) (N := some 99) (v := undef) (a' := ?_) #[true,true,true,true,true,true,true,true,true,true,true,true,true,true,true,false,false,false,false,false] rfl rfl (any_of HT_.out (by kernel_rfl)) (fun _ _ _ h => h) (Or.inr ⟨by rfl, rfl⟩) ?_ ?_
               rotate_left
               ·simp only [Act.put, List.setIfInBounds_toArray, List.set_cons_zero, List.set_cons_succ, i64_w, i32_w]
                rfl
               refine pure_ (i := 15) (N := some 100) (v := undef) (a' := ?_) #[true,true,true,true,true,true,true,true,true,true,true,true,true,true,true,true,false,false,false,false] rfl rfl (any_of HT_.out (by kernel_rfl)) (fun _ _ _ h => h) (Or.inr ⟨by rfl, rfl⟩) ?_ ?_
               rotate_left
               ·simp only [Act.put, List.setIfInBounds_toArray, List.set_cons_zero, List.set_cons_succ, i64_w, i32_w]
                rfl
               refine pure_ (i := 16) (N := some 101) (v := undef) (a' := ?_) #[true,true,true,true,true,true,true,true,true,true,true,true,true,true,true,true,true,false,false,false] rfl rfl (any_of HT_.out (by kernel_rfl)) (fun _ _ _ h => h) (Or.inr ⟨by rfl, rfl⟩) ?_ ?_
               rotate_left
               ·simp only [Act.put, List.setIfInBounds_toArray, List.set_cons_zero, List.set_cons_succ, i64_w, i32_w]
                rfl
               refine pure_ (i := 17) (N := some 102) (v := undef) (a' := ?_) #[true,true,true,true,true,true,true,true,true,true,true,true,true,true,true,true,true,true,false,false] rfl rfl (any_of HT_.out (by kernel_rfl)) (fun _ _ _ h => h) (Or.inr ⟨by rfl, rfl⟩) ?_ ?_
               rotate_left
               ·simp only [Act.put, List.setIfInBounds_toArray, List.set_cons_zero, List.set_cons_succ, i64_w, i32_w]
                rfl
               refine pure_ (i := 18) (N := some 103) (v := ?_) (a' := ?_) #[true,true,true,true,true,true,true,true,true,true,true,true,true,true,true,true,true,true,true,false] rfl rfl (any_of HT_.out (by kernel_rfl)) (fun _ _ _ h => h) (Or.inl ⟨by rfl, ?_⟩) ?_ ?_
               rotate_left
               ·intro w'
                go_simp
                with_reducible rfl
               rotate_left
               ·simp only [Act.put, List.setIfInBounds_toArray, List.set_cons_zero, List.set_cons_succ, i64_w, i32_w]
                rfl
               refine pure_ (i := 19) (N := some 2) (v := ?_) (a' := ?_) #[true,true,true,true,true,true,true,true,true,true,true,true,true,true,true,true,true,true,true,true] rfl rfl (any_of HT_.out (by kernel_rfl)) (fun _ _ _ h => h) (Or.inl ⟨by rfl, ?_⟩) ?_ ?_
               rotate_left
               ·intro w'
                go_simp
                with_reducible rfl
               rotate_left
               ·simp only [Act.put, List.setIfInBounds_toArray, List.set_cons_zero, List.set_cons_succ, i64_w, i32_w]
                rfl
               refine done_ (done_of HT_.out (by kernel_rfl)) ?_
               try go_wp2
               go_ret
               exact ⟨by first | rfl | (simp [errW_none, errW_some] <;> rfl) | (simp [*, errW_none, errW_some] <;> rfl), by repeat (first | (with_reducible first | exact HB.out | apply below_alloc | apply pw_below_drewN | apply below_drew1) | exact HB.out)⟩
              ·replace c127 := Bool.eq_false_iff.mpr c127
               subst c127
               have H1 : ((hertzstr_StrProxyAuthenticate.f).bind fun t192 => (if 6 ≤ (t192.length : Int) then ((hertzutils_CaseInsensitiveCompare.f kj109 (l0.drop 6) (t192.drop 6)).bind fun t199 => (if t199 = true then (some true) else ((hertzstr_StrProxyAuthorization.f).bind fun t201 => (if 6 ≤ (t201.length : Int) then ((hertzutils_CaseInsensitiveCompare.f kj109 (l0.drop 6) (t201.drop 6)).bind fun t208 => (some t208)) else (none))))) else (none))) = some r := by rw [if_neg (show ¬ (false = true) by decide)] at H; exact H
               clear H
               have H := H1
               clear H1
               have c133b0 := eq_true (of_decide_eq_true (by first | (with_reducible assumption) | assumption) : 6 ≤ (l0.length : Int))
               replace H := Option.bind_eq_some_iff.mp H
               obtain ⟨t192, A1340, H⟩ := H
               replace H : (if 6 ≤ (t192.length : Int) then ((hertzutils_CaseInsensitiveCompare.f kj109 (l0.drop 6) (t192.drop 6)).bind fun t199 => (if t199 = true then (some true) else ((hertzstr_StrProxyAuthorization.f).bind fun t201 => (if 6 ≤ (t201.length : Int) then ((hertzutils_CaseInsensitiveCompare.f kj109 (l0.drop 6) (t201.drop 6)).bind fun t208 => (some t208)) else (none))))) else (none)) = some r := H
               have A134 := Aside0.mk A1340
               clear A1340
               by_cases c135 : 6 ≤ (t192.length : Int)
               ·rw [if_pos c135] at H
                have c135b0 := eq_true c135
                have c135b1 : decide (6 ≤ (t192.length : Int)) = true := decide_eq_true c135
                clear c135
                obtain ⟨y195, hy195⟩ : ∃ y_ : List Int, y_ = (t192.drop 6) := ⟨_, rfl⟩
                replace H : ((hertzutils_CaseInsensitiveCompare.f kj109 (l0.drop 6) y195).bind fun t199 => (if t199 = true then (some true) else ((hertzstr_StrProxyAuthorization.f).bind fun t201 => (if 6 ≤ (t201.length : Int) then ((hertzutils_CaseInsensitiveCompare.f kj109 (l0.drop 6) (t201.drop 6)).bind fun t208 => (some t208)) else (none))))) = some r := by first | (rw [hy195]; with_reducible exact H) | (have H2_ := (Option.bind_some _ _).symm.trans H; rw [hy195]; with_reducible exact H2_) | (have H2_ := (Option.bind_some _ _).symm.trans H; with_reducible exact H2_) | with_reducible exact H | (rw [hy195]; exact H) | exact H
                have Ny195 := Aside0.mk hy195
                clear hy195
                replace H := Option.bind_eq_some_iff.mp H
                obtain ⟨t199, A1360, H⟩ := H
                replace H : (if t199 = true then (some true) else ((hertzstr_StrProxyAuthorization.f).bind fun t201 => (if 6 ≤ (t201.length : Int) then ((hertzutils_CaseInsensitiveCompare.f kj109 (l0.drop 6) (t201.drop 6)).bind fun t208 => (some t208)) else (none)))) = some r := H
                have A136 := Aside0.mk A1360
                clear A1360
                by_cases c137 : t199 = true
                ·subst c137
                 have H1 : (some true) = some r := by rw [if_pos rfl] at H; exact H
                 clear H
                 have H := H1
                 clear H1
                 obtain rfl := Option.some.inj H
                 try go_wp2
                 have n0_ := Aside0.mk (below_drew1 HB.out)
                 clear HB
                 have HB := n0_
                 clear n0_
                 obtain ⟨i0139, hi0139, _, hsz139, _⟩ := info_parts info5
                 obtain ⟨A139, hcut139, hA139, hC139⟩ := print_drop_of (P := Try.prog) (Value.int .u8) 0 54 5 .i64 Try.underlying54 hi0139 hsz139 (some ad103) c0 l0 6 (by omega) (of_decide_eq_true (by first | (with_reducible assumption) | assumption)) HC0.out
                 have HR182 := Aside0.mk (Kd.C_of_reads (h1 := fun _ => rfl) (hA139 _ (Kd.reads_of_C HR0.out)))
                 have HC182 := Aside0.mk hC139
                 clear hA139 hC139 hi0139 hsz139
                 refine start_ (n := 20) (S := fun w' => True) (ds := []) #[false,false,false,false,false,false,false,false,false,false,false,false,false,false,false,false,false,false,false,false] (by kernel_rfl) rfl rfl trivial (fun hHeld => ?_); refine with_tabW hertzproto_IsBadTrailer.tab18 hertzproto_IsBadTrailer.bits18 (fun HT_ HW_ => ?_)
                 generalize wc.drew = w138 at HB HR182 hHeld ⊢
                 refine pure_ (i := 0) (N := some 85) (v := ?_) (a' := ?_) #[true,false,false,false,false,false,false,false,false,false,false,false,false,false,false,false,false,false,false,false] rfl rfl (any_of HT_.out (by kernel_rfl)) (fun _ _ _ h => h) (Or.inl ⟨by rfl, ?_⟩) ?_ ?_
                 rotate_left
                 ·intro w'
                  go_simp
                  with_reducible rfl
                 rotate_left
                 ·simp only [Act.put, List.setIfInBounds_toArray, List.set_cons_zero, List.set_cons_succ, i64_w, i32_w]
                  rfl
                 refine pure_ (i := 1) (N := some 86) (v := ?_) (a' := ?_) #[true,true,false,false,false,false,false,false,false,false,false,false,false,false,false,false,false,false,false,false] rfl rfl (any_of HT_.out (by kernel_rfl)) (fun _ _ _ h => h) (Or.inl ⟨by rfl, ?_⟩) ?_ ?_
                 rotate_left
                 ·intro w'
                  go_simp
                  with_reducible rfl
                 rotate_left
                 ·simp only [Act.put, List.setIfInBounds_toArray, List.set_cons_zero, List.set_cons_succ, i64_w, i32_w]
                  rfl
                 refine one_ (i := 2) (N := some 87) #[true,true,true,false,false,false,false,false,false,false,false,false,false,false,false,false,false,false,false,false] rfl rfl (one_of HT_.out (by kernel_rfl)) (by decide) (fun K hK => ?_)
                 refine goes_ Try.func91 (by kernel_rfl) rfl #[] (by rfl) rfl rfl (by (try simp only [List.map_toArray, List.map_cons, List.map_nil]); first | done | rfl | (simp only [List.length_drop, List.length_take]; rfl)) ?_
                 with_reducible refine (hertzstr_StrProxyConnection.calls  t183 _ A124.out).mono ?_
                 rintro e w140 ⟨v184, rfl, ho0, hb⟩
                 refine ⟨_, rfl, ?_⟩
                 have n0_ := Aside0.mk (MR.R_lower ho0 (below_size (by repeat (first | (with_reducible first | exact HB.out | apply below_alloc | apply pw_below_drewN | apply below_drew1) | exact HB.out))))
                 have n1_ := Aside0.mk (below_step (by repeat (first | (with_reducible first | exact HB.out | apply below_alloc | apply pw_below_drewN | apply below_drew1) | exact HB.out)) hb)
                 clear HB
                 have HO185 := n0_
                 have HB := n1_
                 clear n0_ n1_
                 (try clear hb)
                 (try clear hb2)
                 (try clear hk)
                 (try clear hi)
                 (try clear ho0)
                 obtain ⟨Ao142, co142, eo142⟩ := MR.R_slice HO185.out
                 (first | subst eo142 | (injection eo142 with f1_ f2_ f3_; have f4_ := f1_.symm; have f5_ := f3_.symm; clear f1_ f2_ f3_; subst f4_; subst f5_))
                 have q141 : (6 : Int) ≤ ((t183.length : Int) : Int) := of_decide_eq_true (by first | (with_reducible assumption) | assumption)
                 obtain ⟨i0141, hi0141, _, hsz141, _⟩ := info_parts info5
                 have hroom141 : t183.length ≤ co142 := (MR.R_reads' HO185.out).2.1
                 have hC141 : Kd.C (Kd.int .u8) _ Ao142 t183.length t183 := (MR.R_reads' HO185.out).2.2
                 have hcut141 := cut_from (P := Try.prog) 54 5 .i64 Try.underlying54 hi0141 1 hsz141 Ao142 t183.length co142 6 (by omega) q141
                 have hr141 := Kd.C_drop (m := (6 : Int).toNat) (c := co142) hC141 (by omega) hroom141
                 obtain ⟨A141, hA141⟩ : ∃ A1, A1 = (if co142 = (6 : Int).toNat then Ao142 else (Ao142 : Option Addr).map (·.add ((6 : Int).toNat * 1))) := ⟨_, rfl⟩
                 obtain ⟨c141, hc141⟩ : ∃ c1, c1 = co142 - (6 : Int).toNat := ⟨_, rfl⟩
                 have hy141 : y186.length = t183.length - (6 : Int).toNat := (by rw [Ny186.out, List.length_drop] <;> omega)
                 rw [show (t183).drop (6 : Int).toNat = y186 from Ny186.out.symm] at hr141
                 replace hr141 : Kd.C (Kd.int .u8) _ A141 y186.length y186 := (by rw [hA141]; exact hr141)
                 rw [← hy141, ← hA141, ← hc141] at hcut141
                 have HR189 := Aside0.mk hr141
                 have HC189 := Aside0.mk (show y186.length ≤ c141 from by rw [hy141, hc141]; exact Nat.sub_le_sub_right hroom141 _)
                 clear hr141 hC141 hroom141 hi0141 hsz141 hc141
                 have KY141 := Aside0.mk hy141
                 have KA141 := Aside0.mk hA141
                 clear hy141 hA141
                 have KL141 := Aside0.mk (show 6 ≤ t183.length from by omega)
                 replace q141 := eq_true q141
                 refine hK.out _ _ trivial (fun hHeld => ?_)
                 clear hK K
                 refine norm_ (a' := ?_) ?_ ?_
                 rotate_left
                 ·show Act.put _ (some 87) _ = _
                  simp only [Act.put, List.setIfInBounds_toArray, List.set_cons_zero, List.set_cons_succ, i64_w, i32_w]
                  rfl
                 refine pure_ (i := 3) (N := some 88) (v := ?_) (a' := ?_) #[true,true,true,true,false,false,false,false,false,false,false,false,false,false,false,false,false,false,false,false] rfl rfl (any_of HT_.out (by kernel_rfl)) (fun _ _ _ h => h) (Or.inl ⟨by rfl, ?_⟩) ?_ ?_
                 rotate_left
                 ·intro w'
                  go_simp
                  with_reducible rfl
                 rotate_left
                 ·simp only [Act.put, List.setIfInBounds_toArray, List.set_cons_zero, List.set_cons_succ, i64_w, i32_w]
                  rfl
                 refine one_ (i := 4) (N := some 89) #[true,true,true,true,true,false,false,false,false,false,false,false,false,false,false,false,false,false,false,false] rfl rfl (one_of HT_.out (by kernel_rfl)) (by decide) (fun K hK => ?_)
                 refine goes_ Try.func80 (by kernel_rfl) rfl #[.slice A139 (l0.drop 6).length (c0 - 6), .slice A141 y186.length c141] (by rfl) rfl rfl (by (try simp only [List.map_toArray, List.map_cons, List.map_nil]); first | done | (rw [show (l0.drop 6).length = (l0.length - 6) from List.length_drop] <;> rfl) | rfl | (simp only [List.length_drop, List.length_take]; rfl)) ?_
                 with_reducible refine (hertzutils_CaseInsensitiveCompare.calls kj109 _ _ (l0.drop 6) _ _ y186 false _ ?side1 ?side2 ?side3 ?side4 A126.out).mono ?_
                 (case side1 => repeat (first | exact (Kd.C_below HR182.out HB.out) | (with_reducible refine Kd.C_alloc ?_ _) | (with_reducible refine Kd.C_drewN ?_ _) | (with_reducible refine Kd.C_drew ?_)))
                 (case side2 => exact HC182.out)
                 (case side3 => repeat (first | exact (by repeat (first | (with_reducible exact HR189.out) | (with_reducible refine Kd.C_alloc ?_ _) | (with_reducible refine Kd.C_drewN ?_ _) | (with_reducible refine Kd.C_drew ?_) | exact HR189.out)) | (with_reducible refine Kd.C_alloc ?_ _) | (with_reducible refine Kd.C_drewN ?_ _) | (with_reducible refine Kd.C_drew ?_)))
                 (case side4 => exact HC189.out)
                 rintro e w' ⟨rfl, ⟨nd, rfl⟩⟩
                 refine ⟨_, rfl, ?_⟩
                 obtain ⟨i0143, hi0143, _, hsz143, _⟩ := info_parts info5
                 obtain ⟨A143, hcut143, hA143, hC143⟩ := print_drop_of (P := Try.prog) (Value.int .u8) 0 54 5 .i64 Try.underlying54 hi0143 hsz143 (some ad103) c0 l0 6 (by omega) (of_decide_eq_true (by first | (with_reducible assumption) | assumption)) HC0.out
                 have d143_ : A143 = A139 := MR.cut_same (hcut143 w) (hcut139 w)
                 rw [d143_] at hA143
                 clear hcut143 d143_
                 have HR191 := Aside0.mk (Kd.C_of_reads (h1 := fun _ => rfl) (hA143 _ (Kd.reads_of_C HR0.out)))
                 have HC191 := Aside0.mk hC143
                 clear hA143 hC143 hi0143 hsz143
                 refine hK.out _ _ trivial (fun hHeld => ?_)
                 clear hK K
                 refine norm_ (a' := ?_) ?_ ?_
                 rotate_left
                 ·show Act.put _ (some 89) _ = _
                  simp only [Act.put, List.setIfInBounds_toArray, List.set_cons_zero, List.set_cons_succ, i64_w, i32_w]
                  rfl
                 refine pure_ (i := 5) (N := some 90) (v := ?_) (a' := ?_) #[true,true,true,true,true,true,false,false,false,false,false,false,false,false,false,false,false,false,false,false] rfl rfl (any_of HT_.out (by kernel_rfl)) (fun _ _ _ h => h) (Or.inl ⟨by rfl, ?_⟩) ?_ ?_
                 rotate_left
                 ·intro w'
                  go_simp
                  with_reducible rfl
                 rotate_left
                 ·simp only [Act.put, List.setIfInBounds_toArray, List.set_cons_zero, List.set_cons_succ, i64_w, i32_w]
                  rfl
                 refine pure_ (i := 6) (N := some 91) (v := ?_) (a' := ?_) #[true,true,true,true,true,true,true,false,false,false,false,false,false,false,false,false,false,false,false,false] rfl rfl (any_of HT_.out (by kernel_rfl)) (fun _ _ _ h => h) (Or.inl ⟨by rfl, ?_⟩) ?_ ?_
                 rotate_left
                 ·intro w'
                  go_simp
                  with_reducible rfl
                 rotate_left
                 ·simp only [Act.put, List.setIfInBounds_toArray, List.set_cons_zero, List.set_cons_succ, i64_w, i32_w]
                  rfl
                 refine pure_ (i := 7) (N := some 92) (v := ?_) (a' := ?_) #[true,true,true,true,true,true,true,true,false,false,false,false,false,false,false,false,false,false,false,false] rfl rfl (any_of HT_.out (by kernel_rfl)) (fun _ _ _ h => h) (Or.inl ⟨by rfl, ?_⟩) ?_ ?_
                 rotate_left
                 ·intro w'
                  go_simp
                  with_reducible rfl
                 rotate_left
                 ·simp only [Act.put, List.setIfInBounds_toArray, List.set_cons_zero, List.set_cons_succ, i64_w, i32_w]
                  rfl
                 refine one_ (i := 8) (N := some 93) #[true,true,true,true,true,true,true,true,true,false,false,false,false,false,false,false,false,false,false,false] rfl rfl (one_of HT_.out (by kernel_rfl)) (by decide) (fun K hK => ?_)
                 refine goes_ Try.func92 (by kernel_rfl) rfl #[] (by rfl) rfl rfl (by (try simp only [List.map_toArray, List.map_cons, List.map_nil]); first | done | rfl | (simp only [List.length_drop, List.length_take]; rfl)) ?_
                 with_reducible refine (hertzstr_StrProxyAuthenticate.calls  t192 _ A134.out).mono ?_
                 rintro e w144 ⟨v193, rfl, ho0, hb⟩
                 refine ⟨_, rfl, ?_⟩
                 have n0_ := Aside0.mk (MR.R_elder' (by (with_reducible repeat (first | apply MR.R_alloc | apply MR.R_drewN | apply MR.R_drew)); exact HO185.out) (MR.R_base ho0) hb)
                 have n1_ := Aside0.mk (MR.R_lower (MR.R_new' ho0 (MR.R_lt (by (with_reducible repeat (first | apply MR.R_alloc | apply MR.R_drewN | apply MR.R_drew)); exact HO185.out))) (below_size (by repeat (first | (with_reducible first | exact HB.out | apply below_alloc | apply pw_below_drewN | apply below_drew1) | exact HB.out))))
                 have n2_ := Aside0.mk (Kd.C_below (by repeat (first | (with_reducible exact HR189.out) | (with_reducible refine Kd.C_alloc ?_ _) | (with_reducible refine Kd.C_drewN ?_ _) | (with_reducible refine Kd.C_drew ?_) | exact HR189.out)) hb)
                 have n3_ := Aside0.mk (below_step (by repeat (first | (with_reducible first | exact HB.out | apply below_alloc | apply pw_below_drewN | apply below_drew1) | exact HB.out)) hb)
                 clear HO185
                 clear HR189
                 clear HB
                 have HO185 := n0_
                 have HO194 := n1_
                 have HR189 := n2_
                 have HB := n3_
                 clear n0_ n1_ n2_ n3_
                 (try clear hb)
                 (try clear hb2)
                 (try clear hk)
                 (try clear hi)
                 (try clear ho0)
                 obtain ⟨Ao146, co146, eo146⟩ := MR.R_slice HO194.out
                 (first | subst eo146 | (injection eo146 with f1_ f2_ f3_; have f4_ := f1_.symm; have f5_ := f3_.symm; clear f1_ f2_ f3_; subst f4_; subst f5_))
                 have q145 : (6 : Int) ≤ ((t192.length : Int) : Int) := of_decide_eq_true (by first | (with_reducible assumption) | assumption)
                 obtain ⟨i0145, hi0145, _, hsz145, _⟩ := info_parts info5
                 have hroom145 : t192.length ≤ co146 := (MR.R_reads' HO194.out).2.1
                 have hC145 : Kd.C (Kd.int .u8) _ Ao146 t192.length t192 := (MR.R_reads' HO194.out).2.2
                 have hcut145 := cut_from (P := Try.prog) 54 5 .i64 Try.underlying54 hi0145 1 hsz145 Ao146 t192.length co146 6 (by omega) q145
                 have hr145 := Kd.C_drop (m := (6 : Int).toNat) (c := co146) hC145 (by omega) hroom145
                 obtain ⟨A145, hA145⟩ : ∃ A1, A1 = (if co146 = (6 : Int).toNat then Ao146 else (Ao146 : Option Addr).map (·.add ((6 : Int).toNat * 1))) := ⟨_, rfl⟩
                 obtain ⟨c145, hc145⟩ : ∃ c1, c1 = co146 - (6 : Int).toNat := ⟨_, rfl⟩
                 have hy145 : y195.length = t192.length - (6 : Int).toNat := (by rw [Ny195.out, List.length_drop] <;> omega)
                 rw [show (t192).drop (6 : Int).toNat = y195 from Ny195.out.symm] at hr145
                 replace hr145 : Kd.C (Kd.int .u8) _ A145 y195.length y195 := (by rw [hA145]; exact hr145)
                 rw [← hy145, ← hA145, ← hc145] at hcut145
                 have HR198 := Aside0.mk hr145
                 have HC198 := Aside0.mk (show y195.length ≤ c145 from by rw [hy145, hc145]; exact Nat.sub_le_sub_right hroom145 _)
                 clear hr145 hC145 hroom145 hi0145 hsz145 hc145
                 have KY145 := Aside0.mk hy145
                 have KA145 := Aside0.mk hA145
                 clear hy145 hA145
                 have KL145 := Aside0.mk (show 6 ≤ t192.length from by omega)
                 replace q145 := eq_true q145
                 refine hK.out _ _ trivial (fun hHeld => ?_)
                 clear hK K
                 refine norm_ (a' := ?_) ?_ ?_
                 rotate_left
                 ·show Act.put _ (some 93) _ = _
                  simp only [Act.put, List.setIfInBounds_toArray, List.set_cons_zero, List.set_cons_succ, i64_w, i32_w]
                  rfl
                 refine pure_ (i := 9) (N := some 94) (v := ?_) (a' := ?_) #[true,true,true,true,true,true,true,true,true,true,false,false,false,false,false,false,false,false,false,false] rfl rfl (any_of HT_.out (by kernel_rfl)) (fun _ _ _ h => h) (Or.inl ⟨by rfl, ?_⟩) ?_ ?_
                 rotate_left
                 ·intro w'
                  go_simp
                  with_reducible rfl
                 rotate_left
                 ·simp only [Act.put, List.setIfInBounds_toArray, List.set_cons_zero, List.set_cons_succ, i64_w, i32_w]
                  rfl
                 refine one_ (i := 10) (N := some 95) #[true,true,true,true,true,true,true,true,true,true,true,false,false,false,false,false,false,false,false,false] rfl rfl (one_of HT_.out (by kernel_rfl)) (by decide) (fun K hK => ?_)
                 refine goes_ Try.func80 (by kernel_rfl) rfl #[.slice A139 (l0.drop 6).length (c0 - 6), .slice A145 y195.length c145] (by rfl) rfl rfl (by (try simp only [List.map_toArray, List.map_cons, List.map_nil]); first | done | (rw [show (l0.drop 6).length = (l0.length - 6) from List.length_drop] <;> rfl) | rfl | (simp only [List.length_drop, List.length_take]; rfl)) ?_
                 with_reducible refine (hertzutils_CaseInsensitiveCompare.calls kj109 _ _ (l0.drop 6) _ _ y195 true _ ?side1 ?side2 ?side3 ?side4 A136.out).mono ?_
                 (case side1 => repeat (first | exact (Kd.C_below HR191.out HB.out) | (with_reducible refine Kd.C_alloc ?_ _) | (with_reducible refine Kd.C_drewN ?_ _) | (with_reducible refine Kd.C_drew ?_)))
                 (case side2 => exact HC191.out)
                 (case side3 => repeat (first | exact (by repeat (first | (with_reducible exact HR198.out) | (with_reducible refine Kd.C_alloc ?_ _) | (with_reducible refine Kd.C_drewN ?_ _) | (with_reducible refine Kd.C_drew ?_) | exact HR198.out)) | (with_reducible refine Kd.C_alloc ?_ _) | (with_reducible refine Kd.C_drewN ?_ _) | (with_reducible refine Kd.C_drew ?_)))
                 (case side4 => exact HC198.out)
                 rintro e w' ⟨rfl, ⟨nd, rfl⟩⟩
                 refine ⟨_, rfl, ?_⟩
                 refine hK.out _ _ trivial (fun hHeld => ?_)
                 clear hK K
                 refine norm_ (a' := ?_) ?_ ?_
                 rotate_left
                 ·show Act.put _ (some 95) _ = _
                  simp only [Act.put, List.setIfInBounds_toArray, List.set_cons_zero, List.set_cons_succ, i64_w, i32_w]
                  rfl
                 refine pure_ (i := 11) (N := some 96) (v := ?_) (a' := ?_) #[true,true,true,true,true,true,true,true,true,true,true,true,false,false,false,false,false,false,false,false] rfl rfl (any_of HT_.out (by kernel_rfl)) (fun _ _ _ h => h) (Or.inl ⟨by rfl, ?_⟩) ?_ ?_
                 rotate_left
                 ·intro w'
                  go_simp
                  with_reducible rfl
                 rotate_left
                 ·simp only [Act.put, List.setIfInBounds_toArray, List.set_cons_zero, List.set_cons_succ, i64_w, i32_w]
                  rfl
                 refine pure_ (i := 12) (N := some 97) (v := ?_) (a' := ?_) #[true,true,true,true,true,true,true,true,true,true,true,true,true,false,false,false,false,false,false,false] rfl rfl (any_of HT_.out (by kernel_rfl)) (fun _ _ _ h => h) (Or.inl ⟨by rfl, ?_⟩) ?_ ?_
                 rotate_left
                 ·intro w'
                  go_simp
                  with_reducible rfl
                 rotate_left
                 ·simp only [Act.put, List.setIfInBounds_toArray, List.set_cons_zero, List.set_cons_succ, i64_w, i32_w]
                  rfl
                 refine pure_ (i := 13) (N := some 98) (v := undef) (a' := ?_) #[true,true,true,true,true,true,true,true,true,true,true,true,true,true,false,false,false,false,false,false] rfl rfl (any_of HT_.out (by kernel_rfl)) (fun _ _ _ h => h) (Or.inr ⟨by rfl, rfl⟩) ?_ ?_
                 rotate_left
                 ·simp only [Act.put, List.setIfInBounds_toArray, List.set_cons_zero, List.set_cons_succ, i64_w, i32_w]
                  rfl
                 refine pure_ (i := 14) (N := some 99) (v := undef) (a' := ?_) #[true,true,true,true,true,true,true,true,true,true,true,true,true,true,true,false,false,false,false,false] rfl rfl (any_of HT_.out (by kernel_rfl)) (fun _ _ _ h => h) (Or.inr ⟨by rfl, rfl⟩) ?_ ?_
                 rotate_left
                 ·simp only [Act.put, List.setIfInBounds_toArray, List.set_cons_zero, List.set_cons_succ, i64_w, i32_w]
                  rfl
                 refine pure_ (i := 15) (N := some 100) (v := undef) (a' := ?_) #[true,true,true,true,true,true,true,true,true,true,true,true,true,true,true,true,false,false,false,false] rfl rfl (any_of HT_.out (by kernel_rfl)) (fun _ _ _ h => h) (Or.inr ⟨by rfl, rfl⟩) ?_ ?_
                 rotate_left
                 ·simp only [Act.put, List.setIfInBounds_toArray, List.set_cons_zero, List.set_cons_succ, i64_w, i32_w]
                  rfl
                 refine pure_ (i := 16) (N := some 101) (v := undef) (a' := ?_) #[true,true,true,true,true,true,true,true,true,true,true,true,true,true,true,true,true,false,false,false] rfl rfl (any_of HT_.out (by kernel_rfl)) (fun _ _ _ h => h) (Or.inr ⟨by rfl, rfl⟩) ?_ ?_
                 rotate_left
                 ·simp only [Act.put, List.setIfInBounds_toArray, List.set_cons_zero, List.set_cons_succ, i64_w, i32_w]
                  rfl
                 refine pure_ (i := 17) (N := some 102) (v := undef) (a' := ?_) #[true,true,true,true,true,true,true,true,true,true,true,true,true,true,true,true,true,true,false,false] rfl rfl (any_of HT_.out (by kernel_rfl)) (fun _ _ _ h => h) (Or.inr ⟨by rfl, rfl⟩) ?_ ?_
                 rotate_left
                 ·simp only [Act.put, List.setIfInBounds_toArray, List.set_cons_zero, List.set_cons_succ, i64_w, i32_w]
                  rfl
                 refine pure_ (i := 18) (N := some 103) (v := ?_) (a' := ?_) #[true,true,true,true,true,true,true,true,true,true,true,true,true,true,true,true,true,true,true,false] rfl rfl (any_of HT_.out (by kernel_rfl)) (fun _ _ _ h => h) (Or.inl ⟨by rfl, ?_⟩) ?_ ?_
                 rotate_left
                 ·intro w'
                  go_simp
                  with_reducible rfl
                 rotate_left
                 ·simp only [Act.put, List.setIfInBounds_toArray, List.set_cons_zero, List.set_cons_succ, i64_w, i32_w]
                  rfl
                 refine pure_ (i := 19) (N := some 2) (v := ?_) (a' := ?_) #[true,true,true,true,true,true,true,true,true,true,true,true,true,true,true,true,true,true,true,true] rfl rfl (any_of HT_.out (by kernel_rfl)) (fun _ _ _ h => h) (Or.inl ⟨by rfl, ?_⟩) ?_ ?_
                 rotate_left
                 ·intro w'
                  go_simp
                  with_reducible rfl
                 rotate_left
                 ·simp only [Act.put, List.setIfInBounds_toArray, List.set_cons_zero, List.set_cons_succ, i64_w, i32_w]
                  rfl
                 refine done_ (done_of HT_.out (by kernel_rfl)) ?_
                 try go_wp2
                 go_ret
                 exact ⟨by first | rfl | (simp [errW_none, errW_some] <;> rfl) | (simp [*, errW_none, errW_some] <;> rfl), by repeat (first | (with_reducible first | exact HB.out | apply below_alloc | apply pw_below_drewN | apply below_drew1) | exact HB.out)⟩
                ·replace c137 := Bool.eq_false_iff.mpr c137
                 subst c137
                 have H1 : ((hertzstr_StrProxyAuthorization.f).bind fun t201 => (if 6 ≤ (t201.length : Int) then ((hertzutils_CaseInsensitiveCompare.f kj109 (l0.drop 6) (t201.drop 6)).bind fun t208 => (some t208)) else (none))) = some r := by rw [if_neg (show ¬ (false = true) by decide)] at H; exact H
                 clear H
                 have H := H1
                 clear H1
                 have c147b0 := eq_true (of_decide_eq_true (by first | (with_reducible assumption) | assumption) : 6 ≤ (l0.length : Int))
                 replace H := Option.bind_eq_some_iff.mp H
                 obtain ⟨t201, A1480, H⟩ := H
                 replace H : (if 6 ≤ (t201.length : Int) then ((hertzutils_CaseInsensitiveCompare.f kj109 (l0.drop 6) (t201.drop 6)).bind fun t208 => (some t208)) else (none)) = some r := H
                 have A148 := Aside0.mk A1480
                 clear A1480
                 by_cases c149 : 6 ≤ (t201.length : Int)
                 ·rw [if_pos c149] at H
                  have c149b0 := eq_true c149
                  have c149b1 : decide (6 ≤ (t201.length : Int)) = true := decide_eq_true c149
                  clear c149
                  obtain ⟨y204, hy204⟩ : ∃ y_ : List Int, y_ = (t201.drop 6) := ⟨_, rfl⟩
                  replace H : ((hertzutils_CaseInsensitiveCompare.f kj109 (l0.drop 6) y204).bind fun t208 => (some t208)) = some r := by first | (rw [hy204]; with_reducible exact H) | (have H2_ := (Option.bind_some _ _).symm.trans H; rw [hy204]; with_reducible exact H2_) | (have H2_ := (Option.bind_some _ _).symm.trans H; with_reducible exact H2_) | with_reducible exact H | (rw [hy204]; exact H) | exact H
                  have Ny204 := Aside0.mk hy204
                  clear hy204
                  replace H := Option.bind_eq_some_iff.mp H
                  obtain ⟨t208, A1500, H⟩ := H
                  replace H : (some t208) = some r := H
                  have A150 := Aside0.mk A1500
                  clear A1500
                  obtain rfl := Option.some.inj H
                  try go_wp2
                  have n0_ := Aside0.mk (below_drew1 HB.out)
                  clear HB
                  have HB := n0_
                  clear n0_
                  obtain ⟨i0152, hi0152, _, hsz152, _⟩ := info_parts info5
                  obtain ⟨A152, hcut152, hA152, hC152⟩ := print_drop_of (P := Try.prog) (Value.int .u8) 0 54 5 .i64 Try.underlying54 hi0152 hsz152 (some ad103) c0 l0 6 (by omega) (of_decide_eq_true (by first | (with_reducible assumption) | assumption)) HC0.out
                  have HR182 := Aside0.mk (Kd.C_of_reads (h1 := fun _ => rfl) (hA152 _ (Kd.reads_of_C HR0.out)))
                  have HC182 := Aside0.mk hC152
                  clear hA152 hC152 hi0152 hsz152
                  refine start_ (n := 20) (S := fun w' => True) (ds := []) #[false,false,false,false,false,false,false,false,false,false,false,false,false,false,false,false,false,false,false,false] (by kernel_rfl) rfl rfl trivial (fun hHeld => ?_); refine with_tabW hertzproto_IsBadTrailer.tab18 hertzproto_IsBadTrailer.bits18 (fun HT_ HW_ => ?_)
                  generalize wc.drew = w151 at HB HR182 hHeld ⊢
                  refine pure_ (i := 0) (N := some 85) (v := ?_) (a' := ?_) #[true,false,false,false,false,false,false,false,false,false,false,false,false,false,false,false,false,false,false,false] rfl rfl (any_of HT_.out (by kernel_rfl)) (fun _ _ _ h => h) (Or.inl ⟨by rfl, ?_⟩) ?_ ?_
                  rotate_left
                  ·intro w'
                   go_simp
                   with_reducible rfl
                  rotate_left
                  ·simp only [Act.put, List.setIfInBounds_toArray, List.set_cons_zero, List.set_cons_succ, i64_w, i32_w]
                   rfl
                  refine pure_ (i := 1) (N := some 86) (v := ?_) (a' := ?_) #[true,true,false,false,false,false,false,false,false,false,false,false,false,false,false,false,false,false,false,false] rfl rfl (any_of HT_.out (by kernel_rfl)) (fun _ _ _ h => h) (Or.inl ⟨by rfl, ?_⟩) ?_ ?_
                  rotate_left
                  ·intro w'
                   go_simp
                   with_reducible rfl
                  rotate_left
                  ·simp only [Act.put, List.setIfInBounds_toArray, List.set_cons_zero, List.set_cons_succ, i64_w, i32_w]
                   rfl
                  refine one_ (i := 2) (N := some 87) #[true,true,true,false,false,false,false,false,false,false,false,false,false,false,false,false,false,false,false,false] rfl rfl (one_of HT_.out (by kernel_rfl)) (by decide) (fun K hK => ?_)
                  refine goes_ Try.func91 (by kernel_rfl) rfl #[] (by rfl) rfl rfl (by (try simp only [List.map_toArray, List.map_cons, List.map_nil]); first | done | rfl | (simp only [List.length_drop, List.length_take]; rfl)) ?_
                  with_reducible refine (hertzstr_StrProxyConnection.calls  t183 _ A124.out).mono ?_
                  rintro e w153 ⟨v184, rfl, ho0, hb⟩
                  refine ⟨_, rfl, ?_⟩
                  have n0_ := Aside0.mk (MR.R_lower ho0 (below_size (by repeat (first | (with_reducible first | exact HB.out | apply below_alloc | apply pw_below_drewN | apply below_drew1) | exact HB.out))))
                  have n1_ := Aside0.mk (below_step (by repeat (first | (with_reducible first | exact HB.out | apply below_alloc | apply pw_below_drewN | apply below_drew1) | exact HB.out)) hb)
                  clear HB
                  have HO185 := n0_
                  have HB := n1_
                  clear n0_ n1_
                  (try clear hb)
                  (try clear hb2)
                  (try clear hk)
                  (try clear hi)
                  (try clear ho0)
                  obtain ⟨Ao155, co155, eo155⟩ := MR.R_slice HO185.out
                  (first | subst eo155 | (injection eo155 with f1_ f2_ f3_; have f4_ := f1_.symm; have f5_ := f3_.symm; clear f1_ f2_ f3_; subst f4_; subst f5_))
                  have q154 : (6 : Int) ≤ ((t183.length : Int) : Int) := of_decide_eq_true (by first | (with_reducible assumption) | assumption)
                  obtain ⟨i0154, hi0154, _, hsz154, _⟩ := info_parts info5
                  have hroom154 : t183.length ≤ co155 := (MR.R_reads' HO185.out).2.1
                  have hC154 : Kd.C (Kd.int .u8) _ Ao155 t183.length t183 := (MR.R_reads' HO185.out).2.2
                  have hcut154 := cut_from (P := Try.prog) 54 5 .i64 Try.underlying54 hi0154 1 hsz154 Ao155 t183.length co155 6 (by omega) q154
                  have hr154 := Kd.C_drop (m := (6 : Int).toNat) (c := co155) hC154 (by omega) hroom154
                  obtain ⟨A154, hA154⟩ : ∃ A1, A1 = (if co155 = (6 : Int).toNat then Ao155 else (Ao155 : Option Addr).map (·.add ((6 : Int).toNat * 1))) := ⟨_, rfl⟩
                  obtain ⟨c154, hc154⟩ : ∃ c1, c1 = co155 - (6 : Int).toNat := ⟨_, rfl⟩
                  have hy154 : y186.length = t183.length - (6 : Int).toNat := (by rw [Ny186.out, List.length_drop] <;> omega)
                  rw [show (t183).drop (6 : Int).toNat = y186 from Ny186.out.symm] at hr154
                  replace hr154 : Kd.C (Kd.int .u8) _ A154 y186.length y186 := (by rw [hA154]; exact hr154)
                  rw [← hy154, ← hA154, ← hc154] at hcut154
                  have HR189 := Aside0.mk hr154
                  have HC189 := Aside0.mk (show y186.length ≤ c154 from by rw [hy154, hc154]; exact Nat.sub_le_sub_right hroom154 _)
                  clear hr154 hC154 hroom154 hi0154 hsz154 hc154
                  have KY154 := Aside0.mk hy154
                  have KA154 := Aside0.mk hA154
                  clear hy154 hA154
                  have KL154 := Aside0.mk (show 6 ≤ t183.length from by omega)
                  replace q154 := eq_true q154
                  refine hK.out _ _ trivial (fun hHeld => ?_)
                  clear hK K
                  refine norm_ (a' := ?_) ?_ ?_
                  rotate_left
                  ·show Act.put _ (some 87) _ = _
                   simp only [Act.put, List.setIfInBounds_toArray, List.set_cons_zero, List.set_cons_succ, i64_w, i32_w]
                   rfl
                  refine pure_ (i := 3) (N := some 88) (v := ?_) (a' := ?_) #[true,true,true,true,false,false,false,false,false,false,false,false,false,false,false,false,false,false,false,false] rfl rfl (any_of HT_.out (by kernel_rfl)) (fun _ _ _ h => h) (Or.inl ⟨by rfl, ?_⟩) ?_ ?_
                  rotate_left
                  ·intro w'
                   go_simp
                   with_reducible rfl
                  rotate_left
                  ·simp only [Act.put, List.setIfInBounds_toArray, List.set_cons_zero, List.set_cons_succ, i64_w, i32_w]
                   rfl
                  refine one_ (i := 4) (N := some 89) #[true,true,true,true,true,false,false,false,false,false,false,false,false,false,false,false,false,false,false,false] rfl rfl (one_of HT_.out (by kernel_rfl)) (by decide) (fun K hK => ?_)
                  refine goes_ Try.func80 (by kernel_rfl) rfl #[.slice A152 (l0.drop 6).length (c0 - 6), .slice A154 y186.length c154] (by rfl) rfl rfl (by (try simp only [List.map_toArray, List.map_cons, List.map_nil]); first | done | (rw [show (l0.drop 6).length = (l0.length - 6) from List.length_drop] <;> rfl) | rfl | (simp only [List.length_drop, List.length_take]; rfl)) ?_
                  with_reducible refine (hertzutils_CaseInsensitiveCompare.calls kj109 _ _ (l0.drop 6) _ _ y186 false _ ?side1 ?side2 ?side3 ?side4 A126.out).mono ?_
                  (case side1 => repeat (first | exact (Kd.C_below HR182.out HB.out) | (with_reducible refine Kd.C_alloc ?_ _) | (with_reducible refine Kd.C_drewN ?_ _) | (with_reducible refine Kd.C_drew ?_)))
                  (case side2 => exact HC182.out)
                  (case side3 => repeat (first | exact (by repeat (first | (with_reducible exact HR189.out) | (with_reducible refine Kd.C_alloc ?_ _) | (with_reducible refine Kd.C_drewN ?_ _) | (with_reducible refine Kd.C_drew ?_) | exact HR189.out)) | (with_reducible refine Kd.C_alloc ?_ _) | (with_reducible refine Kd.C_drewN ?_ _) | (with_reducible refine Kd.C_drew ?_)))
                  (case side4 => exact HC189.out)
                  rintro e w' ⟨rfl, ⟨nd, rfl⟩⟩
                  refine ⟨_, rfl, ?_⟩
                  obtain ⟨i0156, hi0156, _, hsz156, _⟩ := info_parts info5
                  obtain ⟨A156, hcut156, hA156, hC156⟩ := print_drop_of (P := Try.prog) (Value.int .u8) 0 54 5 .i64 Try.underlying54 hi0156 hsz156 (some ad103) c0 l0 6 (by omega) (of_decide_eq_true (by first | (with_reducible assumption) | assumption)) HC0.out
                  have d156_ : A156 = A152 := MR.cut_same (hcut156 w) (hcut152 w)
                  rw [d156_] at hA156
                  clear hcut156 d156_
                  have HR191 := Aside0.mk (Kd.C_of_reads (h1 := fun _ => rfl) (hA156 _ (Kd.reads_of_C HR0.out)))
                  have HC191 := Aside0.mk hC156
                  clear hA156 hC156 hi0156 hsz156
                  refine hK.out _ _ trivial (fun hHeld => ?_)
                  clear hK K
                  refine norm_ (a' := ?_) ?_ ?_
                  rotate_left
                  ·show Act.put _ (some 89) _ = _
                   simp only [Act.put, List.setIfInBounds_toArray, List.set_cons_zero, List.set_cons_succ, i64_w, i32_w]
                   rfl
                  refine pure_ (i := 5) (N := some 90) (v := ?_) (a' := ?_) #[true,true,true,true,true,true,false,false,false,false,false,false,false,false,false,false,false,false,false,false] rfl rfl (any_of HT_.out (by kernel_rfl)) (fun _ _ _ h => h) (Or.inl ⟨by rfl, ?_⟩) ?_ ?_
                  rotate_left
                  ·intro w'
                   go_simp
                   with_reducible rfl
                  rotate_left
                  ·simp only [Act.put, List.setIfInBounds_toArray, List.set_cons_zero, List.set_cons_succ, i64_w, i32_w]
                   rfl
                  refine pure_ (i := 6) (N := some 91) (v := ?_) (a' := ?_) #[true,true,true,true,true,true,true,false,false,false,false,false,false,false,false,false,false,false,false,false] rfl rfl (any_of HT_.out (by kernel_rfl)) (fun _ _ _ h => h) (Or.inl ⟨by rfl, ?_⟩) ?_ ?_
                  rotate_left
                  ·intro w'
                   go_simp
                   with_reducible rfl
                  rotate_left
                  ·simp only [Act.put, List.setIfInBounds_toArray, List.set_cons_zero, List.set_cons_succ, i64_w, i32_w]
                   rfl
                  refine pure_ (i := 7) (N := some 92) (v := ?_) (a' := ?_) #[true,true,true,true,true,true,true,true,false,false,false,false,false,false,false,false,false,false,false,false] rfl rfl (any_of HT_.out (by kernel_rfl)) (fun _ _ _ h => h) (Or.inl ⟨by rfl, ?_⟩) ?_ ?_
                  rotate_left
                  ·intro w'
                   go_simp
                   with_reducible rfl
                  rotate_left
                  ·simp only [Act.put, List.setIfInBounds_toArray, List.set_cons_zero, List.set_cons_succ, i64_w, i32_w]
                   rfl
                  refine one_ (i := 8) (N := some 93) #[true,true,true,true,true,true,true,true,true,false,false,false,false,false,false,false,false,false,false,false] rfl rfl (one_of HT_.out (by kernel_rfl)) (by decide) (fun K hK => ?_)
                  refine goes_ Try.func92 (by kernel_rfl) rfl #[] (by rfl) rfl rfl (by (try simp only [List.map_toArray, List.map_cons, List.map_nil]); first | done | rfl | (simp only [List.length_drop, List.length_take]; rfl)) ?_
                  with_reducible refine (hertzstr_StrProxyAuthenticate.calls  t192 _ A134.out).mono ?_
                  rintro e w157 ⟨v193, rfl, ho0, hb⟩
                  refine ⟨_, rfl, ?_⟩
                  have n0_ := Aside0.mk (MR.R_elder' (by (with_reducible repeat (first | apply MR.R_alloc | apply MR.R_drewN | apply MR.R_drew)); exact HO185.out) (MR.R_base ho0) hb)
                  have n1_ := Aside0.mk (MR.R_lower (MR.R_new' ho0 (MR.R_lt (by (with_reducible repeat (first | apply MR.R_alloc | apply MR.R_drewN | apply MR.R_drew)); exact HO185.out))) (below_size (by repeat (first | (with_reducible first | exact HB.out | apply below_alloc | apply pw_below_drewN | apply below_drew1) | exact HB.out))))
                  have n2_ := Aside0.mk (Kd.C_below (by repeat (first | (with_reducible exact HR189.out) | (with_reducible refine Kd.C_alloc ?_ _) | (with_reducible refine Kd.C_drewN ?_ _) | (with_reducible refine Kd.C_drew ?_) | exact HR189.out)) hb)
                  have n3_ := Aside0.mk (below_step (by repeat (first | (with_reducible first | exact HB.out | apply below_alloc | apply pw_below_drewN | apply below_drew1) | exact HB.out)) hb)
                  clear HO185
                  clear HR189
                  clear HB
                  have HO185 := n0_
                  have HO194 := n1_
                  have HR189 := n2_
                  have HB := n3_
                  clear n0_ n1_ n2_ n3_
                  (try clear hb)
                  (try clear hb2)
                  (try clear hk)
                  (try clear hi)
                  (try clear ho0)
                  obtain ⟨Ao159, co159, eo159⟩ := MR.R_slice HO194.out
                  (first | subst eo159 | (injection eo159 with f1_ f2_ f3_; have f4_ := f1_.symm; have f5_ := f3_.symm; clear f1_ f2_ f3_; subst f4_; subst f5_))
                  have q158 : (6 : Int) ≤ ((t192.length : Int) : Int) := of_decide_eq_true (by first | (with_reducible assumption) | assumption)
                  obtain ⟨i0158, hi0158, _, hsz158, _⟩ := info_parts info5
                  have hroom158 : t192.length ≤ co159 := (MR.R_reads' HO194.out).2.1
                  have hC158 : Kd.C (Kd.int .u8) _ Ao159 t192.length t192 := (MR.R_reads' HO194.out).2.2
                  have hcut158 := cut_from (P := Try.prog) 54 5 .i64 Try.underlying54 hi0158 1 hsz158 Ao159 t192.length co159 6 (by omega) q158
                  have hr158 := Kd.C_drop (m := (6 : Int).toNat) (c := co159) hC158 (by omega) hroom158
                  obtain ⟨A158, hA158⟩ : ∃ A1, A1 = (if co159 = (6 : Int).toNat then Ao159 else (Ao159 : Option Addr).map (·.add ((6 : Int).toNat * 1))) := ⟨_, rfl⟩
                  obtain ⟨c158, hc158⟩ : ∃ c1, c1 = co159 - (6 : Int).toNat := ⟨_, rfl⟩
                  have hy158 : y195.length = t192.length - (6 : Int).toNat := (by rw [Ny195.out, List.length_drop] <;> omega)
                  rw [show (t192).drop (6 : Int).toNat = y195 from Ny195.out.symm] at hr158
                  replace hr158 : Kd.C (Kd.int .u8) _ A158 y195.length y195 := (by rw [hA158]; exact hr158)
                  rw [← hy158, ← hA158, ← hc158] at hcut158
                  have HR198 := Aside0.mk hr158
                  have HC198 := Aside0.mk (show y195.length ≤ c158 from by rw [hy158, hc158]; exact Nat.sub_le_sub_right hroom158 _)
                  clear hr158 hC158 hroom158 hi0158 hsz158 hc158
                  have KY158 := Aside0.mk hy158
                  have KA158 := Aside0.mk hA158
                  clear hy158 hA158
                  have KL158 := Aside0.mk (show 6 ≤ t192.length from by omega)
                  replace q158 := eq_true q158
                  refine hK.out _ _ trivial (fun hHeld => ?_)
                  clear hK K
                  refine norm_ (a' := ?_) ?_ ?_
                  rotate_left
                  ·show Act.put _ (some 93) _ = _
                   simp only [Act.put, List.setIfInBounds_toArray, List.set_cons_zero, List.set_cons_succ, i64_w, i32_w]
                   rfl
                  refine pure_ (i := 9) (N := some 94) (v := ?_) (a' := ?_) #[true,true,true,true,true,true,true,true,true,true,false,false,false,false,false,false,false,false,false,false] rfl rfl (any_of HT_.out (by kernel_rfl)) (fun _ _ _ h => h) (Or.inl ⟨by rfl, ?_⟩) ?_ ?_
                  rotate_left
                  ·intro w'
                   go_simp
                   with_reducible rfl
                  rotate_left
                  ·simp only [Act.put, List.setIfInBounds_toArray, List.set_cons_zero, List.set_cons_succ, i64_w, i32_w]
                   rfl
                  refine one_ (i := 10) (N := some 95) #[true,true,true,true,true,true,true,true,true,true,true,false,false,false,false,false,false,false,false,false] rfl rfl (one_of HT_.out (by kernel_rfl)) (by decide) (fun K hK => ?_)
                  refine goes_ Try.func80 (by kernel_rfl) rfl #[.slice A152 (l0.drop 6).length (c0 - 6), .slice A158 y195.length c158] (by rfl) rfl rfl (by (try simp only [List.map_toArray, List.map_cons, List.map_nil]); first | done | (rw [show (l0.drop 6).length = (l0.length - 6) from List.length_drop] <;> rfl) | rfl | (simp only [List.length_drop, List.length_take]; rfl)) ?_
                  with_reducible refine (hertzutils_CaseInsensitiveCompare.calls kj109 _ _ (l0.drop 6) _ _ y195 false _ ?side1 ?side2 ?side3 ?side4 A136.out).mono ?_
                  (case side1 => repeat (first | exact (Kd.C_below HR191.out HB.out) | (with_reducible refine Kd.C_alloc ?_ _) | (with_reducible refine Kd.C_drewN ?_ _) | (with_reducible refine Kd.C_drew ?_)))
                  (case side2 => exact HC191.out)
                  (case side3 => repeat (first | exact (by repeat (first | (with_reducible exact HR198.out) | (with_reducible refine Kd.C_alloc ?_ _) | (with_reducible refine Kd.C_drewN ?_ _) | (with_reducible refine Kd.C_drew ?_) | exact HR198.out)) | (with_reducible refine Kd.C_alloc ?_ _) | (with_reducible refine Kd.C_drewN ?_ _) | (with_reducible refine Kd.C_drew ?_)))
                  (case side4 => exact HC198.out)
                  rintro e w' ⟨rfl, ⟨nd, rfl⟩⟩
                  refine ⟨_, rfl, ?_⟩
                  obtain ⟨i0160, hi0160, _, hsz160, _⟩ := info_parts info5
                  obtain ⟨A160, hcut160, hA160, hC160⟩ := print_drop_of (P := Try.prog) (Value.int .u8) 0 54 5 .i64 Try.underlying54 hi0160 hsz160 (some ad103) c0 l0 6 (by omega) (of_decide_eq_true (by first | (with_reducible assumption) | assumption)) HC0.out
                  have d160_ : A160 = A152 := MR.cut_same (hcut160 w) (hcut152 w)
                  rw [d160_] at hA160
                  clear hcut160 d160_
                  have HR200 := Aside0.mk (Kd.C_of_reads (h1 := fun _ => rfl) (hA160 _ (Kd.reads_of_C HR0.out)))
                  have HC200 := Aside0.mk hC160
                  clear hA160 hC160 hi0160 hsz160
                  refine hK.out _ _ trivial (fun hHeld => ?_)
                  clear hK K
                  refine norm_ (a' := ?_) ?_ ?_
                  rotate_left
                  ·show Act.put _ (some 95) _ = _
                   simp only [Act.put, List.setIfInBounds_toArray, List.set_cons_zero, List.set_cons_succ, i64_w, i32_w]
                   rfl
                  refine pure_ (i := 11) (N := some 96) (v := ?_) (a' := ?_) #[true,true,true,true,true,true,true,true,true,true,true,true,false,false,false,false,false,false,false,false] rfl rfl (any_of HT_.out (by kernel_rfl)) (fun _ _ _ h => h) (Or.inl ⟨by rfl, ?_⟩) ?_ ?_
                  rotate_left
                  ·intro w'
                   go_simp
                   with_reducible rfl
                  rotate_left
                  ·simp only [Act.put, List.setIfInBounds_toArray, List.set_cons_zero, List.set_cons_succ, i64_w, i32_w]
                   rfl
                  refine pure_ (i := 12) (N := some 97) (v := ?_) (a' := ?_) #[true,true,true,true,true,true,true,true,true,true,true,true,true,false,false,false,false,false,false,false] rfl rfl (any_of HT_.out (by kernel_rfl)) (fun _ _ _ h => h) (Or.inl ⟨by rfl, ?_⟩) ?_ ?_
                  rotate_left
                  ·intro w'
                   go_simp
                   with_reducible rfl
                  rotate_left
                  ·simp only [Act.put, List.setIfInBounds_toArray, List.set_cons_zero, List.set_cons_succ, i64_w, i32_w]
                   rfl
                  refine pure_ (i := 13) (N := some 98) (v := ?_) (a' := ?_) #[true,true,true,true,true,true,true,true,true,true,true,true,true,true,false,false,false,false,false,false] rfl rfl (any_of HT_.out (by kernel_rfl)) (fun _ _ _ h => h) (Or.inl ⟨by rfl, ?_⟩) ?_ ?_
                  rotate_left
                  ·intro w'
                   go_simp
                   with_reducible rfl
                  rotate_left
                  ·simp only [Act.put, List.setIfInBounds_toArray, List.set_cons_zero, List.set_cons_succ, i64_w, i32_w]
                   rfl
                  refine pure_ (i := 14) (N := some 99) (v := ?_) (a' := ?_) #[true,true,true,true,true,true,true,true,true,true,true,true,true,true,true,false,false,false,false,false] rfl rfl (any_of HT_.out (by kernel_rfl)) (fun _ _ _ h => h) (Or.inl ⟨by rfl, ?_⟩) ?_ ?_
                  rotate_left
                  ·intro w'
                   go_simp
                   with_reducible rfl
                  rotate_left
                  ·simp only [Act.put, List.setIfInBounds_toArray, List.set_cons_zero, List.set_cons_succ, i64_w, i32_w]
                   rfl
                  refine one_ (i := 15) (N := some 100) #[true,true,true,true,true,true,true,true,true,true,true,true,true,true,true,true,false,false,false,false] rfl rfl (one_of HT_.out (by kernel_rfl)) (by decide) (fun K hK => ?_)
                  refine goes_ Try.func93 (by kernel_rfl) rfl #[] (by rfl) rfl rfl (by (try simp only [List.map_toArray, List.map_cons, List.map_nil]); first | done | rfl | (simp only [List.length_drop, List.length_take]; rfl)) ?_
                  with_reducible refine (hertzstr_StrProxyAuthorization.calls  t201 _ A148.out).mono ?_
                  rintro e w161 ⟨v202, rfl, ho0, hb⟩
                  refine ⟨_, rfl, ?_⟩
                  have n0_ := Aside0.mk (MR.R_elder' (by (with_reducible repeat (first | apply MR.R_alloc | apply MR.R_drewN | apply MR.R_drew)); exact HO185.out) (MR.R_base ho0) hb)
                  have n1_ := Aside0.mk (MR.R_elder' (by (with_reducible repeat (first | apply MR.R_alloc | apply MR.R_drewN | apply MR.R_drew)); exact HO194.out) (MR.R_base ho0) hb)
                  have n2_ := Aside0.mk (MR.R_lower (MR.R_new' (MR.R_new' ho0 (MR.R_lt (by (with_reducible repeat (first | apply MR.R_alloc | apply MR.R_drewN | apply MR.R_drew)); exact HO185.out))) (MR.R_lt (by (with_reducible repeat (first | apply MR.R_alloc | apply MR.R_drewN | apply MR.R_drew)); exact HO194.out))) (below_size (by repeat (first | (with_reducible first | exact HB.out | apply below_alloc | apply pw_below_drewN | apply below_drew1) | exact HB.out))))
                  have n3_ := Aside0.mk (Kd.C_below (by repeat (first | (with_reducible exact HR189.out) | (with_reducible refine Kd.C_alloc ?_ _) | (with_reducible refine Kd.C_drewN ?_ _) | (with_reducible refine Kd.C_drew ?_) | exact HR189.out)) hb)
                  have n4_ := Aside0.mk (Kd.C_below (by repeat (first | (with_reducible exact HR198.out) | (with_reducible refine Kd.C_alloc ?_ _) | (with_reducible refine Kd.C_drewN ?_ _) | (with_reducible refine Kd.C_drew ?_) | exact HR198.out)) hb)
                  have n5_ := Aside0.mk (below_step (by repeat (first | (with_reducible first | exact HB.out | apply below_alloc | apply pw_below_drewN | apply below_drew1) | exact HB.out)) hb)
                  clear HO185
                  clear HO194
                  clear HR189
                  clear HR198
                  clear HB
                  have HO185 := n0_
                  have HO194 := n1_
                  have HO203 := n2_
                  have HR189 := n3_
                  have HR198 := n4_
                  have HB := n5_
                  clear n0_ n1_ n2_ n3_ n4_ n5_
                  (try clear hb)
                  (try clear hb2)
                  (try clear hk)
                  (try clear hi)
                  (try clear ho0)
                  obtain ⟨Ao163, co163, eo163⟩ := MR.R_slice HO203.out
                  (first | subst eo163 | (injection eo163 with f1_ f2_ f3_; have f4_ := f1_.symm; have f5_ := f3_.symm; clear f1_ f2_ f3_; subst f4_; subst f5_))
                  have q162 : (6 : Int) ≤ ((t201.length : Int) : Int) := of_decide_eq_true (by first | (with_reducible assumption) | assumption)
                  obtain ⟨i0162, hi0162, _, hsz162, _⟩ := info_parts info5
                  have hroom162 : t201.length ≤ co163 := (MR.R_reads' HO203.out).2.1
                  have hC162 : Kd.C (Kd.int .u8) _ Ao163 t201.length t201 := (MR.R_reads' HO203.out).2.2
                  have hcut162 := cut_from (P := Try.prog) 54 5 .i64 Try.underlying54 hi0162 1 hsz162 Ao163 t201.length co163 6 (by omega) q162
                  have hr162 := Kd.C_drop (m := (6 : Int).toNat) (c := co163) hC162 (by omega) hroom162
                  obtain ⟨A162, hA162⟩ : ∃ A1, A1 = (if co163 = (6 : Int).toNat then Ao163 else (Ao163 : Option Addr).map (·.add ((6 : Int).toNat * 1))) := ⟨_, rfl⟩
                  obtain ⟨c162, hc162⟩ : ∃ c1, c1 = co163 - (6 : Int).toNat := ⟨_, rfl⟩
                  have hy162 : y204.length = t201.length - (6 : Int).toNat := (by rw [Ny204.out, List.length_drop] <;> omega)
                  rw [show (t201).drop (6 : Int).toNat = y204 from Ny204.out.symm] at hr162
                  replace hr162 : Kd.C (Kd.int .u8) _ A162 y204.length y204 := (by rw [hA162]; exact hr162)
                  rw [← hy162, ← hA162, ← hc162] at hcut162
                  have HR207 := Aside0.mk hr162
                  have HC207 := Aside0.mk (show y204.length ≤ c162 from by rw [hy162, hc162]; exact Nat.sub_le_sub_right hroom162 _)
                  clear hr162 hC162 hroom162 hi0162 hsz162 hc162
                  have KY162 := Aside0.mk hy162
                  have KA162 := Aside0.mk hA162
                  clear hy162 hA162
                  have KL162 := Aside0.mk (show 6 ≤ t201.length from by omega)
                  replace q162 := eq_true q162
                  refine hK.out _ _ trivial (fun hHeld => ?_)
                  clear hK K
                  refine norm_ (a' := ?_) ?_ ?_
                  rotate_left
                  ·show Act.put _ (some 100) _ = _
                   simp only [Act.put, List.setIfInBounds_toArray, List.set_cons_zero, List.set_cons_succ, i64_w, i32_w]
                   rfl
                  refine pure_ (i := 16) (N := some 101) (v := ?_) (a' := ?_) #[true,true,true,true,true,true,true,true,true,true,true,true,true,true,true,true,true,false,false,false] rfl rfl (any_of HT_.out (by kernel_rfl)) (fun _ _ _ h => h) (Or.inl ⟨by rfl, ?_⟩) ?_ ?_
                  rotate_left
                  ·intro w'
                   go_simp
                   with_reducible rfl
                  rotate_left
                  ·simp only [Act.put, List.setIfInBounds_toArray, List.set_cons_zero, List.set_cons_succ, i64_w, i32_w]
                   rfl
                  refine one_ (i := 17) (N := some 102) #[true,true,true,true,true,true,true,true,true,true,true,true,true,true,true,true,true,true,false,false] rfl rfl (one_of HT_.out (by kernel_rfl)) (by decide) (fun K hK => ?_)
                  refine goes_ Try.func80 (by kernel_rfl) rfl #[.slice A152 (l0.drop 6).length (c0 - 6), .slice A162 y204.length c162] (by rfl) rfl rfl (by (try simp only [List.map_toArray, List.map_cons, List.map_nil]); first | done | (rw [show (l0.drop 6).length = (l0.length - 6) from List.length_drop] <;> rfl) | rfl | (simp only [List.length_drop, List.length_take]; rfl)) ?_
                  with_reducible refine (hertzutils_CaseInsensitiveCompare.calls kj109 _ _ (l0.drop 6) _ _ y204 t208 _ ?side1 ?side2 ?side3 ?side4 A150.out).mono ?_
                  (case side1 => repeat (first | exact (Kd.C_below HR200.out HB.out) | (with_reducible refine Kd.C_alloc ?_ _) | (with_reducible refine Kd.C_drewN ?_ _) | (with_reducible refine Kd.C_drew ?_)))
                  (case side2 => exact HC200.out)
                  (case side3 => repeat (first | exact (by repeat (first | (with_reducible exact HR207.out) | (with_reducible refine Kd.C_alloc ?_ _) | (with_reducible refine Kd.C_drewN ?_ _) | (with_reducible refine Kd.C_drew ?_) | exact HR207.out)) | (with_reducible refine Kd.C_alloc ?_ _) | (with_reducible refine Kd.C_drewN ?_ _) | (with_reducible refine Kd.C_drew ?_)))
                  (case side4 => exact HC207.out)
                  rintro e w' ⟨rfl, ⟨nd, rfl⟩⟩
                  refine ⟨_, rfl, ?_⟩
                  refine hK.out _ _ trivial (fun hHeld => ?_)
                  clear hK K
                  refine norm_ (a' := ?_) ?_ ?_
                  rotate_left
                  ·show Act.put _ (some 102) _ = _
                   simp only [Act.put, List.setIfInBounds_toArray, List.set_cons_zero, List.set_cons_succ, i64_w, i32_w]
                   rfl
                  refine pure_ (i := 18) (N := some 103) (v := ?_) (a' := ?_) #[true,true,true,true,true,true,true,true,true,true,true,true,true,true,true,true,true,true,true,false] rfl rfl (any_of HT_.out (by kernel_rfl)) (fun _ _ _ h => h) (Or.inl ⟨by rfl, ?_⟩) ?_ ?_
                  rotate_left
                  ·intro w'
                   go_simp
                   with_reducible rfl
                  rotate_left
                  ·simp only [Act.put, List.setIfInBounds_toArray, List.set_cons_zero, List.set_cons_succ, i64_w, i32_w]
                   rfl
                  refine pure_ (i := 19) (N := some 2) (v := ?_) (a' := ?_) #[true,true,true,true,true,true,true,true,true,true,true,true,true,true,true,true,true,true,true,true] rfl rfl (any_of HT_.out (by kernel_rfl)) (fun _ _ _ h => h) (Or.inl ⟨by rfl, ?_⟩) ?_ ?_
                  rotate_left
                  ·intro w'
                   go_simp
                   with_reducible rfl
                  rotate_left
                  ·simp only [Act.put, List.setIfInBounds_toArray, List.set_cons_zero, List.set_cons_succ, i64_w, i32_w]
                   rfl
                  refine done_ (done_of HT_.out (by kernel_rfl)) ?_
                  try go_wp2
                  go_ret
                  exact ⟨by first | rfl | (simp [errW_none, errW_some] <;> rfl) | (simp [*, errW_none, errW_some] <;> rfl), by repeat (first | (with_reducible first | exact HB.out | apply below_alloc | apply pw_below_drewN | apply below_drew1) | exact HB.out)⟩
                 ·rw [if_neg c149] at H
                  exact absurd H (by simp)
               ·rw [if_neg c135] at H
                exact absurd H (by simp)
             ·rw [if_neg c125] at H
              exact absurd H (by simp)
            ·rw [if_neg c123] at H
             exact absurd H (by simp)
           ·replace c122 := Bool.eq_false_iff.mpr c122
            subst c122
            have H1 : (some false) = some r := by rw [if_neg (show ¬ (false = true) by decide)] at H; exact H
            clear H
            have H := H1
            clear H1
            obtain rfl := Option.some.inj H
            go_wp2
            go_ret
            exact ⟨by first | rfl | (simp [errW_none, errW_some] <;> rfl) | (simp [*, errW_none, errW_some] <;> rfl), by repeat (first | (with_reducible first | exact HB.out | apply below_alloc | apply pw_below_drewN | apply below_drew1) | exact HB.out)⟩
        ·exact absurd HCASE_.out c109
 ·rw [if_neg c2] at H
  exact absurd H (by simp)
end Go.Proofs.Ytoimkmoalmmooaa.QA
namespace Go.Proofs.Ytoimkmoalmmooaa.Base
open Go.RowKit Go.Proofs.Ytoimkmoalmmooaa.QA Go.Proofs.YtoimkmoalmmooaaW.PrintWords Go.Proofs.YtoimkmoalmmooaaW.PrintLast Go.Proofs.Ytoimkmoalmmooaa.Given Go.Proofs.Ytoimkmoalmmooaa.Gv
def cAuthorization : List Int := [65, 117, 116, 104, 111, 114, 105, 122, 97, 116, 105, 111, 110]
def cContentType : List Int := [67, 111, 110, 116, 101, 110, 116, 45, 84, 121, 112, 101]
def cContentEncoding : List Int := [67, 111, 110, 116, 101, 110, 116, 45, 69, 110, 99, 111, 100, 105, 110, 103]
def cContentLength : List Int := [67, 111, 110, 116, 101, 110, 116, 45, 76, 101, 110, 103, 116, 104]
def cContentRange : List Int := [67, 111, 110, 116, 101, 110, 116, 45, 82, 97, 110, 103, 101]
def cConnection : List Int := [67, 111, 110, 110, 101, 99, 116, 105, 111, 110]
def cExpect : List Int := [69, 120, 112, 101, 99, 116]
def cHost : List Int := [72, 111, 115, 116]
def cKeepAlive : List Int := [107, 101, 101, 112, 45, 97, 108, 105, 118, 101]
def cMaxForwards : List Int := [77, 97, 120, 45, 70, 111, 114, 119, 97, 114, 100, 115]
def cProxyConnection : List Int := [80, 114, 111, 120, 121, 45, 67, 111, 110, 110, 101, 99, 116, 105, 111, 110]
def cProxyAuthenticate : List Int := [80, 114, 111, 120, 121, 45, 65, 117, 116, 104, 101, 110, 116, 105, 99, 97, 116, 101]
def cProxyAuthorization : List Int := [80, 114, 111, 120, 121, 45, 65, 117, 116, 104, 111, 114, 105, 122, 97, 116, 105, 111, 110]
def cRange : List Int := [82, 97, 110, 103, 101]
def cTE : List Int := [84, 69]
def cTrailer : List Int := [84, 114, 97, 105, 108, 101, 114]
def cTransferEncoding : List Int := [84, 114, 97, 110, 115, 102, 101, 114, 45, 69, 110, 99, 111, 100, 105, 110, 103]
def cWWWAuthenticate : List Int := [87, 87, 87, 45, 65, 117, 116, 104, 101, 110, 116, 105, 99, 97, 116, 101]
def eqM (m c : List Int) : Bool := decide (m = c.map o32)
def badC (m : List Int) : Bool := if decide (12 ≤ m.length) && eqM (m.take 8) (cContentType.take 8) then eqM (m.drop 8) (cContentEncoding.drop 8) || (eqM (m.drop 8) (cContentLength.drop 8) || (eqM (m.drop 8) (cContentType.drop 8) || eqM (m.drop 8) (cContentRange.drop 8))) else eqM m cConnection
def badP (m : List Int) : Bool := if decide (16 ≤ m.length) && eqM (m.take 6) (cProxyConnection.take 6) then eqM (m.drop 6) (cProxyConnection.drop 6) || (eqM (m.drop 6) (cProxyAuthenticate.drop 6) || eqM (m.drop 6) (cProxyAuthorization.drop 6)) else false
def badM (m : List Int) : Bool :=
  if m.headD 0 = 97 then eqM m cAuthorization else if m.headD 0 = 99 then badC m else if m.headD 0 = 101 then eqM m cExpect else if m.headD 0 = 104 then eqM m cHost else if m.headD 0 = 107 then eqM m cKeepAlive else if m.headD 0 = 109 then eqM m cMaxForwards else if m.headD 0 = 112 then badP m else if m.headD 0 = 114 then eqM m cRange else if m.headD 0 = 116 then eqM m cTE || (eqM m cTrailer || eqM m cTransferEncoding) else if m.headD 0 = 119 then eqM m cWWWAuthenticate else false
theorem eqM_ends (l c : List Int) (hs : l.length ≤ 140737488351232) : Ev (fun k => hertzutils_CaseInsensitiveCompare.f k l c) (eqM (l.map o32) c) := cic_ends l c hs
theorem eqM_take (l c : List Int) (n : Nat) (hs : l.length ≤ 140737488351232) : Ev (fun k => hertzutils_CaseInsensitiveCompare.f k (l.take n) c) (eqM ((l.map o32).take n) c) := by
  rw [← List.map_take]
  exact cic_ends _ c (by rw [List.length_take]; omega)
theorem eqM_drop (l c : List Int) (n : Nat) (hs : l.length ≤ 140737488351232) : Ev (fun k => hertzutils_CaseInsensitiveCompare.f k (l.drop n) c) (eqM ((l.map o32).drop n) c) := by
  rw [← List.map_drop]
  exact cic_ends _ c (by rw [List.length_drop]; omega)
theorem Ev.orv {f g : Nat → Option Bool} {a b : Bool} (h1 : Ev f a) (h2 : Ev g b) : Ev (fun k => (f k).bind fun t => if t = true then some true else g k) (a || b) := by
  refine Ev.bind h1 ?_
  cases a
  · exact Ev.if_false (by simp) h2
  · exact Ev.if_true rfl (Ev.now _)
theorem Ev.one {f : Nat → Option Bool} {a : Bool} (h1 : Ev f a) : Ev (fun k => (f k).bind fun t => some t) a := Ev.bind h1 (Ev.now _)
theorem bad_j0_false (l : List Int) (hs : l.length ≤ 140737488351232) : Ev (fun k => hertzproto_IsBadTrailer.j0 k l false) (eqM (l.map o32) cConnection) := by
  refine Ev.step (f := _) (fun k => by simp only [hertzproto_IsBadTrailer.j0]; rw [if_neg (by simp)]) ?_
  exact Ev.call (a := cConnection) rfl (Ev.one (eqM_ends l _ hs))
theorem bad_j0_true (l : List Int) (hs : l.length ≤ 140737488351232) (h8 : 8 ≤ l.length) : Ev (fun k => hertzproto_IsBadTrailer.j0 k l true) (eqM ((l.map o32).drop 8) (cContentEncoding.drop 8) || (eqM ((l.map o32).drop 8) (cContentLength.drop 8) || (eqM ((l.map o32).drop 8) (cContentType.drop 8) || eqM ((l.map o32).drop 8) (cContentRange.drop 8)))) := by
  refine Ev.step (f := _) (fun k => by simp only [hertzproto_IsBadTrailer.j0]; rw [if_pos trivial]) ?_
  refine Ev.if_true (by omega) ?_
  refine Ev.call (a := cContentEncoding) rfl (Ev.if_true (by decide) (Ev.orv (eqM_drop l _ 8 hs) ?_))
  refine Ev.call (a := cContentLength) rfl (Ev.if_true (by decide) (Ev.orv (eqM_drop l _ 8 hs) ?_))
  refine Ev.call (a := cContentType) rfl (Ev.if_true (by decide) (Ev.orv (eqM_drop l _ 8 hs) ?_))
  exact Ev.call (a := cContentRange) rfl (Ev.if_true (by decide) (Ev.one (eqM_drop l _ 8 hs)))
theorem bad_j1_false (l : List Int) : Ev (fun k => hertzproto_IsBadTrailer.j1 k l false) false := by
  refine Ev.step (f := fun _ => some false) (fun k => by simp only [hertzproto_IsBadTrailer.j1]; rw [if_neg (by simp)]) (Ev.now _)
theorem bad_j1_true (l : List Int) (hs : l.length ≤ 140737488351232) (h6 : 6 ≤ l.length) : Ev (fun k => hertzproto_IsBadTrailer.j1 k l true) (eqM ((l.map o32).drop 6) (cProxyConnection.drop 6) || (eqM ((l.map o32).drop 6) (cProxyAuthenticate.drop 6) || eqM ((l.map o32).drop 6) (cProxyAuthorization.drop 6))) := by
  refine Ev.step (f := _) (fun k => by simp only [hertzproto_IsBadTrailer.j1]; rw [if_pos trivial]) ?_
  refine Ev.if_true (by omega) ?_
  refine Ev.call (a := cProxyConnection) rfl (Ev.if_true (by decide) (Ev.orv (eqM_drop l _ 6 hs) ?_))
  refine Ev.call (a := cProxyAuthenticate) rfl (Ev.if_true (by decide) (Ev.orv (eqM_drop l _ 6 hs) ?_))
  exact Ev.call (a := cProxyAuthorization) rfl (Ev.if_true (by decide) (Ev.one (eqM_drop l _ 6 hs)))
theorem badC_ends (l : List Int) (hs : l.length ≤ 140737488351232) : Ev (fun k => if (l.length : Int) ≥ 12 then (if 8 ≤ (l.length : Int) then ((hertzstr_StrContentType.f).bind fun t109 => (if 8 ≤ (t109.length : Int) then ((hertzutils_CaseInsensitiveCompare.f k (l.take 8) (t109.take 8)).bind fun t116 => (hertzproto_IsBadTrailer.j0 k l t116)) else (none))) else (none)) else (hertzproto_IsBadTrailer.j0 k l false)) (badC (l.map o32)) := by
  unfold badC
  rw [List.length_map]
  refine Ev.ite (fun h => Ev.if_true (by omega) ?_) (fun h => ?_)
  · refine Ev.call (a := cContentType) rfl (Ev.if_true (by decide) (Ev.bind (eqM_take l _ 8 hs) ?_))
    rw [decide_eq_true (show 12 ≤ l.length by omega), Bool.true_and]
    cases eqM ((l.map o32).take 8) (cContentType.take 8)
    · rw [if_neg (by simp)]; exact bad_j0_false l hs
    · rw [if_pos rfl]; exact bad_j0_true l hs (by omega)
  · rw [decide_eq_false (show ¬ 12 ≤ l.length by omega), Bool.false_and, if_neg (by simp)]
    exact bad_j0_false l hs
theorem badP_ends (l : List Int) (hs : l.length ≤ 140737488351232) : Ev (fun k => if (l.length : Int) ≥ 16 then (if 6 ≤ (l.length : Int) then ((hertzstr_StrProxyConnection.f).bind fun t174 => (if 6 ≤ (t174.length : Int) then ((hertzutils_CaseInsensitiveCompare.f k (l.take 6) (t174.take 6)).bind fun t181 => (hertzproto_IsBadTrailer.j1 k l t181)) else (none))) else (none)) else (hertzproto_IsBadTrailer.j1 k l false)) (badP (l.map o32)) := by
  unfold badP
  rw [List.length_map]
  refine Ev.ite (fun h => Ev.if_true (by omega) ?_) (fun h => ?_)
  · refine Ev.call (a := cProxyConnection) rfl (Ev.if_true (by decide) (Ev.bind (eqM_take l _ 6 hs) ?_))
    rw [decide_eq_true (show 16 ≤ l.length by omega), Bool.true_and]
    cases eqM ((l.map o32).take 6) (cProxyConnection.take 6)
    · rw [if_neg (by simp)]; exact bad_j1_false l
    · rw [if_pos rfl]; exact bad_j1_true l hs (by omega)
  · rw [decide_eq_false (show ¬ 16 ≤ l.length by omega), Bool.false_and, if_neg (by simp)]
    exact bad_j1_false l
theorem ite_r {c : Prop} [Decidable c] {f g : Nat → Option Bool} {a b : Bool} (h : c → Ev f a) (k : ¬ c → Ev g b) : Ev (fun n => if c then f n else g n) (if c then a else b) := by
  by_cases hc : c
  · rw [if_pos hc]; exact Ev.if_true hc (h hc)
  · rw [if_neg hc]; exact Ev.if_false hc (k hc)
theorem head_o32 (l : List Int) (h : 0 < l.length) : Go.bits .or .u8 (rd l 0) 32 = (l.map o32).headD 0 := by
  cases l with
  | nil => simp at h
  | cons a t => rfl
theorem bad_ends (l : List Int) (h0 : 0 < l.length) (hs : l.length ≤ 140737488351232) : Ev (fun k => hertzproto_IsBadTrailer.f k l) (badM (l.map o32)) := by
  unfold hertzproto_IsBadTrailer.f badM
  rw [head_o32 l h0]
  refine Ev.if_true (by omega) ?_
  refine ite_r (fun _ => Ev.call (a := cAuthorization) rfl (Ev.one (eqM_ends l _ hs))) (fun _ => ?_)
  refine ite_r (fun _ => badC_ends l hs) (fun _ => ?_)
  refine ite_r (fun _ => Ev.call (a := cExpect) rfl (Ev.one (eqM_ends l _ hs))) (fun _ => ?_)
  refine ite_r (fun _ => Ev.call (a := cHost) rfl (Ev.one (eqM_ends l _ hs))) (fun _ => ?_)
  refine ite_r (fun _ => Ev.call (a := cKeepAlive) rfl (Ev.one (eqM_ends l _ hs))) (fun _ => ?_)
  refine ite_r (fun _ => Ev.call (a := cMaxForwards) rfl (Ev.one (eqM_ends l _ hs))) (fun _ => ?_)
  refine ite_r (fun _ => badP_ends l hs) (fun _ => ?_)
  refine ite_r (fun _ => Ev.call (a := cRange) rfl (Ev.one (eqM_ends l _ hs))) (fun _ => ?_)
  refine ite_r (fun _ => Ev.call (a := cTE) rfl (Ev.orv (eqM_ends l _ hs) (Ev.call (a := cTrailer) rfl (Ev.orv (eqM_ends l _ hs) (Ev.call (a := cTransferEncoding) rfl (Ev.one (eqM_ends l _ hs))))))) (fun _ => ?_)
  exact ite_r (fun _ => Ev.call (a := cWWWAuthenticate) rfl (Ev.one (eqM_ends l _ hs))) (fun _ => Ev.now _)
theorem bad_x (m : List Int) (h : m.headD 0 = 120) : badM m = false := by
  unfold badM
  rw [h]
  rfl
end Go.Proofs.Ytoimkmoalmmooaa.Base
