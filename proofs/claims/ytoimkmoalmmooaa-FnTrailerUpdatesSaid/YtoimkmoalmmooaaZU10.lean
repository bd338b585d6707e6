/- Texts of this claim, one behind the other (merged by wip/prune.py of this repo, without what the proof does not use): GStr, QA3, LBad, QA4, GStr3, HLine. -/
import Derived.Test.YtoimkmoalmmooaaZU1
import Derived.Test.YtoimkmoalmmooaaZU2
import Derived.Test.YtoimkmoalmmooaaZU3
import Derived.Test.YtoimkmoalmmooaaZU4
import Derived.Test.YtoimkmoalmmooaaZU5
import Derived.Test.YtoimkmoalmmooaaZU6
import Derived.Test.YtoimkmoalmmooaaZU7
import Derived.Below
import Derived.BigQuiet
import Derived.Deep.LoopGhost
import Derived.Deep.QuietTactic
import Derived.KernelRfl
import Derived.Laws.BytesArg
import Derived.Laws.RangeAny
import Derived.Laws.RangeString
import Derived.Laws.Slices
import Derived.Lib.ConvBytes
import Derived.Lib.Hide
import Derived.Lib.TrimU
import Derived.Outline
import Derived.OwnWalk
import Derived.RowKit3
import Derived.Tactics
import Derived.Test.YtoimkmoalmmooaaProg
import Derived.WalkKit
import Derived.WalkLawsBesides
import Derived.WalkMore
import Derived.WalkSpells
import Derived.WideLaws
set_option linter.unusedVariables false
namespace Go.Proofs.Ytoimkmoalmmooaa.Given
open Go.RowKit Go.Proofs.YtoimkmoalmmooaaW.PrintWords Go.Proofs.YtoimkmoalmmooaaW.PrintLast Go.Proofs.YtoimkmoalmmooaaW.PrintMore
def hertzstr_StrAuthorization.f : Option (List Int) := some ([65, 117, 116, 104, 111, 114, 105, 122, 97, 116, 105, 111, 110] : List Int)
theorem hertzstr_StrAuthorization.calls (r : List Int) (w : World) (h : hertzstr_StrAuthorization.f = some r) :
    Calls Try.prog 81 #[] w fun e w' => ∃ v0_ : Value, e = .returned (v0_) ∧ MR.R (Kd.int .u8) 5 w' w.heap.size (fun _ => True) v0_ r ∧ Below w.heap.size w w' := by
  obtain rfl := Option.some.inj h
  have kc := fun (w : World) (C : Array Value) (n c : Nat) => Lib.run_convert_bytes_const (P := Try.prog) w 54 5 C n c Try.underlying54 Try.underlying5
  go_enter Try.func81, Try.ntmps81
  go_wp2
  go_ret
  exact ⟨_, rfl, MR.made w [65, 117, 116, 104, 111, 114, 105, 122, 97, 116, 105, 111, 110] (by decide) _ _ rfl, (Below.refl _ _).alloc (Nat.le_refl _) _⟩
def hertzstr_StrContentType.f : Option (List Int) := some ([67, 111, 110, 116, 101, 110, 116, 45, 84, 121, 112, 101] : List Int)
theorem hertzstr_StrContentType.calls (r : List Int) (w : World) (h : hertzstr_StrContentType.f = some r) :
    Calls Try.prog 82 #[] w fun e w' => ∃ v0_ : Value, e = .returned (v0_) ∧ MR.R (Kd.int .u8) 5 w' w.heap.size (fun _ => True) v0_ r ∧ Below w.heap.size w w' := by
  obtain rfl := Option.some.inj h
  have kc := fun (w : World) (C : Array Value) (n c : Nat) => Lib.run_convert_bytes_const (P := Try.prog) w 54 5 C n c Try.underlying54 Try.underlying5
  go_enter Try.func82, Try.ntmps82
  go_wp2
  go_ret
  exact ⟨_, rfl, MR.made w [67, 111, 110, 116, 101, 110, 116, 45, 84, 121, 112, 101] (by decide) _ _ rfl, (Below.refl _ _).alloc (Nat.le_refl _) _⟩
def hertzstr_StrContentEncoding.f : Option (List Int) := some ([67, 111, 110, 116, 101, 110, 116, 45, 69, 110, 99, 111, 100, 105, 110, 103] : List Int)
theorem hertzstr_StrContentEncoding.calls (r : List Int) (w : World) (h : hertzstr_StrContentEncoding.f = some r) :
    Calls Try.prog 83 #[] w fun e w' => ∃ v0_ : Value, e = .returned (v0_) ∧ MR.R (Kd.int .u8) 5 w' w.heap.size (fun _ => True) v0_ r ∧ Below w.heap.size w w' := by
  obtain rfl := Option.some.inj h
  have kc := fun (w : World) (C : Array Value) (n c : Nat) => Lib.run_convert_bytes_const (P := Try.prog) w 54 5 C n c Try.underlying54 Try.underlying5
  go_enter Try.func83, Try.ntmps83
  go_wp2
  go_ret
  exact ⟨_, rfl, MR.made w [67, 111, 110, 116, 101, 110, 116, 45, 69, 110, 99, 111, 100, 105, 110, 103] (by decide) _ _ rfl, (Below.refl _ _).alloc (Nat.le_refl _) _⟩
def hertzstr_StrContentLength.f : Option (List Int) := some ([67, 111, 110, 116, 101, 110, 116, 45, 76, 101, 110, 103, 116, 104] : List Int)
theorem hertzstr_StrContentLength.calls (r : List Int) (w : World) (h : hertzstr_StrContentLength.f = some r) :
    Calls Try.prog 84 #[] w fun e w' => ∃ v0_ : Value, e = .returned (v0_) ∧ MR.R (Kd.int .u8) 5 w' w.heap.size (fun _ => True) v0_ r ∧ Below w.heap.size w w' := by
  obtain rfl := Option.some.inj h
  have kc := fun (w : World) (C : Array Value) (n c : Nat) => Lib.run_convert_bytes_const (P := Try.prog) w 54 5 C n c Try.underlying54 Try.underlying5
  go_enter Try.func84, Try.ntmps84
  go_wp2
  go_ret
  exact ⟨_, rfl, MR.made w [67, 111, 110, 116, 101, 110, 116, 45, 76, 101, 110, 103, 116, 104] (by decide) _ _ rfl, (Below.refl _ _).alloc (Nat.le_refl _) _⟩
def hertzstr_StrContentRange.f : Option (List Int) := some ([67, 111, 110, 116, 101, 110, 116, 45, 82, 97, 110, 103, 101] : List Int)
theorem hertzstr_StrContentRange.calls (r : List Int) (w : World) (h : hertzstr_StrContentRange.f = some r) :
    Calls Try.prog 85 #[] w fun e w' => ∃ v0_ : Value, e = .returned (v0_) ∧ MR.R (Kd.int .u8) 5 w' w.heap.size (fun _ => True) v0_ r ∧ Below w.heap.size w w' := by
  obtain rfl := Option.some.inj h
  have kc := fun (w : World) (C : Array Value) (n c : Nat) => Lib.run_convert_bytes_const (P := Try.prog) w 54 5 C n c Try.underlying54 Try.underlying5
  go_enter Try.func85, Try.ntmps85
  go_wp2
  go_ret
  exact ⟨_, rfl, MR.made w [67, 111, 110, 116, 101, 110, 116, 45, 82, 97, 110, 103, 101] (by decide) _ _ rfl, (Below.refl _ _).alloc (Nat.le_refl _) _⟩
def hertzstr_StrConnection.f : Option (List Int) := some ([67, 111, 110, 110, 101, 99, 116, 105, 111, 110] : List Int)
theorem hertzstr_StrConnection.calls (r : List Int) (w : World) (h : hertzstr_StrConnection.f = some r) :
    Calls Try.prog 86 #[] w fun e w' => ∃ v0_ : Value, e = .returned (v0_) ∧ MR.R (Kd.int .u8) 5 w' w.heap.size (fun _ => True) v0_ r ∧ Below w.heap.size w w' := by
  obtain rfl := Option.some.inj h
  have kc := fun (w : World) (C : Array Value) (n c : Nat) => Lib.run_convert_bytes_const (P := Try.prog) w 54 5 C n c Try.underlying54 Try.underlying5
  go_enter Try.func86, Try.ntmps86
  go_wp2
  go_ret
  exact ⟨_, rfl, MR.made w [67, 111, 110, 110, 101, 99, 116, 105, 111, 110] (by decide) _ _ rfl, (Below.refl _ _).alloc (Nat.le_refl _) _⟩
def hertzstr_StrExpect.f : Option (List Int) := some ([69, 120, 112, 101, 99, 116] : List Int)
theorem hertzstr_StrExpect.calls (r : List Int) (w : World) (h : hertzstr_StrExpect.f = some r) :
    Calls Try.prog 87 #[] w fun e w' => ∃ v0_ : Value, e = .returned (v0_) ∧ MR.R (Kd.int .u8) 5 w' w.heap.size (fun _ => True) v0_ r ∧ Below w.heap.size w w' := by
  obtain rfl := Option.some.inj h
  have kc := fun (w : World) (C : Array Value) (n c : Nat) => Lib.run_convert_bytes_const (P := Try.prog) w 54 5 C n c Try.underlying54 Try.underlying5
  go_enter Try.func87, Try.ntmps87
  go_wp2
  go_ret
  exact ⟨_, rfl, MR.made w [69, 120, 112, 101, 99, 116] (by decide) _ _ rfl, (Below.refl _ _).alloc (Nat.le_refl _) _⟩
def hertzstr_StrHost.f : Option (List Int) := some ([72, 111, 115, 116] : List Int)
theorem hertzstr_StrHost.calls (r : List Int) (w : World) (h : hertzstr_StrHost.f = some r) :
    Calls Try.prog 88 #[] w fun e w' => ∃ v0_ : Value, e = .returned (v0_) ∧ MR.R (Kd.int .u8) 5 w' w.heap.size (fun _ => True) v0_ r ∧ Below w.heap.size w w' := by
  obtain rfl := Option.some.inj h
  have kc := fun (w : World) (C : Array Value) (n c : Nat) => Lib.run_convert_bytes_const (P := Try.prog) w 54 5 C n c Try.underlying54 Try.underlying5
  go_enter Try.func88, Try.ntmps88
  go_wp2
  go_ret
  exact ⟨_, rfl, MR.made w [72, 111, 115, 116] (by decide) _ _ rfl, (Below.refl _ _).alloc (Nat.le_refl _) _⟩
def hertzstr_StrKeepAlive.f : Option (List Int) := some ([107, 101, 101, 112, 45, 97, 108, 105, 118, 101] : List Int)
theorem hertzstr_StrKeepAlive.calls (r : List Int) (w : World) (h : hertzstr_StrKeepAlive.f = some r) :
    Calls Try.prog 89 #[] w fun e w' => ∃ v0_ : Value, e = .returned (v0_) ∧ MR.R (Kd.int .u8) 5 w' w.heap.size (fun _ => True) v0_ r ∧ Below w.heap.size w w' := by
  obtain rfl := Option.some.inj h
  have kc := fun (w : World) (C : Array Value) (n c : Nat) => Lib.run_convert_bytes_const (P := Try.prog) w 54 5 C n c Try.underlying54 Try.underlying5
  go_enter Try.func89, Try.ntmps89
  go_wp2
  go_ret
  exact ⟨_, rfl, MR.made w [107, 101, 101, 112, 45, 97, 108, 105, 118, 101] (by decide) _ _ rfl, (Below.refl _ _).alloc (Nat.le_refl _) _⟩
def hertzstr_StrMaxForwards.f : Option (List Int) := some ([77, 97, 120, 45, 70, 111, 114, 119, 97, 114, 100, 115] : List Int)
theorem hertzstr_StrMaxForwards.calls (r : List Int) (w : World) (h : hertzstr_StrMaxForwards.f = some r) :
    Calls Try.prog 90 #[] w fun e w' => ∃ v0_ : Value, e = .returned (v0_) ∧ MR.R (Kd.int .u8) 5 w' w.heap.size (fun _ => True) v0_ r ∧ Below w.heap.size w w' := by
  obtain rfl := Option.some.inj h
  have kc := fun (w : World) (C : Array Value) (n c : Nat) => Lib.run_convert_bytes_const (P := Try.prog) w 54 5 C n c Try.underlying54 Try.underlying5
  go_enter Try.func90, Try.ntmps90
  go_wp2
  go_ret
  exact ⟨_, rfl, MR.made w [77, 97, 120, 45, 70, 111, 114, 119, 97, 114, 100, 115] (by decide) _ _ rfl, (Below.refl _ _).alloc (Nat.le_refl _) _⟩
def hertzstr_StrProxyConnection.f : Option (List Int) := some ([80, 114, 111, 120, 121, 45, 67, 111, 110, 110, 101, 99, 116, 105, 111, 110] : List Int)
theorem hertzstr_StrProxyConnection.calls (r : List Int) (w : World) (h : hertzstr_StrProxyConnection.f = some r) :
    Calls Try.prog 91 #[] w fun e w' => ∃ v0_ : Value, e = .returned (v0_) ∧ MR.R (Kd.int .u8) 5 w' w.heap.size (fun _ => True) v0_ r ∧ Below w.heap.size w w' := by
  obtain rfl := Option.some.inj h
  have kc := fun (w : World) (C : Array Value) (n c : Nat) => Lib.run_convert_bytes_const (P := Try.prog) w 54 5 C n c Try.underlying54 Try.underlying5
  go_enter Try.func91, Try.ntmps91
  go_wp2
  go_ret
  exact ⟨_, rfl, MR.made w [80, 114, 111, 120, 121, 45, 67, 111, 110, 110, 101, 99, 116, 105, 111, 110] (by decide) _ _ rfl, (Below.refl _ _).alloc (Nat.le_refl _) _⟩
def hertzstr_StrProxyAuthenticate.f : Option (List Int) := some ([80, 114, 111, 120, 121, 45, 65, 117, 116, 104, 101, 110, 116, 105, 99, 97, 116, 101] : List Int)
theorem hertzstr_StrProxyAuthenticate.calls (r : List Int) (w : World) (h : hertzstr_StrProxyAuthenticate.f = some r) :
    Calls Try.prog 92 #[] w fun e w' => ∃ v0_ : Value, e = .returned (v0_) ∧ MR.R (Kd.int .u8) 5 w' w.heap.size (fun _ => True) v0_ r ∧ Below w.heap.size w w' := by
  obtain rfl := Option.some.inj h
  have kc := fun (w : World) (C : Array Value) (n c : Nat) => Lib.run_convert_bytes_const (P := Try.prog) w 54 5 C n c Try.underlying54 Try.underlying5
  go_enter Try.func92, Try.ntmps92
  go_wp2
  go_ret
  exact ⟨_, rfl, MR.made w [80, 114, 111, 120, 121, 45, 65, 117, 116, 104, 101, 110, 116, 105, 99, 97, 116, 101] (by decide) _ _ rfl, (Below.refl _ _).alloc (Nat.le_refl _) _⟩
def hertzstr_StrProxyAuthorization.f : Option (List Int) := some ([80, 114, 111, 120, 121, 45, 65, 117, 116, 104, 111, 114, 105, 122, 97, 116, 105, 111, 110] : List Int)
theorem hertzstr_StrProxyAuthorization.calls (r : List Int) (w : World) (h : hertzstr_StrProxyAuthorization.f = some r) :
    Calls Try.prog 93 #[] w fun e w' => ∃ v0_ : Value, e = .returned (v0_) ∧ MR.R (Kd.int .u8) 5 w' w.heap.size (fun _ => True) v0_ r ∧ Below w.heap.size w w' := by
  obtain rfl := Option.some.inj h
  have kc := fun (w : World) (C : Array Value) (n c : Nat) => Lib.run_convert_bytes_const (P := Try.prog) w 54 5 C n c Try.underlying54 Try.underlying5
  go_enter Try.func93, Try.ntmps93
  go_wp2
  go_ret
  exact ⟨_, rfl, MR.made w [80, 114, 111, 120, 121, 45, 65, 117, 116, 104, 111, 114, 105, 122, 97, 116, 105, 111, 110] (by decide) _ _ rfl, (Below.refl _ _).alloc (Nat.le_refl _) _⟩
def hertzstr_StrRange.f : Option (List Int) := some ([82, 97, 110, 103, 101] : List Int)
theorem hertzstr_StrRange.calls (r : List Int) (w : World) (h : hertzstr_StrRange.f = some r) :
    Calls Try.prog 94 #[] w fun e w' => ∃ v0_ : Value, e = .returned (v0_) ∧ MR.R (Kd.int .u8) 5 w' w.heap.size (fun _ => True) v0_ r ∧ Below w.heap.size w w' := by
  obtain rfl := Option.some.inj h
  have kc := fun (w : World) (C : Array Value) (n c : Nat) => Lib.run_convert_bytes_const (P := Try.prog) w 54 5 C n c Try.underlying54 Try.underlying5
  go_enter Try.func94, Try.ntmps94
  go_wp2
  go_ret
  exact ⟨_, rfl, MR.made w [82, 97, 110, 103, 101] (by decide) _ _ rfl, (Below.refl _ _).alloc (Nat.le_refl _) _⟩
def hertzstr_StrTE.f : Option (List Int) := some ([84, 69] : List Int)
theorem hertzstr_StrTE.calls (r : List Int) (w : World) (h : hertzstr_StrTE.f = some r) :
    Calls Try.prog 95 #[] w fun e w' => ∃ v0_ : Value, e = .returned (v0_) ∧ MR.R (Kd.int .u8) 5 w' w.heap.size (fun _ => True) v0_ r ∧ Below w.heap.size w w' := by
  obtain rfl := Option.some.inj h
  have kc := fun (w : World) (C : Array Value) (n c : Nat) => Lib.run_convert_bytes_const (P := Try.prog) w 54 5 C n c Try.underlying54 Try.underlying5
  go_enter Try.func95, Try.ntmps95
  go_wp2
  go_ret
  exact ⟨_, rfl, MR.made w [84, 69] (by decide) _ _ rfl, (Below.refl _ _).alloc (Nat.le_refl _) _⟩
def hertzstr_StrTrailer.f : Option (List Int) := some ([84, 114, 97, 105, 108, 101, 114] : List Int)
theorem hertzstr_StrTrailer.calls (r : List Int) (w : World) (h : hertzstr_StrTrailer.f = some r) :
    Calls Try.prog 96 #[] w fun e w' => ∃ v0_ : Value, e = .returned (v0_) ∧ MR.R (Kd.int .u8) 5 w' w.heap.size (fun _ => True) v0_ r ∧ Below w.heap.size w w' := by
  obtain rfl := Option.some.inj h
  have kc := fun (w : World) (C : Array Value) (n c : Nat) => Lib.run_convert_bytes_const (P := Try.prog) w 54 5 C n c Try.underlying54 Try.underlying5
  go_enter Try.func96, Try.ntmps96
  go_wp2
  go_ret
  exact ⟨_, rfl, MR.made w [84, 114, 97, 105, 108, 101, 114] (by decide) _ _ rfl, (Below.refl _ _).alloc (Nat.le_refl _) _⟩
def hertzstr_StrTransferEncoding.f : Option (List Int) := some ([84, 114, 97, 110, 115, 102, 101, 114, 45, 69, 110, 99, 111, 100, 105, 110, 103] : List Int)
theorem hertzstr_StrTransferEncoding.calls (r : List Int) (w : World) (h : hertzstr_StrTransferEncoding.f = some r) :
    Calls Try.prog 97 #[] w fun e w' => ∃ v0_ : Value, e = .returned (v0_) ∧ MR.R (Kd.int .u8) 5 w' w.heap.size (fun _ => True) v0_ r ∧ Below w.heap.size w w' := by
  obtain rfl := Option.some.inj h
  have kc := fun (w : World) (C : Array Value) (n c : Nat) => Lib.run_convert_bytes_const (P := Try.prog) w 54 5 C n c Try.underlying54 Try.underlying5
  go_enter Try.func97, Try.ntmps97
  go_wp2
  go_ret
  exact ⟨_, rfl, MR.made w [84, 114, 97, 110, 115, 102, 101, 114, 45, 69, 110, 99, 111, 100, 105, 110, 103] (by decide) _ _ rfl, (Below.refl _ _).alloc (Nat.le_refl _) _⟩
def hertzstr_StrWWWAuthenticate.f : Option (List Int) := some ([87, 87, 87, 45, 65, 117, 116, 104, 101, 110, 116, 105, 99, 97, 116, 101] : List Int)
theorem hertzstr_StrWWWAuthenticate.calls (r : List Int) (w : World) (h : hertzstr_StrWWWAuthenticate.f = some r) :
    Calls Try.prog 98 #[] w fun e w' => ∃ v0_ : Value, e = .returned (v0_) ∧ MR.R (Kd.int .u8) 5 w' w.heap.size (fun _ => True) v0_ r ∧ Below w.heap.size w w' := by
  obtain rfl := Option.some.inj h
  have kc := fun (w : World) (C : Array Value) (n c : Nat) => Lib.run_convert_bytes_const (P := Try.prog) w 54 5 C n c Try.underlying54 Try.underlying5
  go_enter Try.func98, Try.ntmps98
  go_wp2
  go_ret
  exact ⟨_, rfl, MR.made w [87, 87, 87, 45, 65, 117, 116, 104, 101, 110, 116, 105, 99, 97, 116, 101] (by decide) _ _ rfl, (Below.refl _ _).alloc (Nat.le_refl _) _⟩
end Go.Proofs.Ytoimkmoalmmooaa.Given
namespace Go.Proofs.Ytoimkmoalmmooaa.QA
open Go.Proofs.Ytoimkmoalmmooaa.Given
open Go.Proofs.Ytoimkmoalmmooaa.PrX
open Go.RowKit Go.Proofs.YtoimkmoalmmooaaW.PrintWords Go.Proofs.YtoimkmoalmmooaaW.PrintLast Go.Proofs.YtoimkmoalmmooaaW.PrintMore
set_option linter.unusedVariables false
set_option linter.unusedSimpArgs false
mutual
def hertzproto_IsBadTrailer.j0 : Nat → List Int → Bool → Option (Bool)
  | 0, _, _ => none
  | k + 1, x0, x23 => if x23 = true then (if 8 ≤ (x0.length : Int) then ((hertzstr_StrContentEncoding.f).bind fun t118 => (if 8 ≤ (t118.length : Int) then ((hertzutils_CaseInsensitiveCompare.f k (x0.drop 8) (t118.drop 8)).bind fun t125 => (if t125 = true then (some true) else ((hertzstr_StrContentLength.f).bind fun t127 => (if 8 ≤ (t127.length : Int) then ((hertzutils_CaseInsensitiveCompare.f k (x0.drop 8) (t127.drop 8)).bind fun t134 => (if t134 = true then (some true) else ((hertzstr_StrContentType.f).bind fun t136 => (if 8 ≤ (t136.length : Int) then ((hertzutils_CaseInsensitiveCompare.f k (x0.drop 8) (t136.drop 8)).bind fun t143 => (if t143 = true then (some true) else ((hertzstr_StrContentRange.f).bind fun t145 => (if 8 ≤ (t145.length : Int) then ((hertzutils_CaseInsensitiveCompare.f k (x0.drop 8) (t145.drop 8)).bind fun t152 => (some t152)) else (none))))) else (none))))) else (none))))) else (none))) else (none)) else ((hertzstr_StrConnection.f).bind fun t153 => ((hertzutils_CaseInsensitiveCompare.f k x0 t153).bind fun t156 => (some t156)))
def hertzproto_IsBadTrailer.j1 : Nat → List Int → Bool → Option (Bool)
  | 0, _, _ => none
  | k + 1, x0, x84 => if x84 = true then (if 6 ≤ (x0.length : Int) then ((hertzstr_StrProxyConnection.f).bind fun t183 => (if 6 ≤ (t183.length : Int) then ((hertzutils_CaseInsensitiveCompare.f k (x0.drop 6) (t183.drop 6)).bind fun t190 => (if t190 = true then (some true) else ((hertzstr_StrProxyAuthenticate.f).bind fun t192 => (if 6 ≤ (t192.length : Int) then ((hertzutils_CaseInsensitiveCompare.f k (x0.drop 6) (t192.drop 6)).bind fun t199 => (if t199 = true then (some true) else ((hertzstr_StrProxyAuthorization.f).bind fun t201 => (if 6 ≤ (t201.length : Int) then ((hertzutils_CaseInsensitiveCompare.f k (x0.drop 6) (t201.drop 6)).bind fun t208 => (some t208)) else (none))))) else (none))))) else (none))) else (none)) else (some false)
end
def hertzproto_IsBadTrailer.f (k : Nat) (l0 : List Int) : Option (Bool) := if 0 < (l0.length : Int) then (if (Go.bits .or .u8 (rd l0 0) 32) = 97 then ((hertzstr_StrAuthorization.f).bind fun t104 => ((hertzutils_CaseInsensitiveCompare.f k l0 t104).bind fun t107 => (some t107))) else (if (Go.bits .or .u8 (rd l0 0) 32) = 99 then (if (l0.length : Int) ≥ 12 then (if 8 ≤ (l0.length : Int) then ((hertzstr_StrContentType.f).bind fun t109 => (if 8 ≤ (t109.length : Int) then ((hertzutils_CaseInsensitiveCompare.f k (l0.take 8) (t109.take 8)).bind fun t116 => (hertzproto_IsBadTrailer.j0 k l0 t116)) else (none))) else (none)) else (hertzproto_IsBadTrailer.j0 k l0 false)) else (if (Go.bits .or .u8 (rd l0 0) 32) = 101 then ((hertzstr_StrExpect.f).bind fun t157 => ((hertzutils_CaseInsensitiveCompare.f k l0 t157).bind fun t160 => (some t160))) else (if (Go.bits .or .u8 (rd l0 0) 32) = 104 then ((hertzstr_StrHost.f).bind fun t161 => ((hertzutils_CaseInsensitiveCompare.f k l0 t161).bind fun t164 => (some t164))) else (if (Go.bits .or .u8 (rd l0 0) 32) = 107 then ((hertzstr_StrKeepAlive.f).bind fun t165 => ((hertzutils_CaseInsensitiveCompare.f k l0 t165).bind fun t168 => (some t168))) else (if (Go.bits .or .u8 (rd l0 0) 32) = 109 then ((hertzstr_StrMaxForwards.f).bind fun t169 => ((hertzutils_CaseInsensitiveCompare.f k l0 t169).bind fun t172 => (some t172))) else (if (Go.bits .or .u8 (rd l0 0) 32) = 112 then (if (l0.length : Int) ≥ 16 then (if 6 ≤ (l0.length : Int) then ((hertzstr_StrProxyConnection.f).bind fun t174 => (if 6 ≤ (t174.length : Int) then ((hertzutils_CaseInsensitiveCompare.f k (l0.take 6) (t174.take 6)).bind fun t181 => (hertzproto_IsBadTrailer.j1 k l0 t181)) else (none))) else (none)) else (hertzproto_IsBadTrailer.j1 k l0 false)) else (if (Go.bits .or .u8 (rd l0 0) 32) = 114 then ((hertzstr_StrRange.f).bind fun t209 => ((hertzutils_CaseInsensitiveCompare.f k l0 t209).bind fun t212 => (some t212))) else (if (Go.bits .or .u8 (rd l0 0) 32) = 116 then ((hertzstr_StrTE.f).bind fun t213 => ((hertzutils_CaseInsensitiveCompare.f k l0 t213).bind fun t216 => (if t216 = true then (some true) else ((hertzstr_StrTrailer.f).bind fun t217 => ((hertzutils_CaseInsensitiveCompare.f k l0 t217).bind fun t220 => (if t220 = true then (some true) else ((hertzstr_StrTransferEncoding.f).bind fun t221 => ((hertzutils_CaseInsensitiveCompare.f k l0 t221).bind fun t224 => (some t224))))))))) else (if (Go.bits .or .u8 (rd l0 0) 32) = 119 then ((hertzstr_StrWWWAuthenticate.f).bind fun t225 => ((hertzutils_CaseInsensitiveCompare.f k l0 t225).bind fun t228 => (some t228))) else (some false))))))))))) else (none)
def hertzproto_IsBadTrailer.T5 : Bool × List (List Nat × List Nat) := (true, [([], []), ([0], [0]), ([1], [1]), ([2], [2]), ([3], [3]), ([4, 3], [3, 4]), ([3, 3], [3]), ([6, 3], [3, 6]), ([5, 7, 6, 3], [3, 5, 7]), ([3, 8], [3, 8])])
def hertzproto_IsBadTrailer.B5 : List Nat := [0, 1, 3, 7, 15, 31, 15, 79, 255, 511]
theorem hertzproto_IsBadTrailer.tab5 : rtab .any (opsOf Try.f68 5) = hertzproto_IsBadTrailer.T5 := by kernel_rfl
theorem hertzproto_IsBadTrailer.bits5 : waitsOk hertzproto_IsBadTrailer.T5.2 hertzproto_IsBadTrailer.B5 = true := by kernel_rfl
def hertzproto_IsBadTrailer.T6 : Bool × List (List Nat × List Nat) := (true, [([], []), ([0], [0]), ([], []), ([2], [2]), ([1, 3, 2], [1, 3]), ([4, 4], [4]), ([5], [5]), ([6, 5], [5, 6]), ([5, 5], [5]), ([8, 5], [5, 8]), ([7, 9, 8, 5], [5, 7, 9]), ([5, 10], [5, 10]), ([11, 10], [11]), ([12], [12]), ([13, 12], [12, 13]), ([12, 12], [12]), ([15, 12], [12, 15]), ([14, 16, 15, 12], [12, 14, 16]), ([12, 17], [12, 17]), ([18, 17], [18]), ([19], [19]), ([20, 19], [19, 20]), ([19, 19], [19]), ([22, 19], [19, 22]), ([21, 23, 22, 19], [19, 21, 23]), ([19, 24], [19, 24]), ([25, 24, 0, 1, 2, 3, 4, 5, 6, 7, 8, 9, 10, 11, 12, 13, 14, 15, 16, 17, 18, 19, 20, 21, 22, 23, 24, 25], [25])])
def hertzproto_IsBadTrailer.B6 : List Nat := [0, 1, 0, 4, 15, 31, 63, 127, 63, 319, 1023, 2047, 4095, 8191, 16383, 8191, 40959, 131071, 262143, 524287, 1048575, 2097151, 1048575, 5242879, 16777215, 33554431, 67108863]
theorem hertzproto_IsBadTrailer.tab6 : rtab .any (opsOf Try.f68 6) = hertzproto_IsBadTrailer.T6 := by kernel_rfl
theorem hertzproto_IsBadTrailer.bits6 : waitsOk hertzproto_IsBadTrailer.T6.2 hertzproto_IsBadTrailer.B6 = true := by kernel_rfl
def hertzproto_IsBadTrailer.T17 : Bool × List (List Nat × List Nat) := (true, [([], []), ([0], [0]), ([1], [1]), ([2], [2]), ([3], [3]), ([4, 3], [3, 4]), ([3, 3], [3]), ([6, 3], [3, 6]), ([5, 7, 6, 3], [3, 5, 7]), ([3, 8], [3, 8])])
def hertzproto_IsBadTrailer.B17 : List Nat := [0, 1, 3, 7, 15, 31, 15, 79, 255, 511]
theorem hertzproto_IsBadTrailer.tab17 : rtab .any (opsOf Try.f68 17) = hertzproto_IsBadTrailer.T17 := by kernel_rfl
theorem hertzproto_IsBadTrailer.bits17 : waitsOk hertzproto_IsBadTrailer.T17.2 hertzproto_IsBadTrailer.B17 = true := by kernel_rfl
def hertzproto_IsBadTrailer.T18 : Bool × List (List Nat × List Nat) := (true, [([], []), ([0], [0]), ([], []), ([2], [2]), ([1, 3, 2], [1, 3]), ([4, 4], [4]), ([5], [5]), ([6, 5], [5, 6]), ([5, 5], [5]), ([8, 5], [5, 8]), ([7, 9, 8, 5], [5, 7, 9]), ([5, 10], [5, 10]), ([11, 10], [11]), ([12], [12]), ([13, 12], [12, 13]), ([12, 12], [12]), ([15, 12], [12, 15]), ([14, 16, 15, 12], [12, 14, 16]), ([12, 17], [12, 17]), ([18, 17, 0, 1, 2, 3, 4, 5, 6, 7, 8, 9, 10, 11, 12, 13, 14, 15, 16, 17, 18], [18])])
def hertzproto_IsBadTrailer.B18 : List Nat := [0, 1, 0, 4, 15, 31, 63, 127, 63, 319, 1023, 2047, 4095, 8191, 16383, 8191, 40959, 131071, 262143, 524287]
theorem hertzproto_IsBadTrailer.tab18 : rtab .any (opsOf Try.f68 18) = hertzproto_IsBadTrailer.T18 := by kernel_rfl
theorem hertzproto_IsBadTrailer.bits18 : waitsOk hertzproto_IsBadTrailer.T18.2 hertzproto_IsBadTrailer.B18 = true := by kernel_rfl
end Go.Proofs.Ytoimkmoalmmooaa.QA
namespace Go.Proofs.Ytoimkmoalmmooaa.Base
open Go.RowKit Go.Proofs.Ytoimkmoalmmooaa.QA Go.Proofs.YtoimkmoalmmooaaW.PrintWords Go.Proofs.YtoimkmoalmmooaaW.PrintLast Go.Proofs.Ytoimkmoalmmooaa.Given Go.Proofs.Ytoimkmoalmmooaa.Gv
def cAuthorization : List Int := [65, 117, 116, 104, 111, 114, 105, 122, 97, 116, 105, 111, 110]
def cContentType : List Int := [67, 111, 110, 116, 101, 110, 116, 45, 84, 121, 112, 101]
def cContentEncoding : List Int := [67, 111, 110, 116, 101, 110, 116, 45, 69, 110, 99, 111, 100, 105, 110, 103]
def cContentLength : List Int := [67, 111, 110, 116, 101, 110, 116, 45, 76, 101, 110, 103, 116, 104]
def cContentRange : List Int := [67, 111, 110, 116, 101, 110, 116, 45, 82, 97, 110, 103, 101]
def cConnection : List Int := [67, 111, 110, 110, 101, 99, 116, 105, 111, 110]
def cExpect : List Int := [69, 120, 112, 101, 99, 116]
def cHost : List Int := [72, 111, 115, 116]
def cKeepAlive : List Int := [107, 101, 101, 112, 45, 97, 108, 105, 118, 101]
def cMaxForwards : List Int := [77, 97, 120, 45, 70, 111, 114, 119, 97, 114, 100, 115]
def cProxyConnection : List Int := [80, 114, 111, 120, 121, 45, 67, 111, 110, 110, 101, 99, 116, 105, 111, 110]
def cProxyAuthenticate : List Int := [80, 114, 111, 120, 121, 45, 65, 117, 116, 104, 101, 110, 116, 105, 99, 97, 116, 101]
def cProxyAuthorization : List Int := [80, 114, 111, 120, 121, 45, 65, 117, 116, 104, 111, 114, 105, 122, 97, 116, 105, 111, 110]
def cRange : List Int := [82, 97, 110, 103, 101]
def cTE : List Int := [84, 69]
def cTrailer : List Int := [84, 114, 97, 105, 108, 101, 114]
def cTransferEncoding : List Int := [84, 114, 97, 110, 115, 102, 101, 114, 45, 69, 110, 99, 111, 100, 105, 110, 103]
def cWWWAuthenticate : List Int := [87, 87, 87, 45, 65, 117, 116, 104, 101, 110, 116, 105, 99, 97, 116, 101]
def eqM (m c : List Int) : Bool := decide (m = c.map o32)
def badC (m : List Int) : Bool := if decide (12 ≤ m.length) && eqM (m.take 8) (cContentType.take 8) then eqM (m.drop 8) (cContentEncoding.drop 8) || (eqM (m.drop 8) (cContentLength.drop 8) || (eqM (m.drop 8) (cContentType.drop 8) || eqM (m.drop 8) (cContentRange.drop 8))) else eqM m cConnection
def badP (m : List Int) : Bool := if decide (16 ≤ m.length) && eqM (m.take 6) (cProxyConnection.take 6) then eqM (m.drop 6) (cProxyConnection.drop 6) || (eqM (m.drop 6) (cProxyAuthenticate.drop 6) || eqM (m.drop 6) (cProxyAuthorization.drop 6)) else false
def badM (m : List Int) : Bool :=
  if m.headD 0 = 97 then eqM m cAuthorization else if m.headD 0 = 99 then badC m else if m.headD 0 = 101 then eqM m cExpect else if m.headD 0 = 104 then eqM m cHost else if m.headD 0 = 107 then eqM m cKeepAlive else if m.headD 0 = 109 then eqM m cMaxForwards else if m.headD 0 = 112 then badP m else if m.headD 0 = 114 then eqM m cRange else if m.headD 0 = 116 then eqM m cTE || (eqM m cTrailer || eqM m cTransferEncoding) else if m.headD 0 = 119 then eqM m cWWWAuthenticate else false
theorem eqM_ends (l c : List Int) (hs : l.length ≤ 140737488351232) : Ev (fun k => hertzutils_CaseInsensitiveCompare.f k l c) (eqM (l.map o32) c) := cic_ends l c hs
theorem eqM_take (l c : List Int) (n : Nat) (hs : l.length ≤ 140737488351232) : Ev (fun k => hertzutils_CaseInsensitiveCompare.f k (l.take n) c) (eqM ((l.map o32).take n) c) := by
  rw [← List.map_take]
  exact cic_ends _ c (by rw [List.length_take]; omega)
theorem eqM_drop (l c : List Int) (n : Nat) (hs : l.length ≤ 140737488351232) : Ev (fun k => hertzutils_CaseInsensitiveCompare.f k (l.drop n) c) (eqM ((l.map o32).drop n) c) := by
  rw [← List.map_drop]
  exact cic_ends _ c (by rw [List.length_drop]; omega)
theorem Ev.orv {f g : Nat → Option Bool} {a b : Bool} (h1 : Ev f a) (h2 : Ev g b) : Ev (fun k => (f k).bind fun t => if t = true then some true else g k) (a || b) := by
  refine Ev.bind h1 ?_
  cases a
  · exact Ev.if_false (by simp) h2
  · exact Ev.if_true rfl (Ev.now _)
theorem Ev.one {f : Nat → Option Bool} {a : Bool} (h1 : Ev f a) : Ev (fun k => (f k).bind fun t => some t) a := Ev.bind h1 (Ev.now _)
theorem bad_j0_false (l : List Int) (hs : l.length ≤ 140737488351232) : Ev (fun k => hertzproto_IsBadTrailer.j0 k l false) (eqM (l.map o32) cConnection) := by
  refine Ev.step (f := _) (fun k => by simp only [hertzproto_IsBadTrailer.j0]; rw [if_neg (by simp)]) ?_
  exact Ev.call (a := cConnection) rfl (Ev.one (eqM_ends l _ hs))
theorem bad_j0_true (l : List Int) (hs : l.length ≤ 140737488351232) (h8 : 8 ≤ l.length) : Ev (fun k => hertzproto_IsBadTrailer.j0 k l true) (eqM ((l.map o32).drop 8) (cContentEncoding.drop 8) || (eqM ((l.map o32).drop 8) (cContentLength.drop 8) || (eqM ((l.map o32).drop 8) (cContentType.drop 8) || eqM ((l.map o32).drop 8) (cContentRange.drop 8)))) := by
  refine Ev.step (f := _) (fun k => by simp only [hertzproto_IsBadTrailer.j0]; rw [if_pos trivial]) ?_
  refine Ev.if_true (by omega) ?_
  refine Ev.call (a := cContentEncoding) rfl (Ev.if_true (by decide) (Ev.orv (eqM_drop l _ 8 hs) ?_))
  refine Ev.call (a := cContentLength) rfl (Ev.if_true (by decide) (Ev.orv (eqM_drop l _ 8 hs) ?_))
  refine Ev.call (a := cContentType) rfl (Ev.if_true (by decide) (Ev.orv (eqM_drop l _ 8 hs) ?_))
  exact Ev.call (a := cContentRange) rfl (Ev.if_true (by decide) (Ev.one (eqM_drop l _ 8 hs)))
theorem bad_j1_false (l : List Int) : Ev (fun k => hertzproto_IsBadTrailer.j1 k l false) false := by
  refine Ev.step (f := fun _ => some false) (fun k => by simp only [hertzproto_IsBadTrailer.j1]; rw [if_neg (by simp)]) (Ev.now _)
theorem bad_j1_true (l : List Int) (hs : l.length ≤ 140737488351232) (h6 : 6 ≤ l.length) : Ev (fun k => hertzproto_IsBadTrailer.j1 k l true) (eqM ((l.map o32).drop 6) (cProxyConnection.drop 6) || (eqM ((l.map o32).drop 6) (cProxyAuthenticate.drop 6) || eqM ((l.map o32).drop 6) (cProxyAuthorization.drop 6))) := by
  refine Ev.step (f := _) (fun k => by simp only [hertzproto_IsBadTrailer.j1]; rw [if_pos trivial]) ?_
  refine Ev.if_true (by omega) ?_
  refine Ev.call (a := cProxyConnection) rfl (Ev.if_true (by decide) (Ev.orv (eqM_drop l _ 6 hs) ?_))
  refine Ev.call (a := cProxyAuthenticate) rfl (Ev.if_true (by decide) (Ev.orv (eqM_drop l _ 6 hs) ?_))
  exact Ev.call (a := cProxyAuthorization) rfl (Ev.if_true (by decide) (Ev.one (eqM_drop l _ 6 hs)))
theorem badC_ends (l : List Int) (hs : l.length ≤ 140737488351232) : Ev (fun k => if (l.length : Int) ≥ 12 then (if 8 ≤ (l.length : Int) then ((hertzstr_StrContentType.f).bind fun t109 => (if 8 ≤ (t109.length : Int) then ((hertzutils_CaseInsensitiveCompare.f k (l.take 8) (t109.take 8)).bind fun t116 => (hertzproto_IsBadTrailer.j0 k l t116)) else (none))) else (none)) else (hertzproto_IsBadTrailer.j0 k l false)) (badC (l.map o32)) := by
  unfold badC
  rw [List.length_map]
  refine Ev.ite (fun h => Ev.if_true (by omega) ?_) (fun h => ?_)
  · refine Ev.call (a := cContentType) rfl (Ev.if_true (by decide) (Ev.bind (eqM_take l _ 8 hs) ?_))
    rw [decide_eq_true (show 12 ≤ l.length by omega), Bool.true_and]
    cases eqM ((l.map o32).take 8) (cContentType.take 8)
    · rw [if_neg (by simp)]; exact bad_j0_false l hs
    · rw [if_pos rfl]; exact bad_j0_true l hs (by omega)
  · rw [decide_eq_false (show ¬ 12 ≤ l.length by omega), Bool.false_and, if_neg (by simp)]
    exact bad_j0_false l hs
theorem badP_ends (l : List Int) (hs : l.length ≤ 140737488351232) : Ev (fun k => if (l.length : Int) ≥ 16 then (if 6 ≤ (l.length : Int) then ((hertzstr_StrProxyConnection.f).bind fun t174 => (if 6 ≤ (t174.length : Int) then ((hertzutils_CaseInsensitiveCompare.f k (l.take 6) (t174.take 6)).bind fun t181 => (hertzproto_IsBadTrailer.j1 k l t181)) else (none))) else (none)) else (hertzproto_IsBadTrailer.j1 k l false)) (badP (l.map o32)) := by
  unfold badP
  rw [List.length_map]
  refine Ev.ite (fun h => Ev.if_true (by omega) ?_) (fun h => ?_)
  · refine Ev.call (a := cProxyConnection) rfl (Ev.if_true (by decide) (Ev.bind (eqM_take l _ 6 hs) ?_))
    rw [decide_eq_true (show 16 ≤ l.length by omega), Bool.true_and]
    cases eqM ((l.map o32).take 6) (cProxyConnection.take 6)
    · rw [if_neg (by simp)]; exact bad_j1_false l
    · rw [if_pos rfl]; exact bad_j1_true l hs (by omega)
  · rw [decide_eq_false (show ¬ 16 ≤ l.length by omega), Bool.false_and, if_neg (by simp)]
    exact bad_j1_false l
theorem ite_r {c : Prop} [Decidable c] {f g : Nat → Option Bool} {a b : Bool} (h : c → Ev f a) (k : ¬ c → Ev g b) : Ev (fun n => if c then f n else g n) (if c then a else b) := by
  by_cases hc : c
  · rw [if_pos hc]; exact Ev.if_true hc (h hc)
  · rw [if_neg hc]; exact Ev.if_false hc (k hc)
theorem head_o32 (l : List Int) (h : 0 < l.length) : Go.bits .or .u8 (rd l 0) 32 = (l.map o32).headD 0 := by
  cases l with
  | nil => simp at h
  | cons a t => rfl
theorem bad_ends (l : List Int) (h0 : 0 < l.length) (hs : l.length ≤ 140737488351232) : Ev (fun k => hertzproto_IsBadTrailer.f k l) (badM (l.map o32)) := by
  unfold hertzproto_IsBadTrailer.f badM
  rw [head_o32 l h0]
  refine Ev.if_true (by omega) ?_
  refine ite_r (fun _ => Ev.call (a := cAuthorization) rfl (Ev.one (eqM_ends l _ hs))) (fun _ => ?_)
  refine ite_r (fun _ => badC_ends l hs) (fun _ => ?_)
  refine ite_r (fun _ => Ev.call (a := cExpect) rfl (Ev.one (eqM_ends l _ hs))) (fun _ => ?_)
  refine ite_r (fun _ => Ev.call (a := cHost) rfl (Ev.one (eqM_ends l _ hs))) (fun _ => ?_)
  refine ite_r (fun _ => Ev.call (a := cKeepAlive) rfl (Ev.one (eqM_ends l _ hs))) (fun _ => ?_)
  refine ite_r (fun _ => Ev.call (a := cMaxForwards) rfl (Ev.one (eqM_ends l _ hs))) (fun _ => ?_)
  refine ite_r (fun _ => badP_ends l hs) (fun _ => ?_)
  refine ite_r (fun _ => Ev.call (a := cRange) rfl (Ev.one (eqM_ends l _ hs))) (fun _ => ?_)
  refine ite_r (fun _ => Ev.call (a := cTE) rfl (Ev.orv (eqM_ends l _ hs) (Ev.call (a := cTrailer) rfl (Ev.orv (eqM_ends l _ hs) (Ev.call (a := cTransferEncoding) rfl (Ev.one (eqM_ends l _ hs))))))) (fun _ => ?_)
  exact ite_r (fun _ => Ev.call (a := cWWWAuthenticate) rfl (Ev.one (eqM_ends l _ hs))) (fun _ => Ev.now _)
theorem bad_x (m : List Int) (h : m.headD 0 = 120) : badM m = false := by
  unfold badM
  rw [h]
  rfl
end Go.Proofs.Ytoimkmoalmmooaa.Base
namespace Go.Proofs.Ytoimkmoalmmooaa.QA
open Go.Proofs.Ytoimkmoalmmooaa.Given
open Go.Proofs.Ytoimkmoalmmooaa.PrX
open Go.RowKit Go.Proofs.YtoimkmoalmmooaaW.PrintWords Go.Proofs.YtoimkmoalmmooaaW.PrintLast Go.Proofs.YtoimkmoalmmooaaW.PrintMore
set_option linter.unusedVariables false
set_option linter.unusedSimpArgs false
set_option maxHeartbeats 8000000 in
set_option maxRecDepth 100000 in
theorem hertzproto_IsBadTrailer.calls_0 (k : Nat) (A0 : Option Addr) (c0 : Nat) (l0 : List Int) (r : Bool) (w : World) (hr0 : Kd.C (Kd.int .u8) w A0 l0.length l0) (hc0 : l0.length ≤ c0) (hcase : (Go.bits .or .u8 (rd l0 0) 32) = 99) (h : hertzproto_IsBadTrailer.f k l0 = some r) :
  Calls Try.prog 68 #[.slice A0 l0.length c0] w fun e w' => e = .returned (.bool r) ∧ Below w.heap.size w w' := by
 have HCASE_ := Aside0.mk hcase
 clear hcase
 have HR0 := Aside0.mk hr0
 have HC0 := Aside0.mk hc0
 clear hr0 hc0
 have HB := Aside0.mk (Below.refl w.heap.size w)
 have H : (if 0 < (l0.length : Int) then (if (Go.bits .or .u8 (rd l0 0) 32) = 97 then ((hertzstr_StrAuthorization.f).bind fun t104 => ((hertzutils_CaseInsensitiveCompare.f k l0 t104).bind fun t107 => (some t107))) else (if (Go.bits .or .u8 (rd l0 0) 32) = 99 then (if (l0.length : Int) ≥ 12 then (if 8 ≤ (l0.length : Int) then ((hertzstr_StrContentType.f).bind fun t109 => (if 8 ≤ (t109.length : Int) then ((hertzutils_CaseInsensitiveCompare.f k (l0.take 8) (t109.take 8)).bind fun t116 => (hertzproto_IsBadTrailer.j0 k l0 t116)) else (none))) else (none)) else (hertzproto_IsBadTrailer.j0 k l0 false)) else (if (Go.bits .or .u8 (rd l0 0) 32) = 101 then ((hertzstr_StrExpect.f).bind fun t157 => ((hertzutils_CaseInsensitiveCompare.f k l0 t157).bind fun t160 => (some t160))) else (if (Go.bits .or .u8 (rd l0 0) 32) = 104 then ((hertzstr_StrHost.f).bind fun t161 => ((hertzutils_CaseInsensitiveCompare.f k l0 t161).bind fun t164 => (some t164))) else (if (Go.bits .or .u8 (rd l0 0) 32) = 107 then ((hertzstr_StrKeepAlive.f).bind fun t165 => ((hertzutils_CaseInsensitiveCompare.f k l0 t165).bind fun t168 => (some t168))) else (if (Go.bits .or .u8 (rd l0 0) 32) = 109 then ((hertzstr_StrMaxForwards.f).bind fun t169 => ((hertzutils_CaseInsensitiveCompare.f k l0 t169).bind fun t172 => (some t172))) else (if (Go.bits .or .u8 (rd l0 0) 32) = 112 then (if (l0.length : Int) ≥ 16 then (if 6 ≤ (l0.length : Int) then ((hertzstr_StrProxyConnection.f).bind fun t174 => (if 6 ≤ (t174.length : Int) then ((hertzutils_CaseInsensitiveCompare.f k (l0.take 6) (t174.take 6)).bind fun t181 => (hertzproto_IsBadTrailer.j1 k l0 t181)) else (none))) else (none)) else (hertzproto_IsBadTrailer.j1 k l0 false)) else (if (Go.bits .or .u8 (rd l0 0) 32) = 114 then ((hertzstr_StrRange.f).bind fun t209 => ((hertzutils_CaseInsensitiveCompare.f k l0 t209).bind fun t212 => (some t212))) else (if (Go.bits .or .u8 (rd l0 0) 32) = 116 then ((hertzstr_StrTE.f).bind fun t213 => ((hertzutils_CaseInsensitiveCompare.f k l0 t213).bind fun t216 => (if t216 = true then (some true) else ((hertzstr_StrTrailer.f).bind fun t217 => ((hertzutils_CaseInsensitiveCompare.f k l0 t217).bind fun t220 => (if t220 = true then (some true) else ((hertzstr_StrTransferEncoding.f).bind fun t221 => ((hertzutils_CaseInsensitiveCompare.f k l0 t221).bind fun t224 => (some t224))))))))) else (if (Go.bits .or .u8 (rd l0 0) 32) = 119 then ((hertzstr_StrWWWAuthenticate.f).bind fun t225 => ((hertzutils_CaseInsensitiveCompare.f k l0 t225).bind fun t228 => (some t228))) else (some false))))))))))) else (none)) = some r := h
 clear h
 by_cases c2 : 0 < (l0.length : Int)
 ·rw [if_pos c2] at H
  have c2b0 : decide (0 < (l0.length : Int)) = true := decide_eq_true c2
  have c2b1 : decide (0 < l0.length) = true := decide_eq_true (by omega)
  clear c2
  by_cases c3 : (Go.bits .or .u8 (rd l0 0) 32) = 97
  ·exact absurd (HCASE_.out.symm.trans c3) (by decide)
  ·rw [if_neg c3] at H
   have c3b0 : ((Go.bits .or .u8 (rd l0 0) 32) == 97) = false := beq_eq_false_iff_ne.mpr c3
   have c3b1 : ((Go.bits .or .u8 (rd l0 0) 32) != 97) = true := bne_iff_ne.mpr c3
   by_cases c8 : (Go.bits .or .u8 (rd l0 0) 32) = 99
   ·rw [if_pos c8] at H
    have c8b0 : ((Go.bits .or .u8 (rd l0 0) 32) == 99) = true := beq_iff_eq.mpr c8
    have c8b1 : ((Go.bits .or .u8 (rd l0 0) 32) != 99) = false := bne_eq_false_iff_eq.mpr c8
    clear c8
    have HC9 := Aside0.mk H
    clear H
    have p103 : 0 ≤ (0 : Int) := (by omega)
    have q103 : 0 < (l0.length : Int) := of_decide_eq_true (by first | (with_reducible assumption) | assumption)
    obtain ⟨ad103, e103, hx103_0⟩ := Kd.at_int HR0.out 0 p103 q103
    cases e103
    have qi103 : (0 < l0.length) = True := eq_true (by omega)
    (try rw [show ((0 : Int)).toNat = 0 from rfl] at hx103_0)
    (try rw [Addr.add_zero'] at hx103_0)
    replace p103 := eq_true p103
    replace q103 := eq_true q103
    go_enter Try.func68, Try.ntmps68
    go_upto_region 5 with (fail)
    go_cut [23] (fun v23 wc => ∃ (kq : Nat) (x23_8 : Bool), v23 = .bool x23_8 ∧ Aside0 (hertzproto_IsBadTrailer.j0 kq l0 x23_8 = some r) ∧ Aside0 (kq ≤ k) ∧ Aside0 (Below w.heap.size w wc))
    case first =>
     have H := HC9.out
     clear HC9
     by_cases c10 : (l0.length : Int) ≥ 12
     ·rw [if_pos c10] at H
      have c10b0 : decide (12 ≤ (l0.length : Int)) = true := decide_eq_true c10
      have c10b1 : decide (12 ≤ l0.length) = true := decide_eq_true (by omega)
      clear c10
      (first | rw [c10b0] | (simp only [i64_w, i32_w]; rw [c10b0]) | skip)
      by_cases c11 : 8 ≤ (l0.length : Int)
      ·rw [if_pos c11] at H
       have c11b0 := eq_true c11
       have c11b1 : decide (8 ≤ (l0.length : Int)) = true := decide_eq_true c11
       clear c11
       replace H := Option.bind_eq_some_iff.mp H
       obtain ⟨t109, A120, H⟩ := H
       replace H : (if 8 ≤ (t109.length : Int) then ((hertzutils_CaseInsensitiveCompare.f k (l0.take 8) (t109.take 8)).bind fun t116 => (hertzproto_IsBadTrailer.j0 k l0 t116)) else (none)) = some r := H
       have A12 := Aside0.mk A120
       clear A120
       by_cases c13 : 8 ≤ (t109.length : Int)
       ·rw [if_pos c13] at H
        have c13b0 := eq_true c13
        have c13b1 : decide (8 ≤ (t109.length : Int)) = true := decide_eq_true c13
        clear c13
        obtain ⟨y112, hy112⟩ : ∃ y_ : List Int, y_ = (t109.take 8) := ⟨_, rfl⟩
        replace H : ((hertzutils_CaseInsensitiveCompare.f k (l0.take 8) y112).bind fun t116 => (hertzproto_IsBadTrailer.j0 k l0 t116)) = some r := by first | (rw [hy112]; with_reducible exact H) | (have H2_ := (Option.bind_some _ _).symm.trans H; rw [hy112]; with_reducible exact H2_) | (have H2_ := (Option.bind_some _ _).symm.trans H; with_reducible exact H2_) | with_reducible exact H | (rw [hy112]; exact H) | exact H
        have Ny112 := Aside0.mk hy112
        clear hy112
        replace H := Option.bind_eq_some_iff.mp H
        obtain ⟨t116, A140, H⟩ := H
        replace H : (hertzproto_IsBadTrailer.j0 k l0 t116) = some r := H
        have A14 := Aside0.mk A140
        clear A140
        have H' := Aside0.mk H
        clear H
        try go_wp2
        have n0_ := Aside0.mk (below_drew1 HB.out)
        clear HB
        have HB := n0_
        clear n0_
        obtain ⟨i016, hi016, _, hsz16, _⟩ := info_parts info5
        obtain ⟨hcut16, hA16, hC16⟩ := print_take_of (P := Try.prog) (Value.int .u8) 0 54 5 .i64 Try.underlying54 hi016 hsz16 (some ad103) c0 l0 8 (by omega) (of_decide_eq_true (by first | (with_reducible assumption) | assumption)) HC0.out
        have HR108 := Aside0.mk (Kd.C_of_reads (h1 := fun _ => rfl) (hA16 _ (Kd.reads_of_C HR0.out)))
        have HC108 := Aside0.mk hC16
        clear hA16 hC16 hi016 hsz16
        refine start_ (n := 10) (S := fun w' => True) (ds := []) #[false,false,false,false,false,false,false,false,false,false] (by kernel_rfl) rfl rfl trivial (fun hHeld => ?_); refine with_tabW hertzproto_IsBadTrailer.tab5 hertzproto_IsBadTrailer.bits5 (fun HT_ HW_ => ?_)
        generalize w.drew = w15 at HB HR108 hHeld ⊢
        refine pure_ (i := 0) (N := some 14) (v := ?_) (a' := ?_) #[true,false,false,false,false,false,false,false,false,false] rfl rfl (any_of HT_.out (by kernel_rfl)) (fun _ _ _ h => h) (Or.inl ⟨by rfl, ?_⟩) ?_ ?_
        rotate_left
        ·intro w'
         go_simp
         with_reducible rfl
        rotate_left
        ·simp only [Act.put, List.setIfInBounds_toArray, List.set_cons_zero, List.set_cons_succ, i64_w, i32_w]
         rfl
        refine pure_ (i := 1) (N := some 15) (v := ?_) (a' := ?_) #[true,true,false,false,false,false,false,false,false,false] rfl rfl (any_of HT_.out (by kernel_rfl)) (fun _ _ _ h => h) (Or.inl ⟨by rfl, ?_⟩) ?_ ?_
        rotate_left
        ·intro w'
         go_simp
         with_reducible rfl
        rotate_left
        ·simp only [Act.put, List.setIfInBounds_toArray, List.set_cons_zero, List.set_cons_succ, i64_w, i32_w]
         rfl
        refine pure_ (i := 2) (N := some 16) (v := ?_) (a' := ?_) #[true,true,true,false,false,false,false,false,false,false] rfl rfl (any_of HT_.out (by kernel_rfl)) (fun _ _ _ h => h) (Or.inl ⟨by rfl, ?_⟩) ?_ ?_
        rotate_left
        ·intro w'
         go_simp
         with_reducible rfl
        rotate_left
        ·simp only [Act.put, List.setIfInBounds_toArray, List.set_cons_zero, List.set_cons_succ, i64_w, i32_w]
         rfl
        refine pure_ (i := 3) (N := some 17) (v := ?_) (a' := ?_) #[true,true,true,true,false,false,false,false,false,false] rfl rfl (any_of HT_.out (by kernel_rfl)) (fun _ _ _ h => h) (Or.inl ⟨by rfl, ?_⟩) ?_ ?_
        rotate_left
        ·intro w'
         go_simp
         with_reducible rfl
        rotate_left
        ·simp only [Act.put, List.setIfInBounds_toArray, List.set_cons_zero, List.set_cons_succ, i64_w, i32_w]
         rfl
        refine pure_ (i := 4) (N := some 18) (v := ?_) (a' := ?_) #[true,true,true,true,true,false,false,false,false,false] rfl rfl (any_of HT_.out (by kernel_rfl)) (fun _ _ _ h => h) (Or.inl ⟨by rfl, ?_⟩) ?_ ?_
        rotate_left
        ·intro w'
         go_simp
         with_reducible rfl
        rotate_left
        ·simp only [Act.put, List.setIfInBounds_toArray, List.set_cons_zero, List.set_cons_succ, i64_w, i32_w]
         rfl
        refine pure_ (i := 5) (N := some 19) (v := ?_) (a' := ?_) #[true,true,true,true,true,true,false,false,false,false] rfl rfl (any_of HT_.out (by kernel_rfl)) (fun _ _ _ h => h) (Or.inl ⟨by rfl, ?_⟩) ?_ ?_
        rotate_left
        ·intro w'
         go_simp
         with_reducible rfl
        rotate_left
        ·simp only [Act.put, List.setIfInBounds_toArray, List.set_cons_zero, List.set_cons_succ, i64_w, i32_w]
         rfl
        refine one_ (i := 6) (N := some 20) #[true,true,true,true,true,true,true,false,false,false] rfl rfl (one_of HT_.out (by kernel_rfl)) (by decide) (fun K hK => ?_)
        refine goes_ Try.func82 (by kernel_rfl) rfl #[] (by rfl) rfl rfl (by (try simp only [List.map_toArray, List.map_cons, List.map_nil]); first | done | rfl | (simp only [List.length_drop, List.length_take]; rfl)) ?_
        with_reducible refine (hertzstr_StrContentType.calls  t109 _ A12.out).mono ?_
        rintro e w17 ⟨v110, rfl, ho0, hb⟩
        refine ⟨_, rfl, ?_⟩
        have n0_ := Aside0.mk (MR.R_lower ho0 (below_size (by repeat (first | (with_reducible first | exact HB.out | apply below_alloc | apply pw_below_drewN | apply below_drew1) | exact HB.out))))
        have n1_ := Aside0.mk (below_step (by repeat (first | (with_reducible first | exact HB.out | apply below_alloc | apply pw_below_drewN | apply below_drew1) | exact HB.out)) hb)
        clear HB
        have HO111 := n0_
        have HB := n1_
        clear n0_ n1_
        (try clear hb)
        (try clear hb2)
        (try clear hk)
        (try clear hi)
        (try clear ho0)
        obtain ⟨Ao19, co19, eo19⟩ := MR.R_slice HO111.out
        (first | subst eo19 | (injection eo19 with f1_ f2_ f3_; have f4_ := f1_.symm; have f5_ := f3_.symm; clear f1_ f2_ f3_; subst f4_; subst f5_))
        have q18 : (8 : Int) ≤ ((t109.length : Int) : Int) := of_decide_eq_true (by first | (with_reducible assumption) | assumption)
        obtain ⟨i018, hi018, _, hsz18, _⟩ := info_parts info5
        have hroom18 : t109.length ≤ co19 := (MR.R_reads' HO111.out).2.1
        have hC18 : Kd.C (Kd.int .u8) _ Ao19 t109.length t109 := (MR.R_reads' HO111.out).2.2
        have hcut18 := cut_to (P := Try.prog) 54 5 .i64 Try.underlying54 hi018 Ao19 t109.length co19 8 (by omega) q18 hroom18
        have hr18 := Kd.C_take (m := 8) hC18 (by omega)
        have hy18 : y112.length = (8 : Int).toNat := (by rw [Ny112.out, List.length_take]; omega)
        rw [← Ny112.out] at hr18
        rw [← hy18] at hcut18
        have HR115 := Aside0.mk hr18
        have HC115 := Aside0.mk (show y112.length ≤ co19 from by omega)
        clear hr18 hC18 hroom18 hi018 hsz18
        have KY18 := Aside0.mk hy18
        clear hy18
        have KL18 := Aside0.mk (show 8 ≤ t109.length from by omega)
        replace q18 := eq_true q18
        refine hK.out _ _ trivial (fun hHeld => ?_)
        clear hK K
        refine norm_ (a' := ?_) ?_ ?_
        rotate_left
        ·show Act.put _ (some 20) _ = _
         simp only [Act.put, List.setIfInBounds_toArray, List.set_cons_zero, List.set_cons_succ, i64_w, i32_w]
         rfl
        refine pure_ (i := 7) (N := some 21) (v := ?_) (a' := ?_) #[true,true,true,true,true,true,true,true,false,false] rfl rfl (any_of HT_.out (by kernel_rfl)) (fun _ _ _ h => h) (Or.inl ⟨by rfl, ?_⟩) ?_ ?_
        rotate_left
        ·intro w'
         go_simp
         with_reducible rfl
        rotate_left
        ·simp only [Act.put, List.setIfInBounds_toArray, List.set_cons_zero, List.set_cons_succ, i64_w, i32_w]
         rfl
        refine one_ (i := 8) (N := some 22) #[true,true,true,true,true,true,true,true,true,false] rfl rfl (one_of HT_.out (by kernel_rfl)) (by decide) (fun K hK => ?_)
        refine goes_ Try.func80 (by kernel_rfl) rfl #[.slice (some ad103) (l0.take 8).length c0, .slice Ao19 y112.length co19] (by rfl) rfl rfl (by (try simp only [List.map_toArray, List.map_cons, List.map_nil]); first | done | (rw [show (l0.take 8).length = 8 from (by rw [List.length_take]; have h_ : (8 : Int) ≤ (l0.length : Int) := of_decide_eq_true (by first | (with_reducible assumption) | assumption); omega)] <;> rfl) | rfl | (simp only [List.length_drop, List.length_take]; rfl)) ?_
        with_reducible refine (hertzutils_CaseInsensitiveCompare.calls k _ _ (l0.take 8) _ _ y112 t116 _ ?side1 ?side2 ?side3 ?side4 A14.out).mono ?_
        (case side1 => repeat (first | exact (Kd.C_below HR108.out HB.out) | (with_reducible refine Kd.C_alloc ?_ _) | (with_reducible refine Kd.C_drewN ?_ _) | (with_reducible refine Kd.C_drew ?_)))
        (case side2 => exact HC108.out)
        (case side3 => repeat (first | exact (by repeat (first | (with_reducible exact HR115.out) | (with_reducible refine Kd.C_alloc ?_ _) | (with_reducible refine Kd.C_drewN ?_ _) | (with_reducible refine Kd.C_drew ?_) | exact HR115.out)) | (with_reducible refine Kd.C_alloc ?_ _) | (with_reducible refine Kd.C_drewN ?_ _) | (with_reducible refine Kd.C_drew ?_)))
        (case side4 => exact HC115.out)
        rintro e w' ⟨rfl, ⟨nd, rfl⟩⟩
        refine ⟨_, rfl, ?_⟩
        refine hK.out _ _ trivial (fun hHeld => ?_)
        clear hK K
        refine norm_ (a' := ?_) ?_ ?_
        rotate_left
        ·show Act.put _ (some 22) _ = _
         simp only [Act.put, List.setIfInBounds_toArray, List.set_cons_zero, List.set_cons_succ, i64_w, i32_w]
         rfl
        refine pure_ (i := 9) (N := some 23) (v := ?_) (a' := ?_) #[true,true,true,true,true,true,true,true,true,true] rfl rfl (any_of HT_.out (by kernel_rfl)) (fun _ _ _ h => h) (Or.inl ⟨by rfl, ?_⟩) ?_ ?_
        rotate_left
        ·intro w'
         go_simp
         with_reducible rfl
        rotate_left
        ·simp only [Act.put, List.setIfInBounds_toArray, List.set_cons_zero, List.set_cons_succ, i64_w, i32_w]
         rfl
        refine done_ (done_of HT_.out (by kernel_rfl)) ?_
        try go_wp2
        go_meet
        case rel => exact ⟨_, (t116), (by first | rfl | (simp; done) | (rw [prx_ne]; first | done | rfl) | (simp [*]; done)), H', ⟨by first | omega | exact Nat.le_refl _⟩, ⟨by repeat (first | (with_reducible first | exact HB.out | apply below_alloc | apply pw_below_drewN | apply below_drew1) | exact HB.out)⟩⟩
       ·rw [if_neg c13] at H
        exact absurd H (by simp)
      ·rw [if_neg c11] at H
       exact absurd H (by simp)
     ·rw [if_neg c10] at H
      have c10b0 : decide (12 ≤ (l0.length : Int)) = false := decide_eq_false c10
      have c10b1 : decide (12 ≤ l0.length) = false := decide_eq_false (by omega)
      clear c10
      (first | rw [c10b0] | (simp only [i64_w, i32_w]; rw [c10b0]) | skip)
      have H' := Aside0.mk H
      clear H
      try go_wp2
      have n0_ := Aside0.mk (below_drew1 HB.out)
      clear HB
      have HB := n0_
      clear n0_
      refine start_ (n := 10) (S := fun w' => True) (ds := []) #[false,false,false,false,false,false,false,false,false,false] (by kernel_rfl) rfl rfl trivial (fun hHeld => ?_); refine with_tabW hertzproto_IsBadTrailer.tab5 hertzproto_IsBadTrailer.bits5 (fun HT_ HW_ => ?_)
      generalize w.drew = w20 at HB hHeld ⊢
      refine pure_ (i := 0) (N := some 14) (v := ?_) (a' := ?_) #[true,false,false,false,false,false,false,false,false,false] rfl rfl (any_of HT_.out (by kernel_rfl)) (fun _ _ _ h => h) (Or.inl ⟨by rfl, ?_⟩) ?_ ?_
      rotate_left
      ·intro w'
       go_simp
       with_reducible rfl
      rotate_left
      ·simp only [Act.put, List.setIfInBounds_toArray, List.set_cons_zero, List.set_cons_succ, i64_w, i32_w]
       rfl
      refine pure_ (i := 1) (N := some 15) (v := ?_) (a' := ?_) #[true,true,false,false,false,false,false,false,false,false] rfl rfl (any_of HT_.out (by kernel_rfl)) (fun _ _ _ h => h) (Or.inl ⟨by rfl, ?_⟩) ?_ ?_
      rotate_left
      ·intro w'
       go_simp
       with_reducible rfl
      rotate_left
      ·simp only [Act.put, List.setIfInBounds_toArray, List.set_cons_zero, List.set_cons_succ, i64_w, i32_w]
       rfl
      refine pure_ (i := 2) (N := some 16) (v := ?_) (a' := ?_) #[true,true,true,false,false,false,false,false,false,false] rfl rfl (any_of HT_.out (by kernel_rfl)) (fun _ _ _ h => h) (Or.inl ⟨by rfl, ?_⟩) ?_ ?_
      rotate_left
      ·intro w'
       go_simp
       with_reducible rfl
      rotate_left
      ·simp only [Act.put, List.setIfInBounds_toArray, List.set_cons_zero, List.set_cons_succ, i64_w, i32_w]
       rfl
      refine pure_ (i := 3) (N := some 17) (v := ?_) (a' := ?_) #[true,true,true,true,false,false,false,false,false,false] rfl rfl (any_of HT_.out (by kernel_rfl)) (fun _ _ _ h => h) (Or.inl ⟨by rfl, ?_⟩) ?_ ?_
      rotate_left
      ·intro w'
       go_simp
       with_reducible rfl
      rotate_left
      ·simp only [Act.put, List.setIfInBounds_toArray, List.set_cons_zero, List.set_cons_succ, i64_w, i32_w]
       rfl
      refine pure_ (i := 4) (N := some 18) (v := undef) (a' := ?_) #[true,true,true,true,true,false,false,false,false,false] rfl rfl (any_of HT_.out (by kernel_rfl)) (fun _ _ _ h => h) (Or.inr ⟨by rfl, rfl⟩) ?_ ?_
      rotate_left
      ·simp only [Act.put, List.setIfInBounds_toArray, List.set_cons_zero, List.set_cons_succ, i64_w, i32_w]
       rfl
      refine pure_ (i := 5) (N := some 19) (v := undef) (a' := ?_) #[true,true,true,true,true,true,false,false,false,false] rfl rfl (any_of HT_.out (by kernel_rfl)) (fun _ _ _ h => h) (Or.inr ⟨by rfl, rfl⟩) ?_ ?_
      rotate_left
      ·simp only [Act.put, List.setIfInBounds_toArray, List.set_cons_zero, List.set_cons_succ, i64_w, i32_w]
       rfl
      refine pure_ (i := 6) (N := some 20) (v := undef) (a' := ?_) #[true,true,true,true,true,true,true,false,false,false] rfl rfl (any_of HT_.out (by kernel_rfl)) (fun _ _ _ h => h) (Or.inr ⟨by rfl, rfl⟩) ?_ ?_
      rotate_left
      ·simp only [Act.put, List.setIfInBounds_toArray, List.set_cons_zero, List.set_cons_succ, i64_w, i32_w]
       rfl
      refine pure_ (i := 7) (N := some 21) (v := undef) (a' := ?_) #[true,true,true,true,true,true,true,true,false,false] rfl rfl (any_of HT_.out (by kernel_rfl)) (fun _ _ _ h => h) (Or.inr ⟨by rfl, rfl⟩) ?_ ?_
      rotate_left
      ·simp only [Act.put, List.setIfInBounds_toArray, List.set_cons_zero, List.set_cons_succ, i64_w, i32_w]
       rfl
      refine pure_ (i := 8) (N := some 22) (v := undef) (a' := ?_) #[true,true,true,true,true,true,true,true,true,false] rfl rfl (any_of HT_.out (by kernel_rfl)) (fun _ _ _ h => h) (Or.inr ⟨by rfl, rfl⟩) ?_ ?_
      rotate_left
      ·simp only [Act.put, List.setIfInBounds_toArray, List.set_cons_zero, List.set_cons_succ, i64_w, i32_w]
       rfl
      refine pure_ (i := 9) (N := some 23) (v := ?_) (a' := ?_) #[true,true,true,true,true,true,true,true,true,true] rfl rfl (any_of HT_.out (by kernel_rfl)) (fun _ _ _ h => h) (Or.inl ⟨by rfl, ?_⟩) ?_ ?_
      rotate_left
      ·intro w'
       go_simp
       with_reducible rfl
      rotate_left
      ·simp only [Act.put, List.setIfInBounds_toArray, List.set_cons_zero, List.set_cons_succ, i64_w, i32_w]
       rfl
      refine done_ (done_of HT_.out (by kernel_rfl)) ?_
      try go_wp2
      go_meet
      case rel => exact ⟨_, (false), (by first | rfl | (simp; done) | (rw [prx_ne]; first | done | rfl) | (simp [*]; done)), H', ⟨by first | omega | exact Nat.le_refl _⟩, ⟨by repeat (first | (with_reducible first | exact HB.out | apply below_alloc | apply pw_below_drewN | apply below_drew1) | exact HB.out)⟩⟩
    case rest =>
     clear HC9
     try clear c1
     try clear p1
     try clear q1
     try clear hx1
     try clear qi1
     try clear c2
     try clear c2b0
     try clear c2b1
     try clear p2
     try clear c3
     try clear c3b0
     try clear c3b1
     try clear c6
     try clear c8
     try clear c8b0
     try clear c8b1
     try clear c10
     try clear c10b0
     try clear c10b1
     try clear p10
     try clear q10
     try clear hx10
     try clear qi10
     try clear c11
     try clear c11b0
     try clear c11b1
     try clear c13
     try clear c13b0
     try clear c13b1
     try clear q18
     try clear hx103_0
     try clear p103
     try clear q103
     try clear q18
     obtain ⟨kq, x23_8, rfl, HA, HJ8, HB⟩ := hcut
     cases kq with
     | zero => exact absurd HA.out (by simp [hertzproto_IsBadTrailer.j0])
     | succ kj8 =>
      have H := HA.out
      clear HA
      simp only [hertzproto_IsBadTrailer.j0] at H
      by_cases c21 : x23_8 = true
      ·subst c21
       have H1 : (if 8 ≤ (l0.length : Int) then ((hertzstr_StrContentEncoding.f).bind fun t118 => (if 8 ≤ (t118.length : Int) then ((hertzutils_CaseInsensitiveCompare.f kj8 (l0.drop 8) (t118.drop 8)).bind fun t125 => (if t125 = true then (some true) else ((hertzstr_StrContentLength.f).bind fun t127 => (if 8 ≤ (t127.length : Int) then ((hertzutils_CaseInsensitiveCompare.f kj8 (l0.drop 8) (t127.drop 8)).bind fun t134 => (if t134 = true then (some true) else ((hertzstr_StrContentType.f).bind fun t136 => (if 8 ≤ (t136.length : Int) then ((hertzutils_CaseInsensitiveCompare.f kj8 (l0.drop 8) (t136.drop 8)).bind fun t143 => (if t143 = true then (some true) else ((hertzstr_StrContentRange.f).bind fun t145 => (if 8 ≤ (t145.length : Int) then ((hertzutils_CaseInsensitiveCompare.f kj8 (l0.drop 8) (t145.drop 8)).bind fun t152 => (some t152)) else (none))))) else (none))))) else (none))))) else (none))) else (none)) = some r := by rw [if_pos rfl] at H; exact H
       clear H
       have H := H1
       clear H1
       by_cases c22 : 8 ≤ (l0.length : Int)
       ·rw [if_pos c22] at H
        have c22b0 := eq_true c22
        have c22b1 : decide (8 ≤ (l0.length : Int)) = true := decide_eq_true c22
        clear c22
        replace H := Option.bind_eq_some_iff.mp H
        obtain ⟨t118, A230, H⟩ := H
        replace H : (if 8 ≤ (t118.length : Int) then ((hertzutils_CaseInsensitiveCompare.f kj8 (l0.drop 8) (t118.drop 8)).bind fun t125 => (if t125 = true then (some true) else ((hertzstr_StrContentLength.f).bind fun t127 => (if 8 ≤ (t127.length : Int) then ((hertzutils_CaseInsensitiveCompare.f kj8 (l0.drop 8) (t127.drop 8)).bind fun t134 => (if t134 = true then (some true) else ((hertzstr_StrContentType.f).bind fun t136 => (if 8 ≤ (t136.length : Int) then ((hertzutils_CaseInsensitiveCompare.f kj8 (l0.drop 8) (t136.drop 8)).bind fun t143 => (if t143 = true then (some true) else ((hertzstr_StrContentRange.f).bind fun t145 => (if 8 ≤ (t145.length : Int) then ((hertzutils_CaseInsensitiveCompare.f kj8 (l0.drop 8) (t145.drop 8)).bind fun t152 => (some t152)) else (none))))) else (none))))) else (none))))) else (none)) = some r := H
        have A23 := Aside0.mk A230
        clear A230
        by_cases c24 : 8 ≤ (t118.length : Int)
        ·rw [if_pos c24] at H
         have c24b0 := eq_true c24
         have c24b1 : decide (8 ≤ (t118.length : Int)) = true := decide_eq_true c24
         clear c24
         obtain ⟨y121, hy121⟩ : ∃ y_ : List Int, y_ = (t118.drop 8) := ⟨_, rfl⟩
         replace H : ((hertzutils_CaseInsensitiveCompare.f kj8 (l0.drop 8) y121).bind fun t125 => (if t125 = true then (some true) else ((hertzstr_StrContentLength.f).bind fun t127 => (if 8 ≤ (t127.length : Int) then ((hertzutils_CaseInsensitiveCompare.f kj8 (l0.drop 8) (t127.drop 8)).bind fun t134 => (if t134 = true then (some true) else ((hertzstr_StrContentType.f).bind fun t136 => (if 8 ≤ (t136.length : Int) then ((hertzutils_CaseInsensitiveCompare.f kj8 (l0.drop 8) (t136.drop 8)).bind fun t143 => (if t143 = true then (some true) else ((hertzstr_StrContentRange.f).bind fun t145 => (if 8 ≤ (t145.length : Int) then ((hertzutils_CaseInsensitiveCompare.f kj8 (l0.drop 8) (t145.drop 8)).bind fun t152 => (some t152)) else (none))))) else (none))))) else (none))))) = some r := by first | (rw [hy121]; with_reducible exact H) | (have H2_ := (Option.bind_some _ _).symm.trans H; rw [hy121]; with_reducible exact H2_) | (have H2_ := (Option.bind_some _ _).symm.trans H; with_reducible exact H2_) | with_reducible exact H | (rw [hy121]; exact H) | exact H
         have Ny121 := Aside0.mk hy121
         clear hy121
         replace H := Option.bind_eq_some_iff.mp H
         obtain ⟨t125, A250, H⟩ := H
         replace H : (if t125 = true then (some true) else ((hertzstr_StrContentLength.f).bind fun t127 => (if 8 ≤ (t127.length : Int) then ((hertzutils_CaseInsensitiveCompare.f kj8 (l0.drop 8) (t127.drop 8)).bind fun t134 => (if t134 = true then (some true) else ((hertzstr_StrContentType.f).bind fun t136 => (if 8 ≤ (t136.length : Int) then ((hertzutils_CaseInsensitiveCompare.f kj8 (l0.drop 8) (t136.drop 8)).bind fun t143 => (if t143 = true then (some true) else ((hertzstr_StrContentRange.f).bind fun t145 => (if 8 ≤ (t145.length : Int) then ((hertzutils_CaseInsensitiveCompare.f kj8 (l0.drop 8) (t145.drop 8)).bind fun t152 => (some t152)) else (none))))) else (none))))) else (none)))) = some r := H
         have A25 := Aside0.mk A250
         clear A250
         by_cases c26 : t125 = true
         ·subst c26
          have H1 : (some true) = some r := by rw [if_pos rfl] at H; exact H
          clear H
          have H := H1
          clear H1
          obtain rfl := Option.some.inj H
          try go_wp2
          have n0_ := Aside0.mk (below_drew1 HB.out)
          clear HB
          have HB := n0_
          clear n0_
          obtain ⟨i028, hi028, _, hsz28, _⟩ := info_parts info5
          obtain ⟨A28, hcut28, hA28, hC28⟩ := print_drop_of (P := Try.prog) (Value.int .u8) 0 54 5 .i64 Try.underlying54 hi028 hsz28 (some ad103) c0 l0 8 (by omega) (of_decide_eq_true (by first | (with_reducible assumption) | assumption)) HC0.out
          have HR117 := Aside0.mk (Kd.C_of_reads (h1 := fun _ => rfl) (hA28 _ (Kd.reads_of_C HR0.out)))
          have HC117 := Aside0.mk hC28
          clear hA28 hC28 hi028 hsz28
          refine start_ (n := 27) (S := fun w' => True) (ds := []) #[false,false,false,false,false,false,false,false,false,false,false,false,false,false,false,false,false,false,false,false,false,false,false,false,false,false,false] (by kernel_rfl) rfl rfl trivial (fun hHeld => ?_); refine with_tabW hertzproto_IsBadTrailer.tab6 hertzproto_IsBadTrailer.bits6 (fun HT_ HW_ => ?_)
          generalize wc.drew = w27 at HB HR117 hHeld ⊢
          refine pure_ (i := 0) (N := some 24) (v := ?_) (a' := ?_) #[true,false,false,false,false,false,false,false,false,false,false,false,false,false,false,false,false,false,false,false,false,false,false,false,false,false,false] rfl rfl (any_of HT_.out (by kernel_rfl)) (fun _ _ _ h => h) (Or.inl ⟨by rfl, ?_⟩) ?_ ?_
          rotate_left
          ·intro w'
           go_simp
           with_reducible rfl
          rotate_left
          ·simp only [Act.put, List.setIfInBounds_toArray, List.set_cons_zero, List.set_cons_succ, i64_w, i32_w]
           rfl
          refine pure_ (i := 1) (N := some 25) (v := ?_) (a' := ?_) #[true,true,false,false,false,false,false,false,false,false,false,false,false,false,false,false,false,false,false,false,false,false,false,false,false,false,false] rfl rfl (any_of HT_.out (by kernel_rfl)) (fun _ _ _ h => h) (Or.inl ⟨by rfl, ?_⟩) ?_ ?_
          rotate_left
          ·intro w'
           go_simp
           with_reducible rfl
          rotate_left
          ·simp only [Act.put, List.setIfInBounds_toArray, List.set_cons_zero, List.set_cons_succ, i64_w, i32_w]
           rfl
          refine one_ (i := 2) (N := some 26) #[true,true,true,false,false,false,false,false,false,false,false,false,false,false,false,false,false,false,false,false,false,false,false,false,false,false,false] rfl rfl (one_of HT_.out (by kernel_rfl)) (by decide) (fun K hK => ?_)
          refine goes_ Try.func83 (by kernel_rfl) rfl #[] (by rfl) rfl rfl (by (try simp only [List.map_toArray, List.map_cons, List.map_nil]); first | done | rfl | (simp only [List.length_drop, List.length_take]; rfl)) ?_
          with_reducible refine (hertzstr_StrContentEncoding.calls  t118 _ A23.out).mono ?_
          rintro e w29 ⟨v119, rfl, ho0, hb⟩
          refine ⟨_, rfl, ?_⟩
          have n0_ := Aside0.mk (MR.R_lower ho0 (below_size (by repeat (first | (with_reducible first | exact HB.out | apply below_alloc | apply pw_below_drewN | apply below_drew1) | exact HB.out))))
          have n1_ := Aside0.mk (below_step (by repeat (first | (with_reducible first | exact HB.out | apply below_alloc | apply pw_below_drewN | apply below_drew1) | exact HB.out)) hb)
          clear HB
          have HO120 := n0_
          have HB := n1_
          clear n0_ n1_
          (try clear hb)
          (try clear hb2)
          (try clear hk)
          (try clear hi)
          (try clear ho0)
          obtain ⟨Ao31, co31, eo31⟩ := MR.R_slice HO120.out
          (first | subst eo31 | (injection eo31 with f1_ f2_ f3_; have f4_ := f1_.symm; have f5_ := f3_.symm; clear f1_ f2_ f3_; subst f4_; subst f5_))
          have q30 : (8 : Int) ≤ ((t118.length : Int) : Int) := of_decide_eq_true (by first | (with_reducible assumption) | assumption)
          obtain ⟨i030, hi030, _, hsz30, _⟩ := info_parts info5
          have hroom30 : t118.length ≤ co31 := (MR.R_reads' HO120.out).2.1
          have hC30 : Kd.C (Kd.int .u8) _ Ao31 t118.length t118 := (MR.R_reads' HO120.out).2.2
          have hcut30 := cut_from (P := Try.prog) 54 5 .i64 Try.underlying54 hi030 1 hsz30 Ao31 t118.length co31 8 (by omega) q30
          have hr30 := Kd.C_drop (m := (8 : Int).toNat) (c := co31) hC30 (by omega) hroom30
          obtain ⟨A30, hA30⟩ : ∃ A1, A1 = (if co31 = (8 : Int).toNat then Ao31 else (Ao31 : Option Addr).map (·.add ((8 : Int).toNat * 1))) := ⟨_, rfl⟩
          obtain ⟨c30, hc30⟩ : ∃ c1, c1 = co31 - (8 : Int).toNat := ⟨_, rfl⟩
          have hy30 : y121.length = t118.length - (8 : Int).toNat := (by rw [Ny121.out, List.length_drop] <;> omega)
          rw [show (t118).drop (8 : Int).toNat = y121 from Ny121.out.symm] at hr30
          replace hr30 : Kd.C (Kd.int .u8) _ A30 y121.length y121 := (by rw [hA30]; exact hr30)
          rw [← hy30, ← hA30, ← hc30] at hcut30
          have HR124 := Aside0.mk hr30
          have HC124 := Aside0.mk (show y121.length ≤ c30 from by rw [hy30, hc30]; exact Nat.sub_le_sub_right hroom30 _)
          clear hr30 hC30 hroom30 hi030 hsz30 hc30
          have KY30 := Aside0.mk hy30
          have KA30 := Aside0.mk hA30
          clear hy30 hA30
          have KL30 := Aside0.mk (show 8 ≤ t118.length from by omega)
          replace q30 := eq_true q30
          refine hK.out _ _ trivial (fun hHeld => ?_)
          clear hK K
          refine norm_ (a' := ?_) ?_ ?_
          rotate_left
          ·show Act.put _ (some 26) _ = _
           simp only [Act.put, List.setIfInBounds_toArray, List.set_cons_zero, List.set_cons_succ, i64_w, i32_w]
           rfl
          refine pure_ (i := 3) (N := some 27) (v := ?_) (a' := ?_) #[true,true,true,true,false,false,false,false,false,false,false,false,false,false,false,false,false,false,false,false,false,false,false,false,false,false,false] rfl rfl (any_of HT_.out (by kernel_rfl)) (fun _ _ _ h => h) (Or.inl ⟨by rfl, ?_⟩) ?_ ?_
          rotate_left
          ·intro w'
           go_simp
           with_reducible rfl
          rotate_left
          ·simp only [Act.put, List.setIfInBounds_toArray, List.set_cons_zero, List.set_cons_succ, i64_w, i32_w]
           rfl
          refine one_ (i := 4) (N := some 28) #[true,true,true,true,true,false,false,false,false,false,false,false,false,false,false,false,false,false,false,false,false,false,false,false,false,false,false] rfl rfl (one_of HT_.out (by kernel_rfl)) (by decide) (fun K hK => ?_)
          refine goes_ Try.func80 (by kernel_rfl) rfl #[.slice A28 (l0.drop 8).length (c0 - 8), .slice A30 y121.length c30] (by rfl) rfl rfl (by (try simp only [List.map_toArray, List.map_cons, List.map_nil]); first | done | (rw [show (l0.drop 8).length = (l0.length - 8) from List.length_drop] <;> rfl) | rfl | (simp only [List.length_drop, List.length_take]; rfl)) ?_
          with_reducible refine (hertzutils_CaseInsensitiveCompare.calls kj8 _ _ (l0.drop 8) _ _ y121 true _ ?side1 ?side2 ?side3 ?side4 A25.out).mono ?_
          (case side1 => repeat (first | exact (Kd.C_below HR117.out HB.out) | (with_reducible refine Kd.C_alloc ?_ _) | (with_reducible refine Kd.C_drewN ?_ _) | (with_reducible refine Kd.C_drew ?_)))
          (case side2 => exact HC117.out)
          (case side3 => repeat (first | exact (by repeat (first | (with_reducible exact HR124.out) | (with_reducible refine Kd.C_alloc ?_ _) | (with_reducible refine Kd.C_drewN ?_ _) | (with_reducible refine Kd.C_drew ?_) | exact HR124.out)) | (with_reducible refine Kd.C_alloc ?_ _) | (with_reducible refine Kd.C_drewN ?_ _) | (with_reducible refine Kd.C_drew ?_)))
          (case side4 => exact HC124.out)
          rintro e w' ⟨rfl, ⟨nd, rfl⟩⟩
          refine ⟨_, rfl, ?_⟩
          refine hK.out _ _ trivial (fun hHeld => ?_)
          clear hK K
          refine norm_ (a' := ?_) ?_ ?_
          rotate_left
          ·show Act.put _ (some 28) _ = _
           simp only [Act.put, List.setIfInBounds_toArray, List.set_cons_zero, List.set_cons_succ, i64_w, i32_w]
           rfl
          refine pure_ (i := 5) (N := some 29) (v := ?_) (a' := ?_) #[true,true,true,true,true,true,false,false,false,false,false,false,false,false,false,false,false,false,false,false,false,false,false,false,false,false,false] rfl rfl (any_of HT_.out (by kernel_rfl)) (fun _ _ _ h => h) (Or.inl ⟨by rfl, ?_⟩) ?_ ?_
          rotate_left
          ·intro w'
           go_simp
           with_reducible rfl
          rotate_left
          ·simp only [Act.put, List.setIfInBounds_toArray, List.set_cons_zero, List.set_cons_succ, i64_w, i32_w]
           rfl
          refine pure_ (i := 6) (N := some 30) (v := undef) (a' := ?_) #[true,true,true,true,true,true,true,false,false,false,false,false,false,false,false,false,false,false,false,false,false,false,false,false,false,false,false] rfl rfl (any_of HT_.out (by kernel_rfl)) (fun _ _ _ h => h) (Or.inr ⟨by rfl, rfl⟩) ?_ ?_
          rotate_left
          ·simp only [Act.put, List.setIfInBounds_toArray, List.set_cons_zero, List.set_cons_succ, i64_w, i32_w]
           rfl
          refine pure_ (i := 7) (N := some 31) (v := undef) (a' := ?_) #[true,true,true,true,true,true,true,true,false,false,false,false,false,false,false,false,false,false,false,false,false,false,false,false,false,false,false] rfl rfl (any_of HT_.out (by kernel_rfl)) (fun _ _ _ h => h) (Or.inr ⟨by rfl, rfl⟩) ?_ ?_
          rotate_left
          ·simp only [Act.put, List.setIfInBounds_toArray, List.set_cons_zero, List.set_cons_succ, i64_w, i32_w]
           rfl
          refine pure_ (i := 8) (N := some 32) (v := undef) (a' := ?_) #[true,true,true,true,true,true,true,true,true,false,false,false,false,false,false,false,false,false,false,false,false,false,false,false,false,false,false] rfl rfl (any_of HT_.out (by kernel_rfl)) (fun _ _ _ h => h) (Or.inr ⟨by rfl, rfl⟩) ?_ ?_
          rotate_left
          ·simp only [Act.put, List.setIfInBounds_toArray, List.set_cons_zero, List.set_cons_succ, i64_w, i32_w]
           rfl
          refine pure_ (i := 9) (N := some 33) (v := undef) (a' := ?_) #[true,true,true,true,true,true,true,true,true,true,false,false,false,false,false,false,false,false,false,false,false,false,false,false,false,false,false] rfl rfl (any_of HT_.out (by kernel_rfl)) (fun _ _ _ h => h) (Or.inr ⟨by rfl, rfl⟩) ?_ ?_
          rotate_left
          ·simp only [Act.put, List.setIfInBounds_toArray, List.set_cons_zero, List.set_cons_succ, i64_w, i32_w]
           rfl
          refine pure_ (i := 10) (N := some 34) (v := undef) (a' := ?_) #[true,true,true,true,true,true,true,true,true,true,true,false,false,false,false,false,false,false,false,false,false,false,false,false,false,false,false] rfl rfl (any_of HT_.out (by kernel_rfl)) (fun _ _ _ h => h) (Or.inr ⟨by rfl, rfl⟩) ?_ ?_
          rotate_left
          ·simp only [Act.put, List.setIfInBounds_toArray, List.set_cons_zero, List.set_cons_succ, i64_w, i32_w]
           rfl
          refine pure_ (i := 11) (N := some 35) (v := ?_) (a' := ?_) #[true,true,true,true,true,true,true,true,true,true,true,true,false,false,false,false,false,false,false,false,false,false,false,false,false,false,false] rfl rfl (any_of HT_.out (by kernel_rfl)) (fun _ _ _ h => h) (Or.inl ⟨by rfl, ?_⟩) ?_ ?_
          rotate_left
          ·intro w'
           go_simp
           with_reducible rfl
          rotate_left
          ·simp only [Act.put, List.setIfInBounds_toArray, List.set_cons_zero, List.set_cons_succ, i64_w, i32_w]
           rfl
          refine pure_ (i := 12) (N := some 36) (v := ?_) (a' := ?_) #[true,true,true,true,true,true,true,true,true,true,true,true,true,false,false,false,false,false,false,false,false,false,false,false,false,false,false] rfl rfl (any_of HT_.out (by kernel_rfl)) (fun _ _ _ h => h) (Or.inl ⟨by rfl, ?_⟩) ?_ ?_
          rotate_left
          ·intro w'
           go_simp
           with_reducible rfl
          rotate_left
          ·simp only [Act.put, List.setIfInBounds_toArray, List.set_cons_zero, List.set_cons_succ, i64_w, i32_w]
           rfl
          refine pure_ (i := 13) (N := some 37) (v := undef) (a' := ?_) #[true,true,true,true,true,true,true,true,true,true,true,true,true,true,false,false,false,false,false,false,false,false,false,false,false,false,false] rfl rfl (any_of HT_.out (by kernel_rfl)) (fun _ _ _ h => h) (Or.inr ⟨by rfl, rfl⟩) ?_ ?_
          rotate_left
          ·simp only [Act.put, List.setIfInBounds_toArray, List.set_cons_zero, List.set_cons_succ, i64_w, i32_w]
           rfl
          refine pure_ (i := 14) (N := some 38) (v := undef) (a' := ?_) #[true,true,true,true,true,true,true,true,true,true,true,true,true,true,true,false,false,false,false,false,false,false,false,false,false,false,false] rfl rfl (any_of HT_.out (by kernel_rfl)) (fun _ _ _ h => h) (Or.inr ⟨by rfl, rfl⟩) ?_ ?_
          rotate_left
          ·simp only [Act.put, List.setIfInBounds_toArray, List.set_cons_zero, List.set_cons_succ, i64_w, i32_w]
           rfl
          refine pure_ (i := 15) (N := some 39) (v := undef) (a' := ?_) #[true,true,true,true,true,true,true,true,true,true,true,true,true,true,true,true,false,false,false,false,false,false,false,false,false,false,false] rfl rfl (any_of HT_.out (by kernel_rfl)) (fun _ _ _ h => h) (Or.inr ⟨by rfl, rfl⟩) ?_ ?_
          rotate_left
          ·simp only [Act.put, List.setIfInBounds_toArray, List.set_cons_zero, List.set_cons_succ, i64_w, i32_w]
           rfl
          refine pure_ (i := 16) (N := some 40) (v := undef) (a' := ?_) #[true,true,true,true,true,true,true,true,true,true,true,true,true,true,true,true,true,false,false,false,false,false,false,false,false,false,false] rfl rfl (any_of HT_.out (by kernel_rfl)) (fun _ _ _ h => h) (Or.inr ⟨by rfl, rfl⟩) ?_ ?_
          rotate_left
          ·simp only [Act.put, List.setIfInBounds_toArray, List.set_cons_zero, List.set_cons_succ, i64_w, i32_w]
           rfl
          refine pure_ (i := 17) (N := some 41) (v := undef) (a' := ?_) #[true,true,true,true,true,true,true,true,true,true,true,true,true,true,true,true,true,true,false,false,false,false,false,false,false,false,false] rfl rfl (any_of HT_.out (by kernel_rfl)) (fun _ _ _ h => h) (Or.inr ⟨by rfl, rfl⟩) ?_ ?_
          rotate_left
          ·simp only [Act.put, List.setIfInBounds_toArray, List.set_cons_zero, List.set_cons_succ, i64_w, i32_w]
           rfl
          refine pure_ (i := 18) (N := some 42) (v := ?_) (a' := ?_) #[true,true,true,true,true,true,true,true,true,true,true,true,true,true,true,true,true,true,true,false,false,false,false,false,false,false,false] rfl rfl (any_of HT_.out (by kernel_rfl)) (fun _ _ _ h => h) (Or.inl ⟨by rfl, ?_⟩) ?_ ?_
          rotate_left
          ·intro w'
           go_simp
           with_reducible rfl
          rotate_left
          ·simp only [Act.put, List.setIfInBounds_toArray, List.set_cons_zero, List.set_cons_succ, i64_w, i32_w]
           rfl
          refine pure_ (i := 19) (N := some 43) (v := ?_) (a' := ?_) #[true,true,true,true,true,true,true,true,true,true,true,true,true,true,true,true,true,true,true,true,false,false,false,false,false,false,false] rfl rfl (any_of HT_.out (by kernel_rfl)) (fun _ _ _ h => h) (Or.inl ⟨by rfl, ?_⟩) ?_ ?_
          rotate_left
          ·intro w'
           go_simp
           with_reducible rfl
          rotate_left
          ·simp only [Act.put, List.setIfInBounds_toArray, List.set_cons_zero, List.set_cons_succ, i64_w, i32_w]
           rfl
          refine pure_ (i := 20) (N := some 44) (v := undef) (a' := ?_) #[true,true,true,true,true,true,true,true,true,true,true,true,true,true,true,true,true,true,true,true,true,false,false,false,false,false,false] rfl rfl (any_of HT_.out (by kernel_rfl)) (fun _ _ _ h => h) (Or.inr ⟨by rfl, rfl⟩) ?_ ?_
          rotate_left
          ·simp only [Act.put, List.setIfInBounds_toArray, List.set_cons_zero, List.set_cons_succ, i64_w, i32_w]
           rfl
          refine pure_ (i := 21) (N := some 45) (v := undef) (a' := ?_) #[true,true,true,true,true,true,true,true,true,true,true,true,true,true,true,true,true,true,true,true,true,true,false,false,false,false,false] rfl rfl (any_of HT_.out (by kernel_rfl)) (fun _ _ _ h => h) (Or.inr ⟨by rfl, rfl⟩) ?_ ?_
          rotate_left
          ·simp only [Act.put, List.setIfInBounds_toArray, List.set_cons_zero, List.set_cons_succ, i64_w, i32_w]
           rfl
          refine pure_ (i := 22) (N := some 46) (v := undef) (a' := ?_) #[true,true,true,true,true,true,true,true,true,true,true,true,true,true,true,true,true,true,true,true,true,true,true,false,false,false,false] rfl rfl (any_of HT_.out (by kernel_rfl)) (fun _ _ _ h => h) (Or.inr ⟨by rfl, rfl⟩) ?_ ?_
          rotate_left
          ·simp only [Act.put, List.setIfInBounds_toArray, List.set_cons_zero, List.set_cons_succ, i64_w, i32_w]
           rfl
          refine pure_ (i := 23) (N := some 47) (v := undef) (a' := ?_) #[true,true,true,true,true,true,true,true,true,true,true,true,true,true,true,true,true,true,true,true,true,true,true,true,false,false,false] rfl rfl (any_of HT_.out (by kernel_rfl)) (fun _ _ _ h => h) (Or.inr ⟨by rfl, rfl⟩) ?_ ?_
          rotate_left
          ·simp only [Act.put, List.setIfInBounds_toArray, List.set_cons_zero, List.set_cons_succ, i64_w, i32_w]
           rfl
          refine pure_ (i := 24) (N := some 48) (v := undef) (a' := ?_) #[true,true,true,true,true,true,true,true,true,true,true,true,true,true,true,true,true,true,true,true,true,true,true,true,true,false,false] rfl rfl (any_of HT_.out (by kernel_rfl)) (fun _ _ _ h => h) (Or.inr ⟨by rfl, rfl⟩) ?_ ?_
          rotate_left
          ·simp only [Act.put, List.setIfInBounds_toArray, List.set_cons_zero, List.set_cons_succ, i64_w, i32_w]
           rfl
          refine pure_ (i := 25) (N := some 49) (v := ?_) (a' := ?_) #[true,true,true,true,true,true,true,true,true,true,true,true,true,true,true,true,true,true,true,true,true,true,true,true,true,true,false] rfl rfl (any_of HT_.out (by kernel_rfl)) (fun _ _ _ h => h) (Or.inl ⟨by rfl, ?_⟩) ?_ ?_
          rotate_left
          ·intro w'
           go_simp
           with_reducible rfl
          rotate_left
          ·simp only [Act.put, List.setIfInBounds_toArray, List.set_cons_zero, List.set_cons_succ, i64_w, i32_w]
           rfl
          refine pure_ (i := 26) (N := some 2) (v := ?_) (a' := ?_) #[true,true,true,true,true,true,true,true,true,true,true,true,true,true,true,true,true,true,true,true,true,true,true,true,true,true,true] rfl rfl (any_of HT_.out (by kernel_rfl)) (fun _ _ _ h => h) (Or.inl ⟨by rfl, ?_⟩) ?_ ?_
          rotate_left
          ·intro w'
           go_simp
           with_reducible rfl
          rotate_left
          ·simp only [Act.put, List.setIfInBounds_toArray, List.set_cons_zero, List.set_cons_succ, i64_w, i32_w]
           rfl
          refine done_ (done_of HT_.out (by kernel_rfl)) ?_
          try go_wp2
          go_ret
          exact ⟨by first | rfl | (simp [errW_none, errW_some] <;> rfl) | (simp [*, errW_none, errW_some] <;> rfl), by repeat (first | (with_reducible first | exact HB.out | apply below_alloc | apply pw_below_drewN | apply below_drew1) | exact HB.out)⟩
         ·replace c26 := Bool.eq_false_iff.mpr c26
          subst c26
          have H1 : ((hertzstr_StrContentLength.f).bind fun t127 => (if 8 ≤ (t127.length : Int) then ((hertzutils_CaseInsensitiveCompare.f kj8 (l0.drop 8) (t127.drop 8)).bind fun t134 => (if t134 = true then (some true) else ((hertzstr_StrContentType.f).bind fun t136 => (if 8 ≤ (t136.length : Int) then ((hertzutils_CaseInsensitiveCompare.f kj8 (l0.drop 8) (t136.drop 8)).bind fun t143 => (if t143 = true then (some true) else ((hertzstr_StrContentRange.f).bind fun t145 => (if 8 ≤ (t145.length : Int) then ((hertzutils_CaseInsensitiveCompare.f kj8 (l0.drop 8) (t145.drop 8)).bind fun t152 => (some t152)) else (none))))) else (none))))) else (none))) = some r := by rw [if_neg (show ¬ (false = true) by decide)] at H; exact H
          clear H
          have H := H1
          clear H1
          have c32b0 := eq_true (of_decide_eq_true (by first | (with_reducible assumption) | assumption) : 8 ≤ (l0.length : Int))
          replace H := Option.bind_eq_some_iff.mp H
          obtain ⟨t127, A330, H⟩ := H
          replace H : (if 8 ≤ (t127.length : Int) then ((hertzutils_CaseInsensitiveCompare.f kj8 (l0.drop 8) (t127.drop 8)).bind fun t134 => (if t134 = true then (some true) else ((hertzstr_StrContentType.f).bind fun t136 => (if 8 ≤ (t136.length : Int) then ((hertzutils_CaseInsensitiveCompare.f kj8 (l0.drop 8) (t136.drop 8)).bind fun t143 => (if t143 = true then (some true) else ((hertzstr_StrContentRange.f).bind fun t145 => (if 8 ≤ (t145.length : Int) then ((hertzutils_CaseInsensitiveCompare.f kj8 (l0.drop 8) (t145.drop 8)).bind fun t152 => (some t152)) else (none))))) else (none))))) else (none)) = some r := H
          have A33 := Aside0.mk A330
          clear A330
          by_cases c34 : 8 ≤ (t127.length : Int)
          ·rw [if_pos c34] at H
           have c34b0 := eq_true c34
           have c34b1 : decide (8 ≤ (t127.length : Int)) = true := decide_eq_true c34
           clear c34
           obtain ⟨y130, hy130⟩ : ∃ y_ : List Int, y_ = (t127.drop 8) := ⟨_, rfl⟩
           replace H : ((hertzutils_CaseInsensitiveCompare.f kj8 (l0.drop 8) y130).bind fun t134 => (if t134 = true then (some true) else ((hertzstr_StrContentType.f).bind fun t136 => (if 8 ≤ (t136.length : Int) then ((hertzutils_CaseInsensitiveCompare.f kj8 (l0.drop 8) (t136.drop 8)).bind fun t143 => (if t143 = true then (some true) else ((hertzstr_StrContentRange.f).bind fun t145 => (if 8 ≤ (t145.length : Int) then ((hertzutils_CaseInsensitiveCompare.f kj8 (l0.drop 8) (t145.drop 8)).bind fun t152 => (some t152)) else (none))))) else (none))))) = some r := by first | (rw [hy130]; with_reducible exact H) | (have H2_ := (Option.bind_some _ _).symm.trans H; rw [hy130]; with_reducible exact H2_) | (have H2_ := (Option.bind_some _ _).symm.trans H; with_reducible exact H2_) | with_reducible exact H | (rw [hy130]; exact H) | exact H
           have Ny130 := Aside0.mk hy130
           clear hy130
           replace H := Option.bind_eq_some_iff.mp H
           obtain ⟨t134, A350, H⟩ := H
           replace H : (if t134 = true then (some true) else ((hertzstr_StrContentType.f).bind fun t136 => (if 8 ≤ (t136.length : Int) then ((hertzutils_CaseInsensitiveCompare.f kj8 (l0.drop 8) (t136.drop 8)).bind fun t143 => (if t143 = true then (some true) else ((hertzstr_StrContentRange.f).bind fun t145 => (if 8 ≤ (t145.length : Int) then ((hertzutils_CaseInsensitiveCompare.f kj8 (l0.drop 8) (t145.drop 8)).bind fun t152 => (some t152)) else (none))))) else (none)))) = some r := H
           have A35 := Aside0.mk A350
           clear A350
           by_cases c36 : t134 = true
           ·subst c36
            have H1 : (some true) = some r := by rw [if_pos rfl] at H; exact H
            clear H
            have H := H1
            clear H1
            obtain rfl := Option.some.inj H
            try go_wp2
            have n0_ := Aside0.mk (below_drew1 HB.out)
            clear HB
            have HB := n0_
            clear n0_
            obtain ⟨i038, hi038, _, hsz38, _⟩ := info_parts info5
            obtain ⟨A38, hcut38, hA38, hC38⟩ := print_drop_of (P := Try.prog) (Value.int .u8) 0 54 5 .i64 Try.underlying54 hi038 hsz38 (some ad103) c0 l0 8 (by omega) (of_decide_eq_true (by first | (with_reducible assumption) | assumption)) HC0.out
            have HR117 := Aside0.mk (Kd.C_of_reads (h1 := fun _ => rfl) (hA38 _ (Kd.reads_of_C HR0.out)))
            have HC117 := Aside0.mk hC38
            clear hA38 hC38 hi038 hsz38
            refine start_ (n := 27) (S := fun w' => True) (ds := []) #[false,false,false,false,false,false,false,false,false,false,false,false,false,false,false,false,false,false,false,false,false,false,false,false,false,false,false] (by kernel_rfl) rfl rfl trivial (fun hHeld => ?_); refine with_tabW hertzproto_IsBadTrailer.tab6 hertzproto_IsBadTrailer.bits6 (fun HT_ HW_ => ?_)
            generalize wc.drew = w37 at HB HR117 hHeld ⊢
            refine pure_ (i := 0) (N := some 24) (v := ?_) (a' := ?_) #[true,false,false,false,false,false,false,false,false,false,false,false,false,false,false,false,false,false,false,false,false,false,false,false,false,false,false] rfl rfl (any_of HT_.out (by kernel_rfl)) (fun _ _ _ h => h) (Or.inl ⟨by rfl, ?_⟩) ?_ ?_
            rotate_left
            ·intro w'
             go_simp
             with_reducible rfl
            rotate_left
            ·simp only [Act.put, List.setIfInBounds_toArray, List.set_cons_zero, List.set_cons_succ, i64_w, i32_w]
             rfl
            refine pure_ (i := 1) (N := some 25) (v := ?_) (a' := ?_) #[true,true,false,false,false,false,false,false,false,false,false,false,false,false,false,false,false,false,false,false,false,false,false,false,false,false,false] rfl rfl (any_of HT_.out (by kernel_rfl)) (fun _ _ _ h => h) (Or.inl ⟨by rfl, ?_⟩) ?_ ?_
            rotate_left
            ·intro w'
             go_simp
             with_reducible rfl
            rotate_left
            ·simp only [Act.put, List.setIfInBounds_toArray, List.set_cons_zero, List.set_cons_succ, i64_w, i32_w]
             rfl
            refine one_ (i := 2) (N := some 26) #[true,true,true,false,false,false,false,false,false,false,false,false,false,false,false,false,false,false,false,false,false,false,false,false,false,false,false] rfl rfl (one_of HT_.out (by kernel_rfl)) (by decide) (fun K hK => ?_)
            refine goes_ Try.func83 (by kernel_rfl) rfl #[] (by rfl) rfl rfl (by (try simp only [List.map_toArray, List.map_cons, List.map_nil]); first | done | rfl | (simp only [List.length_drop, List.length_take]; rfl)) ?_
            with_reducible refine (hertzstr_StrContentEncoding.calls  t118 _ A23.out).mono ?_
            rintro e w39 ⟨v119, rfl, ho0, hb⟩
            refine ⟨_, rfl, ?_⟩
            have n0_ := Aside0.mk (MR.R_lower ho0 (below_size (by repeat (first | (with_reducible first | exact HB.out | apply below_alloc | apply pw_below_drewN | apply below_drew1) | exact HB.out))))
            have n1_ := Aside0.mk (below_step (by repeat (first | (with_reducible first | exact HB.out | apply below_alloc | apply pw_below_drewN | apply below_drew1) | exact HB.out)) hb)
            clear HB
            have HO120 := n0_
            have HB := n1_
            clear n0_ n1_
            (try clear hb)
            (try clear hb2)
            (try clear hk)
            (try clear hi)
            (try clear ho0)
            obtain ⟨Ao41, co41, eo41⟩ := MR.R_slice HO120.out
            (first | subst eo41 | (injection eo41 with f1_ f2_ f3_; have f4_ := f1_.symm; have f5_ := f3_.symm; clear f1_ f2_ f3_; subst f4_; subst f5_))
            have q40 : (8 : Int) ≤ ((t118.length : Int) : Int) := of_decide_eq_true (by first | (with_reducible assumption) | assumption)
            obtain ⟨i040, hi040, _, hsz40, _⟩ := info_parts info5
            have hroom40 : t118.length ≤ co41 := (MR.R_reads' HO120.out).2.1
            have hC40 : Kd.C (Kd.int .u8) _ Ao41 t118.length t118 := (MR.R_reads' HO120.out).2.2
            have hcut40 := cut_from (P := Try.prog) 54 5 .i64 Try.underlying54 hi040 1 hsz40 Ao41 t118.length co41 8 (by omega) q40
            have hr40 := Kd.C_drop (m := (8 : Int).toNat) (c := co41) hC40 (by omega) hroom40
            obtain ⟨A40, hA40⟩ : ∃ A1, A1 = (if co41 = (8 : Int).toNat then Ao41 else (Ao41 : Option Addr).map (·.add ((8 : Int).toNat * 1))) := ⟨_, rfl⟩
            obtain ⟨c40, hc40⟩ : ∃ c1, c1 = co41 - (8 : Int).toNat := ⟨_, rfl⟩
            have hy40 : y121.length = t118.length - (8 : Int).toNat := (by rw [Ny121.out, List.length_drop] <;> omega)
            rw [show (t118).drop (8 : Int).toNat = y121 from Ny121.out.symm] at hr40
            replace hr40 : Kd.C (Kd.int .u8) _ A40 y121.length y121 := (by rw [hA40]; exact hr40)
            rw [← hy40, ← hA40, ← hc40] at hcut40
            have HR124 := Aside0.mk hr40
            have HC124 := Aside0.mk (show y121.length ≤ c40 from by rw [hy40, hc40]; exact Nat.sub_le_sub_right hroom40 _)
            clear hr40 hC40 hroom40 hi040 hsz40 hc40
            have KY40 := Aside0.mk hy40
            have KA40 := Aside0.mk hA40
            clear hy40 hA40
            have KL40 := Aside0.mk (show 8 ≤ t118.length from by omega)
            replace q40 := eq_true q40
            refine hK.out _ _ trivial (fun hHeld => ?_)
            clear hK K
            refine norm_ (a' := ?_) ?_ ?_
            rotate_left
            ·show Act.put _ (some 26) _ = _
             simp only [Act.put, List.setIfInBounds_toArray, List.set_cons_zero, List.set_cons_succ, i64_w, i32_w]
             rfl
            refine pure_ (i := 3) (N := some 27) (v := ?_) (a' := ?_) #[true,true,true,true,false,false,false,false,false,false,false,false,false,false,false,false,false,false,false,false,false,false,false,false,false,false,false] rfl rfl (any_of HT_.out (by kernel_rfl)) (fun _ _ _ h => h) (Or.inl ⟨by rfl, ?_⟩) ?_ ?_
            rotate_left
            ·intro w'
             go_simp
             with_reducible rfl
            rotate_left
            ·simp only [Act.put, List.setIfInBounds_toArray, List.set_cons_zero, List.set_cons_succ, i64_w, i32_w]
             rfl
            refine one_ (i := 4) (N := some 28) #[true,true,true,true,true,false,false,false,false,false,false,false,false,false,false,false,false,false,false,false,false,false,false,false,false,false,false] rfl rfl (one_of HT_.out (by kernel_rfl)) (by decide) (fun K hK => ?_)
            refine goes_ Try.func80 (by kernel_rfl) rfl #[.slice A38 (l0.drop 8).length (c0 - 8), .slice A40 y121.length c40] (by rfl) rfl rfl (by (try simp only [List.map_toArray, List.map_cons, List.map_nil]); first | done | (rw [show (l0.drop 8).length = (l0.length - 8) from List.length_drop] <;> rfl) | rfl | (simp only [List.length_drop, List.length_take]; rfl)) ?_
            with_reducible refine (hertzutils_CaseInsensitiveCompare.calls kj8 _ _ (l0.drop 8) _ _ y121 false _ ?side1 ?side2 ?side3 ?side4 A25.out).mono ?_
            (case side1 => repeat (first | exact (Kd.C_below HR117.out HB.out) | (with_reducible refine Kd.C_alloc ?_ _) | (with_reducible refine Kd.C_drewN ?_ _) | (with_reducible refine Kd.C_drew ?_)))
            (case side2 => exact HC117.out)
            (case side3 => repeat (first | exact (by repeat (first | (with_reducible exact HR124.out) | (with_reducible refine Kd.C_alloc ?_ _) | (with_reducible refine Kd.C_drewN ?_ _) | (with_reducible refine Kd.C_drew ?_) | exact HR124.out)) | (with_reducible refine Kd.C_alloc ?_ _) | (with_reducible refine Kd.C_drewN ?_ _) | (with_reducible refine Kd.C_drew ?_)))
            (case side4 => exact HC124.out)
            rintro e w' ⟨rfl, ⟨nd, rfl⟩⟩
            refine ⟨_, rfl, ?_⟩
            obtain ⟨i042, hi042, _, hsz42, _⟩ := info_parts info5
            obtain ⟨A42, hcut42, hA42, hC42⟩ := print_drop_of (P := Try.prog) (Value.int .u8) 0 54 5 .i64 Try.underlying54 hi042 hsz42 (some ad103) c0 l0 8 (by omega) (of_decide_eq_true (by first | (with_reducible assumption) | assumption)) HC0.out
            have d42_ : A42 = A38 := MR.cut_same (hcut42 w) (hcut38 w)
            rw [d42_] at hA42
            clear hcut42 d42_
            have HR126 := Aside0.mk (Kd.C_of_reads (h1 := fun _ => rfl) (hA42 _ (Kd.reads_of_C HR0.out)))
            have HC126 := Aside0.mk hC42
            clear hA42 hC42 hi042 hsz42
            refine hK.out _ _ trivial (fun hHeld => ?_)
            clear hK K
            refine norm_ (a' := ?_) ?_ ?_
            rotate_left
            ·show Act.put _ (some 28) _ = _
             simp only [Act.put, List.setIfInBounds_toArray, List.set_cons_zero, List.set_cons_succ, i64_w, i32_w]
             rfl
            refine pure_ (i := 5) (N := some 29) (v := ?_) (a' := ?_) #[true,true,true,true,true,true,false,false,false,false,false,false,false,false,false,false,false,false,false,false,false,false,false,false,false,false,false] rfl rfl (any_of HT_.out (by kernel_rfl)) (fun _ _ _ h => h) (Or.inl ⟨by rfl, ?_⟩) ?_ ?_
            rotate_left
            ·intro w'
             go_simp
             with_reducible rfl
            rotate_left
            ·simp only [Act.put, List.setIfInBounds_toArray, List.set_cons_zero, List.set_cons_succ, i64_w, i32_w]
             rfl
            refine pure_ (i := 6) (N := some 30) (v := ?_) (a' := ?_) #[true,true,true,true,true,true,true,false,false,false,false,false,false,false,false,false,false,false,false,false,false,false,false,false,false,false,false] rfl rfl (any_of HT_.out (by kernel_rfl)) (fun _ _ _ h => h) (Or.inl ⟨by rfl, ?_⟩) ?_ ?_
            rotate_left
            ·intro w'
             go_simp
             with_reducible rfl
            rotate_left
            ·simp only [Act.put, List.setIfInBounds_toArray, List.set_cons_zero, List.set_cons_succ, i64_w, i32_w]
             rfl
            refine pure_ (i := 7) (N := some 31) (v := ?_) (a' := ?_) #[true,true,true,true,true,true,true,true,false,false,false,false,false,false,false,false,false,false,false,false,false,false,false,false,false,false,false] rfl rfl (any_of HT_.out (by kernel_rfl)) (fun _ _ _ h => h) (Or.inl ⟨by rfl, ?_⟩) ?_ ?_
            rotate_left
            ·intro w'
             go_simp
             with_reducible rfl
            rotate_left
            ·simp only [Act.put, List.setIfInBounds_toArray, List.set_cons_zero, List.set_cons_succ, i64_w, i32_w]
             rfl
            refine one_ (i := 8) (N := some 32) #[true,true,true,true,true,true,true,true,true,false,false,false,false,false,false,false,false,false,false,false,false,false,false,false,false,false,false] rfl rfl (one_of HT_.out (by kernel_rfl)) (by decide) (fun K hK => ?_)
            refine goes_ Try.func84 (by kernel_rfl) rfl #[] (by rfl) rfl rfl (by (try simp only [List.map_toArray, List.map_cons, List.map_nil]); first | done | rfl | (simp only [List.length_drop, List.length_take]; rfl)) ?_
            with_reducible refine (hertzstr_StrContentLength.calls  t127 _ A33.out).mono ?_
            rintro e w43 ⟨v128, rfl, ho0, hb⟩
            refine ⟨_, rfl, ?_⟩
            have n0_ := Aside0.mk (MR.R_elder' (by (with_reducible repeat (first | apply MR.R_alloc | apply MR.R_drewN | apply MR.R_drew)); exact HO120.out) (MR.R_base ho0) hb)
            have n1_ := Aside0.mk (MR.R_lower (MR.R_new' ho0 (MR.R_lt (by (with_reducible repeat (first | apply MR.R_alloc | apply MR.R_drewN | apply MR.R_drew)); exact HO120.out))) (below_size (by repeat (first | (with_reducible first | exact HB.out | apply below_alloc | apply pw_below_drewN | apply below_drew1) | exact HB.out))))
            have n2_ := Aside0.mk (Kd.C_below (by repeat (first | (with_reducible exact HR124.out) | (with_reducible refine Kd.C_alloc ?_ _) | (with_reducible refine Kd.C_drewN ?_ _) | (with_reducible refine Kd.C_drew ?_) | exact HR124.out)) hb)
            have n3_ := Aside0.mk (below_step (by repeat (first | (with_reducible first | exact HB.out | apply below_alloc | apply pw_below_drewN | apply below_drew1) | exact HB.out)) hb)
            clear HO120
            clear HR124
            clear HB
            have HO120 := n0_
            have HO129 := n1_
            have HR124 := n2_
            have HB := n3_
            clear n0_ n1_ n2_ n3_
            (try clear hb)
            (try clear hb2)
            (try clear hk)
            (try clear hi)
            (try clear ho0)
            obtain ⟨Ao45, co45, eo45⟩ := MR.R_slice HO129.out
            (first | subst eo45 | (injection eo45 with f1_ f2_ f3_; have f4_ := f1_.symm; have f5_ := f3_.symm; clear f1_ f2_ f3_; subst f4_; subst f5_))
            have q44 : (8 : Int) ≤ ((t127.length : Int) : Int) := of_decide_eq_true (by first | (with_reducible assumption) | assumption)
            obtain ⟨i044, hi044, _, hsz44, _⟩ := info_parts info5
            have hroom44 : t127.length ≤ co45 := (MR.R_reads' HO129.out).2.1
            have hC44 : Kd.C (Kd.int .u8) _ Ao45 t127.length t127 := (MR.R_reads' HO129.out).2.2
            have hcut44 := cut_from (P := Try.prog) 54 5 .i64 Try.underlying54 hi044 1 hsz44 Ao45 t127.length co45 8 (by omega) q44
            have hr44 := Kd.C_drop (m := (8 : Int).toNat) (c := co45) hC44 (by omega) hroom44
            obtain ⟨A44, hA44⟩ : ∃ A1, A1 = (if co45 = (8 : Int).toNat then Ao45 else (Ao45 : Option Addr).map (·.add ((8 : Int).toNat * 1))) := ⟨_, rfl⟩
            obtain ⟨c44, hc44⟩ : ∃ c1, c1 = co45 - (8 : Int).toNat := ⟨_, rfl⟩
            have hy44 : y130.length = t127.length - (8 : Int).toNat := (by rw [Ny130.out, List.length_drop] <;> omega)
            rw [show (t127).drop (8 : Int).toNat = y130 from Ny130.out.symm] at hr44
            replace hr44 : Kd.C (Kd.int .u8) _ A44 y130.length y130 := (by rw [hA44]; exact hr44)
            rw [← hy44, ← hA44, ← hc44] at hcut44
            have HR133 := Aside0.mk hr44
            have HC133 := Aside0.mk (show y130.length ≤ c44 from by rw [hy44, hc44]; exact Nat.sub_le_sub_right hroom44 _)
            clear hr44 hC44 hroom44 hi044 hsz44 hc44
            have KY44 := Aside0.mk hy44
            have KA44 := Aside0.mk hA44
            clear hy44 hA44
            have KL44 := Aside0.mk (show 8 ≤ t127.length from by omega)
            replace q44 := eq_true q44
            refine hK.out _ _ trivial (fun hHeld => ?_)
            clear hK K
            refine norm_ (a' := ?_) ?_ ?_
            rotate_left
            ·show Act.put _ (some 32) _ = _
             simp only [Act.put, List.setIfInBounds_toArray, List.set_cons_zero, List.set_cons_succ, i64_w, i32_w]
             rfl
            refine pure_ (i := 9) (N := some 33) (v := ?_) (a' := ?_) #[true,true,true,true,true,true,true,true,true,true,false,false,false,false,false,false,false,false,false,false,false,false,false,false,false,false,false] rfl rfl (any_of HT_.out (by kernel_rfl)) (fun _ _ _ h => h) (Or.inl ⟨by rfl, ?_⟩) ?_ ?_
            rotate_left
            ·intro w'
             go_simp
             with_reducible rfl
            rotate_left
            ·simp only [Act.put, List.setIfInBounds_toArray, List.set_cons_zero, List.set_cons_succ, i64_w, i32_w]
             rfl
            refine one_ (i := 10) (N := some 34) #[true,true,true,true,true,true,true,true,true,true,true,false,false,false,false,false,false,false,false,false,false,false,false,false,false,false,false] rfl rfl (one_of HT_.out (by kernel_rfl)) (by decide) (fun K hK => ?_)
            refine goes_ Try.func80 (by kernel_rfl) rfl #[.slice A38 (l0.drop 8).length (c0 - 8), .slice A44 y130.length c44] (by rfl) rfl rfl (by (try simp only [List.map_toArray, List.map_cons, List.map_nil]); first | done | (rw [show (l0.drop 8).length = (l0.length - 8) from List.length_drop] <;> rfl) | rfl | (simp only [List.length_drop, List.length_take]; rfl)) ?_
            with_reducible refine (hertzutils_CaseInsensitiveCompare.calls kj8 _ _ (l0.drop 8) _ _ y130 true _ ?side1 ?side2 ?side3 ?side4 A35.out).mono ?_
            (case side1 => repeat (first | exact (Kd.C_below HR126.out HB.out) | (with_reducible refine Kd.C_alloc ?_ _) | (with_reducible refine Kd.C_drewN ?_ _) | (with_reducible refine Kd.C_drew ?_)))
            (case side2 => exact HC126.out)
            (case side3 => repeat (first | exact (by repeat (first | (with_reducible exact HR133.out) | (with_reducible refine Kd.C_alloc ?_ _) | (with_reducible refine Kd.C_drewN ?_ _) | (with_reducible refine Kd.C_drew ?_) | exact HR133.out)) | (with_reducible refine Kd.C_alloc ?_ _) | (with_reducible refine Kd.C_drewN ?_ _) | (with_reducible refine Kd.C_drew ?_)))
            (case side4 => exact HC133.out)
            rintro e w' ⟨rfl, ⟨nd, rfl⟩⟩
            refine ⟨_, rfl, ?_⟩
            refine hK.out _ _ trivial (fun hHeld => ?_)
            clear hK K
            refine norm_ (a' := ?_) ?_ ?_
            rotate_left
            ·show Act.put _ (some 34) _ = _
             simp only [Act.put, List.setIfInBounds_toArray, List.set_cons_zero, List.set_cons_succ, i64_w, i32_w]
             rfl
            refine pure_ (i := 11) (N := some 35) (v := ?_) (a' := ?_) #[true,true,true,true,true,true,true,true,true,true,true,true,false,false,false,false,false,false,false,false,false,false,false,false,false,false,false] rfl rfl (any_of HT_.out (by kernel_rfl)) (fun _ _ _ h => h) (Or.inl ⟨by rfl, ?_⟩) ?_ ?_
            rotate_left
            ·intro w'
             go_simp
             with_reducible rfl
            rotate_left
            ·simp only [Act.put, List.setIfInBounds_toArray, List.set_cons_zero, List.set_cons_succ, i64_w, i32_w]
             rfl
            refine pure_ (i := 12) (N := some 36) (v := ?_) (a' := ?_) #[true,true,true,true,true,true,true,true,true,true,true,true,true,false,false,false,false,false,false,false,false,false,false,false,false,false,false] rfl rfl (any_of HT_.out (by kernel_rfl)) (fun _ _ _ h => h) (Or.inl ⟨by rfl, ?_⟩) ?_ ?_
            rotate_left
            ·intro w'
             go_simp
             with_reducible rfl
            rotate_left
            ·simp only [Act.put, List.setIfInBounds_toArray, List.set_cons_zero, List.set_cons_succ, i64_w, i32_w]
             rfl
            refine pure_ (i := 13) (N := some 37) (v := undef) (a' := ?_) #[true,true,true,true,true,true,true,true,true,true,true,true,true,true,false,false,false,false,false,false,false,false,false,false,false,false,false] rfl rfl (any_of HT_.out (by kernel_rfl)) (fun _ _ _ h => h) (Or.inr ⟨by rfl, rfl⟩) ?_ ?_
            rotate_left
            ·simp only [Act.put, List.setIfInBounds_toArray, List.set_cons_zero, List.set_cons_succ, i64_w, i32_w]
             rfl
            refine pure_ (i := 14) (N := some 38) (v := undef) (a' := ?_) #[true,true,true,true,true,true,true,true,true,true,true,true,true,true,true,false,false,false,false,false,false,false,false,false,false,false,false] rfl rfl (any_of HT_.out (by kernel_rfl)) (fun _ _ _ h => h) (Or.inr ⟨by rfl, rfl⟩) ?_ ?_
            rotate_left
            ·simp only [Act.put, List.setIfInBounds_toArray, List.set_cons_zero, List.set_cons_succ, i64_w, i32_w]
             rfl
            refine pure_ (i := 15) (N := some 39) (v := undef) (a' := ?_) #[true,true,true,true,true,true,true,true,true,true,true,true,true,true,true,true,false,false,false,false,false,false,false,false,false,false,false] rfl rfl (any_of HT_.out (by kernel_rfl)) (fun _ _ _ h => h) (Or.inr ⟨by rfl, rfl⟩) ?_ ?_
            rotate_left
            ·simp only [Act.put, List.setIfInBounds_toArray, List.set_cons_zero, List.set_cons_succ, i64_w, i32_w]
             rfl
            refine pure_ (i := 16) (N := some 40) (v := undef) (a' := ?_) #[true,true,true,true,true,true,true,true,true,true,true,true,true,true,true,true,true,false,false,false,false,false,false,false,false,false,false] rfl rfl (any_of HT_.out (by kernel_rfl)) (fun _ _ _ h => h) (Or.inr ⟨by rfl, rfl⟩) ?_ ?_
            rotate_left
            ·simp only [Act.put, List.setIfInBounds_toArray, List.set_cons_zero, List.set_cons_succ, i64_w, i32_w]
             rfl
            refine pure_ (i := 17) (N := some 41) (v := undef) (a' := ?_) #[true,true,true,true,true,true,true,true,true,true,true,true,true,true,true,true,true,true,false,false,false,false,false,false,false,false,false] rfl rfl (any_of HT_.out (by kernel_rfl)) (fun _ _ _ h => h) (Or.inr ⟨by rfl, rfl⟩) ?_ ?_
            rotate_left
            ·simp only [Act.put, List.setIfInBounds_toArray, List.set_cons_zero, List.set_cons_succ, i64_w, i32_w]
             rfl
            refine pure_ (i := 18) (N := some 42) (v := ?_) (a' := ?_) #[true,true,true,true,true,true,true,true,true,true,true,true,true,true,true,true,true,true,true,false,false,false,false,false,false,false,false] rfl rfl (any_of HT_.out (by kernel_rfl)) (fun _ _ _ h => h) (Or.inl ⟨by rfl, ?_⟩) ?_ ?_
            rotate_left
            ·intro w'
             go_simp
             with_reducible rfl
            rotate_left
            ·simp only [Act.put, List.setIfInBounds_toArray, List.set_cons_zero, List.set_cons_succ, i64_w, i32_w]
             rfl
            refine pure_ (i := 19) (N := some 43) (v := ?_) (a' := ?_) #[true,true,true,true,true,true,true,true,true,true,true,true,true,true,true,true,true,true,true,true,false,false,false,false,false,false,false] rfl rfl (any_of HT_.out (by kernel_rfl)) (fun _ _ _ h => h) (Or.inl ⟨by rfl, ?_⟩) ?_ ?_
            rotate_left
            ·intro w'
             go_simp
             with_reducible rfl
            rotate_left
            ·simp only [Act.put, List.setIfInBounds_toArray, List.set_cons_zero, List.set_cons_succ, i64_w, i32_w]
             rfl
            refine pure_ (i := 20) (N := some 44) (v := undef) (a' := ?_) #[true,true,true,true,true,true,true,true,true,true,true,true,true,true,true,true,true,true,true,true,true,false,false,false,false,false,false] rfl rfl (any_of HT_.out (by kernel_rfl)) (fun _ _ _ h => h) (Or.inr ⟨by rfl, rfl⟩) ?_ ?_
            rotate_left
            ·simp only [Act.put, List.setIfInBounds_toArray, List.set_cons_zero, List.set_cons_succ, i64_w, i32_w]
             rfl
            refine pure_ (i := 21) (N := some 45) (v := undef) (a' := ?_) #[true,true,true,true,true,true,true,true,true,true,true,true,true,true,true,true,true,true,true,true,true,true,false,false,false,false,false] rfl rfl (any_of HT_.out (by kernel_rfl)) (fun _ _ _ h => h) (Or.inr ⟨by rfl, rfl⟩) ?_ ?_
            rotate_left
            ·simp only [Act.put, List.setIfInBounds_toArray, List.set_cons_zero, List.set_cons_succ, i64_w, i32_w]
             rfl
            refine pure_ (i := 22) (N := some 46) (v := undef) (a' := ?_) #[true,true,true,true,true,true,true,true,true,true,true,true,true,true,true,true,true,true,true,true,true,true,true,false,false,false,false] rfl rfl (any_of HT_.out (by kernel_rfl)) (fun _ _ _ h => h) (Or.inr ⟨by rfl, rfl⟩) ?_ ?_
            rotate_left
            ·simp only [Act.put, List.setIfInBounds_toArray, List.set_cons_zero, List.set_cons_succ, i64_w, i32_w]
             rfl
            refine pure_ (i := 23) (N := some 47) (v := undef) (a' := ?_) #[true,true,true,true,true,true,true,true,true,true,true,true,true,true,true,true,true,true,true,true,true,true,true,true,false,false,false] rfl rfl (any_of HT_.out (by kernel_rfl)) (fun _ _ _ h => h) (Or.inr ⟨by rfl, rfl⟩) ?_ ?_
            rotate_left
            ·simp only [Act.put, List.setIfInBounds_toArray, List.set_cons_zero, List.set_cons_succ, i64_w, i32_w]
             rfl
            refine pure_ (i := 24) (N := some 48) (v := undef) (a' := ?_) #[true,true,true,true,true,true,true,true,true,true,true,true,true,true,true,true,true,true,true,true,true,true,true,true,true,false,false] rfl rfl (any_of HT_.out (by kernel_rfl)) (fun _ _ _ h => h) (Or.inr ⟨by rfl, rfl⟩) ?_ ?_
            rotate_left
            ·simp only [Act.put, List.setIfInBounds_toArray, List.set_cons_zero, List.set_cons_succ, i64_w, i32_w]
             rfl
            refine pure_ (i := 25) (N := some 49) (v := ?_) (a' := ?_) #[true,true,true,true,true,true,true,true,true,true,true,true,true,true,true,true,true,true,true,true,true,true,true,true,true,true,false] rfl rfl (any_of HT_.out (by kernel_rfl)) (fun _ _ _ h => h) (Or.inl ⟨by rfl, ?_⟩) ?_ ?_
            rotate_left
            ·intro w'
             go_simp
             with_reducible rfl
            rotate_left
            ·simp only [Act.put, List.setIfInBounds_toArray, List.set_cons_zero, List.set_cons_succ, i64_w, i32_w]
             rfl
            refine pure_ (i := 26) (N := some 2) (v := ?_) (a' := ?_) #[true,true,true,true,true,true,true,true,true,true,true,true,true,true,true,true,true,true,true,true,true,true,true,true,true,true,true] rfl rfl (any_of HT_.out (by kernel_rfl)) (fun _ _ _ h => h) (Or.inl ⟨by rfl, ?_⟩) ?_ ?_
            rotate_left
            ·intro w'
             go_simp
             with_reducible rfl
            rotate_left
            ·simp only [Act.put, List.setIfInBounds_toArray, List.set_cons_zero, List.set_cons_succ, i64_w, i32_w]
             rfl
            refine done_ (done_of HT_.out (by kernel_rfl)) ?_
            try go_wp2
            go_ret
            exact ⟨by first | rfl | (simp [errW_none, errW_some] <;> rfl) | (simp [*, errW_none, errW_some] <;> rfl), by repeat (first | (with_reducible first | exact HB.out | apply below_alloc | apply pw_below_drewN | apply below_drew1) | exact HB.out)⟩
           ·replace c36 := Bool.eq_false_iff.mpr c36
            subst c36
            have H1 : ((hertzstr_StrContentType.f).bind fun t136 => (if 8 ≤ (t136.length : Int) then ((hertzutils_CaseInsensitiveCompare.f kj8 (l0.drop 8) (t136.drop 8)).bind fun t143 => (if t143 = true then (some true) else ((hertzstr_StrContentRange.f).bind fun t145 => (if 8 ≤ (t145.length : Int) then ((hertzutils_CaseInsensitiveCompare.f kj8 (l0.drop 8) (t145.drop 8)).bind fun t152 => (some t152)) else (none))))) else (none))) = some r := by rw [if_neg (show ¬ (false = true) by decide)] at H; exact H
            clear H
            have H := H1
            clear H1
            have c46b0 := eq_true (of_decide_eq_true (by first | (with_reducible assumption) | assumption) : 8 ≤ (l0.length : Int))
            replace H := Option.bind_eq_some_iff.mp H
            obtain ⟨t136, A470, H⟩ := H
            replace H : (if 8 ≤ (t136.length : Int) then ((hertzutils_CaseInsensitiveCompare.f kj8 (l0.drop 8) (t136.drop 8)).bind fun t143 => (if t143 = true then (some true) else ((hertzstr_StrContentRange.f).bind fun t145 => (if 8 ≤ (t145.length : Int) then ((hertzutils_CaseInsensitiveCompare.f kj8 (l0.drop 8) (t145.drop 8)).bind fun t152 => (some t152)) else (none))))) else (none)) = some r := H
            have A47 := Aside0.mk A470
            clear A470
            by_cases c48 : 8 ≤ (t136.length : Int)
            ·rw [if_pos c48] at H
             have c48b0 := eq_true c48
             have c48b1 : decide (8 ≤ (t136.length : Int)) = true := decide_eq_true c48
             clear c48
             obtain ⟨y139, hy139⟩ : ∃ y_ : List Int, y_ = (t136.drop 8) := ⟨_, rfl⟩
             replace H : ((hertzutils_CaseInsensitiveCompare.f kj8 (l0.drop 8) y139).bind fun t143 => (if t143 = true then (some true) else ((hertzstr_StrContentRange.f).bind fun t145 => (if 8 ≤ (t145.length : Int) then ((hertzutils_CaseInsensitiveCompare.f kj8 (l0.drop 8) (t145.drop 8)).bind fun t152 => (some t152)) else (none))))) = some r := by first | (rw [hy139]; with_reducible exact H) | (have H2_ := (Option.bind_some _ _).symm.trans H; rw [hy139]; with_reducible exact H2_) | (have H2_ := (Option.bind_some _ _).symm.trans H; with_reducible exact H2_) | with_reducible exact H | (rw [hy139]; exact H) | exact H
             have Ny139 := Aside0.mk hy139
             clear hy139
             replace H := Option.bind_eq_some_iff.mp H
             obtain ⟨t143, A490, H⟩ := H
             replace H : (if t143 = true then (some true) else ((hertzstr_StrContentRange.f).bind fun t145 => (if 8 ≤ (t145.length : Int) then ((hertzutils_CaseInsensitiveCompare.f kj8 (l0.drop 8) (t145.drop 8)).bind fun t152 => (some t152)) else (none)))) = some r := H
             have A49 := Aside0.mk A490
             clear A490
             by_cases c50 : t143 = true
             ·subst c50
              have H1 : (some true) = some r := by rw [if_pos rfl] at H; exact H
              clear H
              have H := H1
              clear H1
              obtain rfl := Option.some.inj H
              try go_wp2
              have n0_ := Aside0.mk (below_drew1 HB.out)
              clear HB
              have HB := n0_
              clear n0_
              obtain ⟨i052, hi052, _, hsz52, _⟩ := info_parts info5
              obtain ⟨A52, hcut52, hA52, hC52⟩ := print_drop_of (P := Try.prog) (Value.int .u8) 0 54 5 .i64 Try.underlying54 hi052 hsz52 (some ad103) c0 l0 8 (by omega) (of_decide_eq_true (by first | (with_reducible assumption) | assumption)) HC0.out
              have HR117 := Aside0.mk (Kd.C_of_reads (h1 := fun _ => rfl) (hA52 _ (Kd.reads_of_C HR0.out)))
              have HC117 := Aside0.mk hC52
              clear hA52 hC52 hi052 hsz52
              refine start_ (n := 27) (S := fun w' => True) (ds := []) #[false,false,false,false,false,false,false,false,false,false,false,false,false,false,false,false,false,false,false,false,false,false,false,false,false,false,false] (by kernel_rfl) rfl rfl trivial (fun hHeld => ?_); refine with_tabW hertzproto_IsBadTrailer.tab6 hertzproto_IsBadTrailer.bits6 (fun HT_ HW_ => ?_)
              generalize wc.drew = w51 at HB HR117 hHeld ⊢
              refine pure_ (i := 0) (N := some 24) (v := ?_) (a' := ?_) #[true,false,false,false,false,false,false,false,false,false,false,false,false,false,false,false,false,false,false,false,false,false,false,false,false,false,false] rfl rfl (any_of HT_.out (by kernel_rfl)) (fun _ _ _ h => h) (Or.inl ⟨by rfl, ?_⟩) ?_ ?_
              rotate_left
              ·intro w'
               go_simp
               with_reducible rfl
              rotate_left
              ·simp only [Act.put, List.setIfInBounds_toArray, List.set_cons_zero, List.set_cons_succ, i64_w, i32_w]
               rfl
              refine pure_ (i := 1) (N := some 25) (v := ?_) (a' := ?_) #[true,true,false,false,false,false,false,false,false,false,false,false,false,false,false,false,false,false,false,false,false,false,false,false,false,false,false] rfl rfl (any_of HT_.out (by kernel_rfl)) (fun _ _ _ h => h) (Or.inl ⟨by rfl, ?_⟩) ?_ ?_
              rotate_left
              ·intro w'
               go_simp
               with_reducible rfl
              rotate_left
              ·simp only [Act.put, List.setIfInBounds_toArray, List.set_cons_zero, List.set_cons_succ, i64_w, i32_w]
               rfl
              refine one_ (i := 2) (N := some 26) #[true,true,true,false,false,false,false,false,false,false,false,false,false,false,false,false,false,false,false,false,false,false,false,false,false,false,false] rfl rfl (one_of HT_.out (by kernel_rfl)) (by decide) (fun K hK => ?_)
              refine goes_ Try.func83 (by kernel_rfl) rfl #[] (by rfl) rfl rfl (by (try simp only [List.map_toArray, List.map_cons, List.map_nil]); first | done | rfl | (simp only [List.length_drop, List.length_take]; rfl)) ?_
              with_reducible refine (hertzstr_StrContentEncoding.calls  t118 _ A23.out).mono ?_
              rintro e w53 ⟨v119, rfl, ho0, hb⟩
              refine ⟨_, rfl, ?_⟩
              have n0_ := Aside0.mk (MR.R_lower ho0 (below_size (by repeat (first | (with_reducible first | exact HB.out | apply below_alloc | apply pw_below_drewN | apply below_drew1) | exact HB.out))))
              have n1_ := Aside0.mk (below_step (by repeat (first | (with_reducible first | exact HB.out | apply below_alloc | apply pw_below_drewN | apply below_drew1) | exact HB.out)) hb)
              clear HB
              have HO120 := n0_
              have HB := n1_
              clear n0_ n1_
              (try clear hb)
              (try clear hb2)
              (try clear hk)
              (try clear hi)
              (try clear ho0)
              obtain ⟨Ao55, co55, eo55⟩ := MR.R_slice HO120.out
              (first | subst eo55 | (injection eo55 with f1_ f2_ f3_; have f4_ := f1_.symm; have f5_ := f3_.symm; clear f1_ f2_ f3_; subst f4_; subst f5_))
              have q54 : (8 : Int) ≤ ((t118.length : Int) : Int) := of_decide_eq_true (by first | (with_reducible assumption) | assumption)
              obtain ⟨i054, hi054, _, hsz54, _⟩ := info_parts info5
              have hroom54 : t118.length ≤ co55 := (MR.R_reads' HO120.out).2.1
              have hC54 : Kd.C (Kd.int .u8) _ Ao55 t118.length t118 := (MR.R_reads' HO120.out).2.2
              have hcut54 := cut_from (P := Try.prog) 54 5 .i64 Try.underlying54 hi054 1 hsz54 Ao55 t118.length co55 8 (by omega) q54
              have hr54 := Kd.C_drop (m := (8 : Int).toNat) (c := co55) hC54 (by omega) hroom54
              obtain ⟨A54, hA54⟩ : ∃ A1, A1 = (if co55 = (8 : Int).toNat then Ao55 else (Ao55 : Option Addr).map (·.add ((8 : Int).toNat * 1))) := ⟨_, rfl⟩
              obtain ⟨c54, hc54⟩ : ∃ c1, c1 = co55 - (8 : Int).toNat := ⟨_, rfl⟩
              have hy54 : y121.length = t118.length - (8 : Int).toNat := (by rw [Ny121.out, List.length_drop] <;> omega)
              rw [show (t118).drop (8 : Int).toNat = y121 from Ny121.out.symm] at hr54
              replace hr54 : Kd.C (Kd.int .u8) _ A54 y121.length y121 := (by rw [hA54]; exact hr54)
              rw [← hy54, ← hA54, ← hc54] at hcut54
              have HR124 := Aside0.mk hr54
              have HC124 := Aside0.mk (show y121.length ≤ c54 from by rw [hy54, hc54]; exact Nat.sub_le_sub_right hroom54 _)
              clear hr54 hC54 hroom54 hi054 hsz54 hc54
              have KY54 := Aside0.mk hy54
              have KA54 := Aside0.mk hA54
              clear hy54 hA54
              have KL54 := Aside0.mk (show 8 ≤ t118.length from by omega)
              replace q54 := eq_true q54
              refine hK.out _ _ trivial (fun hHeld => ?_)
              clear hK K
              refine norm_ (a' := ?_) ?_ ?_
              rotate_left
              ·show Act.put _ (some 26) _ = _
               simp only [Act.put, List.setIfInBounds_toArray, List.set_cons_zero, List.set_cons_succ, i64_w, i32_w]
               rfl
              refine pure_ (i := 3) (N := some 27) (v := ?_) (a' := ?_) #[true,true,true,true,false,false,false,false,false,false,false,false,false,false,false,false,false,false,false,false,false,false,false,false,false,false,false] rfl rfl (any_of HT_.out (by kernel_rfl)) (fun _ _ _ h => h) (Or.inl ⟨by rfl, ?_⟩) ?_ ?_
              rotate_left
              ·intro w'
               go_simp
               with_reducible rfl
              rotate_left
              ·simp only [Act.put, List.setIfInBounds_toArray, List.set_cons_zero, List.set_cons_succ, i64_w, i32_w]
               rfl
              refine one_ (i := 4) (N := some 28) #[true,true,true,true,true,false,false,false,false,false,false,false,false,false,false,false,false,false,false,false,false,false,false,false,false,false,false] rfl rfl (one_of HT_.out (by kernel_rfl)) (by decide) (fun K hK => ?_)
              refine goes_ Try.func80 (by kernel_rfl) rfl #[.slice A52 (l0.drop 8).length (c0 - 8), .slice A54 y121.length c54] (by rfl) rfl rfl (by (try simp only [List.map_toArray, List.map_cons, List.map_nil]); first | done | (rw [show (l0.drop 8).length = (l0.length - 8) from List.length_drop] <;> rfl) | rfl | (simp only [List.length_drop, List.length_take]; rfl)) ?_
              with_reducible refine (hertzutils_CaseInsensitiveCompare.calls kj8 _ _ (l0.drop 8) _ _ y121 false _ ?side1 ?side2 ?side3 ?side4 A25.out).mono ?_
              (case side1 => repeat (first | exact (Kd.C_below HR117.out HB.out) | (with_reducible refine Kd.C_alloc ?_ _) | (with_reducible refine Kd.C_drewN ?_ _) | (with_reducible refine Kd.C_drew ?_)))
              (case side2 => exact HC117.out)
              (case side3 => repeat (first | exact (by repeat (first | (with_reducible exact HR124.out) | (with_reducible refine Kd.C_alloc ?_ _) | (with_reducible refine Kd.C_drewN ?_ _) | (with_reducible refine Kd.C_drew ?_) | exact HR124.out)) | (with_reducible refine Kd.C_alloc ?_ _) | (with_reducible refine Kd.C_drewN ?_ _) | (with_reducible refine Kd.C_drew ?_)))
              (case side4 => exact HC124.out)
              rintro e w' ⟨rfl, ⟨nd, rfl⟩⟩
              refine ⟨_, rfl, ?_⟩
              obtain ⟨i056, hi056, _, hsz56, _⟩ := info_parts info5
              obtain ⟨A56, hcut56, hA56, hC56⟩ := print_drop_of (P := Try.prog) (Value.int .u8) 0 54 5 .i64 Try.underlying54 hi056 hsz56 (some ad103) c0 l0 8 (by omega) (of_decide_eq_true (by first | (with_reducible assumption) | assumption)) HC0.out
              have d56_ : A56 = A52 := MR.cut_same (hcut56 w) (hcut52 w)
              rw [d56_] at hA56
              clear hcut56 d56_
              have HR126 := Aside0.mk (Kd.C_of_reads (h1 := fun _ => rfl) (hA56 _ (Kd.reads_of_C HR0.out)))
              have HC126 := Aside0.mk hC56
              clear hA56 hC56 hi056 hsz56
              refine hK.out _ _ trivial (fun hHeld => ?_)
              clear hK K
              refine norm_ (a' := ?_) ?_ ?_
              rotate_left
              ·show Act.put _ (some 28) _ = _
               simp only [Act.put, List.setIfInBounds_toArray, List.set_cons_zero, List.set_cons_succ, i64_w, i32_w]
               rfl
              refine pure_ (i := 5) (N := some 29) (v := ?_) (a' := ?_) #[true,true,true,true,true,true,false,false,false,false,false,false,false,false,false,false,false,false,false,false,false,false,false,false,false,false,false] rfl rfl (any_of HT_.out (by kernel_rfl)) (fun _ _ _ h => h) (Or.inl ⟨by rfl, ?_⟩) ?_ ?_
              rotate_left
              ·intro w'
               go_simp
               with_reducible rfl
              rotate_left
              ·simp only [Act.put, List.setIfInBounds_toArray, List.set_cons_zero, List.set_cons_succ, i64_w, i32_w]
               rfl
              refine pure_ (i := 6) (N := some 30) (v := ?_) (a' := ?_) #[true,true,true,true,true,true,true,false,false,false,false,false,false,false,false,false,false,false,false,false,false,false,false,false,false,false,false] rfl rfl (any_of HT_.out (by kernel_rfl)) (fun _ _ _ h => h) (Or.inl ⟨by rfl, ?_⟩) ?_ ?_
              rotate_left
              ·intro w'
               go_simp
               with_reducible rfl
              rotate_left
              ·simp only [Act.put, List.setIfInBounds_toArray, List.set_cons_zero, List.set_cons_succ, i64_w, i32_w]
               rfl
              refine pure_ (i := 7) (N := some 31) (v := ?_) (a' := ?_) #[true,true,true,true,true,true,true,true,false,false,false,false,false,false,false,false,false,false,false,false,false,false,false,false,false,false,false] rfl rfl (any_of HT_.out (by kernel_rfl)) (fun _ _ _ h => h) (Or.inl ⟨by rfl, ?_⟩) ?_ ?_
              rotate_left
              ·intro w'
               go_simp
               with_reducible rfl
              rotate_left
              ·simp only [Act.put, List.setIfInBounds_toArray, List.set_cons_zero, List.set_cons_succ, i64_w, i32_w]
               rfl
              refine one_ (i := 8) (N := some 32) #[true,true,true,true,true,true,true,true,true,false,false,false,false,false,false,false,false,false,false,false,false,false,false,false,false,false,false] rfl rfl (one_of HT_.out (by kernel_rfl)) (by decide) (fun K hK => ?_)
              refine goes_ Try.func84 (by kernel_rfl) rfl #[] (by rfl) rfl rfl (by (try simp only [List.map_toArray, List.map_cons, List.map_nil]); first | done | rfl | (simp only [List.length_drop, List.length_take]; rfl)) ?_
              with_reducible refine (hertzstr_StrContentLength.calls  t127 _ A33.out).mono ?_
              rintro e w57 ⟨v128, rfl, ho0, hb⟩
              refine ⟨_, rfl, ?_⟩
              have n0_ := Aside0.mk (MR.R_elder' (by (with_reducible repeat (first | apply MR.R_alloc | apply MR.R_drewN | apply MR.R_drew)); exact HO120.out) (MR.R_base ho0) hb)
              have n1_ := Aside0.mk (MR.R_lower (MR.R_new' ho0 (MR.R_lt (by (with_reducible repeat (first | apply MR.R_alloc | apply MR.R_drewN | apply MR.R_drew)); exact HO120.out))) (below_size (by repeat (first | (with_reducible first | exact HB.out | apply below_alloc | apply pw_below_drewN | apply below_drew1) | exact HB.out))))
              have n2_ := Aside0.mk (Kd.C_below (by repeat (first | (with_reducible exact HR124.out) | (with_reducible refine Kd.C_alloc ?_ _) | (with_reducible refine Kd.C_drewN ?_ _) | (with_reducible refine Kd.C_drew ?_) | exact HR124.out)) hb)
              have n3_ := Aside0.mk (below_step (by repeat (first | (with_reducible first | exact HB.out | apply below_alloc | apply pw_below_drewN | apply below_drew1) | exact HB.out)) hb)
              clear HO120
              clear HR124
              clear HB
              have HO120 := n0_
              have HO129 := n1_
              have HR124 := n2_
              have HB := n3_
              clear n0_ n1_ n2_ n3_
              (try clear hb)
              (try clear hb2)
              (try clear hk)
              (try clear hi)
              (try clear ho0)
              obtain ⟨Ao59, co59, eo59⟩ := MR.R_slice HO129.out
              (first | subst eo59 | (injection eo59 with f1_ f2_ f3_; have f4_ := f1_.symm; have f5_ := f3_.symm; clear f1_ f2_ f3_; subst f4_; subst f5_))
              have q58 : (8 : Int) ≤ ((t127.length : Int) : Int) := of_decide_eq_true (by first | (with_reducible assumption) | assumption)
              obtain ⟨i058, hi058, _, hsz58, _⟩ := info_parts info5
              have hroom58 : t127.length ≤ co59 := (MR.R_reads' HO129.out).2.1
              have hC58 : Kd.C (Kd.int .u8) _ Ao59 t127.length t127 := (MR.R_reads' HO129.out).2.2
              have hcut58 := cut_from (P := Try.prog) 54 5 .i64 Try.underlying54 hi058 1 hsz58 Ao59 t127.length co59 8 (by omega) q58
              have hr58 := Kd.C_drop (m := (8 : Int).toNat) (c := co59) hC58 (by omega) hroom58
              obtain ⟨A58, hA58⟩ : ∃ A1, A1 = (if co59 = (8 : Int).toNat then Ao59 else (Ao59 : Option Addr).map (·.add ((8 : Int).toNat * 1))) := ⟨_, rfl⟩
              obtain ⟨c58, hc58⟩ : ∃ c1, c1 = co59 - (8 : Int).toNat := ⟨_, rfl⟩
              have hy58 : y130.length = t127.length - (8 : Int).toNat := (by rw [Ny130.out, List.length_drop] <;> omega)
              rw [show (t127).drop (8 : Int).toNat = y130 from Ny130.out.symm] at hr58
              replace hr58 : Kd.C (Kd.int .u8) _ A58 y130.length y130 := (by rw [hA58]; exact hr58)
              rw [← hy58, ← hA58, ← hc58] at hcut58
              have HR133 := Aside0.mk hr58
              have HC133 := Aside0.mk (show y130.length ≤ c58 from by rw [hy58, hc58]; exact Nat.sub_le_sub_right hroom58 _)
              clear hr58 hC58 hroom58 hi058 hsz58 hc58
              have KY58 := Aside0.mk hy58
              have KA58 := Aside0.mk hA58
              clear hy58 hA58
              have KL58 := Aside0.mk (show 8 ≤ t127.length from by omega)
              replace q58 := eq_true q58
              refine hK.out _ _ trivial (fun hHeld => ?_)
              clear hK K
              refine norm_ (a' := ?_) ?_ ?_
              rotate_left
              ·show Act.put _ (some 32) _ = _
               simp only [Act.put, List.setIfInBounds_toArray, List.set_cons_zero, List.set_cons_succ, i64_w, i32_w]
               rfl
              refine pure_ (i := 9) (N := some 33) (v := ?_) (a' := ?_) #[true,true,true,true,true,true,true,true,true,true,false,false,false,false,false,false,false,false,false,false,false,false,false,false,false,false,false] rfl rfl (any_of HT_.out (by kernel_rfl)) (fun _ _ _ h => h) (Or.inl ⟨by rfl, ?_⟩) ?_ ?_
              rotate_left
              ·intro w'
               go_simp
               with_reducible rfl
              rotate_left
              ·simp only [Act.put, List.setIfInBounds_toArray, List.set_cons_zero, List.set_cons_succ, i64_w, i32_w]
               rfl
              refine one_ (i := 10) (N := some 34) #[true,true,true,true,true,true,true,true,true,true,true,false,false,false,false,false,false,false,false,false,false,false,false,false,false,false,false] rfl rfl (one_of HT_.out (by kernel_rfl)) (by decide) (fun K hK => ?_)
              refine goes_ Try.func80 (by kernel_rfl) rfl #[.slice A52 (l0.drop 8).length (c0 - 8), .slice A58 y130.length c58] (by rfl) rfl rfl (by (try simp only [List.map_toArray, List.map_cons, List.map_nil]); first | done | (rw [show (l0.drop 8).length = (l0.length - 8) from List.length_drop] <;> rfl) | rfl | (simp only [List.length_drop, List.length_take]; rfl)) ?_
              with_reducible refine (hertzutils_CaseInsensitiveCompare.calls kj8 _ _ (l0.drop 8) _ _ y130 false _ ?side1 ?side2 ?side3 ?side4 A35.out).mono ?_
              (case side1 => repeat (first | exact (Kd.C_below HR126.out HB.out) | (with_reducible refine Kd.C_alloc ?_ _) | (with_reducible refine Kd.C_drewN ?_ _) | (with_reducible refine Kd.C_drew ?_)))
              (case side2 => exact HC126.out)
              (case side3 => repeat (first | exact (by repeat (first | (with_reducible exact HR133.out) | (with_reducible refine Kd.C_alloc ?_ _) | (with_reducible refine Kd.C_drewN ?_ _) | (with_reducible refine Kd.C_drew ?_) | exact HR133.out)) | (with_reducible refine Kd.C_alloc ?_ _) | (with_reducible refine Kd.C_drewN ?_ _) | (with_reducible refine Kd.C_drew ?_)))
              (case side4 => exact HC133.out)
              rintro e w' ⟨rfl, ⟨nd, rfl⟩⟩
              refine ⟨_, rfl, ?_⟩
              obtain ⟨i060, hi060, _, hsz60, _⟩ := info_parts info5
              obtain ⟨A60, hcut60, hA60, hC60⟩ := print_drop_of (P := Try.prog) (Value.int .u8) 0 54 5 .i64 Try.underlying54 hi060 hsz60 (some ad103) c0 l0 8 (by omega) (of_decide_eq_true (by first | (with_reducible assumption) | assumption)) HC0.out
              have d60_ : A60 = A52 := MR.cut_same (hcut60 w) (hcut52 w)
              rw [d60_] at hA60
              clear hcut60 d60_
              have HR135 := Aside0.mk (Kd.C_of_reads (h1 := fun _ => rfl) (hA60 _ (Kd.reads_of_C HR0.out)))
              have HC135 := Aside0.mk hC60
              clear hA60 hC60 hi060 hsz60
              refine hK.out _ _ trivial (fun hHeld => ?_)
              clear hK K
              refine norm_ (a' := ?_) ?_ ?_
              rotate_left
              ·show Act.put _ (some 34) _ = _
               simp only [Act.put, List.setIfInBounds_toArray, List.set_cons_zero, List.set_cons_succ, i64_w, i32_w]
               rfl
              refine pure_ (i := 11) (N := some 35) (v := ?_) (a' := ?_) #[true,true,true,true,true,true,true,true,true,true,true,true,false,false,false,false,false,false,false,false,false,false,false,false,false,false,false] rfl rfl (any_of HT_.out (by kernel_rfl)) (fun _ _ _ h => h) (Or.inl ⟨by rfl, ?_⟩) ?_ ?_
              rotate_left
              ·intro w'
               go_simp
               with_reducible rfl
              rotate_left
              ·simp only [Act.put, List.setIfInBounds_toArray, List.set_cons_zero, List.set_cons_succ, i64_w, i32_w]
               rfl
              refine pure_ (i := 12) (N := some 36) (v := ?_) (a' := ?_) #[true,true,true,true,true,true,true,true,true,true,true,true,true,false,false,false,false,false,false,false,false,false,false,false,false,false,false] rfl rfl (any_of HT_.out (by kernel_rfl)) (fun _ _ _ h => h) (Or.inl ⟨by rfl, ?_⟩) ?_ ?_
              rotate_left
              ·intro w'
               go_simp
               with_reducible rfl
              rotate_left
              ·simp only [Act.put, List.setIfInBounds_toArray, List.set_cons_zero, List.set_cons_succ, i64_w, i32_w]
               rfl
              refine pure_ (i := 13) (N := some 37) (v := ?_) (a' := ?_) #[true,true,true,true,true,true,true,true,true,true,true,true,true,true,false,false,false,false,false,false,false,false,false,false,false,false,false] rfl rfl (any_of HT_.out (by kernel_rfl)) (fun _ _ _ h => h) (Or.inl ⟨by rfl, ?_⟩) ?_ ?_
              rotate_left
              ·intro w'
               go_simp
               with_reducible rfl
              rotate_left
              ·simp only [Act.put, List.setIfInBounds_toArray, List.set_cons_zero, List.set_cons_succ, i64_w, i32_w]
               rfl
              refine pure_ (i := 14) (N := some 38) (v := ?_) (a' := ?_) #[true,true,true,true,true,true,true,true,true,true,true,true,true,true,true,false,false,false,false,false,false,false,false,false,false,false,false] rfl rfl (any_of HT_.out (by kernel_rfl)) (fun _ _ _ h => h) (Or.inl ⟨by rfl, ?_⟩) ?_ ?_
              rotate_left
              ·intro w'
               go_simp
               with_reducible rfl
              rotate_left
              ·simp only [Act.put, List.setIfInBounds_toArray, List.set_cons_zero, List.set_cons_succ, i64_w, i32_w]
               rfl
              refine one_ (i := 15) (N := some 39) #[true,true,true,true,true,true,true,true,true,true,true,true,true,true,true,true,false,false,false,false,false,false,false,false,false,false,false] rfl rfl (one_of HT_.out (by kernel_rfl)) (by decide) (fun K hK => ?_)
              refine goes_ Try.func82 (by kernel_rfl) rfl #[] (by rfl) rfl rfl (by (try simp only [List.map_toArray, List.map_cons, List.map_nil]); first | done | rfl | (simp only [List.length_drop, List.length_take]; rfl)) ?_
              with_reducible refine (hertzstr_StrContentType.calls  t136 _ A47.out).mono ?_
              rintro e w61 ⟨v137, rfl, ho0, hb⟩
              refine ⟨_, rfl, ?_⟩
              have n0_ := Aside0.mk (MR.R_elder' (by (with_reducible repeat (first | apply MR.R_alloc | apply MR.R_drewN | apply MR.R_drew)); exact HO120.out) (MR.R_base ho0) hb)
              have n1_ := Aside0.mk (MR.R_elder' (by (with_reducible repeat (first | apply MR.R_alloc | apply MR.R_drewN | apply MR.R_drew)); exact HO129.out) (MR.R_base ho0) hb)
              have n2_ := Aside0.mk (MR.R_lower (MR.R_new' (MR.R_new' ho0 (MR.R_lt (by (with_reducible repeat (first | apply MR.R_alloc | apply MR.R_drewN | apply MR.R_drew)); exact HO120.out))) (MR.R_lt (by (with_reducible repeat (first | apply MR.R_alloc | apply MR.R_drewN | apply MR.R_drew)); exact HO129.out))) (below_size (by repeat (first | (with_reducible first | exact HB.out | apply below_alloc | apply pw_below_drewN | apply below_drew1) | exact HB.out))))
              have n3_ := Aside0.mk (Kd.C_below (by repeat (first | (with_reducible exact HR124.out) | (with_reducible refine Kd.C_alloc ?_ _) | (with_reducible refine Kd.C_drewN ?_ _) | (with_reducible refine Kd.C_drew ?_) | exact HR124.out)) hb)
              have n4_ := Aside0.mk (Kd.C_below (by repeat (first | (with_reducible exact HR133.out) | (with_reducible refine Kd.C_alloc ?_ _) | (with_reducible refine Kd.C_drewN ?_ _) | (with_reducible refine Kd.C_drew ?_) | exact HR133.out)) hb)
              have n5_ := Aside0.mk (below_step (by repeat (first | (with_reducible first | exact HB.out | apply below_alloc | apply pw_below_drewN | apply below_drew1) | exact HB.out)) hb)
              clear HO120
              clear HO129
              clear HR124
              clear HR133
              clear HB
              have HO120 := n0_
              have HO129 := n1_
              have HO138 := n2_
              have HR124 := n3_
              have HR133 := n4_
              have HB := n5_
              clear n0_ n1_ n2_ n3_ n4_ n5_
              (try clear hb)
              (try clear hb2)
              (try clear hk)
              (try clear hi)
              (try clear ho0)
              obtain ⟨Ao63, co63, eo63⟩ := MR.R_slice HO138.out
              (first | subst eo63 | (injection eo63 with f1_ f2_ f3_; have f4_ := f1_.symm; have f5_ := f3_.symm; clear f1_ f2_ f3_; subst f4_; subst f5_))
              have q62 : (8 : Int) ≤ ((t136.length : Int) : Int) := of_decide_eq_true (by first | (with_reducible assumption) | assumption)
              obtain ⟨i062, hi062, _, hsz62, _⟩ := info_parts info5
              have hroom62 : t136.length ≤ co63 := (MR.R_reads' HO138.out).2.1
              have hC62 : Kd.C (Kd.int .u8) _ Ao63 t136.length t136 := (MR.R_reads' HO138.out).2.2
              have hcut62 := cut_from (P := Try.prog) 54 5 .i64 Try.underlying54 hi062 1 hsz62 Ao63 t136.length co63 8 (by omega) q62
              have hr62 := Kd.C_drop (m := (8 : Int).toNat) (c := co63) hC62 (by omega) hroom62
              obtain ⟨A62, hA62⟩ : ∃ A1, A1 = (if co63 = (8 : Int).toNat then Ao63 else (Ao63 : Option Addr).map (·.add ((8 : Int).toNat * 1))) := ⟨_, rfl⟩
              obtain ⟨c62, hc62⟩ : ∃ c1, c1 = co63 - (8 : Int).toNat := ⟨_, rfl⟩
              have hy62 : y139.length = t136.length - (8 : Int).toNat := (by rw [Ny139.out, List.length_drop] <;> omega)
              rw [show (t136).drop (8 : Int).toNat = y139 from Ny139.out.symm] at hr62
              replace hr62 : Kd.C (Kd.int .u8) _ A62 y139.length y139 := (by rw [hA62]; exact hr62)
              rw [← hy62, ← hA62, ← hc62] at hcut62
              have HR142 := Aside0.mk hr62
              have HC142 := Aside0.mk (show y139.length ≤ c62 from by rw [hy62, hc62]; exact Nat.sub_le_sub_right hroom62 _)
              clear hr62 hC62 hroom62 hi062 hsz62 hc62
              have KY62 := Aside0.mk hy62
              have KA62 := Aside0.mk hA62
              clear hy62 hA62
              have KL62 := Aside0.mk (show 8 ≤ t136.length from by omega)
              replace q62 := eq_true q62
              refine hK.out _ _ trivial (fun hHeld => ?_)
              clear hK K
              refine norm_ (a' := ?_) ?_ ?_
              rotate_left
              ·show Act.put _ (some 39) _ = _
               simp only [Act.put, List.setIfInBounds_toArray, List.set_cons_zero, List.set_cons_succ, i64_w, i32_w]
               rfl
              refine pure_ (i := 16) (N := some 40) (v := ?_) (a' := ?_) #[true,true,true,true,true,true,true,true,true,true,true,true,true,true,true,true,true,false,false,false,false,false,false,false,false,false,false] rfl rfl (any_of HT_.out (by kernel_rfl)) (fun _ _ _ h => h) (Or.inl ⟨by rfl, ?_⟩) ?_ ?_
              rotate_left
              ·intro w'
               go_simp
               with_reducible rfl
              rotate_left
              ·simp only [Act.put, List.setIfInBounds_toArray, List.set_cons_zero, List.set_cons_succ, i64_w, i32_w]
               rfl
              refine one_ (i := 17) (N := some 41) #[true,true,true,true,true,true,true,true,true,true,true,true,true,true,true,true,true,true,false,false,false,false,false,false,false,false,false] rfl rfl (one_of HT_.out (by kernel_rfl)) (by decide) (fun K hK => ?_)
              refine goes_ Try.func80 (by kernel_rfl) rfl #[.slice A52 (l0.drop 8).length (c0 - 8), .slice A62 y139.length c62] (by rfl) rfl rfl (by (try simp only [List.map_toArray, List.map_cons, List.map_nil]); first | done | (rw [show (l0.drop 8).length = (l0.length - 8) from List.length_drop] <;> rfl) | rfl | (simp only [List.length_drop, List.length_take]; rfl)) ?_
              with_reducible refine (hertzutils_CaseInsensitiveCompare.calls kj8 _ _ (l0.drop 8) _ _ y139 true _ ?side1 ?side2 ?side3 ?side4 A49.out).mono ?_
              (case side1 => repeat (first | exact (Kd.C_below HR135.out HB.out) | (with_reducible refine Kd.C_alloc ?_ _) | (with_reducible refine Kd.C_drewN ?_ _) | (with_reducible refine Kd.C_drew ?_)))
              (case side2 => exact HC135.out)
              (case side3 => repeat (first | exact (by repeat (first | (with_reducible exact HR142.out) | (with_reducible refine Kd.C_alloc ?_ _) | (with_reducible refine Kd.C_drewN ?_ _) | (with_reducible refine Kd.C_drew ?_) | exact HR142.out)) | (with_reducible refine Kd.C_alloc ?_ _) | (with_reducible refine Kd.C_drewN ?_ _) | (with_reducible refine Kd.C_drew ?_)))
              (case side4 => exact HC142.out)
              rintro e w' ⟨rfl, ⟨nd, rfl⟩⟩
              refine ⟨_, rfl, ?_⟩
              refine hK.out _ _ trivial (fun hHeld => ?_)
              clear hK K
              refine norm_ (a' := ?_) ?_ ?_
              rotate_left
              ·show Act.put _ (some 41) _ = _
               simp only [Act.put, List.setIfInBounds_toArray, List.set_cons_zero, List.set_cons_succ, i64_w, i32_w]
               rfl
              refine pure_ (i := 18) (N := some 42) (v := ?_) (a' := ?_) #[true,true,true,true,true,true,true,true,true,true,true,true,true,true,true,true,true,true,true,false,false,false,false,false,false,false,false] rfl rfl (any_of HT_.out (by kernel_rfl)) (fun _ _ _ h => h) (Or.inl ⟨by rfl, ?_⟩) ?_ ?_
              rotate_left
              ·intro w'
               go_simp
               with_reducible rfl
              rotate_left
              ·simp only [Act.put, List.setIfInBounds_toArray, List.set_cons_zero, List.set_cons_succ, i64_w, i32_w]
               rfl
              refine pure_ (i := 19) (N := some 43) (v := ?_) (a' := ?_) #[true,true,true,true,true,true,true,true,true,true,true,true,true,true,true,true,true,true,true,true,false,false,false,false,false,false,false] rfl rfl (any_of HT_.out (by kernel_rfl)) (fun _ _ _ h => h) (Or.inl ⟨by rfl, ?_⟩) ?_ ?_
              rotate_left
              ·intro w'
               go_simp
               with_reducible rfl
              rotate_left
              ·simp only [Act.put, List.setIfInBounds_toArray, List.set_cons_zero, List.set_cons_succ, i64_w, i32_w]
               rfl
              refine pure_ (i := 20) (N := some 44) (v := undef) (a' := ?_) #[true,true,true,true,true,true,true,true,true,true,true,true,true,true,true,true,true,true,true,true,true,false,false,false,false,false,false] rfl rfl (any_of HT_.out (by kernel_rfl)) (fun _ _ _ h => h) (Or.inr ⟨by rfl, rfl⟩) ?_ ?_
              rotate_left
              ·simp only [Act.put, List.setIfInBounds_toArray, List.set_cons_zero, List.set_cons_succ, i64_w, i32_w]
               rfl
              refine pure_ (i := 21) (N := some 45) (v := undef) (a' := ?_) #[true,true,true,true,true,true,true,true,true,true,true,true,true,true,true,true,true,true,true,true,true,true,false,false,false,false,false] rfl rfl (any_of HT_.out (by kernel_rfl)) (fun _ _ _ h => h) (Or.inr ⟨by rfl, rfl⟩) ?_ ?_
              rotate_left
              ·simp only [Act.put, List.setIfInBounds_toArray, List.set_cons_zero, List.set_cons_succ, i64_w, i32_w]
               rfl
              refine pure_ (i := 22) (N := some 46) (v := undef) (a' := ?_) #[true,true,true,true,true,true,true,true,true,true,true,true,true,true,true,true,true,true,true,true,true,true,true,false,false,false,false] rfl rfl (any_of HT_.out (by kernel_rfl)) (fun _ _ _ h => h) (Or.inr ⟨by rfl, rfl⟩) ?_ ?_
              rotate_left
              ·simp only [Act.put, List.setIfInBounds_toArray, List.set_cons_zero, List.set_cons_succ, i64_w, i32_w]
               rfl
              refine pure_ (i := 23) (N := some 47) (v := undef) (a' := ?_) #[true,true,true,true,true,true,true,true,true,true,true,true,true,true,true,true,true,true,true,true,true,true,true,true,false,false,false] rfl rfl (any_of HT_.out (by kernel_rfl)) (fun _ _ _ h => h) (Or.inr ⟨by rfl, rfl⟩) ?_ ?_
              rotate_left
              ·simp only [Act.put, List.setIfInBounds_toArray, List.set_cons_zero, List.set_cons_succ, i64_w, i32_w]
               rfl
              refine pure_ (i := 24) (N := some 48) (v := undef) (a' := ?_) #[true,true,true,true,true,true,true,true,true,true,true,true,true,true,true,true,true,true,true,true,true,true,true,true,true,false,false] rfl rfl (any_of HT_.out (by kernel_rfl)) (fun _ _ _ h => h) (Or.inr ⟨by rfl, rfl⟩) ?_ ?_
              rotate_left
              ·simp only [Act.put, List.setIfInBounds_toArray, List.set_cons_zero, List.set_cons_succ, i64_w, i32_w]
               rfl
              refine pure_ (i := 25) (N := some 49) (v := ?_) (a' := ?_) #[true,true,true,true,true,true,true,true,true,true,true,true,true,true,true,true,true,true,true,true,true,true,true,true,true,true,false] rfl rfl (any_of HT_.out (by kernel_rfl)) (fun _ _ _ h => h) (Or.inl ⟨by rfl, ?_⟩) ?_ ?_
              rotate_left
              ·intro w'
               go_simp
               with_reducible rfl
              rotate_left
              ·simp only [Act.put, List.setIfInBounds_toArray, List.set_cons_zero, List.set_cons_succ, i64_w, i32_w]
               rfl
              refine pure_ (i := 26) (N := some 2) (v := ?_) (a' := ?_) #[true,true,true,true,true,true,true,true,true,true,true,true,true,true,true,true,true,true,true,true,true,true,true,true,true,true,true] rfl rfl (any_of HT_.out (by kernel_rfl)) (fun _ _ _ h => h) (Or.inl ⟨by rfl, ?_⟩) ?_ ?_
              rotate_left
              ·intro w'
               go_simp
               with_reducible rfl
              rotate_left
              ·simp only [Act.put, List.setIfInBounds_toArray, List.set_cons_zero, List.set_cons_succ, i64_w, i32_w]
               rfl
              refine done_ (done_of HT_.out (by kernel_rfl)) ?_
              try go_wp2
              go_ret
              exact ⟨by first | rfl | (simp [errW_none, errW_some] <;> rfl) | (simp [*, errW_none, errW_some] <;> rfl), by repeat (first | (with_reducible first | exact HB.out | apply below_alloc | apply pw_below_drewN | apply below_drew1) | exact HB.out)⟩
             ·replace c50 := Bool.eq_false_iff.mpr c50
              subst c50
              have H1 : ((hertzstr_StrContentRange.f).bind fun t145 => (if 8 ≤ (t145.length : Int) then ((hertzutils_CaseInsensitiveCompare.f kj8 (l0.drop 8) (t145.drop 8)).bind fun t152 => (some t152)) else (none))) = some r := by rw [if_neg (show ¬ (false = true) by decide)] at H; exact H
              clear H
              have H := H1
              clear H1
              have c64b0 := eq_true (of_decide_eq_true (by first | (with_reducible assumption) | assumption) : 8 ≤ (l0.length : Int))
              replace H := Option.bind_eq_some_iff.mp H
              obtain ⟨t145, A650, H⟩ := H
              replace H : (if 8 ≤ (t145.length : Int) then ((hertzutils_CaseInsensitiveCompare.f kj8 (l0.drop 8) (t145.drop 8)).bind fun t152 => (some t152)) else (none)) = some r := H
              have A65 := Aside0.mk A650
              clear A650
              by_cases c66 : 8 ≤ (t145.length : Int)
              ·rw [if_pos c66] at H
               have c66b0 := eq_true c66
               have c66b1 : decide (8 ≤ (t145.length : Int)) = true := decide_eq_true c66
               clear c66
               obtain ⟨y148, hy148⟩ : ∃ y_ : List Int, y_ = (t145.drop 8) := ⟨_, rfl⟩
               replace H : ((hertzutils_CaseInsensitiveCompare.f kj8 (l0.drop 8) y148).bind fun t152 => (some t152)) = some r := by first | (rw [hy148]; with_reducible exact H) | (have H2_ := (Option.bind_some _ _).symm.trans H; rw [hy148]; with_reducible exact H2_) | (have H2_ := (Option.bind_some _ _).symm.trans H; with_reducible exact H2_) | with_reducible exact H | (rw [hy148]; exact H) | exact H
               have Ny148 := Aside0.mk hy148
               clear hy148
               replace H := Option.bind_eq_some_iff.mp H
               obtain ⟨t152, A670, H⟩ := H
               replace H : (some t152) = some r := H
               have A67 := Aside0.mk A670
               clear A670
               obtain rfl := Option.some.inj H
               try go_wp2
               have n0_ := Aside0.mk (below_drew1 HB.out)
               clear HB
               have HB := n0_
               clear n0_
               obtain ⟨i069, hi069, _, hsz69, _⟩ := info_parts info5
               obtain ⟨A69, hcut69, hA69, hC69⟩ := print_drop_of (P := Try.prog) (Value.int .u8) 0 54 5 .i64 Try.underlying54 hi069 hsz69 (some ad103) c0 l0 8 (by omega) (of_decide_eq_true (by first | (with_reducible assumption) | assumption)) HC0.out
               have HR117 := Aside0.mk (Kd.C_of_reads (h1 := fun _ => rfl) (hA69 _ (Kd.reads_of_C HR0.out)))
               have HC117 := Aside0.mk hC69
               clear hA69 hC69 hi069 hsz69
               refine start_ (n := 27) (S := fun w' => True) (ds := []) #[false,false,false,false,false,false,false,false,false,false,false,false,false,false,false,false,false,false,false,false,false,false,false,false,false,false,false] (by kernel_rfl) rfl rfl trivial (fun hHeld => ?_); refine with_tabW hertzproto_IsBadTrailer.tab6 hertzproto_IsBadTrailer.bits6 (fun HT_ HW_ => ?_)
               generalize wc.drew = w68 at HB HR117 hHeld ⊢
               refine pure_ (i := 0) (N := some 24) (v := ?_) (a' := ?_) #[true,false,false,false,false,false,false,false,false,false,false,false,false,false,false,false,false,false,false,false,false,false,false,false,false,false,false] rfl rfl (any_of HT_.out (by kernel_rfl)) (fun _ _ _ h => h) (Or.inl ⟨by rfl, ?_⟩) ?_ ?_
               rotate_left
               ·intro w'
                go_simp
                with_reducible rfl
               rotate_left
               ·simp only [Act.put, List.setIfInBounds_toArray, List.set_cons_zero, List.set_cons_succ, i64_w, i32_w]
                rfl
               refine pure_ (i := 1) (N := some 25) (v := ?_) (a' := ?_) #[true,true,false,false,false,false,false,false,false,false,false,false,false,false,false,false,false,false,false,false,false,false,false,false,false,false,false] rfl rfl (any_of HT_.out (by kernel_rfl)) (fun _ _ _ h => h) (Or.inl ⟨by rfl, ?_⟩) ?_ ?_
               rotate_left
               ·intro w'
                go_simp
                with_reducible rfl
               rotate_left
               ·simp only [Act.put, List.setIfInBounds_toArray, List.set_cons_zero, List.set_cons_succ, i64_w, i32_w]
                rfl
               refine one_ (i := 2) (N := some 26) #[true,true,true,false,false,false,false,false,false,false,false,false,false,false,false,false,false,false,false,false,false,false,false,false,false,false,false] rfl rfl (one_of HT_.out (by kernel_rfl)) (by decide) (fun K hK => ?_)
               refine goes_ Try.func83 (by kernel_rfl) rfl #[] (by rfl) rfl rfl (by (try simp only [List.map_toArray, List.map_cons, List.map_nil]); first | done | rfl | (simp only [List.length_drop, List.length_take]; rfl)) ?_
               with_reducible refine (hertzstr_StrContentEncoding.calls  t118 _ A23.out).mono ?_
               rintro e w70 ⟨v119, rfl, ho0, hb⟩
               refine ⟨_, rfl, ?_⟩
               have n0_ := Aside0.mk (MR.R_lower ho0 (below_size (by repeat (first | (with_reducible first | exact HB.out | apply below_alloc | apply pw_below_drewN | apply below_drew1) | exact HB.out))))
               have n1_ := Aside0.mk (below_step (by repeat (first | (with_reducible first | exact HB.out | apply below_alloc | apply pw_below_drewN | apply below_drew1) | exact HB.out)) hb)
               clear HB
               have HO120 := n0_
               have HB := n1_
               clear n0_ n1_
               (try clear hb)
               (try clear hb2)
               (try clear hk)
               (try clear hi)
               (try clear ho0)
               obtain ⟨Ao72, co72, eo72⟩ := MR.R_slice HO120.out
               (first | subst eo72 | (injection eo72 with f1_ f2_ f3_; have f4_ := f1_.symm; have f5_ := f3_.symm; clear f1_ f2_ f3_; subst f4_; subst f5_))
               have q71 : (8 : Int) ≤ ((t118.length : Int) : Int) := of_decide_eq_true (by first | (with_reducible assumption) | assumption)
               obtain ⟨i071, hi071, _, hsz71, _⟩ := info_parts info5
               have hroom71 : t118.length ≤ co72 := (MR.R_reads' HO120.out).2.1
               have hC71 : Kd.C (Kd.int .u8) _ Ao72 t118.length t118 := (MR.R_reads' HO120.out).2.2
               have hcut71 := cut_from (P := Try.prog) 54 5 .i64 Try.underlying54 hi071 1 hsz71 Ao72 t118.length co72 8 (by omega) q71
               have hr71 := Kd.C_drop (m := (8 : Int).toNat) (c := co72) hC71 (by omega) hroom71
               obtain ⟨A71, hA71⟩ : ∃ A1, A1 = (if co72 = (8 : Int).toNat then Ao72 else (Ao72 : Option Addr).map (·.add ((8 : Int).toNat * 1))) := ⟨_, rfl⟩
               obtain ⟨c71, hc71⟩ : ∃ c1, c1 = co72 - (8 : Int).toNat := ⟨_, rfl⟩
               have hy71 : y121.length = t118.length - (8 : Int).toNat := (by rw [Ny121.out, List.length_drop] <;> omega)
               rw [show (t118).drop (8 : Int).toNat = y121 from Ny121.out.symm] at hr71
               replace hr71 : Kd.C (Kd.int .u8) _ A71 y121.length y121 := (by rw [hA71]; exact hr71)
               rw [← hy71, ← hA71, ← hc71] at hcut71
               have HR124 := Aside0.mk hr71
               have HC124 := Aside0.mk (show y121.length ≤ c71 from by rw [hy71, hc71]; exact Nat.sub_le_sub_right hroom71 _)
               clear hr71 hC71 hroom71 hi071 hsz71 hc71
               have KY71 := Aside0.mk hy71
               have KA71 := Aside0.mk hA71
               clear hy71 hA71
               have KL71 := Aside0.mk (show 8 ≤ t118.length from by omega)
               replace q71 := eq_true q71
               refine hK.out _ _ trivial (fun hHeld => ?_)
               clear hK K
               refine norm_ (a' := ?_) ?_ ?_
               rotate_left
               ·show Act.put _ (some 26) _ = _
                simp only [Act.put, List.setIfInBounds_toArray, List.set_cons_zero, List.set_cons_succ, i64_w, i32_w]
                rfl
               refine pure_ (i := 3) (N := some 27) (v := ?_) (a' := ?_) #[true,true,true,true,false,false,false,false,false,false,false,false,false,false,false,false,false,false,false,false,false,false,false,false,false,false,false] rfl rfl (any_of HT_.out (by kernel_rfl)) (fun _ _ _ h => h) (Or.inl ⟨by rfl, ?_⟩) ?_ ?_
               rotate_left
               ·intro w'
                go_simp
                with_reducible rfl
               rotate_left
               ·simp only [Act.put, List.setIfInBounds_toArray, List.set_cons_zero, List.set_cons_succ, i64_w, i32_w]
                rfl
               refine one_ (i := 4) (N := some 28) #[true,true,true,true,true,false,false,false,false,false,false,false,false,false,false,false,false,false,false,false,false,false,false,false,false,false,false] rfl rfl (one_of HT_.out (by kernel_rfl)) (by decide) (fun K hK => ?_)
               refine goes_ Try.func80 (by kernel_rfl) rfl #[.slice A69 (l0.drop 8).length (c0 - 8), .slice A71 y121.length c71] (by rfl) rfl rfl (by (try simp only [List.map_toArray, List.map_cons, List.map_nil]); first | done | (rw [show (l0.drop 8).length = (l0.length - 8) from List.length_drop] <;> rfl) | rfl | (simp only [List.length_drop, List.length_take]; rfl)) ?_
               with_reducible refine (hertzutils_CaseInsensitiveCompare.calls kj8 _ _ (l0.drop 8) _ _ y121 false _ ?side1 ?side2 ?side3 ?side4 A25.out).mono ?_
               (case side1 => repeat (first | exact (Kd.C_below HR117.out HB.out) | (with_reducible refine Kd.C_alloc ?_ _) | (with_reducible refine Kd.C_drewN ?_ _) | (with_reducible refine Kd.C_drew ?_)))
               (case side2 => exact HC117.out)
               (case side3 => repeat (first | exact (by repeat (first | (with_reducible exact HR124.out) | (with_reducible refine Kd.C_alloc ?_ _) | (with_reducible refine Kd.C_drewN ?_ _) | (with_reducible refine Kd.C_drew ?_) | exact HR124.out)) | (with_reducible refine Kd.C_alloc ?_ _) | (with_reducible refine Kd.C_drewN ?_ _) | (with_reducible refine Kd.C_drew ?_)))
               (case side4 => exact HC124.out)
               rintro e w' ⟨rfl, ⟨nd, rfl⟩⟩
               refine ⟨_, rfl, ?_⟩
               obtain ⟨i073, hi073, _, hsz73, _⟩ := info_parts info5
               obtain ⟨A73, hcut73, hA73, hC73⟩ := print_drop_of (P := Try.prog) (Value.int .u8) 0 54 5 .i64 Try.underlying54 hi073 hsz73 (some ad103) c0 l0 8 (by omega) (of_decide_eq_true (by first | (with_reducible assumption) | assumption)) HC0.out
               have d73_ : A73 = A69 := MR.cut_same (hcut73 w) (hcut69 w)
               rw [d73_] at hA73
               clear hcut73 d73_
               have HR126 := Aside0.mk (Kd.C_of_reads (h1 := fun _ => rfl) (hA73 _ (Kd.reads_of_C HR0.out)))
               have HC126 := Aside0.mk hC73
               clear hA73 hC73 hi073 hsz73
               refine hK.out _ _ trivial (fun hHeld => ?_)
               clear hK K
               refine norm_ (a' := ?_) ?_ ?_
               rotate_left
               ·show Act.put _ (some 28) _ = _
                simp only [Act.put, List.setIfInBounds_toArray, List.set_cons_zero, List.set_cons_succ, i64_w, i32_w]
                rfl
               refine pure_ (i := 5) (N := some 29) (v := ?_) (a' := ?_) #[true,true,true,true,true,true,false,false,false,false,false,false,false,false,false,false,false,false,false,false,false,false,false,false,false,false,false] rfl rfl (any_of HT_.out (by kernel_rfl)) (fun _ _ _ h => h) (Or.inl ⟨by rfl, ?_⟩) ?_ ?_
               rotate_left
               ·intro w'
                go_simp
                with_reducible rfl
               rotate_left
               ·simp only [Act.put, List.setIfInBounds_toArray, List.set_cons_zero, List.set_cons_succ, i64_w, i32_w]
                rfl
               refine pure_ (i := 6) (N := some 30) (v := ?_) (a' := ?_) #[true,true,true,true,true,true,true,false,false,false,false,false,false,false,false,false,false,false,false,false,false,false,false,false,false,false,false] rfl rfl (any_of HT_.out (by kernel_rfl)) (fun _ _ _ h => h) (Or.inl ⟨by rfl, ?_⟩) ?_ ?_
               rotate_left
               ·intro w'
                go_simp
                with_reducible rfl
               rotate_left
               ·simp only [Act.put, List.setIfInBounds_toArray, List.set_cons_zero, List.set_cons_succ, i64_w, i32_w]
                rfl
               refine pure_ (i := 7) (N := some 31) (v := ?_) (a' := ?_) #[true,true,true,true,true,true,true,true,false,false,false,false,false,false,false,false,false,false,false,false,false,false,false,false,false,false,false] rfl rfl (any_of HT_.out (by kernel_rfl)) (fun _ _ _ h => h) (Or.inl ⟨by rfl, ?_⟩) ?_ ?_
               rotate_left
               ·intro w'
                go_simp
                with_reducible rfl
               rotate_left
               ·simp only [Act.put, List.setIfInBounds_toArray, List.set_cons_zero, List.set_cons_succ, i64_w, i32_w]
                rfl
               refine one_ (i := 8) (N := some 32) #[true,true,true,true,true,true,true,true,true,false,false,false,false,false,false,false,false,false,false,false,false,false,false,false,false,false,false] rfl rfl (one_of HT_.out (by kernel_rfl)) (by decide) (fun K hK => ?_)
               refine goes_ Try.func84 (by kernel_rfl) rfl #[] (by rfl) rfl rfl (by (try simp only [List.map_toArray, List.map_cons, List.map_nil]); first | done | rfl | (simp only [List.length_drop, List.length_take]; rfl)) ?_
               with_reducible refine (hertzstr_StrContentLength.calls  t127 _ A33.out).mono ?_
               rintro e w74 ⟨v128, rfl, ho0, hb⟩
               refine ⟨_, rfl, ?_⟩
               have n0_ := Aside0.mk (MR.R_elder' (by (with_reducible repeat (first | apply MR.R_alloc | apply MR.R_drewN | apply MR.R_drew)); exact HO120.out) (MR.R_base ho0) hb)
               have n1_ := Aside0.mk (MR.R_lower (MR.R_new' ho0 (MR.R_lt (by (with_reducible repeat (first | apply MR.R_alloc | apply MR.R_drewN | apply MR.R_drew)); exact HO120.out))) (below_size (by repeat (first | (with_reducible first | exact HB.out | apply below_alloc | apply pw_below_drewN | apply below_drew1) | exact HB.out))))
               have n2_ := Aside0.mk (Kd.C_below (by repeat (first | (with_reducible exact HR124.out) | (with_reducible refine Kd.C_alloc ?_ _) | (with_reducible refine Kd.C_drewN ?_ _) | (with_reducible refine Kd.C_drew ?_) | exact HR124.out)) hb)
               have n3_ := Aside0.mk (below_step (by repeat (first | (with_reducible first | exact HB.out | apply below_alloc | apply pw_below_drewN | apply below_drew1) | exact HB.out)) hb)
               clear HO120
               clear HR124
               clear HB
               have HO120 := n0_
               have HO129 := n1_
               have HR124 := n2_
               have HB := n3_
               clear n0_ n1_ n2_ n3_
               (try clear hb)
               (try clear hb2)
               (try clear hk)
               (try clear hi)
               (try clear ho0)
               obtain ⟨Ao76, co76, eo76⟩ := MR.R_slice HO129.out
               (first | subst eo76 | (injection eo76 with f1_ f2_ f3_; have f4_ := f1_.symm; have f5_ := f3_.symm; clear f1_ f2_ f3_; subst f4_; subst f5_))
               have q75 : (8 : Int) ≤ ((t127.length : Int) : Int) := of_decide_eq_true (by first | (with_reducible assumption) | assumption)
               obtain ⟨i075, hi075, _, hsz75, _⟩ := info_parts info5
               have hroom75 : t127.length ≤ co76 := (MR.R_reads' HO129.out).2.1
               have hC75 : Kd.C (Kd.int .u8) _ Ao76 t127.length t127 := (MR.R_reads' HO129.out).2.2
               have hcut75 := cut_from (P := Try.prog) 54 5 .i64 Try.underlying54 hi075 1 hsz75 Ao76 t127.length co76 8 (by omega) q75
               have hr75 := Kd.C_drop (m := (8 : Int).toNat) (c := co76) hC75 (by omega) hroom75
               obtain ⟨A75, hA75⟩ : ∃ A1, A1 = (if co76 = (8 : Int).toNat then Ao76 else (Ao76 : Option Addr).map (·.add ((8 : Int).toNat * 1))) := ⟨_, rfl⟩
               obtain ⟨c75, hc75⟩ : ∃ c1, c1 = co76 - (8 : Int).toNat := ⟨_, rfl⟩
               have hy75 : y130.length = t127.length - (8 : Int).toNat := (by rw [Ny130.out, List.length_drop] <;> omega)
               rw [show (t127).drop (8 : Int).toNat = y130 from Ny130.out.symm] at hr75
               replace hr75 : Kd.C (Kd.int .u8) _ A75 y130.length y130 := (by rw [hA75]; exact hr75)
               rw [← hy75, ← hA75, ← hc75] at hcut75
               have HR133 := Aside0.mk hr75
               have HC133 := Aside0.mk (show y130.length ≤ c75 from by rw [hy75, hc75]; exact Nat.sub_le_sub_right hroom75 _)
               clear hr75 hC75 hroom75 hi075 hsz75 hc75
               have KY75 := Aside0.mk hy75
               have KA75 := Aside0.mk hA75
               clear hy75 hA75
               have KL75 := Aside0.mk (show 8 ≤ t127.length from by omega)
               replace q75 := eq_true q75
               refine hK.out _ _ trivial (fun hHeld => ?_)
               clear hK K
               refine norm_ (a' := ?_) ?_ ?_
               rotate_left
               ·show Act.put _ (some 32) _ = _
                simp only [Act.put, List.setIfInBounds_toArray, List.set_cons_zero, List.set_cons_succ, i64_w, i32_w]
                rfl
               refine pure_ (i := 9) (N := some 33) (v := ?_) (a' := ?_) #[true,true,true,true,true,true,true,true,true,true,false,false,false,false,false,false,false,false,false,false,false,false,false,false,false,false,false] rfl rfl (any_of HT_.out (by kernel_rfl)) (fun _ _ _ h => h) (Or.inl ⟨by rfl, ?_⟩) ?_ ?_
               rotate_left
               ·intro w'
                go_simp
                with_reducible rfl
               rotate_left
               ·simp only [Act.put, List.setIfInBounds_toArray, List.set_cons_zero, List.set_cons_succ, i64_w, i32_w]
                rfl
               refine one_ (i := 10) (N := some 34) #[true,true,true,true,true,true,true,true,true,true,true,false,false,false,false,false,false,false,false,false,false,false,false,false,false,false,false] rfl rfl (one_of HT_.out (by kernel_rfl)) (by decide) (fun K hK => ?_)
               refine goes_ Try.func80 (by kernel_rfl) rfl #[.slice A69 (l0.drop 8).length (c0 - 8), .slice A75 y130.length c75] (by rfl) rfl rfl (by (try simp only [List.map_toArray, List.map_cons, List.map_nil]); first | done | (rw [show (l0.drop 8).length = (l0.length - 8) from List.length_drop] <;> rfl) | rfl | (simp only [List.length_drop, List.length_take]; rfl)) ?_
               with_reducible refine (hertzutils_CaseInsensitiveCompare.calls kj8 _ _ (l0.drop 8) _ _ y130 false _ ?side1 ?side2 ?side3 ?side4 A35.out).mono ?_
               (case side1 => repeat (first | exact (Kd.C_below HR126.out HB.out) | (with_reducible refine Kd.C_alloc ?_ _) | (with_reducible refine Kd.C_drewN ?_ _) | (with_reducible refine Kd.C_drew ?_)))
               (case side2 => exact HC126.out)
               (case side3 => repeat (first | exact (by repeat (first | (with_reducible exact HR133.out) | (with_reducible refine Kd.C_alloc ?_ _) | (with_reducible refine Kd.C_drewN ?_ _) | (with_reducible refine Kd.C_drew ?_) | exact HR133.out)) | (with_reducible refine Kd.C_alloc ?_ _) | (with_reducible refine Kd.C_drewN ?_ _) | (with_reducible refine Kd.C_drew ?_)))
               (case side4 => exact HC133.out)
               rintro e w' ⟨rfl, ⟨nd, rfl⟩⟩
               refine ⟨_, rfl, ?_⟩
               obtain ⟨i077, hi077, _, hsz77, _⟩ := info_parts info5
               obtain ⟨A77, hcut77, hA77, hC77⟩ := print_drop_of (P := Try.prog) (Value.int .u8) 0 54 5 .i64 Try.underlying54 hi077 hsz77 (some ad103) c0 l0 8 (by omega) (of_decide_eq_true (by first | (with_reducible assumption) | assumption)) HC0.out
               have d77_ : A77 = A69 := MR.cut_same (hcut77 w) (hcut69 w)
               rw [d77_] at hA77
               clear hcut77 d77_
               have HR135 := Aside0.mk (Kd.C_of_reads (h1 := fun _ => rfl) (hA77 _ (Kd.reads_of_C HR0.out)))
               have HC135 := Aside0.mk hC77
               clear hA77 hC77 hi077 hsz77
               refine hK.out _ _ trivial (fun hHeld => ?_)
               clear hK K
               refine norm_ (a' := ?_) ?_ ?_
               rotate_left
               ·show Act.put _ (some 34) _ = _
                simp only [Act.put, List.setIfInBounds_toArray, List.set_cons_zero, List.set_cons_succ, i64_w, i32_w]
                rfl
               refine pure_ (i := 11) (N := some 35) (v := ?_) (a' := ?_) #[true,true,true,true,true,true,true,true,true,true,true,true,false,false,false,false,false,false,false,false,false,false,false,false,false,false,false] rfl rfl (any_of HT_.out (by kernel_rfl)) (fun _ _ _ h => h) (Or.inl ⟨by rfl, ?_⟩) ?_ ?_
               rotate_left
               ·intro w'
                go_simp
                with_reducible rfl
               rotate_left
               ·simp only [Act.put, List.setIfInBounds_toArray, List.set_cons_zero, List.set_cons_succ, i64_w, i32_w]
                rfl
               refine pure_ (i := 12) (N := some 36) (v := ?_) (a' := ?_) #[true,true,true,true,true,true,true,true,true,true,true,true,true,false,false,false,false,false,false,false,false,false,false,false,false,false,false] rfl rfl (any_of HT_.out (by kernel_rfl)) (fun _ _ _ h => h) (Or.inl ⟨by rfl, ?_⟩) ?_ ?_
               rotate_left
               ·intro w'
                go_simp
                with_reducible rfl
               rotate_left
               ·simp only [Act.put, List.setIfInBounds_toArray, List.set_cons_zero, List.set_cons_succ, i64_w, i32_w]
                rfl
               refine pure_ (i := 13) (N := some 37) (v := ?_) (a' := ?_) #[true,true,true,true,true,true,true,true,true,true,true,true,true,true,false,false,false,false,false,false,false,false,false,false,false,false,false] rfl rfl (any_of HT_.out (by kernel_rfl)) (fun _ _ _ h => h) (Or.inl ⟨by rfl, ?_⟩) ?_ ?_
               rotate_left
               ·intro w'
                go_simp
                with_reducible rfl
               rotate_left
               ·simp only [Act.put, List.setIfInBounds_toArray, List.set_cons_zero, List.set_cons_succ, i64_w, i32_w]
                rfl
               refine pure_ (i := 14) (N := some 38) (v := ?_) (a' := ?_) #[true,true,true,true,true,true,true,true,true,true,true,true,true,true,true,false,false,false,false,false,false,false,false,false,false,false,false] rfl rfl (any_of HT_.out (by kernel_rfl)) (fun _ _ _ h => h) (Or.inl ⟨by rfl, ?_⟩) ?_ ?_
               rotate_left
               ·intro w'
                go_simp
                with_reducible rfl
               rotate_left
               ·simp only [Act.put, List.setIfInBounds_toArray, List.set_cons_zero, List.set_cons_succ, i64_w, i32_w]
                rfl
               refine one_ (i := 15) (N := some 39) #[true,true,true,true,true,true,true,true,true,true,true,true,true,true,true,true,false,false,false,false,false,false,false,false,false,false,false] rfl rfl (one_of HT_.out (by kernel_rfl)) (by decide) (fun K hK => ?_)
               refine goes_ Try.func82 (by kernel_rfl) rfl #[] (by rfl) rfl rfl (by (try simp only [List.map_toArray, List.map_cons, List.map_nil]); first | done | rfl | (simp only [List.length_drop, List.length_take]; rfl)) ?_
               with_reducible refine (hertzstr_StrContentType.calls  t136 _ A47.out).mono ?_
               rintro e w78 ⟨v137, rfl, ho0, hb⟩
               refine ⟨_, rfl, ?_⟩
               have n0_ := Aside0.mk (MR.R_elder' (by (with_reducible repeat (first | apply MR.R_alloc | apply MR.R_drewN | apply MR.R_drew)); exact HO120.out) (MR.R_base ho0) hb)
               have n1_ := Aside0.mk (MR.R_elder' (by (with_reducible repeat (first | apply MR.R_alloc | apply MR.R_drewN | apply MR.R_drew)); exact HO129.out) (MR.R_base ho0) hb)
               have n2_ := Aside0.mk (MR.R_lower (MR.R_new' (MR.R_new' ho0 (MR.R_lt (by (with_reducible repeat (first | apply MR.R_alloc | apply MR.R_drewN | apply MR.R_drew)); exact HO120.out))) (MR.R_lt (by (with_reducible repeat (first | apply MR.R_alloc | apply MR.R_drewN | apply MR.R_drew)); exact HO129.out))) (below_size (by repeat (first | (with_reducible first | exact HB.out | apply below_alloc | apply pw_below_drewN | apply below_drew1) | exact HB.out))))
               have n3_ := Aside0.mk (Kd.C_below (by repeat (first | (with_reducible exact HR124.out) | (with_reducible refine Kd.C_alloc ?_ _) | (with_reducible refine Kd.C_drewN ?_ _) | (with_reducible refine Kd.C_drew ?_) | exact HR124.out)) hb)
               have n4_ := Aside0.mk (Kd.C_below (by repeat (first | (with_reducible exact HR133.out) | (with_reducible refine Kd.C_alloc ?_ _) | (with_reducible refine Kd.C_drewN ?_ _) | (with_reducible refine Kd.C_drew ?_) | exact HR133.out)) hb)
               have n5_ := Aside0.mk (below_step (by repeat (first | (with_reducible first | exact HB.out | apply below_alloc | apply pw_below_drewN | apply below_drew1) | exact HB.out)) hb)
               clear HO120
               clear HO129
               clear HR124
               clear HR133
               clear HB
               have HO120 := n0_
               have HO129 := n1_
               have HO138 := n2_
               have HR124 := n3_
               have HR133 := n4_
               have HB := n5_
               clear n0_ n1_ n2_ n3_ n4_ n5_
               (try clear hb)
               (try clear hb2)
               (try clear hk)
               (try clear hi)
               (try clear ho0)
               obtain ⟨Ao80, co80, eo80⟩ := MR.R_slice HO138.out
               (first | subst eo80 | (injection eo80 with f1_ f2_ f3_; have f4_ := f1_.symm; have f5_ := f3_.symm; clear f1_ f2_ f3_; subst f4_; subst f5_))
               have q79 : (8 : Int) ≤ ((t136.length : Int) : Int) := of_decide_eq_true (by first | (with_reducible assumption) | assumption)
               obtain ⟨i079, hi079, _, hsz79, _⟩ := info_parts info5
               have hroom79 : t136.length ≤ co80 := (MR.R_reads' HO138.out).2.1
               have hC79 : Kd.C (Kd.int .u8) _ Ao80 t136.length t136 := (MR.R_reads' HO138.out).2.2
               have hcut79 := cut_from (P := Try.prog) 54 5 .i64 Try.underlying54 hi079 1 hsz79 Ao80 t136.length co80 8 (by omega) q79
               have hr79 := Kd.C_drop (m := (8 : Int).toNat) (c := co80) hC79 (by omega) hroom79
               obtain ⟨A79, hA79⟩ : ∃ A1, A1 = (if co80 = (8 : Int).toNat then Ao80 else (Ao80 : Option Addr).map (·.add ((8 : Int).toNat * 1))) := ⟨_, rfl⟩
               obtain ⟨c79, hc79⟩ : ∃ c1, c1 = co80 - (8 : Int).toNat := ⟨_, rfl⟩
               have hy79 : y139.length = t136.length - (8 : Int).toNat := (by rw [Ny139.out, List.length_drop] <;> omega)
               rw [show (t136).drop (8 : Int).toNat = y139 from Ny139.out.symm] at hr79
               replace hr79 : Kd.C (Kd.int .u8) _ A79 y139.length y139 := (by rw [hA79]; exact hr79)
               rw [← hy79, ← hA79, ← hc79] at hcut79
               have HR142 := Aside0.mk hr79
               have HC142 := Aside0.mk (show y139.length ≤ c79 from by rw [hy79, hc79]; exact Nat.sub_le_sub_right hroom79 _)
               clear hr79 hC79 hroom79 hi079 hsz79 hc79
               have KY79 := Aside0.mk hy79
               have KA79 := Aside0.mk hA79
               clear hy79 hA79
               have KL79 := Aside0.mk (show 8 ≤ t136.length from by omega)
               replace q79 := eq_true q79
               refine hK.out _ _ trivial (fun hHeld => ?_)
               clear hK K
               refine norm_ (a' := ?_) ?_ ?_
               rotate_left
               ·show Act.put _ (some 39) _ = _
                simp only [Act.put, List.setIfInBounds_toArray, List.set_cons_zero, List.set_cons_succ, i64_w, i32_w]
                rfl
               refine pure_ (i := 16) (N := some 40) (v := ?_) (a' := ?_) #[true,true,true,true,true,true,true,true,true,true,true,true,true,true,true,true,true,false,false,false,false,false,false,false,false,false,false] rfl rfl (any_of HT_.out (by kernel_rfl)) (fun _ _ _ h => h) (Or.inl ⟨by rfl, ?_⟩) ?_ ?_
               rotate_left
               ·intro w'
                go_simp
                with_reducible rfl
               rotate_left
               ·simp only [Act.put, List.setIfInBounds_toArray, List.set_cons_zero, List.set_cons_succ, i64_w, i32_w]
                rfl
               refine one_ (i := 17) (N := some 41) #[true,true,true,true,true,true,true,true,true,true,true,true,true,true,true,true,true,true,false,false,false,false,false,false,false,false,false] rfl rfl (one_of HT_.out (by kernel_rfl)) (by decide) (fun K hK => ?_)
               refine goes_ Try.func80 (by kernel_rfl) rfl #[.slice A69 (l0.drop 8).length (c0 - 8), .slice A79 y139.length c79] (by rfl) rfl rfl (by (try simp only [List.map_toArray, List.map_cons, List.map_nil]); first | done | (rw [show (l0.drop 8).length = (l0.length - 8) from List.length_drop] <;> rfl) | rfl | (simp only [List.length_drop, List.length_take]; rfl)) ?_
               with_reducible refine (hertzutils_CaseInsensitiveCompare.calls kj8 _ _ (l0.drop 8) _ _ y139 false _ ?side1 ?side2 ?side3 ?side4 A49.out).mono ?_
               (case side1 => repeat (first | exact (Kd.C_below HR135.out HB.out) | (with_reducible refine Kd.C_alloc ?_ _) | (with_reducible refine Kd.C_drewN ?_ _) | (with_reducible refine Kd.C_drew ?_)))
               (case side2 => exact HC135.out)
               (case side3 => repeat (first | exact (by repeat (first | (with_reducible exact HR142.out) | (with_reducible refine Kd.C_alloc ?_ _) | (with_reducible refine Kd.C_drewN ?_ _) | (with_reducible refine Kd.C_drew ?_) | exact HR142.out)) | (with_reducible refine Kd.C_alloc ?_ _) | (with_reducible refine Kd.C_drewN ?_ _) | (with_reducible refine Kd.C_drew ?_)))
               (case side4 => exact HC142.out)
               rintro e w' ⟨rfl, ⟨nd, rfl⟩⟩
               refine ⟨_, rfl, ?_⟩
               obtain ⟨i081, hi081, _, hsz81, _⟩ := info_parts info5
               obtain ⟨A81, hcut81, hA81, hC81⟩ := print_drop_of (P := Try.prog) (Value.int .u8) 0 54 5 .i64 Try.underlying54 hi081 hsz81 (some ad103) c0 l0 8 (by omega) (of_decide_eq_true (by first | (with_reducible assumption) | assumption)) HC0.out
               have d81_ : A81 = A69 := MR.cut_same (hcut81 w) (hcut69 w)
               rw [d81_] at hA81
               clear hcut81 d81_
               have HR144 := Aside0.mk (Kd.C_of_reads (h1 := fun _ => rfl) (hA81 _ (Kd.reads_of_C HR0.out)))
               have HC144 := Aside0.mk hC81
               clear hA81 hC81 hi081 hsz81
               refine hK.out _ _ trivial (fun hHeld => ?_)
               clear hK K
               refine norm_ (a' := ?_) ?_ ?_
               rotate_left
               ·show Act.put _ (some 41) _ = _
                simp only [Act.put, List.setIfInBounds_toArray, List.set_cons_zero, List.set_cons_succ, i64_w, i32_w]
                rfl
               refine pure_ (i := 18) (N := some 42) (v := ?_) (a' := ?_) #[true,true,true,true,true,true,true,true,true,true,true,true,true,true,true,true,true,true,true,false,false,false,false,false,false,false,false] rfl rfl (any_of HT_.out (by kernel_rfl)) (fun _ _ _ h => h) (Or.inl ⟨by rfl, ?_⟩) ?_ ?_
               rotate_left
               ·intro w'
                go_simp
                with_reducible rfl
               rotate_left
               ·simp only [Act.put, List.setIfInBounds_toArray, List.set_cons_zero, List.set_cons_succ, i64_w, i32_w]
                rfl
               refine pure_ (i := 19) (N := some 43) (v := ?_) (a' := ?_) #[true,true,true,true,true,true,true,true,true,true,true,true,true,true,true,true,true,true,true,true,false,false,false,false,false,false,false] rfl rfl (any_of HT_.out (by kernel_rfl)) (fun _ _ _ h => h) (Or.inl ⟨by rfl, ?_⟩) ?_ ?_
               rotate_left
               ·intro w'
                go_simp
                with_reducible rfl
               rotate_left
               ·simp only [Act.put, List.setIfInBounds_toArray, List.set_cons_zero, List.set_cons_succ, i64_w, i32_w]
                rfl
               refine pure_ (i := 20) (N := some 44) (v := ?_) (a' := ?_) #[true,true,true,true,true,true,true,true,true,true,true,true,true,true,true,true,true,true,true,true,true,false,false,false,false,false,false] rfl rfl (any_of HT_.out (by kernel_rfl)) (fun _ _ _ h => h) (Or.inl ⟨by rfl, ?_⟩) ?_ ?_
               rotate_left
               ·intro w'
                go_simp
                with_reducible rfl
               rotate_left
               ·simp only [Act.put, List.setIfInBounds_toArray, List.set_cons_zero, List.set_cons_succ, i64_w, i32_w]
                rfl
               refine pure_ (i := 21) (N := some 45) (v := ?_) (a' := ?_) #[true,true,true,true,true,true,true,true,true,true,true,true,true,true,true,true,true,true,true,true,true,true,false,false,false,false,false] rfl rfl (any_of HT_.out (by kernel_rfl)) (fun _ _ _ h => h) (Or.inl ⟨by rfl, ?_⟩) ?_ ?_
               rotate_left
               ·intro w'
                go_simp
                with_reducible rfl
               rotate_left
               ·simp only [Act.put, List.setIfInBounds_toArray, List.set_cons_zero, List.set_cons_succ, i64_w, i32_w]
                rfl
               refine one_ (i := 22) (N := some 46) #[true,true,true,true,true,true,true,true,true,true,true,true,true,true,true,true,true,true,true,true,true,true,true,false,false,false,false] rfl rfl (one_of HT_.out (by kernel_rfl)) (by decide) (fun K hK => ?_)
               refine goes_ Try.func85 (by kernel_rfl) rfl #[] (by rfl) rfl rfl (by (try simp only [List.map_toArray, List.map_cons, List.map_nil]); first | done | rfl | (simp only [List.length_drop, List.length_take]; rfl)) ?_
               with_reducible refine (hertzstr_StrContentRange.calls  t145 _ A65.out).mono ?_
               rintro e w82 ⟨v146, rfl, ho0, hb⟩
               refine ⟨_, rfl, ?_⟩
               have n0_ := Aside0.mk (MR.R_elder' (by (with_reducible repeat (first | apply MR.R_alloc | apply MR.R_drewN | apply MR.R_drew)); exact HO120.out) (MR.R_base ho0) hb)
               have n1_ := Aside0.mk (MR.R_elder' (by (with_reducible repeat (first | apply MR.R_alloc | apply MR.R_drewN | apply MR.R_drew)); exact HO129.out) (MR.R_base ho0) hb)
               have n2_ := Aside0.mk (MR.R_elder' (by (with_reducible repeat (first | apply MR.R_alloc | apply MR.R_drewN | apply MR.R_drew)); exact HO138.out) (MR.R_base ho0) hb)
               have n3_ := Aside0.mk (MR.R_lower (MR.R_new' (MR.R_new' (MR.R_new' ho0 (MR.R_lt (by (with_reducible repeat (first | apply MR.R_alloc | apply MR.R_drewN | apply MR.R_drew)); exact HO120.out))) (MR.R_lt (by (with_reducible repeat (first | apply MR.R_alloc | apply MR.R_drewN | apply MR.R_drew)); exact HO129.out))) (MR.R_lt (by (with_reducible repeat (first | apply MR.R_alloc | apply MR.R_drewN | apply MR.R_drew)); exact HO138.out))) (below_size (by repeat (first | (with_reducible first | exact HB.out | apply below_alloc | apply pw_below_drewN | apply below_drew1) | exact HB.out))))
               have n4_ := Aside0.mk (Kd.C_below (by repeat (first | (with_reducible exact HR124.out) | (with_reducible refine Kd.C_alloc ?_ _) | (with_reducible refine Kd.C_drewN ?_ _) | (with_reducible refine Kd.C_drew ?_) | exact HR124.out)) hb)
               have n5_ := Aside0.mk (Kd.C_below (by repeat (first | (with_reducible exact HR133.out) | (with_reducible refine Kd.C_alloc ?_ _) | (with_reducible refine Kd.C_drewN ?_ _) | (with_reducible refine Kd.C_drew ?_) | exact HR133.out)) hb)
               have n6_ := Aside0.mk (Kd.C_below (by repeat (first | (with_reducible exact HR142.out) | (with_reducible refine Kd.C_alloc ?_ _) | (with_reducible refine Kd.C_drewN ?_ _) | (with_reducible refine Kd.C_drew ?_) | exact HR142.out)) hb)
               have n7_ := Aside0.mk (below_step (by repeat (first | (with_reducible first | exact HB.out | apply below_alloc | apply pw_below_drewN | apply below_drew1) | exact HB.out)) hb)
               clear HO120
               clear HO129
               clear HO138
               clear HR124
               clear HR133
               clear HR142
               clear HB
               have HO120 := n0_
               have HO129 := n1_
               have HO138 := n2_
               have HO147 := n3_
               have HR124 := n4_
               have HR133 := n5_
               have HR142 := n6_
               have HB := n7_
               clear n0_ n1_ n2_ n3_ n4_ n5_ n6_ n7_
               (try clear hb)
               (try clear hb2)
               (try clear hk)
               (try clear hi)
               (try clear ho0)
               obtain ⟨Ao84, co84, eo84⟩ := MR.R_slice HO147.out
               (first | subst eo84 | (injection eo84 with f1_ f2_ f3_; have f4_ := f1_.symm; have f5_ := f3_.symm; clear f1_ f2_ f3_; subst f4_; subst f5_))
               have q83 : (8 : Int) ≤ ((t145.length : Int) : Int) := of_decide_eq_true (by first | (with_reducible assumption) | assumption)
               obtain ⟨i083, hi083, _, hsz83, _⟩ := info_parts info5
               have hroom83 : t145.length ≤ co84 := (MR.R_reads' HO147.out).2.1
               have hC83 : Kd.C (Kd.int .u8) _ Ao84 t145.length t145 := (MR.R_reads' HO147.out).2.2
               have hcut83 := cut_from (P := Try.prog) 54 5 .i64 Try.underlying54 hi083 1 hsz83 Ao84 t145.length co84 8 (by omega) q83
               have hr83 := Kd.C_drop (m := (8 : Int).toNat) (c := co84) hC83 (by omega) hroom83
               obtain ⟨A83, hA83⟩ : ∃ A1, A1 = (if co84 = (8 : Int).toNat then Ao84 else (Ao84 : Option Addr).map (·.add ((8 : Int).toNat * 1))) := ⟨_, rfl⟩
               obtain ⟨c83, hc83⟩ : ∃ c1, c1 = co84 - (8 : Int).toNat := ⟨_, rfl⟩
               have hy83 : y148.length = t145.length - (8 : Int).toNat := (by rw [Ny148.out, List.length_drop] <;> omega)
               rw [show (t145).drop (8 : Int).toNat = y148 from Ny148.out.symm] at hr83
               replace hr83 : Kd.C (Kd.int .u8) _ A83 y148.length y148 := (by rw [hA83]; exact hr83)
               rw [← hy83, ← hA83, ← hc83] at hcut83
               have HR151 := Aside0.mk hr83
               have HC151 := Aside0.mk (show y148.length ≤ c83 from by rw [hy83, hc83]; exact Nat.sub_le_sub_right hroom83 _)
               clear hr83 hC83 hroom83 hi083 hsz83 hc83
               have KY83 := Aside0.mk hy83
               have KA83 := Aside0.mk hA83
               clear hy83 hA83
               have KL83 := Aside0.mk (show 8 ≤ t145.length from by omega)
               replace q83 := eq_true q83
               refine hK.out _ _ trivial (fun hHeld => ?_)
               clear hK K
               refine norm_ (a' := ?_) ?_ ?_
               rotate_left
               ·show Act.put _ (some 46) _ = _
                simp only [Act.put, List.setIfInBounds_toArray, List.set_cons_zero, List.set_cons_succ, i64_w, i32_w]
                rfl
               refine pure_ (i := 23) (N := some 47) (v := ?_) (a' := ?_) #[true,true,true,true,true,true,true,true,true,true,true,true,true,true,true,true,true,true,true,true,true,true,true,true,false,false,false] rfl rfl (any_of HT_.out (by kernel_rfl)) (fun _ _ _ h => h) (Or.inl ⟨by rfl, ?_⟩) ?_ ?_
               rotate_left
               ·intro w'
                go_simp
                with_reducible rfl
               rotate_left
               ·simp only [Act.put, List.setIfInBounds_toArray, List.set_cons_zero, List.set_cons_succ, i64_w, i32_w]
                rfl
               refine one_ (i := 24) (N := some 48) #[true,true,true,true,true,true,true,true,true,true,true,true,true,true,true,true,true,true,true,true,true,true,true,true,true,false,false] rfl rfl (one_of HT_.out (by kernel_rfl)) (by decide) (fun K hK => ?_)
               refine goes_ Try.func80 (by kernel_rfl) rfl #[.slice A69 (l0.drop 8).length (c0 - 8), .slice A83 y148.length c83] (by rfl) rfl rfl (by (try simp only [List.map_toArray, List.map_cons, List.map_nil]); first | done | (rw [show (l0.drop 8).length = (l0.length - 8) from List.length_drop] <;> rfl) | rfl | (simp only [List.length_drop, List.length_take]; rfl)) ?_
               with_reducible refine (hertzutils_CaseInsensitiveCompare.calls kj8 _ _ (l0.drop 8) _ _ y148 t152 _ ?side1 ?side2 ?side3 ?side4 A67.out).mono ?_
               (case side1 => repeat (first | exact (Kd.C_below HR144.out HB.out) | (with_reducible refine Kd.C_alloc ?_ _) | (with_reducible refine Kd.C_drewN ?_ _) | (with_reducible refine Kd.C_drew ?_)))
               (case side2 => exact HC144.out)
               (case side3 => repeat (first | exact (by repeat (first | (with_reducible exact HR151.out) | (with_reducible refine Kd.C_alloc ?_ _) | (with_reducible refine Kd.C_drewN ?_ _) | (with_reducible refine Kd.C_drew ?_) | exact HR151.out)) | (with_reducible refine Kd.C_alloc ?_ _) | (with_reducible refine Kd.C_drewN ?_ _) | (with_reducible refine Kd.C_drew ?_)))
               (case side4 => exact HC151.out)
               rintro e w' ⟨rfl, ⟨nd, rfl⟩⟩
               refine ⟨_, rfl, ?_⟩
               refine hK.out _ _ trivial (fun hHeld => ?_)
               clear hK K
               refine norm_ (a' := ?_) ?_ ?_
               rotate_left
               ·show Act.put _ (some 48) _ = _
                simp only [Act.put, List.setIfInBounds_toArray, List.set_cons_zero, List.set_cons_succ, i64_w, i32_w]
                rfl
               refine pure_ (i := 25) (N := some 49) (v := ?_) (a' := ?_) #[true,true,true,true,true,true,true,true,true,true,true,true,true,true,true,true,true,true,true,true,true,true,true,true,true,true,false] rfl rfl (any_of HT_.out (by kernel_rfl)) (fun _ _ _ h => h) (Or.inl ⟨by rfl, ?_⟩) ?_ ?_
               rotate_left
               ·intro w'
                go_simp
                with_reducible rfl
               rotate_left
               ·simp only [Act.put, List.setIfInBounds_toArray, List.set_cons_zero, List.set_cons_succ, i64_w, i32_w]
                rfl
               refine pure_ (i := 26) (N := some 2) (v := ?_) (a' := ?_) #[true,true,true,true,true,true,true,true,true,true,true,true,true,true,true,true,true,true,true,true,true,true,true,true,true,true,true] rfl rfl (any_of HT_.out (by kernel_rfl)) (fun _ _ _ h => h) (Or.inl ⟨by rfl, ?_⟩) ?_ ?_
               rotate_left
               ·intro w'
                go_simp
                with_reducible rfl
               rotate_left
               ·simp only [Act.put, List.setIfInBounds_toArray, List.set_cons_zero, List.set_cons_succ, i64_w, i32_w]
                rfl
               refine done_ (done_of HT_.out (by kernel_rfl)) ?_
               try go_wp2
               go_ret
               exact ⟨by first | rfl | (simp [errW_none, errW_some] <;> rfl) | (simp [*, errW_none, errW_some] <;> rfl), by repeat (first | (with_reducible first | exact HB.out | apply below_alloc | apply pw_below_drewN | apply below_drew1) | exact HB.out)⟩
              ·rw [if_neg c66] at H
               exact absurd H (by simp)
            ·rw [if_neg c48] at H
             exact absurd H (by simp)
          ·rw [if_neg c34] at H
           exact absurd H (by simp)
        ·rw [if_neg c24] at H
         exact absurd H (by simp)
       ·rw [if_neg c22] at H
        exact absurd H (by simp)
      ·replace c21 := Bool.eq_false_iff.mpr c21
       subst c21
       have H1 : ((hertzstr_StrConnection.f).bind fun t153 => ((hertzutils_CaseInsensitiveCompare.f kj8 l0 t153).bind fun t156 => (some t156))) = some r := by rw [if_neg (show ¬ (false = true) by decide)] at H; exact H
       clear H
       have H := H1
       clear H1
       replace H := Option.bind_eq_some_iff.mp H
       obtain ⟨t153, A850, H⟩ := H
       replace H : ((hertzutils_CaseInsensitiveCompare.f kj8 l0 t153).bind fun t156 => (some t156)) = some r := H
       have A85 := Aside0.mk A850
       clear A850
       replace H := Option.bind_eq_some_iff.mp H
       obtain ⟨t156, A860, H⟩ := H
       replace H : (some t156) = some r := H
       have A86 := Aside0.mk A860
       clear A860
       obtain rfl := Option.some.inj H
       go_wp2_with (first | ((with_reducible refine gate_callee (f := 86) rfl ?_); refine goesL_ (some 51) rfl rfl Try.func86 (by kernel_rfl) rfl #[] rfl (by (try simp only [List.map_toArray, List.map_cons, List.map_nil]); first | done | rfl | (simp only [List.length_drop, List.length_take]; rfl)) ?_; (with_reducible refine (hertzstr_StrConnection.calls  t153 _ A85.out).mono ?_); rintro e w87 ⟨v154, rfl, ho0, hb⟩; refine ⟨_, rfl, ?_⟩; have n0_ := Aside0.mk (MR.R_lower ho0 (below_size (by repeat (first | (with_reducible first | exact HB.out | apply below_alloc | apply pw_below_drewN | apply below_drew1) | exact HB.out)))); have n1_ := Aside0.mk (below_step (by repeat (first | (with_reducible first | exact HB.out | apply below_alloc | apply pw_below_drewN | apply below_drew1) | exact HB.out)) hb); clear HB; have HO155 := n0_; have HB := n1_; clear n0_ n1_; (try clear hb); (try clear hb2); (try clear hk); (try clear hi); (try clear ho0); obtain ⟨Ao88, co88, eo88⟩ := MR.R_slice HO155.out; subst eo88) | ((with_reducible refine gate_callee (f := 80) rfl ?_); refine goesL_ (some 52) rfl rfl Try.func80 (by kernel_rfl) rfl #[.slice (some ad103) l0.length c0, .slice Ao88 t153.length co88] rfl (by (try simp only [List.map_toArray, List.map_cons, List.map_nil]); first | done | rfl | (simp only [List.length_drop, List.length_take]; rfl)) ?_; (with_reducible refine (hertzutils_CaseInsensitiveCompare.calls kj8 _ _ l0 _ _ t153 t156 _ ?side1 ?side2 ?side3 ?side4 A86.out).mono ?_); (case side1 => repeat (first | exact (Kd.C_below HR0.out HB.out) | (with_reducible refine Kd.C_alloc ?_ _) | (with_reducible refine Kd.C_drewN ?_ _) | (with_reducible refine Kd.C_drew ?_))); (case side2 => exact HC0.out); (case side3 => repeat (first | exact (MR.R_reads' HO155.out).2.2 | (with_reducible refine Kd.C_alloc ?_ _) | (with_reducible refine Kd.C_drewN ?_ _) | (with_reducible refine Kd.C_drew ?_))); (case side4 => exact (MR.R_reads' HO155.out).2.1); rintro e w' ⟨rfl, ⟨nd, rfl⟩⟩; refine ⟨_, rfl, ?_⟩))
       go_ret
       exact ⟨by first | rfl | (simp [errW_none, errW_some] <;> rfl) | (simp [*, errW_none, errW_some] <;> rfl), by repeat (first | (with_reducible first | exact HB.out | apply below_alloc | apply pw_below_drewN | apply below_drew1) | exact HB.out)⟩
   ·exact absurd HCASE_.out c8
 ·rw [if_neg c2] at H
  exact absurd H (by simp)
end Go.Proofs.Ytoimkmoalmmooaa.QA
set_option linter.unusedVariables false
namespace Go.Proofs.Ytoimkmoalmmooaa.Given
open Go.RowKit Go.Proofs.YtoimkmoalmmooaaW.PrintWords Go.Proofs.YtoimkmoalmmooaaW.PrintLast Go.Proofs.YtoimkmoalmmooaaW.PrintMore
def hertzstr_StrCommaSpace.f : Option (List Int) := some ([44, 32] : List Int)
theorem hertzstr_StrCommaSpace.calls (r : List Int) (w : World) (h : hertzstr_StrCommaSpace.f = some r) :
    Calls Try.prog 65 #[] w fun e w' => ∃ v0_ : Value, e = .returned (v0_) ∧ MR.R (Kd.int .u8) 5 w' w.heap.size (fun _ => True) v0_ r ∧ Below w.heap.size w w' := by
  obtain rfl := Option.some.inj h
  have kc := fun (w : World) (C : Array Value) (n c : Nat) => Lib.run_convert_bytes_const (P := Try.prog) w 54 5 C n c Try.underlying54 Try.underlying5
  go_enter Try.func65, Try.ntmps65
  go_wp2
  go_ret
  exact ⟨_, rfl, MR.made w [44, 32] (by decide) _ _ rfl, (Below.refl _ _).alloc (Nat.le_refl _) _⟩
def hertzstr_StrCRLF.f : Option (List Int) := some ([13, 10] : List Int)
theorem hertzstr_StrCRLF.calls (r : List Int) (w : World) (h : hertzstr_StrCRLF.f = some r) :
    Calls Try.prog 72 #[] w fun e w' => ∃ v0_ : Value, e = .returned (v0_) ∧ MR.R (Kd.int .u8) 5 w' w.heap.size (fun _ => True) v0_ r ∧ Below w.heap.size w w' := by
  obtain rfl := Option.some.inj h
  have kc := fun (w : World) (C : Array Value) (n c : Nat) => Lib.run_convert_bytes_const (P := Try.prog) w 54 5 C n c Try.underlying54 Try.underlying5
  go_enter Try.func72, Try.ntmps72
  go_wp2
  go_ret
  exact ⟨_, rfl, MR.made w [13, 10] (by decide) _ _ rfl, (Below.refl _ _).alloc (Nat.le_refl _) _⟩
def hertzstr_StrColonSpace.f : Option (List Int) := some ([58, 32] : List Int)
theorem hertzstr_StrColonSpace.calls (r : List Int) (w : World) (h : hertzstr_StrColonSpace.f = some r) :
    Calls Try.prog 100 #[] w fun e w' => ∃ v0_ : Value, e = .returned (v0_) ∧ MR.R (Kd.int .u8) 5 w' w.heap.size (fun _ => True) v0_ r ∧ Below w.heap.size w w' := by
  obtain rfl := Option.some.inj h
  have kc := fun (w : World) (C : Array Value) (n c : Nat) => Lib.run_convert_bytes_const (P := Try.prog) w 54 5 C n c Try.underlying54 Try.underlying5
  go_enter Try.func100, Try.ntmps100
  go_wp2
  go_ret
  exact ⟨_, rfl, MR.made w [58, 32] (by decide) _ _ rfl, (Below.refl _ _).alloc (Nat.le_refl _) _⟩
end Go.Proofs.Ytoimkmoalmmooaa.Given
set_option linter.unusedVariables false
set_option linter.unusedSimpArgs false
namespace Go.Proofs.Ytoimkmoalmmooaa.Own
open Go.RowKit Go.Proofs.YtoimkmoalmmooaaW.PrintWords Go.Proofs.YtoimkmoalmmooaaW.PrintLast Go.Proofs.YtoimkmoalmmooaaW.PrintMore Go.Proofs.Ytoimkmoalmmooaa.Base Go.Proofs.Ytoimkmoalmmooaa.Gv Go.Proofs.Ytoimkmoalmmooaa.Given
def fixB (c : Int) : Int := if c = 13 ∨ c = 10 then 32 else c
theorem Bf.setAt {l : Nat → Nat} {w : World} {z g n c : Nat} {xs : List Int} (h : Bf l w z (.slice (some ⟨g, 0, none⟩) n c) xs) (j : Nat) (v : Int) : Bf l (w.setCell ⟨g, j, none⟩ (.int .u8 v)) z (.slice (some ⟨g, 0, none⟩) n c) (xs.set j v) ∧ Stp (· = z) l l w (w.setCell ⟨g, j, none⟩ (.int .u8 v)) := by
  have hn : n = xs.length := h.cut0.1
  subst hn
  have hlg : l g = z := h.2 g rfl
  obtain ⟨h1, h2⟩ := own_store h.1 (j : Int) v
  rw [Int.toNat_natCast] at h1
  refine ⟨⟨by simpa using h1, h.2⟩, ?_⟩
  have := Stp.set (l := l) w ⟨g, j, none⟩ (.int .u8 v)
  rwa [show l (⟨g, j, none⟩ : Addr).block = z from hlg] at this
theorem Bf.cellAt {l : Nat → Nat} {w : World} {z g n c : Nat} {xs : List Int} (h : Bf l w z (.slice (some ⟨g, 0, none⟩) n c) xs) (j : Nat) (hj : j < xs.length) : w.cell? ⟨g, j, none⟩ = some (.int .u8 (xs.getD j 0)) ∧ w.frozen? ⟨g, j, none⟩ = false := by
  have hn : n = xs.length := h.cut0.1
  subst hn
  refine ⟨?_, h.1.frozenAt j⟩
  rw [h.1.cellAt j (by omega)]
  unfold nums
  rw [List.getElem?_map, List.getElem?_eq_getElem hj, List.getD_eq_getElem?_getD, List.getElem?_eq_getElem hj]
  rfl
theorem cut8 (A : Option Addr) (n c k : Nat) (hk : k ≤ n) (W : World) : (Instr.slice 54 (.slice A n c) (some (.int .i64 (k : Int))) none none).run Try.prog W = .ok (.slice (if c = k then A else A.map (·.add k)) (n - k) (c - k)) W := by
  obtain ⟨i0, hi0, hz0, hz1, hz2⟩ := info_parts info8
  have hel : Try.prog.elem 54 = 5 := by simp [Program.elem, Try.underlying54]
  have hu : Try.prog.underlying 54 = some (.slice (Try.prog.elem 54)) := by rw [hel]; exact Try.underlying54
  have hsz : (sizeOf 5).run Try.prog W = .ok 1 W := by simp [sizeOf, typeInfo, hi0, hz1]
  rw [run_slice_l W 54 A n c hu .i64 (k : Int) (by omega) (by omega), hel, hsz]
  simp [Result.andThen, sliced]
set_option maxHeartbeats 1000000 in
set_option maxRecDepth 100000 in
theorem headerValue_calls (l : Nat → Nat) (w : World) (zd : Nat) (V : Value) (xs : List Int) (hV : Bf l w zd V xs) (A : Option Addr) (c : Nat) (ys : List Int) (hs : Src (· = zd) l w A ys.length ys) (hl : xs.length + ys.length ≤ 140737488355328) :
    Calls Try.prog 101 #[V, .slice A ys.length c] w fun e w' => ∃ l1 A1 c1, e = .returned (.slice A1 (xs ++ ys.map fixB).length c1) ∧ Bf l1 w' zd (.slice A1 (xs ++ ys.map fixB).length c1) (xs ++ ys.map fixB) ∧ Stp (· = zd) l l1 w w' := by
  obtain ⟨A0, c0, rfl, _⟩ := hV.slice
  obtain ⟨N0, hN0⟩ : ∃ n, xs.length = n := ⟨_, rfl⟩
  obtain ⟨m, hm⟩ : ∃ n, ys.length = n := ⟨_, rfl⟩
  have hN : (xs ++ ys.map fixB).length = N0 + m := by rw [List.length_append, List.length_map, hN0, hm]
  have HV := Lib.hid hV
  have HS := Lib.hid hs
  have HN0 := Lib.hid hN0
  have HM := Lib.hid hm
  rw [hN, hm, hN0]
  rw [hN0, hm] at hl
  clear hV hs hN0 hm hN
  go_enter Try.func101, Try.ntmps101
  go_wp2_with (
    at_builtin
    refine app_row zd rfl (.tmp 8) (.tmp 9) 54 rfl Try.underlying54 info8 _ xs ys A m c rfl rfl (by have := HV.out; rw [HN0.out] at this; exact this) (by have := HS.out.now; rw [HM.out] at this; exact this) (by rw [HN0.out]; omega) ?_
    intro v1 w1 l1 hB st _
    obtain ⟨A1, c1, rfl, hc1⟩ := hB.slice
    have hlen : (xs ++ ys).length = N0 + m := by rw [List.length_append, HN0.out, HM.out]
    rw [hlen] at hB hc1
    rw [hlen]
    have hsl := fun W : World => cut8 A1 (N0 + m) c1 N0 (by omega) W
    rw [Nat.add_sub_cancel_left] at hsl
    obtain ⟨A3, hA3⟩ : ∃ A3, (if c1 = N0 then A1 else A1.map (·.add N0)) = A3 := ⟨_, rfl⟩
    rw [hA3] at hsl
    have HA3 := Lib.hid hA3
    have HB := Lib.hid hB
    have ST := Lib.hid st
    have HC1 := Lib.hid hc1
    clear hB st hlen hA3 hc1)
  go_loopw [6, 7, 17] (fun _ _ iv wr => ∃ k : Nat, iv = .int .i64 k ∧ k ≤ m ∧ Hid (Bf l1 wr zd (.slice A1 (N0 + m) c1) (xs ++ ((ys.take k).map fixB ++ ys.drop k))) ∧ Hid (Stp (· = zd) l1 l1 w1 wr)) (fun _ _ iv _ => m - (intOf iv).toNat)
  case atStart => exact ⟨0, rfl, by omega, Lib.hid (by simpa using HB.out), Lib.hid (Stp.refl _ _ _)⟩
  case round =>
    obtain ⟨k, rfl, hk, HBk, HSk⟩ := hrel
    by_cases hlt : k < m
    · have q1 : (k : Int) < (m : Int) := by omega
      have hml := HM.out
      have hkl : (xs ++ ((ys.take k).map fixB ++ ys.drop k)).length = N0 + m := by
        rw [List.length_append, List.length_append, List.length_map, List.length_take, List.length_drop, HN0.out]; omega
      obtain ⟨g, rfl⟩ : ∃ g, A1 = some ⟨g, 0, none⟩ := by
        obtain ⟨g, e, _⟩ := HBk.out.byte (fun e => by rw [e] at hkl; simp at hkl; omega)
        exact ⟨g, e⟩
      have e3 : A3 = some ⟨g, N0, none⟩ := by
        rw [← HA3.out, if_neg (by have := HC1.out; omega)]
        simp [Addr.add]
        intro h0; rw [h0]
      subst e3
      obtain ⟨x0, f0⟩ := HBk.out.cellAt (N0 + k) (by omega)
      have hpre : (xs ++ (ys.take k).map fixB).length = N0 + k := by rw [List.length_append, List.length_map, List.length_take, HN0.out]; omega
      have hd : ys.drop k = ys.getD k 0 :: ys.drop (k + 1) := by
        rw [List.drop_eq_getElem_cons (by omega), List.getD_eq_getElem?_getD, List.getElem?_eq_getElem (by omega)]; rfl
      have hget : (xs ++ ((ys.take k).map fixB ++ ys.drop k)).getD (N0 + k) 0 = ys.getD k 0 := by
        rw [← List.append_assoc, List.getD_eq_getElem?_getD, List.getElem?_append_right (by omega), hpre, Nat.sub_self, hd]; rfl
      rw [hget] at x0
      have htk : ys.take (k + 1) = ys.take k ++ [ys.getD k 0] := by
        rw [List.take_add_one, List.getD_eq_getElem?_getD, List.getElem?_eq_getElem (by omega)]; rfl
      obtain ⟨b, hb⟩ : ∃ b, ys.getD k 0 = b := ⟨_, rfl⟩
      rw [hb] at x0 htk hd
      have hnext : xs ++ ((ys.take (k + 1)).map fixB ++ ys.drop (k + 1)) = (xs ++ (ys.take k).map fixB) ++ fixB b :: ys.drop (k + 1) := by rw [htk]; simp
      have hset : (xs ++ ((ys.take k).map fixB ++ ys.drop k)).set (N0 + k) (fixB b) = xs ++ ((ys.take (k + 1)).map fixB ++ ys.drop (k + 1)) := by
        rw [hnext, hd, ← List.append_assoc, List.set_append_right _ _ (by omega), hpre, Nat.sub_self, List.set_cons_zero]
      have hsame : fixB b = b → xs ++ ((ys.take k).map fixB ++ ys.drop k) = xs ++ ((ys.take (k + 1)).map fixB ++ ys.drop (k + 1)) := fun e => by
        rw [hnext, e, hd]; simp
      have HSET := Lib.hid hset
      have HSAME := Lib.hid hsame
      clear hml hkl hpre hd hget htk hb hnext hset hsame
      by_cases h13 : b = 13
      · subst h13
        have hst := HBk.out.setAt (N0 + k) 32
        rw [show (32 : Int) = fixB 13 from rfl, HSET.out] at hst
        have HST := Lib.hid hst
        clear hst
        go_wp2
        go_roundw
        case rel => exact ⟨k + 1, by go_num, by omega, Lib.hid HST.out.1, Lib.hid (HSk.out.trans HST.out.2)⟩
        case measure => simp [intOf]; omega
      · have e13 : (b == 13) = false := beq_eq_false_iff_ne.2 h13
        by_cases h10 : b = 10
        · subst h10
          have hst := HBk.out.setAt (N0 + k) 32
          rw [show (32 : Int) = fixB 10 from rfl, HSET.out] at hst
          have HST := Lib.hid hst
          clear hst
          go_wp2
          go_roundw
          case rel => exact ⟨k + 1, by go_num, by omega, Lib.hid HST.out.1, Lib.hid (HSk.out.trans HST.out.2)⟩
          case measure => simp [intOf]; omega
        · have e10 : (b == 10) = false := beq_eq_false_iff_ne.2 h10
          have hs2 := HBk.out
          rw [HSAME.out (if_neg (by omega))] at hs2
          have HS2 := Lib.hid hs2
          clear hs2 h13 h10
          go_wp2
          go_roundw
          case rel => exact ⟨k + 1, by go_num, by omega, HS2, HSk⟩
          case measure => simp [intOf]; omega
    · obtain rfl : m = k := by omega
      have q1 : ¬ ((m : Int) < (m : Int)) := by omega
      go_wp2
      go_ret
      refine ⟨l1, A1, c1, rfl, ?_, ST.out.trans HSk.out⟩
      have := HBk.out
      rw [List.take_of_length_le (by rw [HM.out]; exact Nat.le_refl _), List.drop_eq_nil_of_le (by rw [HM.out]; exact Nat.le_refl _), List.append_nil] at this
      exact this
def tokH (c : Int) : Bool := decide (48 ≤ c ∧ c ≤ 57) || decide (65 ≤ c ∧ c ≤ 90) || decide (97 ≤ c ∧ c ≤ 122) || decide (c = 33 ∨ c = 35 ∨ c = 36 ∨ c = 37 ∨ c = 38 ∨ c = 39 ∨ c = 42 ∨ c = 43 ∨ c = 45 ∨ c = 46 ∨ c = 94 ∨ c = 95 ∨ c = 96 ∨ c = 124 ∨ c = 126)
def tokV (c : Int) : Int := if tokH c = true then 1 else 0
def lineOf (k v : List Int) : List Int := if k.all tokH = true then k ++ [58, 32] ++ v.map fixB ++ [13, 10] else []
theorem mr_read {w : World} {base n c e : Nat} {ok : Nat → Prop} {A : Option Addr} {xs : List Int} (h : MR.R (Kd.int .u8) e w base ok (.slice A n c) xs) : ReadsInt w .u8 A n xs := by
  obtain ⟨rfl, _, h3⟩ := MR.R_reads' h
  exact Kd.reads_of_C h3
theorem below_stp {w w' : World} (h : Below w.heap.size w w') (F : Nat → Prop) (l : Nat → Nat) : Stp F l l w w' := Stp.of_below_same h F l
set_option maxHeartbeats 4000000 in
set_option maxRecDepth 100000 in
theorem headerLine_calls (l : Nat → Nat) (w : World) (zd : Nat) (V : Value) (xs : List Int) (hV : Bf l w zd V xs) (A : Option Addr) (c : Nat) (ks : List Int) (hr : ∀ x ∈ ks, 0 ≤ x ∧ x ≤ 255) (hk : Src (· = zd) l w A ks.length ks) (B : Option Addr) (d : Nat) (ys : List Int) (hs : Src (· = zd) l w B ys.length ys) (hl : xs.length + (ks.length + ys.length + 4) ≤ 140737488355328) :
    Calls Try.prog 71 #[V, .slice A ks.length c, .slice B ys.length d] w fun e w' => ∃ l1 A1 c1, e = .returned (.slice A1 (xs ++ lineOf ks ys).length c1) ∧ Bf l1 w' zd (.slice A1 (xs ++ lineOf ks ys).length c1) (xs ++ lineOf ks ys) ∧ Stp (· = zd) l l1 w w' := by
  obtain ⟨A0, c0, rfl, _⟩ := hV.slice
  obtain ⟨N0, hN0⟩ : ∃ n, xs.length = n := ⟨_, rfl⟩
  obtain ⟨m, hm⟩ : ∃ n, ks.length = n := ⟨_, rfl⟩
  obtain ⟨m2, hm2⟩ : ∃ n, ys.length = n := ⟨_, rfl⟩
  have HV := Lib.hid hV
  have HS := Lib.hid hs
  have HK := Lib.hid hk
  have HR := Lib.hid hr
  have HN0 := Lib.hid hN0
  have HM := Lib.hid hm
  have HM2 := Lib.hid hm2
  rw [hm, hm2, hN0]
  rw [hN0, hm, hm2] at hl
  have HL := Lib.hid hl
  have hmb : m ≤ 140737488355328 := by omega
  clear hV hs hk hr hN0 hm hm2 hl
  go_enter Try.func71, Try.ntmps71
  go_wp2
  go_loopw [8, 11] (fun _ iv wr => ∃ k : Nat, iv = .int .i64 k ∧ k ≤ m ∧ wr = w ∧ Hid (∀ j : Nat, j < k → tokH (ks.getD j 0) = true)) (fun _ iv _ => m - (intOf iv).toNat)
  case atStart => exact ⟨0, rfl, by omega, rfl, Lib.hid (fun j hj => absurd hj (by omega))⟩
  case round =>
    obtain ⟨k, rfl, hk, rfl, HA⟩ := hrel
    by_cases hlt : k < m
    · have q1 : (k : Int) < (m : Int) := by omega
      obtain ⟨b, hb⟩ : ∃ b, ks.getD k 0 = b := ⟨_, rfl⟩
      have hkr : 0 ≤ b ∧ b ≤ 255 := by
        have := HR.out (ks.getD k 0) (by
          have := HM.out
          rw [List.getD_eq_getElem?_getD, List.getElem?_eq_getElem (by omega)]; exact List.getElem_mem _)
        rwa [hb] at this
      obtain ⟨ad, rfl, hcell⟩ := HK.out.now.2.2 (by have := HM.out; omega)
      have x0 := hcell k (by have := HM.out; omega)
      rw [hb] at x0
      have HB := Lib.hid hb
      clear hcell hb
      by_cases ht : tokH b = true
      · have hv : tokV b = 1 := if_pos ht
        go_wp2_with (refine wpList_index_fn rfl 9 _ _ rfl _ _ .u8 rfl rfl Try.underlying9 hkr.1 hkr.2 tokV ?tb ?_; case tb => decide +kernel)
        go_roundw
        case rel =>
          refine ⟨k + 1, by go_num, by omega, by first | rfl | trivial, Lib.hid (fun j hj => ?_)⟩
          rcases Nat.lt_or_ge j k with h | h
          · exact HA.out j h
          · obtain rfl : j = k := by omega
            rw [HB.out]; exact ht
        case measure => simp [intOf]; omega
      · have hv : tokV b = 0 := if_neg ht
        have hbad : lineOf ks ys = [] := by
          unfold lineOf
          rw [if_neg]
          intro hall
          have := List.all_eq_true.1 hall (ks.getD k 0) (by
            have := HM.out
            rw [List.getD_eq_getElem?_getD, List.getElem?_eq_getElem (by omega)]; exact List.getElem_mem _)
          rw [HB.out] at this
          exact ht this
        have HBAD := Lib.hid hbad
        clear hbad
        go_wp2_with (refine wpList_index_fn rfl 9 _ _ rfl _ _ .u8 rfl rfl Try.underlying9 hkr.1 hkr.2 tokV ?tb ?_; case tb => decide +kernel)
        go_ret
        refine ⟨l, A0, c0, ?_, ?_, Stp.refl _ _ _⟩
        · rw [HBAD.out, List.append_nil, HN0.out]; rfl
        · rw [HBAD.out, List.append_nil]; exact HV.out
    · obtain rfl : m = k := by omega
      have q1 : ¬ ((m : Int) < (m : Int)) := by omega
      have hall : lineOf ks ys = ks ++ [58, 32] ++ ys.map fixB ++ [13, 10] := by
        unfold lineOf
        rw [if_pos]
        rw [List.all_eq_true]
        intro x hx
        obtain ⟨j, hj, rfl⟩ := List.mem_iff_getElem.1 hx
        have := HA.out j (by have := HM.out; omega)
        rwa [List.getD_eq_getElem?_getD, List.getElem?_eq_getElem hj] at this
      have HALL := Lib.hid hall
      clear hall
      go_wp2_with (first
        | (at_builtin
           refine app_row zd rfl (.tmp 20) (.tmp 21) 54 rfl Try.underlying54 info8 _ xs ks A m c rfl rfl (by have := HV.out; rw [HN0.out] at this; exact this) (by have := HK.out.now; rw [HM.out] at this; exact this) (by have := HL.out; rw [HN0.out]; omega) ?_
           intro v1 w1 l1 hB st _
           obtain ⟨A1, c1, rfl, hc1⟩ := hB.slice
           have hlen : (xs ++ ks).length = N0 + m := by rw [List.length_append, HN0.out, HM.out]
           rw [hlen] at hB
           rw [hlen]
           have B1 := Lib.hid hB
           have S1 := Lib.hid st
           clear hB st hlen hc1)
        | (go_at_call 100
           refine (hertzstr_StrColonSpace.calls [58, 32] _ rfl).mono ?_
           rintro e w2 ⟨v2, rfl, ho2, hb2⟩
           obtain ⟨A2, k2, rfl⟩ := MR.R_slice ho2
           have R2 := Lib.hid (mr_read ho2)
           have B2 := Lib.hid (B1.out.keep (below_stp hb2 (fun _ => False) l1) (fun k => k))
           have S2 := Lib.hid (S1.out.trans (below_stp hb2 (· = zd) l1))
           clear ho2 hb2)
        | (at_builtin
           refine app_row zd rfl (.tmp 23) (.tmp 24) 54 rfl Try.underlying54 info8 _ (xs ++ ks) [58, 32] A2 2 k2 rfl rfl B2.out R2.out (by have := HL.out; rw [List.length_append, HN0.out, HM.out]; omega) ?_
           intro v3 w3 l3 hB st _
           obtain ⟨A3, c3, rfl, hc3⟩ := hB.slice
           have hlen : (xs ++ ks ++ [58, 32]).length = N0 + m + 2 := by rw [List.length_append, List.length_append, HN0.out, HM.out]; rfl
           rw [hlen] at hB
           rw [hlen]
           have B3 := Lib.hid hB
           have S3 := Lib.hid (S2.out.trans st)
           clear hB st hlen hc3)
        | (go_at_call 101
           have q_ := headerValue_calls l3 w3 zd _ (xs ++ ks ++ [58, 32]) B3.out B d ys (HS.out.step S3.out) (by have := HL.out; have := HM2.out; rw [List.length_append, List.length_append, HN0.out, HM.out]; simp only [List.length_cons, List.length_nil]; omega)
           rw [HM2.out] at q_
           refine q_.mono ?_
           rintro e w4 ⟨l4, A4, c4, rfl, b4, s4⟩
           have hlen : (xs ++ ks ++ [58, 32] ++ ys.map fixB).length = N0 + m + 2 + m2 := by rw [List.length_append, List.length_append, List.length_append, List.length_map, HN0.out, HM.out, HM2.out]; rfl
           rw [hlen] at b4
           rw [hlen]
           have B4 := Lib.hid b4
           have S4 := Lib.hid (S3.out.trans s4)
           clear q_ b4 s4 hlen)
        | (go_at_call 72
           refine (hertzstr_StrCRLF.calls [13, 10] _ rfl).mono ?_
           rintro e w5 ⟨v5, rfl, ho5, hb5⟩
           obtain ⟨A5, k5, rfl⟩ := MR.R_slice ho5
           have R5 := Lib.hid (mr_read ho5)
           have B5 := Lib.hid (B4.out.keep (below_stp hb5 (fun _ => False) l4) (fun k => k))
           have S5 := Lib.hid (S4.out.trans (below_stp hb5 (· = zd) l4))
           clear ho5 hb5)
        | (at_builtin
           have h5 : (xs ++ ks ++ [58, 32] ++ ys.map fixB).length = N0 + m + 2 + m2 := by rw [List.length_append, List.length_append, List.length_append, List.length_map, HN0.out, HM.out, HM2.out]; rfl
           refine app_row zd rfl (.tmp 29) (.tmp 30) 54 rfl Try.underlying54 info8 _ (xs ++ ks ++ [58, 32] ++ ys.map fixB) [13, 10] A5 2 k5 rfl rfl B5.out R5.out (by have := HL.out; rw [h5]; omega) ?_
           intro v6 w6 l6 hB st _
           obtain ⟨A6, c6, rfl, hc6⟩ := hB.slice
           obtain ⟨N6, hN6⟩ : ∃ N, (xs ++ ks ++ [58, 32] ++ ys.map fixB ++ [13, 10]).length = N := ⟨_, rfl⟩
           rw [hN6] at hB
           rw [hN6]
           have HN6 := Lib.hid hN6
           have B6 := Lib.hid hB
           have S6 := Lib.hid (S5.out.trans st)
           clear hB st hc6 h5 hN6))
      go_ret
      have e : xs ++ ks ++ [58, 32] ++ ys.map fixB ++ [13, 10] = xs ++ lineOf ks ys := by rw [HALL.out]; simp
      refine ⟨_, A6, c6, by rw [← e, HN6.out]; rfl, by rw [← e, HN6.out]; exact B6.out, S6.out⟩
end Go.Proofs.Ytoimkmoalmmooaa.Own
