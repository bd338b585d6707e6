/- AddMissingPort: a host's port, where it has none. -/
import Derived.Test.YtdfeojkombmiaaaGIndexByte
set_option linter.unusedVariables false
namespace Go.Proofs.Ytdfeojkombmiaaa.Given
open Go.RowKit Go.Proofs.YtdfeojkombmiaaaW.PrintWords Go.Proofs.YtdfeojkombmiaaaW.PrintLast Go.Proofs.YtdfeojkombmiaaaW.PrintMore Go.Proofs.Ytdfeojkombmiaaa.Base Go.Proofs.Ytdfeojkombmiaaa.Gv

theorem idx_ge (l : List Int) (c : Int) : -1 ≤ idx l c := by
  induction l with
  | nil => simp [idx]
  | cons x l ih =>
    unfold idx
    split
    · decide
    · split <;> omega
theorem idx_lt (l : List Int) (c : Int) : idx l c < l.length := by
  induction l with
  | nil => simp [idx]
  | cons x l ih =>
    unfold idx
    simp only [List.length_cons]
    split
    · omega
    · split <;> omega
def p80 : ByteArray := ⟨#[58, 56, 48]⟩
def p443 : ByteArray := ⟨#[58, 52, 52, 51]⟩
def withPort (s : ByteArray) (tls : Bool) : ByteArray := if 0 ≤ idx (ns s) 58 ∧ idx (ns s) 93 < (s.size : Int) - 1 then s else s ++ if tls then p443 else p80
def hertzutils_AddMissingPort.f (a0 : ByteArray) (a1 : Bool) : Option ByteArray := if a0.size ≤ 4611686018427387904 then some (withPort a0 a1) else none
set_option maxHeartbeats 2000000 in
theorem port_calls (a0 : ByteArray) (a1 : Bool) (w : World) (h : a0.size ≤ 4611686018427387904) :
    Calls Try.prog 43 #[.string a0, .bool a1] w fun e w' => e = .returned (.string (withPort a0 a1)) ∧ Drawn0 w w' := by
  have c58 := Lib.hid (fun w => strings_IndexByte.calls a0 58 _ w (strings_IndexByte.is a0 58 (by decide) (by decide)))
  have c93 := Lib.hid (fun w => strings_IndexByte.calls a0 93 _ w (strings_IndexByte.is a0 93 (by decide) (by decide)))
  have g1 := idx_ge (ns a0) 58
  have g2 := idx_ge (ns a0) 93
  have g3 := idx_lt (ns a0) 93
  rw [ns_length] at g3
  obtain ⟨r, hr⟩ : ∃ r, withPort a0 a1 = r := ⟨_, rfl⟩
  rw [hr]
  unfold withPort at hr
  obtain ⟨i, hi⟩ : ∃ i, idx (ns a0) 58 = i := ⟨_, rfl⟩
  obtain ⟨j, hj⟩ : ∃ j, idx (ns a0) 93 = j := ⟨_, rfl⟩
  rw [hi] at g1 c58 hr
  rw [hj] at g2 g3 c93 hr
  clear hi hj
  by_cases h58 : 0 ≤ i
  · by_cases h93 : j < (a0.size : Int) - 1
    · rw [if_pos ⟨h58, h93⟩] at hr
      have HR := Lib.hid hr
      clear hr
      go_enter Try.func43, Try.ntmps43
      go_wp2_with fail
      refine (c58.out _).mono ?_
      rintro e w' ⟨rfl, ⟨n1, rfl⟩⟩
      go_wp2_with fail
      refine (c93.out _).mono ?_
      rintro e w' ⟨rfl, ⟨n2, rfl⟩⟩
      go_wp2
      go_ret
      exact ⟨by rw [← HR.out]; rfl, ⟨_, rfl⟩⟩
    · rw [if_neg (fun e => h93 e.2)] at hr
      have HR := Lib.hid hr
      clear hr
      cases a1 with
      | true =>
        go_enter Try.func43, Try.ntmps43
        go_wp2_with fail
        refine (c58.out _).mono ?_
        rintro e w' ⟨rfl, ⟨n1, rfl⟩⟩
        go_wp2_with fail
        refine (c93.out _).mono ?_
        rintro e w' ⟨rfl, ⟨n2, rfl⟩⟩
        go_wp2
        go_ret
        exact ⟨by rw [← HR.out]; rfl, ⟨_, rfl⟩⟩
      | false =>
        go_enter Try.func43, Try.ntmps43
        go_wp2_with fail
        refine (c58.out _).mono ?_
        rintro e w' ⟨rfl, ⟨n1, rfl⟩⟩
        go_wp2_with fail
        refine (c93.out _).mono ?_
        rintro e w' ⟨rfl, ⟨n2, rfl⟩⟩
        go_wp2
        go_ret
        exact ⟨by rw [← HR.out]; rfl, ⟨_, rfl⟩⟩
  · rw [if_neg (fun e => h58 e.1)] at hr
    have HR := Lib.hid hr
    clear hr
    cases a1 with
    | true =>
      go_enter Try.func43, Try.ntmps43
      go_wp2_with fail
      refine (c58.out _).mono ?_
      rintro e w' ⟨rfl, ⟨n1, rfl⟩⟩
      go_wp2
      go_ret
      exact ⟨by rw [← HR.out]; rfl, ⟨_, rfl⟩⟩
    | false =>
      go_enter Try.func43, Try.ntmps43
      go_wp2_with fail
      refine (c58.out _).mono ?_
      rintro e w' ⟨rfl, ⟨n1, rfl⟩⟩
      go_wp2
      go_ret
      exact ⟨by rw [← HR.out]; rfl, ⟨_, rfl⟩⟩
theorem hertzutils_AddMissingPort.calls (a0 : ByteArray) (a1 : Bool) (r : ByteArray) (w : World) (h : hertzutils_AddMissingPort.f a0 a1 = some r) :
    Calls Try.prog 43 #[.string a0, .bool a1] w fun e w' => e = .returned (.string r) ∧ Drawn0 w w' := by
  unfold hertzutils_AddMissingPort.f at h
  by_cases hbd : a0.size ≤ 4611686018427387904
  · rw [if_pos hbd] at h
    obtain rfl : withPort a0 a1 = r := Option.some.inj h
    exact port_calls a0 a1 w hbd
  · rw [if_neg hbd] at h
    cases h
end Go.Proofs.Ytdfeojkombmiaaa.Given
