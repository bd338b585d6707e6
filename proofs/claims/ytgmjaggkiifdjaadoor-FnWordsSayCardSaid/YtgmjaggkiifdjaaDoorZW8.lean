/- Texts of this claim, one behind the other (merged by wip/prune.py of this repo, without what the proof does not use): GIndexByte, GPort, QA49. -/
import Derived.Test.YtgmjaggkiifdjaaDoorZW4
import Derived.Test.YtgmjaggkiifdjaaDoorZW7
import Derived.Lib.Bytealg
set_option linter.unusedVariables false
set_option linter.unusedSimpArgs false
namespace Go.Proofs.YtgmjaggkiifdjaaDoor.Given
open Go.RowKit Go.Proofs.YtgmjaggkiifdjaaDoorW.PrintWords Go.Proofs.YtgmjaggkiifdjaaDoorW.PrintLast Go.Proofs.YtgmjaggkiifdjaaDoorW.PrintMore Go.Proofs.YtgmjaggkiifdjaaDoor.Base Go.Proofs.YtgmjaggkiifdjaaDoor.Gv
def idx : List Int → Int → Int
  | [], _ => -1
  | x :: l, c => if x = c then 0 else if idx l c = -1 then -1 else idx l c + 1
theorem idx_eq (l : List UInt8) (c : Int) (h0 : 0 ≤ c) (h1 : c ≤ 255) : Lib.indexByte l c.toNat.toUInt8 = idx (l.map fun b => (b.toNat : Int)) c := by
  induction l with
  | nil => rfl
  | cons b l ih =>
    have hb : (b == c.toNat.toUInt8) = decide ((b.toNat : Int) = c) := by
      rw [Bool.eq_iff_iff, beq_iff_eq, decide_eq_true_eq, ← UInt8.toNat_inj]
      have : c.toNat.toUInt8.toNat = c.toNat := by
        rw [Nat.toUInt8_eq, UInt8.toNat_ofNat']; omega
      rw [this]; omega
    simp only [Lib.indexByte, idx, List.map_cons, hb, ih, decide_eq_true_eq, beq_iff_eq]
def strings_IndexByte.f (a0 : ByteArray) (a1 : Int) : Option Int := some (Lib.indexByte a0.data.toList a1.toNat.toUInt8)
theorem strings_IndexByte.is (a0 : ByteArray) (a1 : Int) (h0 : 0 ≤ a1) (h1 : a1 ≤ 255) : strings_IndexByte.f a0 a1 = some (idx (ns a0) a1) := by
  unfold strings_IndexByte.f
  rw [idx_eq _ _ h0 h1]; rfl
set_option maxHeartbeats 1000000 in
set_option maxRecDepth 100000 in
theorem strings_IndexByte.calls (a0 : ByteArray) (a1 : Int) (r : Int) (w : World) (h : strings_IndexByte.f a0 a1 = some r) :
    Calls Tryd.prog 90 #[.string a0, .int .u8 a1] w fun e w' => e = .returned (.int .i64 r) ∧ Drawn0 w w' := by
  obtain rfl : Lib.indexByte a0.data.toList a1.toNat.toUInt8 = r := Option.some.inj h
  clear h
  have inner : Calls Tryd.prog 104 #[.string a0, .int .u8 a1] w fun e w' => e = .returned (.int .i64 (Lib.indexByte a0.data.toList a1.toNat.toUInt8)) ∧ w' = w := by
    go_enter Tryd.func104, Tryd.ntmps104
    go_wp2
    rw [run_callFunc_extern Tryd.func115 (by kernel_rfl) (by kernel_rfl) (by kernel_rfl) (e := Extern.BytealgIndexByte.indexByte) (by kernel_rfl), Lib.run_indexByteString]
    simp only [Result.andThen]
    rw [Oper.upon_value]
    go_wp2
    go_ret
    exact ⟨rfl, rfl⟩
  go_enter Tryd.func90, Tryd.ntmps90
  go_wp2_with (go_at_call 104; refine inner.mono ?_; rintro e w' ⟨rfl, rfl⟩)
  go_ret
  exact ⟨rfl, Drawn0.refl _⟩
theorem idx_ge (l : List Int) (c : Int) : -1 ≤ idx l c := by
  induction l with
  | nil => simp [idx]
  | cons x l ih =>
    unfold idx
    split
    · decide
    · split <;> omega
theorem idx_lt (l : List Int) (c : Int) : idx l c < l.length := by
  induction l with
  | nil => simp [idx]
  | cons x l ih =>
    unfold idx
    simp only [List.length_cons]
    split
    · omega
    · split <;> omega
def p80 : ByteArray := ⟨#[58, 56, 48]⟩
def p443 : ByteArray := ⟨#[58, 52, 52, 51]⟩
def withPort (s : ByteArray) (tls : Bool) : ByteArray := if 0 ≤ idx (ns s) 58 ∧ idx (ns s) 93 < (s.size : Int) - 1 then s else s ++ if tls then p443 else p80
def hertzutils_AddMissingPort.f (a0 : ByteArray) (a1 : Bool) : Option ByteArray := if a0.size ≤ 4611686018427387904 then some (withPort a0 a1) else none
set_option maxHeartbeats 2000000 in
theorem port_calls (a0 : ByteArray) (a1 : Bool) (w : World) (h : a0.size ≤ 4611686018427387904) :
    Calls Tryd.prog 76 #[.string a0, .bool a1] w fun e w' => e = .returned (.string (withPort a0 a1)) ∧ Drawn0 w w' := by
  have c58 := Lib.hid (fun w => strings_IndexByte.calls a0 58 _ w (strings_IndexByte.is a0 58 (by decide) (by decide)))
  have c93 := Lib.hid (fun w => strings_IndexByte.calls a0 93 _ w (strings_IndexByte.is a0 93 (by decide) (by decide)))
  have g1 := idx_ge (ns a0) 58
  have g2 := idx_ge (ns a0) 93
  have g3 := idx_lt (ns a0) 93
  rw [ns_length] at g3
  obtain ⟨r, hr⟩ : ∃ r, withPort a0 a1 = r := ⟨_, rfl⟩
  rw [hr]
  unfold withPort at hr
  obtain ⟨i, hi⟩ : ∃ i, idx (ns a0) 58 = i := ⟨_, rfl⟩
  obtain ⟨j, hj⟩ : ∃ j, idx (ns a0) 93 = j := ⟨_, rfl⟩
  rw [hi] at g1 c58 hr
  rw [hj] at g2 g3 c93 hr
  clear hi hj
  by_cases h58 : 0 ≤ i
  · by_cases h93 : j < (a0.size : Int) - 1
    · rw [if_pos ⟨h58, h93⟩] at hr
      have HR := Lib.hid hr
      clear hr
      go_enter Tryd.func76, Tryd.ntmps76
      go_wp2_with fail
      refine (c58.out _).mono ?_
      rintro e w' ⟨rfl, ⟨n1, rfl⟩⟩
      go_wp2_with fail
      refine (c93.out _).mono ?_
      rintro e w' ⟨rfl, ⟨n2, rfl⟩⟩
      go_wp2
      go_ret
      exact ⟨by rw [← HR.out]; rfl, ⟨_, rfl⟩⟩
    · rw [if_neg (fun e => h93 e.2)] at hr
      have HR := Lib.hid hr
      clear hr
      cases a1 with
      | true =>
        go_enter Tryd.func76, Tryd.ntmps76
        go_wp2_with fail
        refine (c58.out _).mono ?_
        rintro e w' ⟨rfl, ⟨n1, rfl⟩⟩
        go_wp2_with fail
        refine (c93.out _).mono ?_
        rintro e w' ⟨rfl, ⟨n2, rfl⟩⟩
        go_wp2
        go_ret
        exact ⟨by rw [← HR.out]; rfl, ⟨_, rfl⟩⟩
      | false =>
        go_enter Tryd.func76, Tryd.ntmps76
        go_wp2_with fail
        refine (c58.out _).mono ?_
        rintro e w' ⟨rfl, ⟨n1, rfl⟩⟩
        go_wp2_with fail
        refine (c93.out _).mono ?_
        rintro e w' ⟨rfl, ⟨n2, rfl⟩⟩
        go_wp2
        go_ret
        exact ⟨by rw [← HR.out]; rfl, ⟨_, rfl⟩⟩
  · rw [if_neg (fun e => h58 e.1)] at hr
    have HR := Lib.hid hr
    clear hr
    cases a1 with
    | true =>
      go_enter Tryd.func76, Tryd.ntmps76
      go_wp2_with fail
      refine (c58.out _).mono ?_
      rintro e w' ⟨rfl, ⟨n1, rfl⟩⟩
      go_wp2
      go_ret
      exact ⟨by rw [← HR.out]; rfl, ⟨_, rfl⟩⟩
    | false =>
      go_enter Tryd.func76, Tryd.ntmps76
      go_wp2_with fail
      refine (c58.out _).mono ?_
      rintro e w' ⟨rfl, ⟨n1, rfl⟩⟩
      go_wp2
      go_ret
      exact ⟨by rw [← HR.out]; rfl, ⟨_, rfl⟩⟩
theorem hertzutils_AddMissingPort.calls (a0 : ByteArray) (a1 : Bool) (r : ByteArray) (w : World) (h : hertzutils_AddMissingPort.f a0 a1 = some r) :
    Calls Tryd.prog 76 #[.string a0, .bool a1] w fun e w' => e = .returned (.string r) ∧ Drawn0 w w' := by
  unfold hertzutils_AddMissingPort.f at h
  by_cases hbd : a0.size ≤ 4611686018427387904
  · rw [if_pos hbd] at h
    obtain rfl : withPort a0 a1 = r := Option.some.inj h
    exact port_calls a0 a1 w hbd
  · rw [if_neg hbd] at h
    cases h
end Go.Proofs.YtgmjaggkiifdjaaDoor.Given
namespace Go.Proofs.YtgmjaggkiifdjaaDoor.QA
open Go.Proofs.YtgmjaggkiifdjaaDoor.Given
open Go.Proofs.YtgmjaggkiifdjaaDoor.PrX
open Go.RowKit Go.Proofs.YtgmjaggkiifdjaaDoorW.PrintWords Go.Proofs.YtgmjaggkiifdjaaDoorW.PrintLast Go.Proofs.YtgmjaggkiifdjaaDoorW.PrintMore
def spec_StatusMessage.f (a0 : Int) : Option (ByteArray × Int) := (spec_reason.f a0).bind fun t286 => (if t286.toList = ([] : List UInt8) then (some ((⟨#[]⟩ : ByteArray), 2)) else (some (t286, 1)))
set_option maxHeartbeats 8000000 in
set_option maxRecDepth 100000 in
theorem spec_StatusMessage.calls (a0 : Int) (r1 : ByteArray) (r2 : Int) (w : World) (h : spec_StatusMessage.f a0 = some (r1, r2)) :
    Calls Tryd.prog 47 #[.int .i64 a0] w fun e w' => e = .returned (.tuple #[.string r1, .int .i64 r2]) ∧ Drawn0 w w' := by
  have H : ((spec_reason.f a0).bind fun t286 => (if t286.toList = ([] : List UInt8) then (some ((⟨#[]⟩ : ByteArray), 2)) else (some (t286, 1)))) = some (r1, r2) := h
  clear h
  replace H := Option.bind_eq_some_iff.mp H
  obtain ⟨t286, A20, H⟩ := H
  replace H : (if t286.toList = ([] : List UInt8) then (some ((⟨#[]⟩ : ByteArray), 2)) else (some (t286, 1))) = some (r1, r2) := H
  have A2 := Aside0.mk A20
  clear A20
  by_cases c3 : t286.toList = ([] : List UInt8)
  · rw [if_pos c3] at H
    have c3b0 : (t286.toList == ([] : List UInt8)) = true := beq_iff_eq.mpr c3
    have c3b1 : (t286.toList != ([] : List UInt8)) = false := bne_eq_false_iff_eq.mpr c3
    clear c3
    simp only [Option.some.injEq, Prod.mk.injEq] at H
    obtain ⟨rfl, rfl⟩ := H
    go_enter Tryd.func47, Tryd.ntmps47
    go_wp2_with (first | ((with_reducible refine gate_callee (f := 75) rfl ?_); refine goesL_ (some 6) rfl rfl Tryd.func75 (by kernel_rfl) rfl #[.int .i64 a0] rfl (by (try simp only [List.map_toArray, List.map_cons, List.map_nil]); first | done | rfl | (simp only [List.length_drop, List.length_take]; rfl)) ?_; (with_reducible refine (spec_reason.calls a0 t286 _ A2.out).mono ?_); rintro e w' ⟨rfl, ⟨nd, rfl⟩⟩; refine ⟨_, rfl, ?_⟩))
    go_ret2
    exact ⟨by first | rfl | (simp; done) | (rw [prx_ne]; first | done | rfl) | (simp [*]; done), by repeat (first | exact Drawn0.refl _ | apply Drawn0.step)⟩
  · rw [if_neg c3] at H
    have c3b0 : (t286.toList == ([] : List UInt8)) = false := beq_eq_false_iff_ne.mpr c3
    have c3b1 : (t286.toList != ([] : List UInt8)) = true := bne_iff_ne.mpr c3
    simp only [Option.some.injEq, Prod.mk.injEq] at H
    obtain ⟨rfl, rfl⟩ := H
    go_enter Tryd.func47, Tryd.ntmps47
    go_wp2_with (first | ((with_reducible refine gate_callee (f := 75) rfl ?_); refine goesL_ (some 6) rfl rfl Tryd.func75 (by kernel_rfl) rfl #[.int .i64 a0] rfl (by (try simp only [List.map_toArray, List.map_cons, List.map_nil]); first | done | rfl | (simp only [List.length_drop, List.length_take]; rfl)) ?_; (with_reducible refine (spec_reason.calls a0 t286 _ A2.out).mono ?_); rintro e w' ⟨rfl, ⟨nd, rfl⟩⟩; refine ⟨_, rfl, ?_⟩))
    go_ret2
    exact ⟨by first | rfl | (simp; done) | (rw [prx_ne]; first | done | rfl) | (simp [*]; done), by repeat (first | exact Drawn0.refl _ | apply Drawn0.step)⟩
def impl_WithPort.f (a0 : ByteArray) (a1 : Bool) : Option (ByteArray) := (hertzutils_AddMissingPort.f a0 a1).bind fun t287 => (some t287)
set_option maxHeartbeats 8000000 in
set_option maxRecDepth 100000 in
theorem impl_WithPort.calls (a0 : ByteArray) (a1 : Bool) (r : ByteArray) (w : World) (h : impl_WithPort.f a0 a1 = some r) :
    Calls Tryd.prog 48 #[.string a0, .bool a1] w fun e w' => e = .returned (.string r) ∧ Drawn0 w w' := by
  have H : ((hertzutils_AddMissingPort.f a0 a1).bind fun t287 => (some t287)) = some r := h
  clear h
  replace H := Option.bind_eq_some_iff.mp H
  obtain ⟨t287, A30, H⟩ := H
  replace H : (some t287) = some r := H
  have A3 := Aside0.mk A30
  clear A30
  obtain rfl := Option.some.inj H
  go_enter Tryd.func48, Tryd.ntmps48
  go_wp2_with (first | ((with_reducible refine gate_callee (f := 76) rfl ?_); refine goesL_ (some 7) rfl rfl Tryd.func76 (by kernel_rfl) rfl #[.string a0, .bool a1] rfl (by (try simp only [List.map_toArray, List.map_cons, List.map_nil]); first | done | rfl | (simp only [List.length_drop, List.length_take]; rfl)) ?_; (with_reducible refine (hertzutils_AddMissingPort.calls a0 a1 t287 _ A3.out).mono ?_); rintro e w' ⟨rfl, ⟨nd, rfl⟩⟩; refine ⟨_, rfl, ?_⟩))
  go_ret
  exact ⟨by first | rfl | (simp; done) | (rw [prx_ne]; first | done | rfl) | (simp [*]; done), by repeat (first | exact Drawn0.refl _ | apply Drawn0.step)⟩
end Go.Proofs.YtgmjaggkiifdjaaDoor.QA
