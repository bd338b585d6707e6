/- strings.IndexByte tells the first place of a byte in a text, or -1. -/
import Derived.Test.YtkbmababljcabaaGvBase
import Derived.Lib.Bytealg
set_option linter.unusedVariables false
namespace Go.Proofs.Ytkbmababljcabaa.Given
open Go.RowKit Go.Proofs.YtkbmababljcabaaW.PrintWords Go.Proofs.YtkbmababljcabaaW.PrintLast Go.Proofs.YtkbmababljcabaaW.PrintMore Go.Proofs.Ytkbmababljcabaa.Base Go.Proofs.Ytkbmababljcabaa.Gv

/-- The first place of a number in a list, or -1. -/
def idx : List Int → Int → Int
  | [], _ => -1
  | x :: l, c => if x = c then 0 else if idx l c = -1 then -1 else idx l c + 1
theorem idx_eq (l : List UInt8) (c : Int) (h0 : 0 ≤ c) (h1 : c ≤ 255) : Lib.indexByte l c.toNat.toUInt8 = idx (l.map fun b => (b.toNat : Int)) c := by
  induction l with
  | nil => rfl
  | cons b l ih =>
    have hb : (b == c.toNat.toUInt8) = decide ((b.toNat : Int) = c) := by
      rw [Bool.eq_iff_iff, beq_iff_eq, decide_eq_true_eq, ← UInt8.toNat_inj]
      have : c.toNat.toUInt8.toNat = c.toNat := by
        rw [Nat.toUInt8_eq, UInt8.toNat_ofNat']; omega
      rw [this]; omega
    simp only [Lib.indexByte, idx, List.map_cons, hb, ih, decide_eq_true_eq, beq_iff_eq]
def strings_IndexByte.f (a0 : ByteArray) (a1 : Int) : Option Int := some (Lib.indexByte a0.data.toList a1.toNat.toUInt8)
theorem strings_IndexByte.is (a0 : ByteArray) (a1 : Int) (h0 : 0 ≤ a1) (h1 : a1 ≤ 255) : strings_IndexByte.f a0 a1 = some (idx (ns a0) a1) := by
  unfold strings_IndexByte.f
  rw [idx_eq _ _ h0 h1]; rfl
set_option maxHeartbeats 1000000 in
set_option maxRecDepth 100000 in
theorem strings_IndexByte.calls (a0 : ByteArray) (a1 : Int) (r : Int) (w : World) (h : strings_IndexByte.f a0 a1 = some r) :
    Calls Try.prog 78 #[.string a0, .int .u8 a1] w fun e w' => e = .returned (.int .i64 r) ∧ Drawn0 w w' := by
  obtain rfl : Lib.indexByte a0.data.toList a1.toNat.toUInt8 = r := Option.some.inj h
  clear h
  have inner : Calls Try.prog 89 #[.string a0, .int .u8 a1] w fun e w' => e = .returned (.int .i64 (Lib.indexByte a0.data.toList a1.toNat.toUInt8)) ∧ w' = w := by
    go_enter Try.func89, Try.ntmps89
    go_wp2
    rw [run_callFunc_extern Try.func94 (by kernel_rfl) (by kernel_rfl) (by kernel_rfl) (e := Extern.BytealgIndexByte.indexByte) (by kernel_rfl), Lib.run_indexByteString]
    simp only [Result.andThen]
    rw [Oper.upon_value]
    go_wp2
    go_ret
    exact ⟨rfl, rfl⟩
  go_enter Try.func78, Try.ntmps78
  go_wp2_with (go_at_call 89; refine inner.mono ?_; rintro e w' ⟨rfl, rfl⟩)
  go_ret
  exact ⟨rfl, Drawn0.refl _⟩
end Go.Proofs.Ytkbmababljcabaa.Given
