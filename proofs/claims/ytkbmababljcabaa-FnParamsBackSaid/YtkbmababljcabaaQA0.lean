/- Printed by wip/pr.py (a program of this repo over the print program of the kit). Not trusted: Lean checks it. -/
import Derived.Test.YtkbmababljcabaaProg
import Derived.Below
import Derived.Deep.Draws
import Derived.Deep.AppendLies
import Derived.Maps.AppendAt
import Derived.OwnWalk
import Derived.Laws.BytesArg
import Derived.Laws.MakeOwn
import Derived.Laws.OwnMore
import Derived.Deep.OwnRows
import Derived.Tactics
import Derived.Lib.ConvBytes
import Derived.Laws.Slices
import Derived.WalkKit
import Derived.KernelRfl
import Derived.RowKit3
import Derived.Deep.LoopGhost
import Derived.Deep.QuietTactic
import Derived.BigQuiet
import Derived.WideLaws
import Derived.Deep.DeepCutAuto
import Derived.Deep.CutBlock
import Derived.Deep.RegionHeld3
import Derived.Laws.Rows
import Derived.Lib.AppendStr
import Derived.ArgAppend
import Derived.Laws.IdiomCopy
import Derived.OrdersHeld
import Derived.Laws.BitsLemmas
import Derived.RowKit
import Derived.Test.YtkbmababljcabaaPrX
import Derived.Test.YtkbmababljcabaaWWords
import Derived.Test.YtkbmababljcabaaWLast
import Derived.Test.YtkbmababljcabaaWTab
import Derived.Test.YtkbmababljcabaaWFour
import Derived.Test.YtkbmababljcabaaWQPut
import Derived.Test.YtkbmababljcabaaWApart
import Derived.Test.YtkbmababljcabaaWArr
import Derived.Test.YtkbmababljcabaaWZeros
import Derived.Test.YtkbmababljcabaaWFoot
import Derived.Test.YtkbmababljcabaaWKept
import Derived.Test.YtkbmababljcabaaWShare
import Derived.Test.YtkbmababljcabaaWN
import Derived.Test.YtkbmababljcabaaWFootNe
import Derived.Test.YtkbmababljcabaaWAt
import Derived.Test.YtkbmababljcabaaWEqStruct
import Derived.Test.YtkbmababljcabaaWRepsOne
import Derived.Test.YtkbmababljcabaaWInv
import Derived.Test.YtkbmababljcabaaWInvWords
import Derived.Test.YtkbmababljcabaaWGuard
import Derived.Test.YtkbmababljcabaaWNEv
import Derived.Test.YtkbmababljcabaaWMore
namespace Go.Proofs.Ytkbmababljcabaa.QA
open Go.Proofs.Ytkbmababljcabaa.Given
open Go.Proofs.Ytkbmababljcabaa.PrX
open Go.RowKit Go.Proofs.YtkbmababljcabaaW.PrintWords Go.Proofs.YtkbmababljcabaaW.PrintLast Go.Proofs.YtkbmababljcabaaW.PrintMore
attribute [local go_sem] max2_int min2_int max_two min_two max_three min_three max_four min_four   -- for this text's walks alone
set_option linter.unusedVariables false
set_option linter.unusedSimpArgs false



def errW : Option Int → Value
  | none => .nilIface
  | some c => .iface 0 (.int .i64 c)
theorem errW_none : errW none = .nilIface := rfl
theorem errW_some (c : Int) : errW (some c) = .iface 0 (.int .i64 c) := rfl

theorem info5 : (Try.prog.info? 5).map (fun i => (i.zero, i.size, i.bytes)) = some (some (.int .u8 0), 1, 1) := by kernel_rfl
theorem info9 : (Try.prog.info? 9).map (fun i => (i.zero, i.size, i.bytes)) = some (some (.string ⟨#[]⟩), 1, 16) := by kernel_rfl
theorem info47 : (Try.prog.info? 47).map (fun i => (i.zero, i.size, i.bytes)) = some (some (.agg #[(.string ⟨#[]⟩), (.string ⟨#[]⟩)]), 2, 32) := by kernel_rfl
theorem info59 : (Try.prog.info? 59).map (fun i => (i.zero, i.size, i.bytes)) = some (some (.slice none 0 0), 1, 24) := by kernel_rfl
theorem info63 : (Try.prog.info? 63).map (fun i => (i.zero, i.size, i.bytes)) = some (some (.agg #[(.string ⟨#[]⟩), (.string ⟨#[]⟩)]), 2, 32) := by kernel_rfl
theorem info69 : (Try.prog.info? 69).map (fun i => (i.zero, i.size, i.bytes)) = some (some (.agg #[(.string ⟨#[]⟩), (.int .i64 0), (.int .i64 0), (.int .i64 0), (.string ⟨#[]⟩)]), 5, 56) := by kernel_rfl
-- the values' own types
/-! #### struct type 47 -/
structure S47 where
  f0 : ByteArray
  f1 : ByteArray
def z47 : S47 := ⟨(⟨#[]⟩ : ByteArray), (⟨#[]⟩ : ByteArray)⟩
def k47 : Kd S47 := Kd.iso (Kd.pair Kd.string Kd.string) (fun x : S47 => (x.f0, x.f1))
theorem k47_open {w : World} {x : S47} {cs : List Value} (h : k47.K w x cs) : cs = [.string x.f0, .string x.f1] := by
  obtain ⟨_, _, rfl, rfl, rfl⟩ := h
  exact rfl
theorem k47_openM {w : World} {base : Nat} {ok : Nat → Prop} {x : S47} {cs : List Value} (h : k47.M w base ok x cs) : cs = [.string x.f0, .string x.f1] := by
  obtain ⟨_, _, rfl, rfl, rfl⟩ := h
  exact rfl
theorem k47_mk (w : World) (x : S47)  : k47.K w x [.string x.f0, .string x.f1] := ⟨[.string x.f0], [.string x.f1], rfl, rfl, rfl⟩
theorem k47_mkM (w : World) (base : Nat) (ok : Nat → Prop) (x : S47)  : k47.M w base ok x [.string x.f0, .string x.f1] := ⟨[.string x.f0], [.string x.f1], rfl, rfl, rfl⟩
theorem k47_mkF (W : World) (ok : Nat → Prop) (x : S47) : Kd.FK k47 W ok x [.string x.f0, .string x.f1] := fun W2 _ => k47_mk W2 x
def rd_T47 (xs : List S47) (i : Int) : S47 := xs.getD i.toNat z47
theorem at_T47 {w : World} {A : Option Addr} {n : Nat} {xs : List S47} (h : Kd.C k47 w A n xs) (i : Int) (h0 : 0 ≤ i) (h1 : i < n) : ∃ ad , A = some ad ∧ w.cell? (ad.add (i.toNat * 2)) = some (.string (rd_T47 xs i).f0) ∧ w.cell? ⟨(ad.add (i.toNat * 2)).block, (ad.add (i.toNat * 2)).off + 1, none⟩ = some (.string (rd_T47 xs i).f1) := by
  obtain ⟨ad, c, e, _, hK, hc0⟩ := Kd.C_get h z47 i h0 h1
  have hc : ∀ j u, c[j]? = some u → w.cell? (ad.add (i.toNat * 2 + j)) = some u := hc0
  obtain rfl := k47_open hK
  exact ⟨ad, e, hc 0 _ rfl, by rw [← add_field _ _ 1 (by omega)]; exact hc 1 _ rfl⟩

/-! #### struct type 63 -/
structure S63 where
  f0 : ByteArray
  f1 : ByteArray
def z63 : S63 := ⟨(⟨#[]⟩ : ByteArray), (⟨#[]⟩ : ByteArray)⟩
def k63 : Kd S63 := Kd.iso (Kd.pair Kd.string Kd.string) (fun x : S63 => (x.f0, x.f1))
theorem k63_open {w : World} {x : S63} {cs : List Value} (h : k63.K w x cs) : cs = [.string x.f0, .string x.f1] := by
  obtain ⟨_, _, rfl, rfl, rfl⟩ := h
  exact rfl
theorem k63_openM {w : World} {base : Nat} {ok : Nat → Prop} {x : S63} {cs : List Value} (h : k63.M w base ok x cs) : cs = [.string x.f0, .string x.f1] := by
  obtain ⟨_, _, rfl, rfl, rfl⟩ := h
  exact rfl
theorem k63_mk (w : World) (x : S63)  : k63.K w x [.string x.f0, .string x.f1] := ⟨[.string x.f0], [.string x.f1], rfl, rfl, rfl⟩
theorem k63_mkM (w : World) (base : Nat) (ok : Nat → Prop) (x : S63)  : k63.M w base ok x [.string x.f0, .string x.f1] := ⟨[.string x.f0], [.string x.f1], rfl, rfl, rfl⟩
theorem k63_mkF (W : World) (ok : Nat → Prop) (x : S63) : Kd.FK k63 W ok x [.string x.f0, .string x.f1] := fun W2 _ => k63_mk W2 x
def rd_T63 (xs : List S63) (i : Int) : S63 := xs.getD i.toNat z63
theorem at_T63 {w : World} {A : Option Addr} {n : Nat} {xs : List S63} (h : Kd.C k63 w A n xs) (i : Int) (h0 : 0 ≤ i) (h1 : i < n) : ∃ ad , A = some ad ∧ w.cell? (ad.add (i.toNat * 2)) = some (.string (rd_T63 xs i).f0) ∧ w.cell? ⟨(ad.add (i.toNat * 2)).block, (ad.add (i.toNat * 2)).off + 1, none⟩ = some (.string (rd_T63 xs i).f1) := by
  obtain ⟨ad, c, e, _, hK, hc0⟩ := Kd.C_get h z63 i h0 h1
  have hc : ∀ j u, c[j]? = some u → w.cell? (ad.add (i.toNat * 2 + j)) = some u := hc0
  obtain rfl := k63_open hK
  exact ⟨ad, e, hc 0 _ rfl, by rw [← add_field _ _ 1 (by omega)]; exact hc 1 _ rfl⟩

def rd_L4 (xs : List (List S63)) (i : Int) : (List S63) := xs.getD i.toNat ([] : List S63)
theorem at_L4 {w : World} {A : Option Addr} {n : Nat} {xs : List (List S63)} (h : Kd.C (Kd.slice 63 k63) w A n xs) (i : Int) (h0 : 0 ≤ i) (h1 : i < n) : ∃ ad A0 c0, A = some ad ∧ w.cell? (ad.add i.toNat) = some (.slice A0 (rd_L4 xs i).length c0) ∧ (rd_L4 xs i).length ≤ c0 ∧ k63.C w A0 (rd_L4 xs i).length (rd_L4 xs i) := by
  obtain ⟨ad, c, e, _, hK, hc0⟩ := Kd.C_get h ([] : List S63) i h0 h1
  have hc : ∀ j u, c[j]? = some u → w.cell? (ad.add (i.toNat * 1 + j)) = some u := hc0
  obtain ⟨A0, c0, rfl, l0, g0⟩ := hK
  exact ⟨ad, A0, c0, e, by have hq := hc 0 _ rfl; rwa [Nat.mul_one, Nat.add_zero] at hq, l0, g0⟩

/-! #### struct type 26 -/
structure S26 where
  f0 : ByteArray
  f1 : Int
  f2 : Int
  f3 : Int
  f4 : ByteArray
def z26 : S26 := ⟨(⟨#[]⟩ : ByteArray), (0 : Int), (0 : Int), (0 : Int), (⟨#[]⟩ : ByteArray)⟩
def k26 : Kd S26 := Kd.iso (Kd.pair Kd.string (Kd.pair (Kd.int .i64) (Kd.pair (Kd.int .i64) (Kd.pair (Kd.int .i64) Kd.string)))) (fun x : S26 => (x.f0, x.f1, x.f2, x.f3, x.f4))
theorem k26_open {w : World} {x : S26} {cs : List Value} (h : k26.K w x cs) : cs = [.string x.f0, .int .i64 x.f1, .int .i64 x.f2, .int .i64 x.f3, .string x.f4] := by
  obtain ⟨_, _, rfl, rfl, ⟨_, _, rfl, rfl, ⟨_, _, rfl, rfl, ⟨_, _, rfl, rfl, rfl⟩⟩⟩⟩ := h
  exact rfl
theorem k26_openM {w : World} {base : Nat} {ok : Nat → Prop} {x : S26} {cs : List Value} (h : k26.M w base ok x cs) : cs = [.string x.f0, .int .i64 x.f1, .int .i64 x.f2, .int .i64 x.f3, .string x.f4] := by
  obtain ⟨_, _, rfl, rfl, ⟨_, _, rfl, rfl, ⟨_, _, rfl, rfl, ⟨_, _, rfl, rfl, rfl⟩⟩⟩⟩ := h
  exact rfl
theorem k26_mk (w : World) (x : S26)  : k26.K w x [.string x.f0, .int .i64 x.f1, .int .i64 x.f2, .int .i64 x.f3, .string x.f4] := ⟨[.string x.f0], [.int .i64 x.f1, .int .i64 x.f2, .int .i64 x.f3, .string x.f4], rfl, rfl, ⟨[.int .i64 x.f1], [.int .i64 x.f2, .int .i64 x.f3, .string x.f4], rfl, rfl, ⟨[.int .i64 x.f2], [.int .i64 x.f3, .string x.f4], rfl, rfl, ⟨[.int .i64 x.f3], [.string x.f4], rfl, rfl, rfl⟩⟩⟩⟩
theorem k26_mkM (w : World) (base : Nat) (ok : Nat → Prop) (x : S26)  : k26.M w base ok x [.string x.f0, .int .i64 x.f1, .int .i64 x.f2, .int .i64 x.f3, .string x.f4] := ⟨[.string x.f0], [.int .i64 x.f1, .int .i64 x.f2, .int .i64 x.f3, .string x.f4], rfl, rfl, ⟨[.int .i64 x.f1], [.int .i64 x.f2, .int .i64 x.f3, .string x.f4], rfl, rfl, ⟨[.int .i64 x.f2], [.int .i64 x.f3, .string x.f4], rfl, rfl, ⟨[.int .i64 x.f3], [.string x.f4], rfl, rfl, rfl⟩⟩⟩⟩
theorem k26_mkF (W : World) (ok : Nat → Prop) (x : S26) : Kd.FK k26 W ok x [.string x.f0, .int .i64 x.f1, .int .i64 x.f2, .int .i64 x.f3, .string x.f4] := fun W2 _ => k26_mk W2 x
def rd_T26 (xs : List S26) (i : Int) : S26 := xs.getD i.toNat z26
theorem at_T26 {w : World} {A : Option Addr} {n : Nat} {xs : List S26} (h : Kd.C k26 w A n xs) (i : Int) (h0 : 0 ≤ i) (h1 : i < n) : ∃ ad , A = some ad ∧ w.cell? (ad.add (i.toNat * 5)) = some (.string (rd_T26 xs i).f0) ∧ w.cell? ⟨(ad.add (i.toNat * 5)).block, (ad.add (i.toNat * 5)).off + 1, none⟩ = some (.int .i64 (rd_T26 xs i).f1) ∧ w.cell? ⟨(ad.add (i.toNat * 5)).block, (ad.add (i.toNat * 5)).off + 2, none⟩ = some (.int .i64 (rd_T26 xs i).f2) ∧ w.cell? ⟨(ad.add (i.toNat * 5)).block, (ad.add (i.toNat * 5)).off + 3, none⟩ = some (.int .i64 (rd_T26 xs i).f3) ∧ w.cell? ⟨(ad.add (i.toNat * 5)).block, (ad.add (i.toNat * 5)).off + 4, none⟩ = some (.string (rd_T26 xs i).f4) := by
  obtain ⟨ad, c, e, _, hK, hc0⟩ := Kd.C_get h z26 i h0 h1
  have hc : ∀ j u, c[j]? = some u → w.cell? (ad.add (i.toNat * 5 + j)) = some u := hc0
  obtain rfl := k26_open hK
  exact ⟨ad, e, hc 0 _ rfl, by rw [← add_field _ _ 1 (by omega)]; exact hc 1 _ rfl, by rw [← add_field _ _ 2 (by omega)]; exact hc 2 _ rfl, by rw [← add_field _ _ 3 (by omega)]; exact hc 3 _ rfl, by rw [← add_field _ _ 4 (by omega)]; exact hc 4 _ rfl⟩

/-! #### struct type 69 -/
structure S69 where
  f0 : ByteArray
  f1 : Int
  f2 : Int
  f3 : Int
  f4 : ByteArray
def z69 : S69 := ⟨(⟨#[]⟩ : ByteArray), (0 : Int), (0 : Int), (0 : Int), (⟨#[]⟩ : ByteArray)⟩
def k69 : Kd S69 := Kd.iso (Kd.pair Kd.string (Kd.pair (Kd.int .i64) (Kd.pair (Kd.int .i64) (Kd.pair (Kd.int .i64) Kd.string)))) (fun x : S69 => (x.f0, x.f1, x.f2, x.f3, x.f4))
theorem k69_open {w : World} {x : S69} {cs : List Value} (h : k69.K w x cs) : cs = [.string x.f0, .int .i64 x.f1, .int .i64 x.f2, .int .i64 x.f3, .string x.f4] := by
  obtain ⟨_, _, rfl, rfl, ⟨_, _, rfl, rfl, ⟨_, _, rfl, rfl, ⟨_, _, rfl, rfl, rfl⟩⟩⟩⟩ := h
  exact rfl
theorem k69_openM {w : World} {base : Nat} {ok : Nat → Prop} {x : S69} {cs : List Value} (h : k69.M w base ok x cs) : cs = [.string x.f0, .int .i64 x.f1, .int .i64 x.f2, .int .i64 x.f3, .string x.f4] := by
  obtain ⟨_, _, rfl, rfl, ⟨_, _, rfl, rfl, ⟨_, _, rfl, rfl, ⟨_, _, rfl, rfl, rfl⟩⟩⟩⟩ := h
  exact rfl
theorem k69_mk (w : World) (x : S69)  : k69.K w x [.string x.f0, .int .i64 x.f1, .int .i64 x.f2, .int .i64 x.f3, .string x.f4] := ⟨[.string x.f0], [.int .i64 x.f1, .int .i64 x.f2, .int .i64 x.f3, .string x.f4], rfl, rfl, ⟨[.int .i64 x.f1], [.int .i64 x.f2, .int .i64 x.f3, .string x.f4], rfl, rfl, ⟨[.int .i64 x.f2], [.int .i64 x.f3, .string x.f4], rfl, rfl, ⟨[.int .i64 x.f3], [.string x.f4], rfl, rfl, rfl⟩⟩⟩⟩
theorem k69_mkM (w : World) (base : Nat) (ok : Nat → Prop) (x : S69)  : k69.M w base ok x [.string x.f0, .int .i64 x.f1, .int .i64 x.f2, .int .i64 x.f3, .string x.f4] := ⟨[.string x.f0], [.int .i64 x.f1, .int .i64 x.f2, .int .i64 x.f3, .string x.f4], rfl, rfl, ⟨[.int .i64 x.f1], [.int .i64 x.f2, .int .i64 x.f3, .string x.f4], rfl, rfl, ⟨[.int .i64 x.f2], [.int .i64 x.f3, .string x.f4], rfl, rfl, ⟨[.int .i64 x.f3], [.string x.f4], rfl, rfl, rfl⟩⟩⟩⟩
theorem k69_mkF (W : World) (ok : Nat → Prop) (x : S69) : Kd.FK k69 W ok x [.string x.f0, .int .i64 x.f1, .int .i64 x.f2, .int .i64 x.f3, .string x.f4] := fun W2 _ => k69_mk W2 x
def rd_T69 (xs : List S69) (i : Int) : S69 := xs.getD i.toNat z69
theorem at_T69 {w : World} {A : Option Addr} {n : Nat} {xs : List S69} (h : Kd.C k69 w A n xs) (i : Int) (h0 : 0 ≤ i) (h1 : i < n) : ∃ ad , A = some ad ∧ w.cell? (ad.add (i.toNat * 5)) = some (.string (rd_T69 xs i).f0) ∧ w.cell? ⟨(ad.add (i.toNat * 5)).block, (ad.add (i.toNat * 5)).off + 1, none⟩ = some (.int .i64 (rd_T69 xs i).f1) ∧ w.cell? ⟨(ad.add (i.toNat * 5)).block, (ad.add (i.toNat * 5)).off + 2, none⟩ = some (.int .i64 (rd_T69 xs i).f2) ∧ w.cell? ⟨(ad.add (i.toNat * 5)).block, (ad.add (i.toNat * 5)).off + 3, none⟩ = some (.int .i64 (rd_T69 xs i).f3) ∧ w.cell? ⟨(ad.add (i.toNat * 5)).block, (ad.add (i.toNat * 5)).off + 4, none⟩ = some (.string (rd_T69 xs i).f4) := by
  obtain ⟨ad, c, e, _, hK, hc0⟩ := Kd.C_get h z69 i h0 h1
  have hc : ∀ j u, c[j]? = some u → w.cell? (ad.add (i.toNat * 5 + j)) = some u := hc0
  obtain rfl := k69_open hK
  exact ⟨ad, e, hc 0 _ rfl, by rw [← add_field _ _ 1 (by omega)]; exact hc 1 _ rfl, by rw [← add_field _ _ 2 (by omega)]; exact hc 2 _ rfl, by rw [← add_field _ _ 3 (by omega)]; exact hc 3 _ rfl, by rw [← add_field _ _ 4 (by omega)]; exact hc 4 _ rfl⟩

end Go.Proofs.Ytkbmababljcabaa.QA
