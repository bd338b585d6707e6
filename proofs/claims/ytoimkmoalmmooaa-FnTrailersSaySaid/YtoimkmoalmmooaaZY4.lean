/- Texts of this claim, one behind the other (merged by wip/prune.py of this repo, without what the proof does not use): QA0, QA34, QA32, QA35, QA29, QA28, QA31, QA36, QA26, QA20, QA18, QA19, QA10, QA11, QA16. -/
import Derived.Test.YtoimkmoalmmooaaZY1
import Derived.Test.YtoimkmoalmmooaaZY2
import Derived.ArgAppend
import Derived.Below
import Derived.BigQuiet
import Derived.Deep.AppendLies
import Derived.Deep.CutBlock
import Derived.Deep.DeepCutAuto
import Derived.Deep.Draws
import Derived.Deep.LoopGhost
import Derived.Deep.OwnRows
import Derived.Deep.QuietTactic
import Derived.Deep.RegionHeld3
import Derived.KernelRfl
import Derived.Laws.BitsLemmas
import Derived.Laws.BytesArg
import Derived.Laws.IdiomCopy
import Derived.Laws.MakeOwn
import Derived.Laws.OwnMore
import Derived.Laws.Rows
import Derived.Laws.Slices
import Derived.Lib.AppendStr
import Derived.Lib.ConvBytes
import Derived.Maps.AppendAt
import Derived.OrdersHeld
import Derived.OwnWalk
import Derived.RowKit
import Derived.RowKit3
import Derived.Tactics
import Derived.Test.YtoimkmoalmmooaaProg
import Derived.WalkKit
import Derived.WideLaws
set_option linter.unusedVariables false
set_option linter.unusedSimpArgs false
namespace Go.Proofs.Ytoimkmoalmmooaa.QA
open Go.Proofs.Ytoimkmoalmmooaa.Given
open Go.Proofs.Ytoimkmoalmmooaa.PrX
open Go.RowKit Go.Proofs.YtoimkmoalmmooaaW.PrintWords Go.Proofs.YtoimkmoalmmooaaW.PrintLast Go.Proofs.YtoimkmoalmmooaaW.PrintMore
def errW : Option Int → Value
  | none => .nilIface
  | some c => .iface 0 (.int .i64 c)
theorem errW_none : errW none = .nilIface := rfl
theorem errW_some (c : Int) : errW (some c) = .iface 0 (.int .i64 c) := rfl
theorem info5 : (Try.prog.info? 5).map (fun i => (i.zero, i.size, i.bytes)) = some (some (.int .u8 0), 1, 1) := by kernel_rfl
theorem info9 : (Try.prog.info? 9).map (fun i => (i.zero, i.size, i.bytes)) = some (some (.string ⟨#[]⟩), 1, 16) := by kernel_rfl
theorem info34 : (Try.prog.info? 34).map (fun i => (i.zero, i.size, i.bytes)) = some (some (.agg #[(.string ⟨#[]⟩), (.string ⟨#[]⟩)]), 2, 32) := by kernel_rfl
theorem info66 : (Try.prog.info? 66).map (fun i => (i.zero, i.size, i.bytes)) = some (some (.agg #[(.int .i64 0), (.string ⟨#[]⟩), (.string ⟨#[]⟩), (.int .i64 0), (.int .i64 0)]), 5, 56) := by kernel_rfl
theorem info68 : (Try.prog.info? 68).map (fun i => (i.zero, i.size, i.bytes)) = some (some (.agg #[(.string ⟨#[]⟩), (.bool false), (.int .i64 0), (.slice none 0 0), (.slice none 0 0)]), 5, 80) := by kernel_rfl
theorem info72 : (Try.prog.info? 72).map (fun i => (i.zero, i.size, i.bytes)) = some (some (.agg #[(.string ⟨#[]⟩), (.string ⟨#[]⟩)]), 2, 32) := by kernel_rfl
structure S96 where
  f0 : ByteArray
  f1 : ByteArray
def z96 : S96 := ⟨(⟨#[]⟩ : ByteArray), (⟨#[]⟩ : ByteArray)⟩
def k96 : Kd S96 := Kd.iso (Kd.pair Kd.string Kd.string) (fun x : S96 => (x.f0, x.f1))
theorem k96_open {w : World} {x : S96} {cs : List Value} (h : k96.K w x cs) : cs = [.string x.f0, .string x.f1] := by
  obtain ⟨_, _, rfl, rfl, rfl⟩ := h
  exact rfl
theorem k96_mkM (w : World) (base : Nat) (ok : Nat → Prop) (x : S96)  : k96.M w base ok x [.string x.f0, .string x.f1] := ⟨[.string x.f0], [.string x.f1], rfl, rfl, rfl⟩
def rd_T96 (xs : List S96) (i : Int) : S96 := xs.getD i.toNat z96
theorem at_T96 {w : World} {A : Option Addr} {n : Nat} {xs : List S96} (h : Kd.C k96 w A n xs) (i : Int) (h0 : 0 ≤ i) (h1 : i < n) : ∃ ad , A = some ad ∧ w.cell? (ad.add (i.toNat * 2)) = some (.string (rd_T96 xs i).f0) ∧ w.cell? ⟨(ad.add (i.toNat * 2)).block, (ad.add (i.toNat * 2)).off + 1, none⟩ = some (.string (rd_T96 xs i).f1) := by
  obtain ⟨ad, c, e, _, hK, hc0⟩ := Kd.C_get h z96 i h0 h1
  have hc : ∀ j u, c[j]? = some u → w.cell? (ad.add (i.toNat * 2 + j)) = some u := hc0
  obtain rfl := k96_open hK
  exact ⟨ad, e, hc 0 _ rfl, by rw [← add_field _ _ 1 (by omega)]; exact hc 1 _ rfl⟩
structure S34 where
  f0 : ByteArray
  f1 : ByteArray
def z34 : S34 := ⟨(⟨#[]⟩ : ByteArray), (⟨#[]⟩ : ByteArray)⟩
def k34 : Kd S34 := Kd.iso (Kd.pair Kd.string Kd.string) (fun x : S34 => (x.f0, x.f1))
theorem k34_open {w : World} {x : S34} {cs : List Value} (h : k34.K w x cs) : cs = [.string x.f0, .string x.f1] := by
  obtain ⟨_, _, rfl, rfl, rfl⟩ := h
  exact rfl
theorem k34_mkM (w : World) (base : Nat) (ok : Nat → Prop) (x : S34)  : k34.M w base ok x [.string x.f0, .string x.f1] := ⟨[.string x.f0], [.string x.f1], rfl, rfl, rfl⟩
def rd_T34 (xs : List S34) (i : Int) : S34 := xs.getD i.toNat z34
theorem at_T34 {w : World} {A : Option Addr} {n : Nat} {xs : List S34} (h : Kd.C k34 w A n xs) (i : Int) (h0 : 0 ≤ i) (h1 : i < n) : ∃ ad , A = some ad ∧ w.cell? (ad.add (i.toNat * 2)) = some (.string (rd_T34 xs i).f0) ∧ w.cell? ⟨(ad.add (i.toNat * 2)).block, (ad.add (i.toNat * 2)).off + 1, none⟩ = some (.string (rd_T34 xs i).f1) := by
  obtain ⟨ad, c, e, _, hK, hc0⟩ := Kd.C_get h z34 i h0 h1
  have hc : ∀ j u, c[j]? = some u → w.cell? (ad.add (i.toNat * 2 + j)) = some u := hc0
  obtain rfl := k34_open hK
  exact ⟨ad, e, hc 0 _ rfl, by rw [← add_field _ _ 1 (by omega)]; exact hc 1 _ rfl⟩
structure S32 where
  f0 : ByteArray
  f1 : Bool
  f2 : Int
  f3 : (List ByteArray)
  f4 : (List S34)
def z32 : S32 := ⟨(⟨#[]⟩ : ByteArray), false, (0 : Int), ([] : List ByteArray), ([] : List S34)⟩
def k32 : Kd S32 := Kd.iso (Kd.pair Kd.string (Kd.pair Kd.bool (Kd.pair (Kd.int .i64) (Kd.pair (Kd.slice 9 Kd.string) (Kd.slice 34 k34))))) (fun x : S32 => (x.f0, x.f1, x.f2, x.f3, x.f4))
theorem k32_open {w : World} {x : S32} {cs : List Value} (h : k32.K w x cs) : ∃ A3 c3 A4 c4, cs = [.string x.f0, .bool x.f1, .int .i64 x.f2, .slice A3 x.f3.length c3, .slice A4 x.f4.length c4] ∧ x.f3.length ≤ c3 ∧ Kd.string.C w A3 x.f3.length x.f3 ∧ x.f4.length ≤ c4 ∧ k34.C w A4 x.f4.length x.f4 := by
  obtain ⟨_, _, rfl, rfl, ⟨_, _, rfl, rfl, ⟨_, _, rfl, rfl, ⟨_, _, rfl, ⟨A3, c3, rfl, l3, g3⟩, ⟨A4, c4, rfl, l4, g4⟩⟩⟩⟩⟩ := h
  exact ⟨A3, c3, A4, c4, rfl, l3, g3, l4, g4⟩
theorem k32_mkM (w : World) (base : Nat) (ok : Nat → Prop) (x : S32) {v3 : Value} (g3 : Kd.string.R 9 w base ok v3 x.f3) {v4 : Value} (g4 : k34.R 34 w base ok v4 x.f4) : k32.M w base ok x [.string x.f0, .bool x.f1, .int .i64 x.f2, v3, v4] := ⟨[.string x.f0], [.bool x.f1, .int .i64 x.f2, v3, v4], rfl, rfl, ⟨[.bool x.f1], [.int .i64 x.f2, v3, v4], rfl, rfl, ⟨[.int .i64 x.f2], [v3, v4], rfl, rfl, ⟨[v3], [v4], rfl, ⟨v3, rfl, g3⟩, ⟨v4, rfl, g4⟩⟩⟩⟩⟩
def rd_T32 (xs : List S32) (i : Int) : S32 := xs.getD i.toNat z32
theorem at_T32 {w : World} {A : Option Addr} {n : Nat} {xs : List S32} (h : Kd.C k32 w A n xs) (i : Int) (h0 : 0 ≤ i) (h1 : i < n) : ∃ ad A3 c3 A4 c4, A = some ad ∧ w.cell? (ad.add (i.toNat * 5)) = some (.string (rd_T32 xs i).f0) ∧ w.cell? ⟨(ad.add (i.toNat * 5)).block, (ad.add (i.toNat * 5)).off + 1, none⟩ = some (.bool (rd_T32 xs i).f1) ∧ w.cell? ⟨(ad.add (i.toNat * 5)).block, (ad.add (i.toNat * 5)).off + 2, none⟩ = some (.int .i64 (rd_T32 xs i).f2) ∧ w.cell? ⟨(ad.add (i.toNat * 5)).block, (ad.add (i.toNat * 5)).off + 3, none⟩ = some (.slice A3 (rd_T32 xs i).f3.length c3) ∧ w.cell? ⟨(ad.add (i.toNat * 5)).block, (ad.add (i.toNat * 5)).off + 4, none⟩ = some (.slice A4 (rd_T32 xs i).f4.length c4) ∧ (rd_T32 xs i).f3.length ≤ c3 ∧ Kd.string.C w A3 (rd_T32 xs i).f3.length (rd_T32 xs i).f3 ∧ (rd_T32 xs i).f4.length ≤ c4 ∧ k34.C w A4 (rd_T32 xs i).f4.length (rd_T32 xs i).f4 := by
  obtain ⟨ad, c, e, _, hK, hc0⟩ := Kd.C_get h z32 i h0 h1
  have hc : ∀ j u, c[j]? = some u → w.cell? (ad.add (i.toNat * 5 + j)) = some u := hc0
  obtain ⟨A3, c3, A4, c4, rfl, l3, g3, l4, g4⟩ := k32_open hK
  exact ⟨ad, A3, c3, A4, c4, e, hc 0 _ rfl, by rw [← add_field _ _ 1 (by omega)]; exact hc 1 _ rfl, by rw [← add_field _ _ 2 (by omega)]; exact hc 2 _ rfl, by rw [← add_field _ _ 3 (by omega)]; exact hc 3 _ rfl, by rw [← add_field _ _ 4 (by omega)]; exact hc 4 _ rfl, l3, g3, l4, g4⟩
structure S28 where
  f0 : Int
  f1 : ByteArray
  f2 : ByteArray
  f3 : Int
  f4 : Int
def z28 : S28 := ⟨(0 : Int), (⟨#[]⟩ : ByteArray), (⟨#[]⟩ : ByteArray), (0 : Int), (0 : Int)⟩
def k28 : Kd S28 := Kd.iso (Kd.pair (Kd.int .i64) (Kd.pair Kd.string (Kd.pair Kd.string (Kd.pair (Kd.int .i64) (Kd.int .i64))))) (fun x : S28 => (x.f0, x.f1, x.f2, x.f3, x.f4))
theorem k28_open {w : World} {x : S28} {cs : List Value} (h : k28.K w x cs) : cs = [.int .i64 x.f0, .string x.f1, .string x.f2, .int .i64 x.f3, .int .i64 x.f4] := by
  obtain ⟨_, _, rfl, rfl, ⟨_, _, rfl, rfl, ⟨_, _, rfl, rfl, ⟨_, _, rfl, rfl, rfl⟩⟩⟩⟩ := h
  exact rfl
theorem k28_mk (w : World) (x : S28)  : k28.K w x [.int .i64 x.f0, .string x.f1, .string x.f2, .int .i64 x.f3, .int .i64 x.f4] := ⟨[.int .i64 x.f0], [.string x.f1, .string x.f2, .int .i64 x.f3, .int .i64 x.f4], rfl, rfl, ⟨[.string x.f1], [.string x.f2, .int .i64 x.f3, .int .i64 x.f4], rfl, rfl, ⟨[.string x.f2], [.int .i64 x.f3, .int .i64 x.f4], rfl, rfl, ⟨[.int .i64 x.f3], [.int .i64 x.f4], rfl, rfl, rfl⟩⟩⟩⟩
theorem k28_mkM (w : World) (base : Nat) (ok : Nat → Prop) (x : S28)  : k28.M w base ok x [.int .i64 x.f0, .string x.f1, .string x.f2, .int .i64 x.f3, .int .i64 x.f4] := ⟨[.int .i64 x.f0], [.string x.f1, .string x.f2, .int .i64 x.f3, .int .i64 x.f4], rfl, rfl, ⟨[.string x.f1], [.string x.f2, .int .i64 x.f3, .int .i64 x.f4], rfl, rfl, ⟨[.string x.f2], [.int .i64 x.f3, .int .i64 x.f4], rfl, rfl, ⟨[.int .i64 x.f3], [.int .i64 x.f4], rfl, rfl, rfl⟩⟩⟩⟩
def rd_T28 (xs : List S28) (i : Int) : S28 := xs.getD i.toNat z28
theorem at_T28 {w : World} {A : Option Addr} {n : Nat} {xs : List S28} (h : Kd.C k28 w A n xs) (i : Int) (h0 : 0 ≤ i) (h1 : i < n) : ∃ ad , A = some ad ∧ w.cell? (ad.add (i.toNat * 5)) = some (.int .i64 (rd_T28 xs i).f0) ∧ w.cell? ⟨(ad.add (i.toNat * 5)).block, (ad.add (i.toNat * 5)).off + 1, none⟩ = some (.string (rd_T28 xs i).f1) ∧ w.cell? ⟨(ad.add (i.toNat * 5)).block, (ad.add (i.toNat * 5)).off + 2, none⟩ = some (.string (rd_T28 xs i).f2) ∧ w.cell? ⟨(ad.add (i.toNat * 5)).block, (ad.add (i.toNat * 5)).off + 3, none⟩ = some (.int .i64 (rd_T28 xs i).f3) ∧ w.cell? ⟨(ad.add (i.toNat * 5)).block, (ad.add (i.toNat * 5)).off + 4, none⟩ = some (.int .i64 (rd_T28 xs i).f4) := by
  obtain ⟨ad, c, e, _, hK, hc0⟩ := Kd.C_get h z28 i h0 h1
  have hc : ∀ j u, c[j]? = some u → w.cell? (ad.add (i.toNat * 5 + j)) = some u := hc0
  obtain rfl := k28_open hK
  exact ⟨ad, e, hc 0 _ rfl, by rw [← add_field _ _ 1 (by omega)]; exact hc 1 _ rfl, by rw [← add_field _ _ 2 (by omega)]; exact hc 2 _ rfl, by rw [← add_field _ _ 3 (by omega)]; exact hc 3 _ rfl, by rw [← add_field _ _ 4 (by omega)]; exact hc 4 _ rfl⟩
structure S72 where
  f0 : ByteArray
  f1 : ByteArray
def z72 : S72 := ⟨(⟨#[]⟩ : ByteArray), (⟨#[]⟩ : ByteArray)⟩
def k72 : Kd S72 := Kd.iso (Kd.pair Kd.string Kd.string) (fun x : S72 => (x.f0, x.f1))
theorem k72_open {w : World} {x : S72} {cs : List Value} (h : k72.K w x cs) : cs = [.string x.f0, .string x.f1] := by
  obtain ⟨_, _, rfl, rfl, rfl⟩ := h
  exact rfl
theorem k72_openM {w : World} {base : Nat} {ok : Nat → Prop} {x : S72} {cs : List Value} (h : k72.M w base ok x cs) : cs = [.string x.f0, .string x.f1] := by
  obtain ⟨_, _, rfl, rfl, rfl⟩ := h
  exact rfl
theorem k72_mkM (w : World) (base : Nat) (ok : Nat → Prop) (x : S72)  : k72.M w base ok x [.string x.f0, .string x.f1] := ⟨[.string x.f0], [.string x.f1], rfl, rfl, rfl⟩
def rd_T72 (xs : List S72) (i : Int) : S72 := xs.getD i.toNat z72
theorem at_T72 {w : World} {A : Option Addr} {n : Nat} {xs : List S72} (h : Kd.C k72 w A n xs) (i : Int) (h0 : 0 ≤ i) (h1 : i < n) : ∃ ad , A = some ad ∧ w.cell? (ad.add (i.toNat * 2)) = some (.string (rd_T72 xs i).f0) ∧ w.cell? ⟨(ad.add (i.toNat * 2)).block, (ad.add (i.toNat * 2)).off + 1, none⟩ = some (.string (rd_T72 xs i).f1) := by
  obtain ⟨ad, c, e, _, hK, hc0⟩ := Kd.C_get h z72 i h0 h1
  have hc : ∀ j u, c[j]? = some u → w.cell? (ad.add (i.toNat * 2 + j)) = some u := hc0
  obtain rfl := k72_open hK
  exact ⟨ad, e, hc 0 _ rfl, by rw [← add_field _ _ 1 (by omega)]; exact hc 1 _ rfl⟩
structure S66 where
  f0 : Int
  f1 : ByteArray
  f2 : ByteArray
  f3 : Int
  f4 : Int
def z66 : S66 := ⟨(0 : Int), (⟨#[]⟩ : ByteArray), (⟨#[]⟩ : ByteArray), (0 : Int), (0 : Int)⟩
def k66 : Kd S66 := Kd.iso (Kd.pair (Kd.int .i64) (Kd.pair Kd.string (Kd.pair Kd.string (Kd.pair (Kd.int .i64) (Kd.int .i64))))) (fun x : S66 => (x.f0, x.f1, x.f2, x.f3, x.f4))
theorem k66_open {w : World} {x : S66} {cs : List Value} (h : k66.K w x cs) : cs = [.int .i64 x.f0, .string x.f1, .string x.f2, .int .i64 x.f3, .int .i64 x.f4] := by
  obtain ⟨_, _, rfl, rfl, ⟨_, _, rfl, rfl, ⟨_, _, rfl, rfl, ⟨_, _, rfl, rfl, rfl⟩⟩⟩⟩ := h
  exact rfl
theorem k66_mkM (w : World) (base : Nat) (ok : Nat → Prop) (x : S66)  : k66.M w base ok x [.int .i64 x.f0, .string x.f1, .string x.f2, .int .i64 x.f3, .int .i64 x.f4] := ⟨[.int .i64 x.f0], [.string x.f1, .string x.f2, .int .i64 x.f3, .int .i64 x.f4], rfl, rfl, ⟨[.string x.f1], [.string x.f2, .int .i64 x.f3, .int .i64 x.f4], rfl, rfl, ⟨[.string x.f2], [.int .i64 x.f3, .int .i64 x.f4], rfl, rfl, ⟨[.int .i64 x.f3], [.int .i64 x.f4], rfl, rfl, rfl⟩⟩⟩⟩
def rd_T66 (xs : List S66) (i : Int) : S66 := xs.getD i.toNat z66
theorem at_T66 {w : World} {A : Option Addr} {n : Nat} {xs : List S66} (h : Kd.C k66 w A n xs) (i : Int) (h0 : 0 ≤ i) (h1 : i < n) : ∃ ad , A = some ad ∧ w.cell? (ad.add (i.toNat * 5)) = some (.int .i64 (rd_T66 xs i).f0) ∧ w.cell? ⟨(ad.add (i.toNat * 5)).block, (ad.add (i.toNat * 5)).off + 1, none⟩ = some (.string (rd_T66 xs i).f1) ∧ w.cell? ⟨(ad.add (i.toNat * 5)).block, (ad.add (i.toNat * 5)).off + 2, none⟩ = some (.string (rd_T66 xs i).f2) ∧ w.cell? ⟨(ad.add (i.toNat * 5)).block, (ad.add (i.toNat * 5)).off + 3, none⟩ = some (.int .i64 (rd_T66 xs i).f3) ∧ w.cell? ⟨(ad.add (i.toNat * 5)).block, (ad.add (i.toNat * 5)).off + 4, none⟩ = some (.int .i64 (rd_T66 xs i).f4) := by
  obtain ⟨ad, c, e, _, hK, hc0⟩ := Kd.C_get h z66 i h0 h1
  have hc : ∀ j u, c[j]? = some u → w.cell? (ad.add (i.toNat * 5 + j)) = some u := hc0
  obtain rfl := k66_open hK
  exact ⟨ad, e, hc 0 _ rfl, by rw [← add_field _ _ 1 (by omega)]; exact hc 1 _ rfl, by rw [← add_field _ _ 2 (by omega)]; exact hc 2 _ rfl, by rw [← add_field _ _ 3 (by omega)]; exact hc 3 _ rfl, by rw [← add_field _ _ 4 (by omega)]; exact hc 4 _ rfl⟩
structure S68 where
  f0 : ByteArray
  f1 : Bool
  f2 : Int
  f3 : (List ByteArray)
  f4 : (List S72)
def z68 : S68 := ⟨(⟨#[]⟩ : ByteArray), false, (0 : Int), ([] : List ByteArray), ([] : List S72)⟩
def k68 : Kd S68 := Kd.iso (Kd.pair Kd.string (Kd.pair Kd.bool (Kd.pair (Kd.int .i64) (Kd.pair (Kd.slice 9 Kd.string) (Kd.slice 72 k72))))) (fun x : S68 => (x.f0, x.f1, x.f2, x.f3, x.f4))
theorem k68_open {w : World} {x : S68} {cs : List Value} (h : k68.K w x cs) : ∃ A3 c3 A4 c4, cs = [.string x.f0, .bool x.f1, .int .i64 x.f2, .slice A3 x.f3.length c3, .slice A4 x.f4.length c4] ∧ x.f3.length ≤ c3 ∧ Kd.string.C w A3 x.f3.length x.f3 ∧ x.f4.length ≤ c4 ∧ k72.C w A4 x.f4.length x.f4 := by
  obtain ⟨_, _, rfl, rfl, ⟨_, _, rfl, rfl, ⟨_, _, rfl, rfl, ⟨_, _, rfl, ⟨A3, c3, rfl, l3, g3⟩, ⟨A4, c4, rfl, l4, g4⟩⟩⟩⟩⟩ := h
  exact ⟨A3, c3, A4, c4, rfl, l3, g3, l4, g4⟩
theorem k68_mkM (w : World) (base : Nat) (ok : Nat → Prop) (x : S68) {v3 : Value} (g3 : Kd.string.R 9 w base ok v3 x.f3) {v4 : Value} (g4 : k72.R 72 w base ok v4 x.f4) : k68.M w base ok x [.string x.f0, .bool x.f1, .int .i64 x.f2, v3, v4] := ⟨[.string x.f0], [.bool x.f1, .int .i64 x.f2, v3, v4], rfl, rfl, ⟨[.bool x.f1], [.int .i64 x.f2, v3, v4], rfl, rfl, ⟨[.int .i64 x.f2], [v3, v4], rfl, rfl, ⟨[v3], [v4], rfl, ⟨v3, rfl, g3⟩, ⟨v4, rfl, g4⟩⟩⟩⟩⟩
def rd_T68 (xs : List S68) (i : Int) : S68 := xs.getD i.toNat z68
theorem at_T68 {w : World} {A : Option Addr} {n : Nat} {xs : List S68} (h : Kd.C k68 w A n xs) (i : Int) (h0 : 0 ≤ i) (h1 : i < n) : ∃ ad A3 c3 A4 c4, A = some ad ∧ w.cell? (ad.add (i.toNat * 5)) = some (.string (rd_T68 xs i).f0) ∧ w.cell? ⟨(ad.add (i.toNat * 5)).block, (ad.add (i.toNat * 5)).off + 1, none⟩ = some (.bool (rd_T68 xs i).f1) ∧ w.cell? ⟨(ad.add (i.toNat * 5)).block, (ad.add (i.toNat * 5)).off + 2, none⟩ = some (.int .i64 (rd_T68 xs i).f2) ∧ w.cell? ⟨(ad.add (i.toNat * 5)).block, (ad.add (i.toNat * 5)).off + 3, none⟩ = some (.slice A3 (rd_T68 xs i).f3.length c3) ∧ w.cell? ⟨(ad.add (i.toNat * 5)).block, (ad.add (i.toNat * 5)).off + 4, none⟩ = some (.slice A4 (rd_T68 xs i).f4.length c4) ∧ (rd_T68 xs i).f3.length ≤ c3 ∧ Kd.string.C w A3 (rd_T68 xs i).f3.length (rd_T68 xs i).f3 ∧ (rd_T68 xs i).f4.length ≤ c4 ∧ k72.C w A4 (rd_T68 xs i).f4.length (rd_T68 xs i).f4 := by
  obtain ⟨ad, c, e, _, hK, hc0⟩ := Kd.C_get h z68 i h0 h1
  have hc : ∀ j u, c[j]? = some u → w.cell? (ad.add (i.toNat * 5 + j)) = some u := hc0
  obtain ⟨A3, c3, A4, c4, rfl, l3, g3, l4, g4⟩ := k68_open hK
  exact ⟨ad, A3, c3, A4, c4, e, hc 0 _ rfl, by rw [← add_field _ _ 1 (by omega)]; exact hc 1 _ rfl, by rw [← add_field _ _ 2 (by omega)]; exact hc 2 _ rfl, by rw [← add_field _ _ 3 (by omega)]; exact hc 3 _ rfl, by rw [← add_field _ _ 4 (by omega)]; exact hc 4 _ rfl, l3, g3, l4, g4⟩
def spec_without.l0 : Nat → ByteArray → List (S72) → List (S72) → Int → Int → Option ((List (S72)))
  | 0, _, _, _, _, _ => none
  | k + 1, x1, x5, x8, x9, x10 => if x10 < x9 then (if 0 ≤ x10 then (if x10 < (x8.length : Int) then (if ((rd_T72 x8 x10).f0).toList = x1.toList then (spec_without.l0 k x1 x5 x8 x9 (wrap64 (x10 + 1))) else (if x5.length < 4398046511104 then (spec_without.l0 k x1 (x5 ++ [(⟨(rd_T72 x8 x10).f0, (rd_T72 x8 x10).f1⟩ : S72)]) x8 x9 (wrap64 (x10 + 1))) else (none))) else (none)) else (none)) else (some x5)
def spec_without.f (k : Nat) (l0 : List (S72)) (a1 : ByteArray) : Option ((List (S72))) := spec_without.l0 k a1 ([] : List (S72)) l0 (l0.length : Int) 0
set_option maxHeartbeats 8000000 in
set_option maxRecDepth 100000 in
theorem spec_without.calls (k : Nat) (A0 : Option Addr) (c0 : Nat) (l0 : List (S72)) (a1 : ByteArray) (r : List (S72)) (w : World) (hr0 : Kd.C k72 w A0 l0.length l0) (hc0 : l0.length ≤ c0) (h : spec_without.f k l0 a1 = some r) :
    Calls Try.prog 37 #[.slice A0 l0.length c0, .string a1] w fun e w' => ∃ v0_ : Value, e = .returned (v0_) ∧ Kd.R k72 72 w' w.heap.size (fun _ => True) v0_ r ∧ Below w.heap.size w w' := by
  have hu72 := Try.underlying72
  have HR0 := Aside0.mk hr0
  have HC0 := Aside0.mk hc0
  clear hr0 hc0
  have HB := Aside0.mk (Below.refl w.heap.size w)
  have H : (spec_without.l0 k a1 ([] : List (S72)) l0 (l0.length : Int) 0) = some r := h
  clear h
  have H' := Aside0.mk H
  clear H
  go_enter Try.func37, Try.ntmps37
  go_wp2
  go_loopg [5, 10] k (fun kq v5 v10 w' => ∃ (x5_1 : List (S72)) (x10_1 : Int), v10 = .int .i64 x10_1 ∧ Aside0 (spec_without.l0 kq a1 x5_1 l0 (l0.length : Int) x10_1 = some r) ∧ Aside0 (kq ≤ k) ∧ Aside0 (Kd.R k72 72 w' w.heap.size (fun _ => True) v5 x5_1) ∧ Aside0 (Below w.heap.size w w'))
  case atStart => exact ⟨(([] : List (S72))), (0), (by first | rfl | (simp; done) | (rw [prx_ne]; first | done | rfl) | (simp [*]; done)), H', ⟨Nat.le_refl _⟩, ⟨by first | exact Kd.R_nil _ _ _ _ _ | exact Kd.N_nil _ _ _ _ _ | exact Kd.V_nil _ _ _ _ _ | exact Kd.Q_nil _ _ _ _ _ | exact Kd.S_nil _ _ _ _ _⟩, ⟨by repeat (first | (with_reducible first | exact HB.out | apply below_alloc | apply pw_below_drewN | apply below_drew1) | exact HB.out)⟩⟩
  case round =>
    clear H'
    try clear p2
    obtain ⟨x5_1, x10_1, rfl, HA, HK1, HO_5, HB⟩ := hrel
    cases gk with
    | zero => exact absurd HA.out (by simp [spec_without.l0])
    | succ k1 =>
      have H := HA.out
      clear HA
      simp only [spec_without.l0] at H
      by_cases c3 : x10_1 < (l0.length : Int)
      · rw [if_pos c3] at H
        have c3b0 : decide (x10_1 < (l0.length : Int)) = true := decide_eq_true c3
        clear c3
        by_cases c4 : 0 ≤ x10_1
        · rw [if_pos c4] at H
          have c4b0 : decide (0 ≤ x10_1) = true := decide_eq_true c4
          clear c4
          by_cases c5 : x10_1 < (l0.length : Int)
          · rw [if_pos c5] at H
            have c5b0 : decide (x10_1 < (l0.length : Int)) = true := decide_eq_true c5
            clear c5
            by_cases c6 : ((rd_T72 l0 x10_1).f0).toList = a1.toList
            · rw [if_pos c6] at H
              have c6b0 : (((rd_T72 l0 x10_1).f0).toList == a1.toList) = true := beq_iff_eq.mpr c6
              have c6b1 : (((rd_T72 l0 x10_1).f0).toList != a1.toList) = false := bne_eq_false_iff_eq.mpr c6
              clear c6
              have H' := Aside0.mk H
              clear H
              have p545 : 0 ≤ (x10_1 : Int) := of_decide_eq_true (by first | (with_reducible assumption) | assumption)
              have q545 : x10_1 < (l0.length : Int) := of_decide_eq_true (by first | (with_reducible assumption) | assumption)
              obtain ⟨ad545, e545, hx545_0, hx545_1⟩ := at_T72 HR0.out x10_1 p545 q545
              cases e545
              replace hx545_0 := (HB.out.cell (World.block_lt_of_cell? w _ hx545_0)).trans hx545_0
              replace hx545_1 := (HB.out.cell (World.block_lt_of_cell? w _ hx545_1)).trans hx545_1
              replace p545 := eq_true p545
              replace q545 := eq_true q545
              go_wp2_with (first | ((with_reducible refine gate_dst (N := 7) rfl ?_); refine box_event ?hg (N := 7) ?hd (cs := #[.string (⟨#[]⟩ : ByteArray), .string (⟨#[]⟩ : ByteArray)]) (t := 72) ?hr ?_; (case hd => rfl); (case hg => rfl); (case hr => first | (go_simp; done) | (go_simp; rfl)); intro gb546 hg w7 hbox hb; have n0_ := Aside0.mk (Kd.R_below (Kd.R_elderB (by (with_reducible repeat (first | apply Kd.R_alloc | apply Kd.R_drewN | apply Kd.R_drew)); exact HO_5.out) gb546 (Nat.le_of_eq hg.symm)) hb); have n1_ := Aside0.mk (below_step (by repeat (first | (with_reducible first | exact HB.out | apply below_alloc | apply pw_below_drewN | apply below_drew1) | exact HB.out)) hb); have n2_ := Aside0.mk (hbox); have n3_ := Aside0.mk ((by rw [hg]; exact (below_size (by repeat (first | (with_reducible first | exact HB.out | apply below_alloc | apply pw_below_drewN | apply below_drew1) | exact HB.out))) : w.heap.size ≤ gb546)); have n4_ := Aside0.mk ((by rw [hg]; exact (below_size (by repeat (first | (with_reducible first | exact HB.out | apply below_alloc | apply pw_below_drewN | apply below_drew1) | exact HB.out))) : w.heap.size ≤ gb546)); clear HO_5; clear HB; have HO_5 := n0_; have HB := n1_; have BK546 := n2_; have GW546 := n3_; have GE546 := n4_; clear n0_ n1_ n2_ n3_ n4_; clear hb hbox hg; have hcz8_0 : w7.cell? ⟨gb546, 0, none⟩ = some (.string (⟨#[]⟩ : ByteArray)) := (blk_cell BK546.out 0).trans rfl; have hcz8_1 : w7.cell? ⟨gb546, 1, none⟩ = some (.string (⟨#[]⟩ : ByteArray)) := (blk_cell BK546.out 1).trans rfl; have hfz8_0 := blk_frozen BK546.out 0; have hfz8_1 := blk_frozen BK546.out 1))
              go_roundg k1
              case measure => have := HK1.out; omega
              case rel => exact ⟨(x5_1), (wrap64 (x10_1 + 1)), (by first | rfl | (simp; done) | (rw [prx_ne]; first | done | rfl) | (simp [*]; done)), H', ⟨by have := HK1.out; omega⟩, ⟨by (with_reducible repeat (first | apply Kd.R_alloc | apply Kd.R_drewN | apply Kd.R_drew)); exact Kd.R_mono (Kd.R_far (p := ⟨gb546, 1, none⟩) (Kd.R_far (p := ⟨gb546, 0, none⟩) (Kd.R_mono HO_5.out (fun k_ hk => (⟨hk, hk.2⟩ : _ ∧ k_ ≠ gb546))) (fun _ hk => hk.2) (.string ((rd_T72 l0 x10_1).f0))) (fun _ hk => hk.2) (.string ((rd_T72 l0 x10_1).f1))) (fun _ hk => trivial)⟩, ⟨by repeat (first | (with_reducible first | exact HB.out | apply below_alloc | apply pw_below_drewN | apply below_drew1 | refine below_set ?_ GE546.out) | exact HB.out)⟩⟩
            · rw [if_neg c6] at H
              have c6b0 : (((rd_T72 l0 x10_1).f0).toList == a1.toList) = false := beq_eq_false_iff_ne.mpr c6
              have c6b1 : (((rd_T72 l0 x10_1).f0).toList != a1.toList) = true := bne_iff_ne.mpr c6
              by_cases c9 : x5_1.length < 4398046511104
              · rw [if_pos c9] at H
                have LMc9 := Aside0.mk c9
                clear c9
                obtain ⟨y547, hy547⟩ : ∃ y_ : List (S72), y_ = (x5_1 ++ [(⟨(rd_T72 l0 x10_1).f0, (rd_T72 l0 x10_1).f1⟩ : S72)]) := ⟨_, rfl⟩
                replace H : (spec_without.l0 k1 a1 y547 l0 (l0.length : Int) (wrap64 (x10_1 + 1))) = some r := by first | (rw [hy547]; with_reducible exact H) | (have H2_ := (Option.bind_some _ _).symm.trans H; rw [hy547]; with_reducible exact H2_) | (have H2_ := (Option.bind_some _ _).symm.trans H; with_reducible exact H2_) | with_reducible exact H | (rw [hy547]; exact H) | exact H
                have Ny547 := Aside0.mk hy547
                clear hy547
                have H' := Aside0.mk H
                clear H
                have p545 : 0 ≤ (x10_1 : Int) := of_decide_eq_true (by first | (with_reducible assumption) | assumption)
                have q545 : x10_1 < (l0.length : Int) := of_decide_eq_true (by first | (with_reducible assumption) | assumption)
                obtain ⟨ad545, e545, hx545_0, hx545_1⟩ := at_T72 HR0.out x10_1 p545 q545
                cases e545
                replace hx545_0 := (HB.out.cell (World.block_lt_of_cell? w _ hx545_0)).trans hx545_0
                replace hx545_1 := (HB.out.cell (World.block_lt_of_cell? w _ hx545_1)).trans hx545_1
                replace p545 := eq_true p545
                replace q545 := eq_true q545
                go_wp2_with (first | ((with_reducible refine gate_dst (N := 7) rfl ?_); refine box_event ?hg (N := 7) ?hd (cs := #[.string (⟨#[]⟩ : ByteArray), .string (⟨#[]⟩ : ByteArray)]) (t := 72) ?hr ?_; (case hd => rfl); (case hg => rfl); (case hr => first | (go_simp; done) | (go_simp; rfl)); intro gb546 hg w10 hbox hb; have n0_ := Aside0.mk (Kd.R_below (Kd.R_elderB (by (with_reducible repeat (first | apply Kd.R_alloc | apply Kd.R_drewN | apply Kd.R_drew)); exact HO_5.out) gb546 (Nat.le_of_eq hg.symm)) hb); have n1_ := Aside0.mk (below_step (by repeat (first | (with_reducible first | exact HB.out | apply below_alloc | apply pw_below_drewN | apply below_drew1) | exact HB.out)) hb); have n2_ := Aside0.mk (hbox); have n3_ := Aside0.mk ((by rw [hg]; exact (below_size (by repeat (first | (with_reducible first | exact HB.out | apply below_alloc | apply pw_below_drewN | apply below_drew1) | exact HB.out))) : w.heap.size ≤ gb546)); have n4_ := Aside0.mk ((by rw [hg]; exact (below_size (by repeat (first | (with_reducible first | exact HB.out | apply below_alloc | apply pw_below_drewN | apply below_drew1) | exact HB.out))) : w.heap.size ≤ gb546)); clear HO_5; clear HB; have HO_5 := n0_; have HB := n1_; have BK546 := n2_; have GW546 := n3_; have GE546 := n4_; clear n0_ n1_ n2_ n3_ n4_; clear hb hbox hg; have hcz11_0 : w10.cell? ⟨gb546, 0, none⟩ = some (.string (⟨#[]⟩ : ByteArray)) := (blk_cell BK546.out 0).trans rfl; have hcz11_1 : w10.cell? ⟨gb546, 1, none⟩ = some (.string (⟨#[]⟩ : ByteArray)) := (blk_cell BK546.out 1).trans rfl; have hfz11_0 := blk_frozen BK546.out 0; have hfz11_1 := blk_frozen BK546.out 1) | ((with_reducible refine gate_builtin (b := .append) (xs := #[.tmp 18, .tmp 20]) rfl ?_); at_builtin; refine Kd.R_append k72 (w0 := w) w.heap.size rfl (.tmp 18) (.tmp 20) 65 72 (.agg #[(.string ⟨#[]⟩), (.string ⟨#[]⟩)]) 32 rfl Try.underlying65 info72 rfl (by decide) (by omega) u5 x5_1 (⟨(rd_T72 l0 x10_1).f0, (rd_T72 l0 x10_1).f1⟩ : S72) [.string ((rd_T72 l0 x10_1).f0), .string ((rd_T72 l0 x10_1).f1)] (fun k_ => k_ ≠ gb546) (fun _ => False) rfl (by first | (go_simp; done) | (go_simp; rfl)) ?aP (fun _ hk => hk.elim) ?aF ?aO ?aB ?aS ?aL ?_; (case aP => exact k72_mkM _ _ _ (⟨(rd_T72 l0 x10_1).f0, (rd_T72 l0 x10_1).f1⟩ : S72)); (case aB => exact (by repeat (first | (with_reducible first | exact HB.out | apply below_alloc | apply pw_below_drewN | apply below_drew1 | refine below_set ?_ GE546.out) | exact HB.out))); (case aF => exact (fun k_ hk => Kd.freshB (g := gb546) (o := .cells #[.string ((rd_T72 l0 x10_1).f0), .string ((rd_T72 l0 x10_1).f1)] 72 (0, 0)) (by (with_reducible repeat (first | refine blk_drewN ?_ _ | refine blk_drew ?_ | refine blk_alloc ?_ _)); refine blk_put (cs := #[.string ((rd_T72 l0 x10_1).f0), .string (⟨#[]⟩ : ByteArray)]) ?_ 1 _ rfl; (with_reducible repeat (first | refine blk_drewN ?_ _ | refine blk_drew ?_ | refine blk_alloc ?_ _)); refine blk_put (cs := #[.string (⟨#[]⟩ : ByteArray), .string (⟨#[]⟩ : ByteArray)]) ?_ 0 _ rfl; (with_reducible repeat (first | refine blk_drewN ?_ _ | refine blk_drew ?_ | refine blk_alloc ?_ _)); exact BK546.out) k_ hk)); (case aO => exact (by (with_reducible repeat (first | apply Kd.R_alloc | apply Kd.R_drewN | apply Kd.R_drew)); exact Kd.R_mono (Kd.R_far (p := ⟨gb546, 1, none⟩) (Kd.R_far (p := ⟨gb546, 0, none⟩) (Kd.R_mono HO_5.out (fun k_ hk => (⟨hk, hk.2⟩ : _ ∧ k_ ≠ gb546))) (fun _ hk => hk.2) (.string ((rd_T72 l0 x10_1).f0))) (fun _ hk => hk.2) (.string ((rd_T72 l0 x10_1).f1))) (fun _ hk => hk.1.2))); (case aS => exact (below_size (by repeat (first | (with_reducible first | exact HB.out | apply below_alloc | apply pw_below_drewN | apply below_drew1 | refine below_set ?_ GE546.out) | exact HB.out)))); (case aL => have := LMc9.out; omega); intro v548 w12 ho hb hg hat; rw [← Ny547.out] at ho; have n0_ := Aside0.mk (blk_grown (g := gb546) (o := .cells #[.string ((rd_T72 l0 x10_1).f0), .string ((rd_T72 l0 x10_1).f1)] 72 (0, 0)) (by (with_reducible repeat (first | refine blk_drewN ?_ _ | refine blk_drew ?_ | refine blk_alloc ?_ _)); refine blk_put (cs := #[.string ((rd_T72 l0 x10_1).f0), .string (⟨#[]⟩ : ByteArray)]) ?_ 1 _ rfl; (with_reducible repeat (first | refine blk_drewN ?_ _ | refine blk_drew ?_ | refine blk_alloc ?_ _)); refine blk_put (cs := #[.string (⟨#[]⟩ : ByteArray), .string (⟨#[]⟩ : ByteArray)]) ?_ 0 _ rfl; (with_reducible repeat (first | refine blk_drewN ?_ _ | refine blk_drew ?_ | refine blk_alloc ?_ _)); exact BK546.out) hg (Kd.R_away HO_5.out (fun _ hk => hk.2))); have n1_ := Aside0.mk (hb); have n2_ := Aside0.mk (ho); clear BK546; clear HB; clear HO_5; have BK546 := n0_; have HB := n1_; have HO549 := n2_; clear n0_ n1_ n2_; clear ho hb hg hat))
                go_roundg k1
                case measure => have := HK1.out; omega
                case rel => exact ⟨(y547), (wrap64 (x10_1 + 1)), (by first | rfl | (simp; done) | (rw [prx_ne]; first | done | rfl) | (simp [*]; done)), H', ⟨by have := HK1.out; omega⟩, ⟨by (with_reducible repeat (first | apply Kd.R_alloc | apply Kd.R_drewN | apply Kd.R_drew)); exact Kd.R_mono HO549.out (fun _ hk => trivial)⟩, ⟨by repeat (first | (with_reducible first | exact HB.out | apply below_alloc | apply pw_below_drewN | apply below_drew1 | refine below_set ?_ GE546.out) | exact HB.out)⟩⟩
              · rw [if_neg c9] at H
                exact absurd H (by simp)
          · rw [if_neg c5] at H
            exact absurd H (by simp)
        · rw [if_neg c4] at H
          exact absurd H (by simp)
      · rw [if_neg c3] at H
        have c3b0 : decide (x10_1 < (l0.length : Int)) = false := decide_eq_false c3
        clear c3
        obtain rfl := Option.some.inj H
        go_wp2
        go_ret
        exact ⟨_, by first | rfl | (simp [errW_none, errW_some] <;> rfl) | (simp [*, errW_none, errW_some] <;> rfl), by (with_reducible repeat (first | apply Kd.R_alloc | apply Kd.R_drewN | apply Kd.R_drew)); exact HO_5.out, by repeat (first | (with_reducible first | exact HB.out | apply below_alloc | apply pw_below_drewN | apply below_drew1) | exact HB.out)⟩
def spec_allOf.l0 : Nat → ByteArray → List ByteArray → List (S72) → Int → Int → Option (List ByteArray)
  | 0, _, _, _, _, _ => none
  | k + 1, x1, x5, x8, x9, x10 => if x10 < x9 then (if 0 ≤ x10 then (if x10 < (x8.length : Int) then (if ((rd_T72 x8 x10).f0).toList = x1.toList then (if x5.length < 8796093022208 then (spec_allOf.l0 k x1 (x5 ++ [(rd_T72 x8 x10).f1]) x8 x9 (wrap64 (x10 + 1))) else (none)) else (spec_allOf.l0 k x1 x5 x8 x9 (wrap64 (x10 + 1)))) else (none)) else (none)) else (some x5)
def spec_allOf.f (k : Nat) (l0 : List (S72)) (a1 : ByteArray) : Option (List ByteArray) := spec_allOf.l0 k a1 ([] : List ByteArray) l0 (l0.length : Int) 0
set_option maxHeartbeats 8000000 in
set_option maxRecDepth 100000 in
theorem spec_allOf.calls (k : Nat) (A0 : Option Addr) (c0 : Nat) (l0 : List (S72)) (a1 : ByteArray) (r : List ByteArray) (w : World) (hr0 : Kd.C k72 w A0 l0.length l0) (hc0 : l0.length ≤ c0) (h : spec_allOf.f k l0 a1 = some r) :
    Calls Try.prog 34 #[.slice A0 l0.length c0, .string a1] w fun e w' => ∃ v0_ : Value, e = .returned (v0_) ∧ Kd.R Kd.string 9 w' w.heap.size (fun _ => True) v0_ r ∧ Below w.heap.size w w' := by
  have hu72 := Try.underlying72
  have HR0 := Aside0.mk hr0
  have HC0 := Aside0.mk hc0
  clear hr0 hc0
  have HB := Aside0.mk (Below.refl w.heap.size w)
  have H : (spec_allOf.l0 k a1 ([] : List ByteArray) l0 (l0.length : Int) 0) = some r := h
  clear h
  have H' := Aside0.mk H
  clear H
  go_enter Try.func34, Try.ntmps34
  go_wp2
  go_loopg [5, 10] k (fun kq v5 v10 w' => ∃ (x5_1 : List ByteArray) (x10_1 : Int), v10 = .int .i64 x10_1 ∧ Aside0 (spec_allOf.l0 kq a1 x5_1 l0 (l0.length : Int) x10_1 = some r) ∧ Aside0 (kq ≤ k) ∧ Aside0 (Kd.R Kd.string 9 w' w.heap.size (fun _ => True) v5 x5_1) ∧ Aside0 (Below w.heap.size w w'))
  case atStart => exact ⟨(([] : List ByteArray)), (0), (by first | rfl | (simp; done) | (rw [prx_ne]; first | done | rfl) | (simp [*]; done)), H', ⟨Nat.le_refl _⟩, ⟨by first | exact Kd.R_nil _ _ _ _ _ | exact Kd.N_nil _ _ _ _ _ | exact Kd.V_nil _ _ _ _ _ | exact Kd.Q_nil _ _ _ _ _ | exact Kd.S_nil _ _ _ _ _⟩, ⟨by repeat (first | (with_reducible first | exact HB.out | apply below_alloc | apply pw_below_drewN | apply below_drew1) | exact HB.out)⟩⟩
  case round =>
    clear H'
    try clear p2
    obtain ⟨x5_1, x10_1, rfl, HA, HK1, HO_5, HB⟩ := hrel
    cases gk with
    | zero => exact absurd HA.out (by simp [spec_allOf.l0])
    | succ k1 =>
      have H := HA.out
      clear HA
      simp only [spec_allOf.l0] at H
      by_cases c3 : x10_1 < (l0.length : Int)
      · rw [if_pos c3] at H
        have c3b0 : decide (x10_1 < (l0.length : Int)) = true := decide_eq_true c3
        clear c3
        by_cases c4 : 0 ≤ x10_1
        · rw [if_pos c4] at H
          have c4b0 : decide (0 ≤ x10_1) = true := decide_eq_true c4
          clear c4
          by_cases c5 : x10_1 < (l0.length : Int)
          · rw [if_pos c5] at H
            have c5b0 : decide (x10_1 < (l0.length : Int)) = true := decide_eq_true c5
            clear c5
            by_cases c6 : ((rd_T72 l0 x10_1).f0).toList = a1.toList
            · rw [if_pos c6] at H
              have c6b0 : (((rd_T72 l0 x10_1).f0).toList == a1.toList) = true := beq_iff_eq.mpr c6
              have c6b1 : (((rd_T72 l0 x10_1).f0).toList != a1.toList) = false := bne_eq_false_iff_eq.mpr c6
              clear c6
              by_cases c7 : x5_1.length < 8796093022208
              · rw [if_pos c7] at H
                have LMc7 := Aside0.mk c7
                clear c7
                obtain ⟨y531, hy531⟩ : ∃ y_ : List ByteArray, y_ = (x5_1 ++ [(rd_T72 l0 x10_1).f1]) := ⟨_, rfl⟩
                replace H : (spec_allOf.l0 k1 a1 y531 l0 (l0.length : Int) (wrap64 (x10_1 + 1))) = some r := by first | (rw [hy531]; with_reducible exact H) | (have H2_ := (Option.bind_some _ _).symm.trans H; rw [hy531]; with_reducible exact H2_) | (have H2_ := (Option.bind_some _ _).symm.trans H; with_reducible exact H2_) | with_reducible exact H | (rw [hy531]; exact H) | exact H
                have Ny531 := Aside0.mk hy531
                clear hy531
                have H' := Aside0.mk H
                clear H
                have p529 : 0 ≤ (x10_1 : Int) := of_decide_eq_true (by first | (with_reducible assumption) | assumption)
                have q529 : x10_1 < (l0.length : Int) := of_decide_eq_true (by first | (with_reducible assumption) | assumption)
                obtain ⟨ad529, e529, hx529_0, hx529_1⟩ := at_T72 HR0.out x10_1 p529 q529
                cases e529
                replace hx529_0 := (HB.out.cell (World.block_lt_of_cell? w _ hx529_0)).trans hx529_0
                replace hx529_1 := (HB.out.cell (World.block_lt_of_cell? w _ hx529_1)).trans hx529_1
                replace p529 := eq_true p529
                replace q529 := eq_true q529
                go_wp2_with (first | ((with_reducible refine gate_dst (N := 7) rfl ?_); refine box_event ?hg (N := 7) ?hd (cs := #[.string (⟨#[]⟩ : ByteArray), .string (⟨#[]⟩ : ByteArray)]) (t := 72) ?hr ?_; (case hd => rfl); (case hg => rfl); (case hr => first | (go_simp; done) | (go_simp; rfl)); intro gb530 hg w8 hbox hb; have n0_ := Aside0.mk (Kd.R_below (by (with_reducible repeat (first | apply Kd.R_alloc | apply Kd.R_drewN | apply Kd.R_drew)); exact HO_5.out) hb); have n1_ := Aside0.mk (below_step (by repeat (first | (with_reducible first | exact HB.out | apply below_alloc | apply pw_below_drewN | apply below_drew1) | exact HB.out)) hb); have n2_ := Aside0.mk (hbox); have n3_ := Aside0.mk ((by rw [hg]; exact (below_size (by repeat (first | (with_reducible first | exact HB.out | apply below_alloc | apply pw_below_drewN | apply below_drew1) | exact HB.out))) : w.heap.size ≤ gb530)); have n4_ := Aside0.mk ((by rw [hg]; exact (below_size (by repeat (first | (with_reducible first | exact HB.out | apply below_alloc | apply pw_below_drewN | apply below_drew1) | exact HB.out))) : w.heap.size ≤ gb530)); clear HO_5; clear HB; have HO_5 := n0_; have HB := n1_; have BK530 := n2_; have GW530 := n3_; have GE530 := n4_; clear n0_ n1_ n2_ n3_ n4_; clear hb hbox hg; have hcz9_0 : w8.cell? ⟨gb530, 0, none⟩ = some (.string (⟨#[]⟩ : ByteArray)) := (blk_cell BK530.out 0).trans rfl; have hcz9_1 : w8.cell? ⟨gb530, 1, none⟩ = some (.string (⟨#[]⟩ : ByteArray)) := (blk_cell BK530.out 1).trans rfl; have hfz9_0 := blk_frozen BK530.out 0; have hfz9_1 := blk_frozen BK530.out 1) | ((with_reducible refine gate_builtin (b := .append) (xs := #[.tmp 18, .tmp 21]) rfl ?_); at_builtin; refine Kd.R_append Kd.string (w0 := w) w.heap.size rfl (.tmp 18) (.tmp 21) 22 9 (.string ⟨#[]⟩) 16 rfl Try.underlying22 info9 rfl (by decide) (by omega) u5 x5_1 ((rd_T72 l0 x10_1).f1) [.string ((rd_T72 l0 x10_1).f1)] (fun _ => True) (fun _ => False) rfl (by first | (go_simp; done) | (go_simp; rfl)) ?aP (fun _ hk => hk.elim) ?aF ?aO ?aB ?aS ?aL ?_; (case aP => exact rfl); (case aB => exact (by repeat (first | (with_reducible first | exact HB.out | apply below_alloc | apply pw_below_drewN | apply below_drew1 | refine below_set ?_ GE530.out) | exact HB.out))); (case aF => exact (fun _ _ => trivial)); (case aO => exact (by (with_reducible repeat (first | apply Kd.R_alloc | apply Kd.R_drewN | apply Kd.R_drew)); exact Kd.R_mono (Kd.R_far (p := ⟨gb530, 1, none⟩) (Kd.R_far (p := ⟨gb530, 0, none⟩) (Kd.R_types HO_5.out BK530.out (by decide)) (fun _ hk => hk.2) (.string ((rd_T72 l0 x10_1).f0))) (fun _ hk => hk.2) (.string ((rd_T72 l0 x10_1).f1))) (fun _ hk => trivial))); (case aS => exact (below_size (by repeat (first | (with_reducible first | exact HB.out | apply below_alloc | apply pw_below_drewN | apply below_drew1 | refine below_set ?_ GE530.out) | exact HB.out)))); (case aL => have := LMc7.out; omega); intro v532 w10 ho hb hg hat; rw [← Ny531.out] at ho; have n0_ := Aside0.mk (blk_grown (g := gb530) (o := .cells #[.string ((rd_T72 l0 x10_1).f0), .string ((rd_T72 l0 x10_1).f1)] 72 (0, 0)) (by (with_reducible repeat (first | refine blk_drewN ?_ _ | refine blk_drew ?_ | refine blk_alloc ?_ _)); refine blk_put (cs := #[.string ((rd_T72 l0 x10_1).f0), .string (⟨#[]⟩ : ByteArray)]) ?_ 1 _ rfl; (with_reducible repeat (first | refine blk_drewN ?_ _ | refine blk_drew ?_ | refine blk_alloc ?_ _)); refine blk_put (cs := #[.string (⟨#[]⟩ : ByteArray), .string (⟨#[]⟩ : ByteArray)]) ?_ 0 _ rfl; (with_reducible repeat (first | refine blk_drewN ?_ _ | refine blk_drew ?_ | refine blk_alloc ?_ _)); exact BK530.out) hg (Kd.R_ne HO_5.out BK530.out (by decide))); have n1_ := Aside0.mk (hb); have n2_ := Aside0.mk (ho); clear BK530; clear HB; clear HO_5; have BK530 := n0_; have HB := n1_; have HO533 := n2_; clear n0_ n1_ n2_; clear ho hb hg hat))
                go_roundg k1
                case measure => have := HK1.out; omega
                case rel => exact ⟨(y531), (wrap64 (x10_1 + 1)), (by first | rfl | (simp; done) | (rw [prx_ne]; first | done | rfl) | (simp [*]; done)), H', ⟨by have := HK1.out; omega⟩, ⟨by (with_reducible repeat (first | apply Kd.R_alloc | apply Kd.R_drewN | apply Kd.R_drew)); exact HO533.out⟩, ⟨by repeat (first | (with_reducible first | exact HB.out | apply below_alloc | apply pw_below_drewN | apply below_drew1 | refine below_set ?_ GE530.out) | exact HB.out)⟩⟩
              · rw [if_neg c7] at H
                exact absurd H (by simp)
            · rw [if_neg c6] at H
              have c6b0 : (((rd_T72 l0 x10_1).f0).toList == a1.toList) = false := beq_eq_false_iff_ne.mpr c6
              have c6b1 : (((rd_T72 l0 x10_1).f0).toList != a1.toList) = true := bne_iff_ne.mpr c6
              have H' := Aside0.mk H
              clear H
              have p529 : 0 ≤ (x10_1 : Int) := of_decide_eq_true (by first | (with_reducible assumption) | assumption)
              have q529 : x10_1 < (l0.length : Int) := of_decide_eq_true (by first | (with_reducible assumption) | assumption)
              obtain ⟨ad529, e529, hx529_0, hx529_1⟩ := at_T72 HR0.out x10_1 p529 q529
              cases e529
              replace hx529_0 := (HB.out.cell (World.block_lt_of_cell? w _ hx529_0)).trans hx529_0
              replace hx529_1 := (HB.out.cell (World.block_lt_of_cell? w _ hx529_1)).trans hx529_1
              replace p529 := eq_true p529
              replace q529 := eq_true q529
              go_wp2_with (first | ((with_reducible refine gate_dst (N := 7) rfl ?_); refine box_event ?hg (N := 7) ?hd (cs := #[.string (⟨#[]⟩ : ByteArray), .string (⟨#[]⟩ : ByteArray)]) (t := 72) ?hr ?_; (case hd => rfl); (case hg => rfl); (case hr => first | (go_simp; done) | (go_simp; rfl)); intro gb530 hg w11 hbox hb; have n0_ := Aside0.mk (Kd.R_below (by (with_reducible repeat (first | apply Kd.R_alloc | apply Kd.R_drewN | apply Kd.R_drew)); exact HO_5.out) hb); have n1_ := Aside0.mk (below_step (by repeat (first | (with_reducible first | exact HB.out | apply below_alloc | apply pw_below_drewN | apply below_drew1) | exact HB.out)) hb); have n2_ := Aside0.mk (hbox); have n3_ := Aside0.mk ((by rw [hg]; exact (below_size (by repeat (first | (with_reducible first | exact HB.out | apply below_alloc | apply pw_below_drewN | apply below_drew1) | exact HB.out))) : w.heap.size ≤ gb530)); have n4_ := Aside0.mk ((by rw [hg]; exact (below_size (by repeat (first | (with_reducible first | exact HB.out | apply below_alloc | apply pw_below_drewN | apply below_drew1) | exact HB.out))) : w.heap.size ≤ gb530)); clear HO_5; clear HB; have HO_5 := n0_; have HB := n1_; have BK530 := n2_; have GW530 := n3_; have GE530 := n4_; clear n0_ n1_ n2_ n3_ n4_; clear hb hbox hg; have hcz12_0 : w11.cell? ⟨gb530, 0, none⟩ = some (.string (⟨#[]⟩ : ByteArray)) := (blk_cell BK530.out 0).trans rfl; have hcz12_1 : w11.cell? ⟨gb530, 1, none⟩ = some (.string (⟨#[]⟩ : ByteArray)) := (blk_cell BK530.out 1).trans rfl; have hfz12_0 := blk_frozen BK530.out 0; have hfz12_1 := blk_frozen BK530.out 1))
              go_roundg k1
              case measure => have := HK1.out; omega
              case rel => exact ⟨(x5_1), (wrap64 (x10_1 + 1)), (by first | rfl | (simp; done) | (rw [prx_ne]; first | done | rfl) | (simp [*]; done)), H', ⟨by have := HK1.out; omega⟩, ⟨by (with_reducible repeat (first | apply Kd.R_alloc | apply Kd.R_drewN | apply Kd.R_drew)); exact Kd.R_mono (Kd.R_far (p := ⟨gb530, 1, none⟩) (Kd.R_far (p := ⟨gb530, 0, none⟩) (Kd.R_types HO_5.out BK530.out (by decide)) (fun _ hk => hk.2) (.string ((rd_T72 l0 x10_1).f0))) (fun _ hk => hk.2) (.string ((rd_T72 l0 x10_1).f1))) (fun _ hk => trivial)⟩, ⟨by repeat (first | (with_reducible first | exact HB.out | apply below_alloc | apply pw_below_drewN | apply below_drew1 | refine below_set ?_ GE530.out) | exact HB.out)⟩⟩
          · rw [if_neg c5] at H
            exact absurd H (by simp)
        · rw [if_neg c4] at H
          exact absurd H (by simp)
      · rw [if_neg c3] at H
        have c3b0 : decide (x10_1 < (l0.length : Int)) = false := decide_eq_false c3
        clear c3
        obtain rfl := Option.some.inj H
        go_wp2
        go_ret
        exact ⟨_, by first | rfl | (simp [errW_none, errW_some] <;> rfl) | (simp [*, errW_none, errW_some] <;> rfl), by (with_reducible repeat (first | apply Kd.R_alloc | apply Kd.R_drewN | apply Kd.R_drew)); exact HO_5.out, by repeat (first | (with_reducible first | exact HB.out | apply below_alloc | apply pw_below_drewN | apply below_drew1) | exact HB.out)⟩
def spec_firstOf.l0 : Nat → ByteArray → List (S72) → Int → Int → Option (ByteArray)
  | 0, _, _, _, _ => none
  | k + 1, x1, x7, x8, x9 => if x9 < x8 then (if 0 ≤ x9 then (if x9 < (x7.length : Int) then (if ((rd_T72 x7 x9).f0).toList = x1.toList then (some ((rd_T72 x7 x9).f1)) else (spec_firstOf.l0 k x1 x7 x8 (wrap64 (x9 + 1)))) else (none)) else (none)) else (some (⟨#[]⟩ : ByteArray))
def spec_firstOf.f (k : Nat) (l0 : List (S72)) (a1 : ByteArray) : Option (ByteArray) := spec_firstOf.l0 k a1 l0 (l0.length : Int) 0
set_option maxHeartbeats 8000000 in
set_option maxRecDepth 100000 in
theorem spec_firstOf.calls (k : Nat) (A0 : Option Addr) (c0 : Nat) (l0 : List (S72)) (a1 : ByteArray) (r : ByteArray) (w : World) (hr0 : Kd.C k72 w A0 l0.length l0) (hc0 : l0.length ≤ c0) (h : spec_firstOf.f k l0 a1 = some r) :
    Calls Try.prog 38 #[.slice A0 l0.length c0, .string a1] w fun e w' => e = .returned (.string r) ∧ Below w.heap.size w w' := by
  have hu72 := Try.underlying72
  have HR0 := Aside0.mk hr0
  have HC0 := Aside0.mk hc0
  clear hr0 hc0
  have HB := Aside0.mk (Below.refl w.heap.size w)
  have H : (spec_firstOf.l0 k a1 l0 (l0.length : Int) 0) = some r := h
  clear h
  have H' := Aside0.mk H
  clear H
  go_enter Try.func38, Try.ntmps38
  go_wp2
  go_loopg [9] k (fun kq v9 w' => ∃ (x9_1 : Int), v9 = .int .i64 x9_1 ∧ Aside0 (spec_firstOf.l0 kq a1 l0 (l0.length : Int) x9_1 = some r) ∧ Aside0 (kq ≤ k) ∧ Aside0 (Below w.heap.size w w'))
  case atStart => exact ⟨(0), (by first | rfl | (simp; done) | (rw [prx_ne]; first | done | rfl) | (simp [*]; done)), H', ⟨Nat.le_refl _⟩, ⟨by repeat (first | (with_reducible first | exact HB.out | apply below_alloc | apply pw_below_drewN | apply below_drew1) | exact HB.out)⟩⟩
  case round =>
    clear H'
    try clear p2
    obtain ⟨x9_1, rfl, HA, HK1, HB⟩ := hrel
    cases gk with
    | zero => exact absurd HA.out (by simp [spec_firstOf.l0])
    | succ k1 =>
      have H := HA.out
      clear HA
      simp only [spec_firstOf.l0] at H
      by_cases c3 : x9_1 < (l0.length : Int)
      · rw [if_pos c3] at H
        have c3b0 : decide (x9_1 < (l0.length : Int)) = true := decide_eq_true c3
        clear c3
        by_cases c4 : 0 ≤ x9_1
        · rw [if_pos c4] at H
          have c4b0 : decide (0 ≤ x9_1) = true := decide_eq_true c4
          clear c4
          by_cases c5 : x9_1 < (l0.length : Int)
          · rw [if_pos c5] at H
            have c5b0 : decide (x9_1 < (l0.length : Int)) = true := decide_eq_true c5
            clear c5
            by_cases c6 : ((rd_T72 l0 x9_1).f0).toList = a1.toList
            · rw [if_pos c6] at H
              have c6b0 : (((rd_T72 l0 x9_1).f0).toList == a1.toList) = true := beq_iff_eq.mpr c6
              have c6b1 : (((rd_T72 l0 x9_1).f0).toList != a1.toList) = false := bne_eq_false_iff_eq.mpr c6
              clear c6
              obtain rfl := Option.some.inj H
              have p550 : 0 ≤ (x9_1 : Int) := of_decide_eq_true (by first | (with_reducible assumption) | assumption)
              have q550 : x9_1 < (l0.length : Int) := of_decide_eq_true (by first | (with_reducible assumption) | assumption)
              obtain ⟨ad550, e550, hx550_0, hx550_1⟩ := at_T72 HR0.out x9_1 p550 q550
              cases e550
              replace hx550_0 := (HB.out.cell (World.block_lt_of_cell? w _ hx550_0)).trans hx550_0
              replace hx550_1 := (HB.out.cell (World.block_lt_of_cell? w _ hx550_1)).trans hx550_1
              replace p550 := eq_true p550
              replace q550 := eq_true q550
              go_wp2_with (first | ((with_reducible refine gate_dst (N := 6) rfl ?_); refine box_event ?hg (N := 6) ?hd (cs := #[.string (⟨#[]⟩ : ByteArray), .string (⟨#[]⟩ : ByteArray)]) (t := 72) ?hr ?_; (case hd => rfl); (case hg => rfl); (case hr => first | (go_simp; done) | (go_simp; rfl)); intro gb551 hg w7 hbox hb; have n0_ := Aside0.mk (below_step (by repeat (first | (with_reducible first | exact HB.out | apply below_alloc | apply pw_below_drewN | apply below_drew1) | exact HB.out)) hb); have n1_ := Aside0.mk (hbox); have n2_ := Aside0.mk ((by rw [hg]; exact (below_size (by repeat (first | (with_reducible first | exact HB.out | apply below_alloc | apply pw_below_drewN | apply below_drew1) | exact HB.out))) : w.heap.size ≤ gb551)); have n3_ := Aside0.mk ((by rw [hg]; exact (below_size (by repeat (first | (with_reducible first | exact HB.out | apply below_alloc | apply pw_below_drewN | apply below_drew1) | exact HB.out))) : w.heap.size ≤ gb551)); clear HB; have HB := n0_; have BK551 := n1_; have GW551 := n2_; have GE551 := n3_; clear n0_ n1_ n2_ n3_; clear hb hbox hg; have hcz8_0 : w7.cell? ⟨gb551, 0, none⟩ = some (.string (⟨#[]⟩ : ByteArray)) := (blk_cell BK551.out 0).trans rfl; have hcz8_1 : w7.cell? ⟨gb551, 1, none⟩ = some (.string (⟨#[]⟩ : ByteArray)) := (blk_cell BK551.out 1).trans rfl; have hfz8_0 := blk_frozen BK551.out 0; have hfz8_1 := blk_frozen BK551.out 1))
              go_ret
              exact ⟨by first | rfl | (simp [errW_none, errW_some] <;> rfl) | (simp [*, errW_none, errW_some] <;> rfl), by repeat (first | (with_reducible first | exact HB.out | apply below_alloc | apply pw_below_drewN | apply below_drew1 | refine below_set ?_ GE551.out) | exact HB.out)⟩
            · rw [if_neg c6] at H
              have c6b0 : (((rd_T72 l0 x9_1).f0).toList == a1.toList) = false := beq_eq_false_iff_ne.mpr c6
              have c6b1 : (((rd_T72 l0 x9_1).f0).toList != a1.toList) = true := bne_iff_ne.mpr c6
              have H' := Aside0.mk H
              clear H
              have p550 : 0 ≤ (x9_1 : Int) := of_decide_eq_true (by first | (with_reducible assumption) | assumption)
              have q550 : x9_1 < (l0.length : Int) := of_decide_eq_true (by first | (with_reducible assumption) | assumption)
              obtain ⟨ad550, e550, hx550_0, hx550_1⟩ := at_T72 HR0.out x9_1 p550 q550
              cases e550
              replace hx550_0 := (HB.out.cell (World.block_lt_of_cell? w _ hx550_0)).trans hx550_0
              replace hx550_1 := (HB.out.cell (World.block_lt_of_cell? w _ hx550_1)).trans hx550_1
              replace p550 := eq_true p550
              replace q550 := eq_true q550
              go_wp2_with (first | ((with_reducible refine gate_dst (N := 6) rfl ?_); refine box_event ?hg (N := 6) ?hd (cs := #[.string (⟨#[]⟩ : ByteArray), .string (⟨#[]⟩ : ByteArray)]) (t := 72) ?hr ?_; (case hd => rfl); (case hg => rfl); (case hr => first | (go_simp; done) | (go_simp; rfl)); intro gb551 hg w9 hbox hb; have n0_ := Aside0.mk (below_step (by repeat (first | (with_reducible first | exact HB.out | apply below_alloc | apply pw_below_drewN | apply below_drew1) | exact HB.out)) hb); have n1_ := Aside0.mk (hbox); have n2_ := Aside0.mk ((by rw [hg]; exact (below_size (by repeat (first | (with_reducible first | exact HB.out | apply below_alloc | apply pw_below_drewN | apply below_drew1) | exact HB.out))) : w.heap.size ≤ gb551)); have n3_ := Aside0.mk ((by rw [hg]; exact (below_size (by repeat (first | (with_reducible first | exact HB.out | apply below_alloc | apply pw_below_drewN | apply below_drew1) | exact HB.out))) : w.heap.size ≤ gb551)); clear HB; have HB := n0_; have BK551 := n1_; have GW551 := n2_; have GE551 := n3_; clear n0_ n1_ n2_ n3_; clear hb hbox hg; have hcz10_0 : w9.cell? ⟨gb551, 0, none⟩ = some (.string (⟨#[]⟩ : ByteArray)) := (blk_cell BK551.out 0).trans rfl; have hcz10_1 : w9.cell? ⟨gb551, 1, none⟩ = some (.string (⟨#[]⟩ : ByteArray)) := (blk_cell BK551.out 1).trans rfl; have hfz10_0 := blk_frozen BK551.out 0; have hfz10_1 := blk_frozen BK551.out 1))
              go_roundg k1
              case measure => have := HK1.out; omega
              case rel => exact ⟨(wrap64 (x9_1 + 1)), (by first | rfl | (simp; done) | (rw [prx_ne]; first | done | rfl) | (simp [*]; done)), H', ⟨by have := HK1.out; omega⟩, ⟨by repeat (first | (with_reducible first | exact HB.out | apply below_alloc | apply pw_below_drewN | apply below_drew1 | refine below_set ?_ GE551.out) | exact HB.out)⟩⟩
          · rw [if_neg c5] at H
            exact absurd H (by simp)
        · rw [if_neg c4] at H
          exact absurd H (by simp)
      · rw [if_neg c3] at H
        have c3b0 : decide (x9_1 < (l0.length : Int)) = false := decide_eq_false c3
        clear c3
        obtain rfl := Option.some.inj H
        go_wp2
        go_ret
        exact ⟨by first | rfl | (simp [errW_none, errW_some] <;> rfl) | (simp [*, errW_none, errW_some] <;> rfl), by repeat (first | (with_reducible first | exact HB.out | apply below_alloc | apply pw_below_drewN | apply below_drew1) | exact HB.out)⟩
def spec_word.l0 : Nat → ByteArray → Int → Option (Bool)
  | 0, _, _ => none
  | k + 1, x0, x3 => if x3 < (x0.size : Int) then (if 0 ≤ x3 then (if (bt x0 x3) < 97 then (if (bt x0 x3) < 65 then (if (bt x0 x3) < 48 then (if (bt x0 x3) = 45 then (spec_word.l0 k x0 (wrap64 (x3 + 1))) else (some false)) else (if (bt x0 x3) > 57 then (if (bt x0 x3) = 45 then (spec_word.l0 k x0 (wrap64 (x3 + 1))) else (some false)) else (spec_word.l0 k x0 (wrap64 (x3 + 1))))) else (if (bt x0 x3) > 90 then (if (bt x0 x3) < 48 then (if (bt x0 x3) = 45 then (spec_word.l0 k x0 (wrap64 (x3 + 1))) else (some false)) else (if (bt x0 x3) > 57 then (if (bt x0 x3) = 45 then (spec_word.l0 k x0 (wrap64 (x3 + 1))) else (some false)) else (spec_word.l0 k x0 (wrap64 (x3 + 1))))) else (spec_word.l0 k x0 (wrap64 (x3 + 1))))) else (if (bt x0 x3) > 122 then (if (bt x0 x3) < 65 then (if (bt x0 x3) < 48 then (if (bt x0 x3) = 45 then (spec_word.l0 k x0 (wrap64 (x3 + 1))) else (some false)) else (if (bt x0 x3) > 57 then (if (bt x0 x3) = 45 then (spec_word.l0 k x0 (wrap64 (x3 + 1))) else (some false)) else (spec_word.l0 k x0 (wrap64 (x3 + 1))))) else (if (bt x0 x3) > 90 then (if (bt x0 x3) < 48 then (if (bt x0 x3) = 45 then (spec_word.l0 k x0 (wrap64 (x3 + 1))) else (some false)) else (if (bt x0 x3) > 57 then (if (bt x0 x3) = 45 then (spec_word.l0 k x0 (wrap64 (x3 + 1))) else (some false)) else (spec_word.l0 k x0 (wrap64 (x3 + 1))))) else (spec_word.l0 k x0 (wrap64 (x3 + 1))))) else (spec_word.l0 k x0 (wrap64 (x3 + 1))))) else (none)) else (some (x0.toList != ([] : List UInt8)))
def spec_word.f (k : Nat) (a0 : ByteArray) : Option (Bool) := spec_word.l0 k a0 0
set_option maxHeartbeats 8000000 in
set_option maxRecDepth 100000 in
theorem spec_word.calls (k : Nat) (a0 : ByteArray) (r : Bool) (w : World) (h : spec_word.f k a0 = some r) :
  Calls Try.prog 36 #[.string a0] w fun e w' => e = .returned (.bool r) ∧ Drawn0 w w' := by
 have H : (spec_word.l0 k a0 0) = some r := h
 clear h
 have H' := Aside0.mk H
 clear H
 go_enter Try.func36, Try.ntmps36
 go_wp2
 go_loopg [3] k (fun kq v3 w' => ∃ (x3_1 : Int), v3 = .int .i64 x3_1 ∧ Aside0 (spec_word.l0 kq a0 x3_1 = some r) ∧ Aside0 (kq ≤ k) ∧ Drawn0 w w')
 case atStart => exact ⟨(0), (by first | rfl | (simp; done) | (rw [prx_ne]; first | done | rfl) | (simp [*]; done)), H', ⟨Nat.le_refl _⟩, by repeat (first | exact Drawn0.refl _ | apply Drawn0.step)⟩
 case round =>
  clear H'
  obtain ⟨x3_1, rfl, HA, HK1, ⟨m1, rfl⟩⟩ := hrel
  cases gk with
  | zero => exact absurd HA.out (by simp [spec_word.l0])
  | succ k1 =>
   have H := HA.out
   clear HA
   simp only [spec_word.l0] at H
   by_cases c2 : x3_1 < (a0.size : Int)
   ·rw [if_pos c2] at H
    have c2b0 : decide (x3_1 < (a0.size : Int)) = true := decide_eq_true c2
    clear c2
    by_cases c3 : 0 ≤ x3_1
    ·rw [if_pos c3] at H
     have c3b0 : decide (0 ≤ x3_1) = true := decide_eq_true c3
     clear c3
     by_cases c5 : (bt a0 x3_1) < 97
     ·rw [if_pos c5] at H
      have c5b0 : decide ((bt a0 x3_1) < 97) = true := decide_eq_true c5
      clear c5
      by_cases c6 : (bt a0 x3_1) < 65
      ·rw [if_pos c6] at H
       have c6b0 : decide ((bt a0 x3_1) < 65) = true := decide_eq_true c6
       clear c6
       by_cases c7 : (bt a0 x3_1) < 48
       ·rw [if_pos c7] at H
        have c7b0 : decide ((bt a0 x3_1) < 48) = true := decide_eq_true c7
        clear c7
        by_cases c8 : (bt a0 x3_1) = 45
        ·rw [if_pos c8] at H
         have c8b0 : ((bt a0 x3_1) == 45) = true := beq_iff_eq.mpr c8
         have c8b1 : ((bt a0 x3_1) != 45) = false := bne_eq_false_iff_eq.mpr c8
         clear c8
         have H' := Aside0.mk H
         clear H
         have p4 : 0 ≤ (x3_1 : Int) := of_decide_eq_true (by first | (with_reducible assumption) | assumption)
         have q4 : x3_1 < (a0.size : Int) := of_decide_eq_true (by first | (with_reducible assumption) | assumption)
         have hx4 := bt_at a0 x3_1
         replace p4 := eq_true p4
         replace q4 := eq_true q4
         go_wp2
         go_roundg k1
         case measure => have := HK1.out; omega
         case rel => exact ⟨(wrap64 (x3_1 + 1)), (by first | rfl | (simp; done) | (rw [prx_ne]; first | done | rfl) | (simp [*]; done)), H', ⟨by have := HK1.out; omega⟩, by repeat (first | exact Drawn0.refl _ | apply Drawn0.step)⟩
        ·rw [if_neg c8] at H
         have c8b0 : ((bt a0 x3_1) == 45) = false := beq_eq_false_iff_ne.mpr c8
         have c8b1 : ((bt a0 x3_1) != 45) = true := bne_iff_ne.mpr c8
         obtain rfl := Option.some.inj H
         have p4 : 0 ≤ (x3_1 : Int) := of_decide_eq_true (by first | (with_reducible assumption) | assumption)
         have q4 : x3_1 < (a0.size : Int) := of_decide_eq_true (by first | (with_reducible assumption) | assumption)
         have hx4 := bt_at a0 x3_1
         replace p4 := eq_true p4
         replace q4 := eq_true q4
         go_wp2
         go_ret
         exact ⟨by first | rfl | (simp; done) | (rw [prx_ne]; first | done | rfl) | (simp [*]; done), by repeat (first | exact Drawn0.refl _ | apply Drawn0.step)⟩
       ·rw [if_neg c7] at H
        have c7b0 : decide ((bt a0 x3_1) < 48) = false := decide_eq_false c7
        clear c7
        by_cases c9 : (bt a0 x3_1) > 57
        ·rw [if_pos c9] at H
         have c9b0 : decide (57 < (bt a0 x3_1)) = true := decide_eq_true c9
         clear c9
         by_cases c10 : (bt a0 x3_1) = 45
         ·rw [if_pos c10] at H
          have c10b0 : ((bt a0 x3_1) == 45) = true := beq_iff_eq.mpr c10
          have c10b1 : ((bt a0 x3_1) != 45) = false := bne_eq_false_iff_eq.mpr c10
          clear c10
          have H' := Aside0.mk H
          clear H
          have p4 : 0 ≤ (x3_1 : Int) := of_decide_eq_true (by first | (with_reducible assumption) | assumption)
          have q4 : x3_1 < (a0.size : Int) := of_decide_eq_true (by first | (with_reducible assumption) | assumption)
          have hx4 := bt_at a0 x3_1
          replace p4 := eq_true p4
          replace q4 := eq_true q4
          go_wp2
          go_roundg k1
          case measure => have := HK1.out; omega
          case rel => exact ⟨(wrap64 (x3_1 + 1)), (by first | rfl | (simp; done) | (rw [prx_ne]; first | done | rfl) | (simp [*]; done)), H', ⟨by have := HK1.out; omega⟩, by repeat (first | exact Drawn0.refl _ | apply Drawn0.step)⟩
         ·rw [if_neg c10] at H
          have c10b0 : ((bt a0 x3_1) == 45) = false := beq_eq_false_iff_ne.mpr c10
          have c10b1 : ((bt a0 x3_1) != 45) = true := bne_iff_ne.mpr c10
          obtain rfl := Option.some.inj H
          have p4 : 0 ≤ (x3_1 : Int) := of_decide_eq_true (by first | (with_reducible assumption) | assumption)
          have q4 : x3_1 < (a0.size : Int) := of_decide_eq_true (by first | (with_reducible assumption) | assumption)
          have hx4 := bt_at a0 x3_1
          replace p4 := eq_true p4
          replace q4 := eq_true q4
          go_wp2
          go_ret
          exact ⟨by first | rfl | (simp; done) | (rw [prx_ne]; first | done | rfl) | (simp [*]; done), by repeat (first | exact Drawn0.refl _ | apply Drawn0.step)⟩
        ·rw [if_neg c9] at H
         have c9b0 : decide (57 < (bt a0 x3_1)) = false := decide_eq_false c9
         clear c9
         have H' := Aside0.mk H
         clear H
         have p4 : 0 ≤ (x3_1 : Int) := of_decide_eq_true (by first | (with_reducible assumption) | assumption)
         have q4 : x3_1 < (a0.size : Int) := of_decide_eq_true (by first | (with_reducible assumption) | assumption)
         have hx4 := bt_at a0 x3_1
         replace p4 := eq_true p4
         replace q4 := eq_true q4
         go_wp2
         go_roundg k1
         case measure => have := HK1.out; omega
         case rel => exact ⟨(wrap64 (x3_1 + 1)), (by first | rfl | (simp; done) | (rw [prx_ne]; first | done | rfl) | (simp [*]; done)), H', ⟨by have := HK1.out; omega⟩, by repeat (first | exact Drawn0.refl _ | apply Drawn0.step)⟩
      ·rw [if_neg c6] at H
       have c6b0 : decide ((bt a0 x3_1) < 65) = false := decide_eq_false c6
       clear c6
       by_cases c11 : (bt a0 x3_1) > 90
       ·rw [if_pos c11] at H
        have c11b0 : decide (90 < (bt a0 x3_1)) = true := decide_eq_true c11
        clear c11
        by_cases c12 : (bt a0 x3_1) < 48
        ·rw [if_pos c12] at H
         have c12b0 : decide ((bt a0 x3_1) < 48) = true := decide_eq_true c12
         clear c12
         by_cases c13 : (bt a0 x3_1) = 45
         ·rw [if_pos c13] at H
          have c13b0 : ((bt a0 x3_1) == 45) = true := beq_iff_eq.mpr c13
          have c13b1 : ((bt a0 x3_1) != 45) = false := bne_eq_false_iff_eq.mpr c13
          clear c13
          have H' := Aside0.mk H
          clear H
          have p4 : 0 ≤ (x3_1 : Int) := of_decide_eq_true (by first | (with_reducible assumption) | assumption)
          have q4 : x3_1 < (a0.size : Int) := of_decide_eq_true (by first | (with_reducible assumption) | assumption)
          have hx4 := bt_at a0 x3_1
          replace p4 := eq_true p4
          replace q4 := eq_true q4
          go_wp2
          go_roundg k1
          case measure => have := HK1.out; omega
          case rel => exact ⟨(wrap64 (x3_1 + 1)), (by first | rfl | (simp; done) | (rw [prx_ne]; first | done | rfl) | (simp [*]; done)), H', ⟨by have := HK1.out; omega⟩, by repeat (first | exact Drawn0.refl _ | apply Drawn0.step)⟩
         ·rw [if_neg c13] at H
          have c13b0 : ((bt a0 x3_1) == 45) = false := beq_eq_false_iff_ne.mpr c13
          have c13b1 : ((bt a0 x3_1) != 45) = true := bne_iff_ne.mpr c13
          obtain rfl := Option.some.inj H
          have p4 : 0 ≤ (x3_1 : Int) := of_decide_eq_true (by first | (with_reducible assumption) | assumption)
          have q4 : x3_1 < (a0.size : Int) := of_decide_eq_true (by first | (with_reducible assumption) | assumption)
          have hx4 := bt_at a0 x3_1
          replace p4 := eq_true p4
          replace q4 := eq_true q4
          go_wp2
          go_ret
          exact ⟨by first | rfl | (simp; done) | (rw [prx_ne]; first | done | rfl) | (simp [*]; done), by repeat (first | exact Drawn0.refl _ | apply Drawn0.step)⟩
        ·rw [if_neg c12] at H
         have c12b0 : decide ((bt a0 x3_1) < 48) = false := decide_eq_false c12
         clear c12
         by_cases c14 : (bt a0 x3_1) > 57
         ·rw [if_pos c14] at H
          have c14b0 : decide (57 < (bt a0 x3_1)) = true := decide_eq_true c14
          clear c14
          by_cases c15 : (bt a0 x3_1) = 45
          ·rw [if_pos c15] at H
           have c15b0 : ((bt a0 x3_1) == 45) = true := beq_iff_eq.mpr c15
           have c15b1 : ((bt a0 x3_1) != 45) = false := bne_eq_false_iff_eq.mpr c15
           clear c15
           have H' := Aside0.mk H
           clear H
           have p4 : 0 ≤ (x3_1 : Int) := of_decide_eq_true (by first | (with_reducible assumption) | assumption)
           have q4 : x3_1 < (a0.size : Int) := of_decide_eq_true (by first | (with_reducible assumption) | assumption)
           have hx4 := bt_at a0 x3_1
           replace p4 := eq_true p4
           replace q4 := eq_true q4
           go_wp2
           go_roundg k1
           case measure => have := HK1.out; omega
           case rel => exact ⟨(wrap64 (x3_1 + 1)), (by first | rfl | (simp; done) | (rw [prx_ne]; first | done | rfl) | (simp [*]; done)), H', ⟨by have := HK1.out; omega⟩, by repeat (first | exact Drawn0.refl _ | apply Drawn0.step)⟩
          ·rw [if_neg c15] at H
           have c15b0 : ((bt a0 x3_1) == 45) = false := beq_eq_false_iff_ne.mpr c15
           have c15b1 : ((bt a0 x3_1) != 45) = true := bne_iff_ne.mpr c15
           obtain rfl := Option.some.inj H
           have p4 : 0 ≤ (x3_1 : Int) := of_decide_eq_true (by first | (with_reducible assumption) | assumption)
           have q4 : x3_1 < (a0.size : Int) := of_decide_eq_true (by first | (with_reducible assumption) | assumption)
           have hx4 := bt_at a0 x3_1
           replace p4 := eq_true p4
           replace q4 := eq_true q4
           go_wp2
           go_ret
           exact ⟨by first | rfl | (simp; done) | (rw [prx_ne]; first | done | rfl) | (simp [*]; done), by repeat (first | exact Drawn0.refl _ | apply Drawn0.step)⟩
         ·rw [if_neg c14] at H
          have c14b0 : decide (57 < (bt a0 x3_1)) = false := decide_eq_false c14
          clear c14
          have H' := Aside0.mk H
          clear H
          have p4 : 0 ≤ (x3_1 : Int) := of_decide_eq_true (by first | (with_reducible assumption) | assumption)
          have q4 : x3_1 < (a0.size : Int) := of_decide_eq_true (by first | (with_reducible assumption) | assumption)
          have hx4 := bt_at a0 x3_1
          replace p4 := eq_true p4
          replace q4 := eq_true q4
          go_wp2
          go_roundg k1
          case measure => have := HK1.out; omega
          case rel => exact ⟨(wrap64 (x3_1 + 1)), (by first | rfl | (simp; done) | (rw [prx_ne]; first | done | rfl) | (simp [*]; done)), H', ⟨by have := HK1.out; omega⟩, by repeat (first | exact Drawn0.refl _ | apply Drawn0.step)⟩
       ·rw [if_neg c11] at H
        have c11b0 : decide (90 < (bt a0 x3_1)) = false := decide_eq_false c11
        clear c11
        have H' := Aside0.mk H
        clear H
        have p4 : 0 ≤ (x3_1 : Int) := of_decide_eq_true (by first | (with_reducible assumption) | assumption)
        have q4 : x3_1 < (a0.size : Int) := of_decide_eq_true (by first | (with_reducible assumption) | assumption)
        have hx4 := bt_at a0 x3_1
        replace p4 := eq_true p4
        replace q4 := eq_true q4
        go_wp2
        go_roundg k1
        case measure => have := HK1.out; omega
        case rel => exact ⟨(wrap64 (x3_1 + 1)), (by first | rfl | (simp; done) | (rw [prx_ne]; first | done | rfl) | (simp [*]; done)), H', ⟨by have := HK1.out; omega⟩, by repeat (first | exact Drawn0.refl _ | apply Drawn0.step)⟩
     ·rw [if_neg c5] at H
      have c5b0 : decide ((bt a0 x3_1) < 97) = false := decide_eq_false c5
      clear c5
      by_cases c16 : (bt a0 x3_1) > 122
      ·rw [if_pos c16] at H
       have c16b0 : decide (122 < (bt a0 x3_1)) = true := decide_eq_true c16
       clear c16
       by_cases c17 : (bt a0 x3_1) < 65
       ·rw [if_pos c17] at H
        have c17b0 : decide ((bt a0 x3_1) < 65) = true := decide_eq_true c17
        clear c17
        by_cases c18 : (bt a0 x3_1) < 48
        ·rw [if_pos c18] at H
         have c18b0 : decide ((bt a0 x3_1) < 48) = true := decide_eq_true c18
         clear c18
         by_cases c19 : (bt a0 x3_1) = 45
         ·rw [if_pos c19] at H
          have c19b0 : ((bt a0 x3_1) == 45) = true := beq_iff_eq.mpr c19
          have c19b1 : ((bt a0 x3_1) != 45) = false := bne_eq_false_iff_eq.mpr c19
          clear c19
          have H' := Aside0.mk H
          clear H
          have p4 : 0 ≤ (x3_1 : Int) := of_decide_eq_true (by first | (with_reducible assumption) | assumption)
          have q4 : x3_1 < (a0.size : Int) := of_decide_eq_true (by first | (with_reducible assumption) | assumption)
          have hx4 := bt_at a0 x3_1
          replace p4 := eq_true p4
          replace q4 := eq_true q4
          go_wp2
          go_roundg k1
          case measure => have := HK1.out; omega
          case rel => exact ⟨(wrap64 (x3_1 + 1)), (by first | rfl | (simp; done) | (rw [prx_ne]; first | done | rfl) | (simp [*]; done)), H', ⟨by have := HK1.out; omega⟩, by repeat (first | exact Drawn0.refl _ | apply Drawn0.step)⟩
         ·rw [if_neg c19] at H
          have c19b0 : ((bt a0 x3_1) == 45) = false := beq_eq_false_iff_ne.mpr c19
          have c19b1 : ((bt a0 x3_1) != 45) = true := bne_iff_ne.mpr c19
          obtain rfl := Option.some.inj H
          have p4 : 0 ≤ (x3_1 : Int) := of_decide_eq_true (by first | (with_reducible assumption) | assumption)
          have q4 : x3_1 < (a0.size : Int) := of_decide_eq_true (by first | (with_reducible assumption) | assumption)
          have hx4 := bt_at a0 x3_1
          replace p4 := eq_true p4
          replace q4 := eq_true q4
          go_wp2
          go_ret
          exact ⟨by first | rfl | (simp; done) | (rw [prx_ne]; first | done | rfl) | (simp [*]; done), by repeat (first | exact Drawn0.refl _ | apply Drawn0.step)⟩
        ·rw [if_neg c18] at H
         have c18b0 : decide ((bt a0 x3_1) < 48) = false := decide_eq_false c18
         clear c18
         by_cases c20 : (bt a0 x3_1) > 57
         ·rw [if_pos c20] at H
          have c20b0 : decide (57 < (bt a0 x3_1)) = true := decide_eq_true c20
          clear c20
          by_cases c21 : (bt a0 x3_1) = 45
          ·rw [if_pos c21] at H
           have c21b0 : ((bt a0 x3_1) == 45) = true := beq_iff_eq.mpr c21
           have c21b1 : ((bt a0 x3_1) != 45) = false := bne_eq_false_iff_eq.mpr c21
           clear c21
           have H' := Aside0.mk H
           clear H
           have p4 : 0 ≤ (x3_1 : Int) := of_decide_eq_true (by first | (with_reducible assumption) | assumption)
           have q4 : x3_1 < (a0.size : Int) := of_decide_eq_true (by first | (with_reducible assumption) | assumption)
           have hx4 := bt_at a0 x3_1
           replace p4 := eq_true p4
           replace q4 := eq_true q4
           go_wp2
           go_roundg k1
           case measure => have := HK1.out; omega
           case rel => exact ⟨(wrap64 (x3_1 + 1)), (by first | rfl | (simp; done) | (rw [prx_ne]; first | done | rfl) | (simp [*]; done)), H', ⟨by have := HK1.out; omega⟩, by repeat (first | exact Drawn0.refl _ | apply Drawn0.step)⟩
          ·rw [if_neg c21] at H
           have c21b0 : ((bt a0 x3_1) == 45) = false := beq_eq_false_iff_ne.mpr c21
           have c21b1 : ((bt a0 x3_1) != 45) = true := bne_iff_ne.mpr c21
           obtain rfl := Option.some.inj H
           have p4 : 0 ≤ (x3_1 : Int) := of_decide_eq_true (by first | (with_reducible assumption) | assumption)
           have q4 : x3_1 < (a0.size : Int) := of_decide_eq_true (by first | (with_reducible assumption) | assumption)
           have hx4 := bt_at a0 x3_1
           replace p4 := eq_true p4
           replace q4 := eq_true q4
           go_wp2
           go_ret
           exact ⟨by first | rfl | (simp; done) | (rw [prx_ne]; first | done | rfl) | (simp [*]; done), by repeat (first | exact Drawn0.refl _ | apply Drawn0.step)⟩
         ·rw [if_neg c20] at H
          have c20b0 : decide (57 < (bt a0 x3_1)) = false := decide_eq_false c20
          clear c20
          have H' := Aside0.mk H
          clear H
          have p4 : 0 ≤ (x3_1 : Int) := of_decide_eq_true (by first | (with_reducible assumption) | assumption)
          have q4 : x3_1 < (a0.size : Int) := of_decide_eq_true (by first | (with_reducible assumption) | assumption)
          have hx4 := bt_at a0 x3_1
          replace p4 := eq_true p4
          replace q4 := eq_true q4
          go_wp2
          go_roundg k1
          case measure => have := HK1.out; omega
          case rel => exact ⟨(wrap64 (x3_1 + 1)), (by first | rfl | (simp; done) | (rw [prx_ne]; first | done | rfl) | (simp [*]; done)), H', ⟨by have := HK1.out; omega⟩, by repeat (first | exact Drawn0.refl _ | apply Drawn0.step)⟩
       ·rw [if_neg c17] at H
        have c17b0 : decide ((bt a0 x3_1) < 65) = false := decide_eq_false c17
        clear c17
        by_cases c22 : (bt a0 x3_1) > 90
        ·rw [if_pos c22] at H
         have c22b0 : decide (90 < (bt a0 x3_1)) = true := decide_eq_true c22
         clear c22
         by_cases c23 : (bt a0 x3_1) < 48
         ·rw [if_pos c23] at H
          have c23b0 : decide ((bt a0 x3_1) < 48) = true := decide_eq_true c23
          clear c23
          by_cases c24 : (bt a0 x3_1) = 45
          ·rw [if_pos c24] at H
           have c24b0 : ((bt a0 x3_1) == 45) = true := beq_iff_eq.mpr c24
           have c24b1 : ((bt a0 x3_1) != 45) = false := bne_eq_false_iff_eq.mpr c24
           clear c24
           have H' := Aside0.mk H
           clear H
           have p4 : 0 ≤ (x3_1 : Int) := of_decide_eq_true (by first | (with_reducible assumption) | assumption)
           have q4 : x3_1 < (a0.size : Int) := of_decide_eq_true (by first | (with_reducible assumption) | assumption)
           have hx4 := bt_at a0 x3_1
           replace p4 := eq_true p4
           replace q4 := eq_true q4
           go_wp2
           go_roundg k1
           case measure => have := HK1.out; omega
           case rel => exact ⟨(wrap64 (x3_1 + 1)), (by first | rfl | (simp; done) | (rw [prx_ne]; first | done | rfl) | (simp [*]; done)), H', ⟨by have := HK1.out; omega⟩, by repeat (first | exact Drawn0.refl _ | apply Drawn0.step)⟩
          ·rw [if_neg c24] at H
           have c24b0 : ((bt a0 x3_1) == 45) = false := beq_eq_false_iff_ne.mpr c24
           have c24b1 : ((bt a0 x3_1) != 45) = true := bne_iff_ne.mpr c24
           obtain rfl := Option.some.inj H
           have p4 : 0 ≤ (x3_1 : Int) := of_decide_eq_true (by first | (with_reducible assumption) | assumption)
           have q4 : x3_1 < (a0.size : Int) := of_decide_eq_true (by first | (with_reducible assumption) | assumption)
           have hx4 := bt_at a0 x3_1
           replace p4 := eq_true p4
           replace q4 := eq_true q4
           go_wp2
           go_ret
           exact ⟨by first | rfl | (simp; done) | (rw [prx_ne]; first | done | rfl) | (simp [*]; done), by repeat (first | exact Drawn0.refl _ | apply Drawn0.step)⟩
         ·rw [if_neg c23] at H
          have c23b0 : decide ((bt a0 x3_1) < 48) = false := decide_eq_false c23
          clear c23
          by_cases c25 : (bt a0 x3_1) > 57
          ·rw [if_pos c25] at H
           have c25b0 : decide (57 < (bt a0 x3_1)) = true := decide_eq_true c25
           clear c25
           by_cases c26 : (bt a0 x3_1) = 45
           ·rw [if_pos c26] at H
            have c26b0 : ((bt a0 x3_1) == 45) = true := beq_iff_eq.mpr c26
            have c26b1 : ((bt a0 x3_1) != 45) = false := bne_eq_false_iff_eq.mpr c26
            clear c26
            have H' := Aside0.mk H
            clear H
            have p4 : 0 ≤ (x3_1 : Int) := of_decide_eq_true (by first | (with_reducible assumption) | assumption)
            have q4 : x3_1 < (a0.size : Int) := of_decide_eq_true (by first | (with_reducible assumption) | assumption)
            have hx4 := bt_at a0 x3_1
            replace p4 := eq_true p4
            replace q4 := eq_true q4
            go_wp2
            go_roundg k1
            case measure => have := HK1.out; omega
            case rel => exact ⟨(wrap64 (x3_1 + 1)), (by first | rfl | (simp; done) | (rw [prx_ne]; first | done | rfl) | (simp [*]; done)), H', ⟨by have := HK1.out; omega⟩, by repeat (first | exact Drawn0.refl _ | apply Drawn0.step)⟩
           ·rw [if_neg c26] at H
            have c26b0 : ((bt a0 x3_1) == 45) = false := beq_eq_false_iff_ne.mpr c26
            have c26b1 : ((bt a0 x3_1) != 45) = true := bne_iff_ne.mpr c26
            obtain rfl := Option.some.inj H
            have p4 : 0 ≤ (x3_1 : Int) := of_decide_eq_true (by first | (with_reducible assumption) | assumption)
            have q4 : x3_1 < (a0.size : Int) := of_decide_eq_true (by first | (with_reducible assumption) | assumption)
            have hx4 := bt_at a0 x3_1
            replace p4 := eq_true p4
            replace q4 := eq_true q4
            go_wp2
            go_ret
            exact ⟨by first | rfl | (simp; done) | (rw [prx_ne]; first | done | rfl) | (simp [*]; done), by repeat (first | exact Drawn0.refl _ | apply Drawn0.step)⟩
          ·rw [if_neg c25] at H
           have c25b0 : decide (57 < (bt a0 x3_1)) = false := decide_eq_false c25
           clear c25
           have H' := Aside0.mk H
           clear H
           have p4 : 0 ≤ (x3_1 : Int) := of_decide_eq_true (by first | (with_reducible assumption) | assumption)
           have q4 : x3_1 < (a0.size : Int) := of_decide_eq_true (by first | (with_reducible assumption) | assumption)
           have hx4 := bt_at a0 x3_1
           replace p4 := eq_true p4
           replace q4 := eq_true q4
           go_wp2
           go_roundg k1
           case measure => have := HK1.out; omega
           case rel => exact ⟨(wrap64 (x3_1 + 1)), (by first | rfl | (simp; done) | (rw [prx_ne]; first | done | rfl) | (simp [*]; done)), H', ⟨by have := HK1.out; omega⟩, by repeat (first | exact Drawn0.refl _ | apply Drawn0.step)⟩
        ·rw [if_neg c22] at H
         have c22b0 : decide (90 < (bt a0 x3_1)) = false := decide_eq_false c22
         clear c22
         have H' := Aside0.mk H
         clear H
         have p4 : 0 ≤ (x3_1 : Int) := of_decide_eq_true (by first | (with_reducible assumption) | assumption)
         have q4 : x3_1 < (a0.size : Int) := of_decide_eq_true (by first | (with_reducible assumption) | assumption)
         have hx4 := bt_at a0 x3_1
         replace p4 := eq_true p4
         replace q4 := eq_true q4
         go_wp2
         go_roundg k1
         case measure => have := HK1.out; omega
         case rel => exact ⟨(wrap64 (x3_1 + 1)), (by first | rfl | (simp; done) | (rw [prx_ne]; first | done | rfl) | (simp [*]; done)), H', ⟨by have := HK1.out; omega⟩, by repeat (first | exact Drawn0.refl _ | apply Drawn0.step)⟩
      ·rw [if_neg c16] at H
       have c16b0 : decide (122 < (bt a0 x3_1)) = false := decide_eq_false c16
       clear c16
       have H' := Aside0.mk H
       clear H
       have p4 : 0 ≤ (x3_1 : Int) := of_decide_eq_true (by first | (with_reducible assumption) | assumption)
       have q4 : x3_1 < (a0.size : Int) := of_decide_eq_true (by first | (with_reducible assumption) | assumption)
       have hx4 := bt_at a0 x3_1
       replace p4 := eq_true p4
       replace q4 := eq_true q4
       go_wp2
       go_roundg k1
       case measure => have := HK1.out; omega
       case rel => exact ⟨(wrap64 (x3_1 + 1)), (by first | rfl | (simp; done) | (rw [prx_ne]; first | done | rfl) | (simp [*]; done)), H', ⟨by have := HK1.out; omega⟩, by repeat (first | exact Drawn0.refl _ | apply Drawn0.step)⟩
    ·rw [if_neg c3] at H
     exact absurd H (by simp)
   ·rw [if_neg c2] at H
    have c2b0 : decide (x3_1 < (a0.size : Int)) = false := decide_eq_false c2
    clear c2
    obtain rfl := Option.some.inj H
    go_wp2
    go_ret
    exact ⟨by first | rfl | (simp; done) | (rw [prx_ne]; first | done | rfl) | (simp [*]; done), by repeat (first | exact Drawn0.refl _ | apply Drawn0.step)⟩
def spec_fold.f (a0 : Int) : Option (Int) := if a0 ≥ 65 then (if a0 ≤ 90 then (some ((a0 + 32) % 256)) else (some a0)) else (some a0)
set_option maxHeartbeats 8000000 in
set_option maxRecDepth 100000 in
theorem spec_fold.calls (a0 : Int) (r : Int) (w : World) (h : spec_fold.f a0 = some r) :
    Calls Try.prog 55 #[.int .u8 a0] w fun e w' => e = .returned (.int .u8 r) ∧ Drawn0 w w' := by
  have H : (if a0 ≥ 65 then (if a0 ≤ 90 then (some ((a0 + 32) % 256)) else (some a0)) else (some a0)) = some r := h
  clear h
  by_cases c2 : a0 ≥ 65
  · rw [if_pos c2] at H
    have c2b0 : decide (65 ≤ a0) = true := decide_eq_true c2
    clear c2
    by_cases c3 : a0 ≤ 90
    · rw [if_pos c3] at H
      have c3b0 : decide (a0 ≤ 90) = true := decide_eq_true c3
      clear c3
      obtain rfl := Option.some.inj H
      go_enter Try.func55, Try.ntmps55
      go_wp2
      go_ret
      exact ⟨by first | rfl | (simp; done) | (rw [prx_ne]; first | done | rfl) | (simp [*]; done), by repeat (first | exact Drawn0.refl _ | apply Drawn0.step)⟩
    · rw [if_neg c3] at H
      have c3b0 : decide (a0 ≤ 90) = false := decide_eq_false c3
      clear c3
      obtain rfl := Option.some.inj H
      go_enter Try.func55, Try.ntmps55
      go_wp2
      go_ret
      exact ⟨by first | rfl | (simp; done) | (rw [prx_ne]; first | done | rfl) | (simp [*]; done), by repeat (first | exact Drawn0.refl _ | apply Drawn0.step)⟩
  · rw [if_neg c2] at H
    have c2b0 : decide (65 ≤ a0) = false := decide_eq_false c2
    clear c2
    obtain rfl := Option.some.inj H
    go_enter Try.func55, Try.ntmps55
    go_wp2
    go_ret
    exact ⟨by first | rfl | (simp; done) | (rw [prx_ne]; first | done | rfl) | (simp [*]; done), by repeat (first | exact Drawn0.refl _ | apply Drawn0.step)⟩
def spec_big.f (a0 : Int) : Option (Int) := if a0 ≥ 97 then (if a0 ≤ 122 then (some ((a0 - 32) % 256)) else (some a0)) else (some a0)
set_option maxHeartbeats 8000000 in
set_option maxRecDepth 100000 in
theorem spec_big.calls (a0 : Int) (r : Int) (w : World) (h : spec_big.f a0 = some r) :
    Calls Try.prog 56 #[.int .u8 a0] w fun e w' => e = .returned (.int .u8 r) ∧ Drawn0 w w' := by
  have H : (if a0 ≥ 97 then (if a0 ≤ 122 then (some ((a0 - 32) % 256)) else (some a0)) else (some a0)) = some r := h
  clear h
  by_cases c2 : a0 ≥ 97
  · rw [if_pos c2] at H
    have c2b0 : decide (97 ≤ a0) = true := decide_eq_true c2
    clear c2
    by_cases c3 : a0 ≤ 122
    · rw [if_pos c3] at H
      have c3b0 : decide (a0 ≤ 122) = true := decide_eq_true c3
      clear c3
      obtain rfl := Option.some.inj H
      go_enter Try.func56, Try.ntmps56
      go_wp2
      go_ret
      exact ⟨by first | rfl | (simp; done) | (rw [prx_ne]; first | done | rfl) | (simp [*]; done), by repeat (first | exact Drawn0.refl _ | apply Drawn0.step)⟩
    · rw [if_neg c3] at H
      have c3b0 : decide (a0 ≤ 122) = false := decide_eq_false c3
      clear c3
      obtain rfl := Option.some.inj H
      go_enter Try.func56, Try.ntmps56
      go_wp2
      go_ret
      exact ⟨by first | rfl | (simp; done) | (rw [prx_ne]; first | done | rfl) | (simp [*]; done), by repeat (first | exact Drawn0.refl _ | apply Drawn0.step)⟩
  · rw [if_neg c2] at H
    have c2b0 : decide (97 ≤ a0) = false := decide_eq_false c2
    clear c2
    obtain rfl := Option.some.inj H
    go_enter Try.func56, Try.ntmps56
    go_wp2
    go_ret
    exact ⟨by first | rfl | (simp; done) | (rw [prx_ne]; first | done | rfl) | (simp [*]; done), by repeat (first | exact Drawn0.refl _ | apply Drawn0.step)⟩
def spec_printed.l0 : Nat → ByteArray → Int → Option (Bool)
  | 0, _, _ => none
  | k + 1, x0, x3 => if x3 < (x0.size : Int) then (if 0 ≤ x3 then (if (bt x0 x3) < 32 then (some false) else (if (bt x0 x3) ≥ 127 then (some false) else (spec_printed.l0 k x0 (wrap64 (x3 + 1))))) else (none)) else (if x0.toList = ([] : List UInt8) then (some true) else (if 0 < (x0.size : Int) then (if (bt x0 0) = 32 then (some false) else (if 0 ≤ (wrap64 ((x0.size : Int) - 1)) then (if (wrap64 ((x0.size : Int) - 1)) < (x0.size : Int) then (some ((bt x0 (wrap64 ((x0.size : Int) - 1))) != 32)) else (none)) else (none))) else (none)))
def spec_printed.f (k : Nat) (a0 : ByteArray) : Option (Bool) := spec_printed.l0 k a0 0
set_option maxHeartbeats 8000000 in
set_option maxRecDepth 100000 in
theorem spec_printed.calls (k : Nat) (a0 : ByteArray) (r : Bool) (w : World) (h : spec_printed.f k a0 = some r) :
    Calls Try.prog 33 #[.string a0] w fun e w' => e = .returned (.bool r) ∧ Drawn0 w w' := by
  have H : (spec_printed.l0 k a0 0) = some r := h
  clear h
  have H' := Aside0.mk H
  clear H
  go_enter Try.func33, Try.ntmps33
  go_wp2
  go_loopg [3] k (fun kq v3 w' => ∃ (x3_1 : Int), v3 = .int .i64 x3_1 ∧ Aside0 (spec_printed.l0 kq a0 x3_1 = some r) ∧ Aside0 (kq ≤ k) ∧ Drawn0 w w')
  case atStart => exact ⟨(0), (by first | rfl | (simp; done) | (rw [prx_ne]; first | done | rfl) | (simp [*]; done)), H', ⟨Nat.le_refl _⟩, by repeat (first | exact Drawn0.refl _ | apply Drawn0.step)⟩
  case round =>
    clear H'
    obtain ⟨x3_1, rfl, HA, HK1, ⟨m1, rfl⟩⟩ := hrel
    cases gk with
    | zero => exact absurd HA.out (by simp [spec_printed.l0])
    | succ k1 =>
      have H := HA.out
      clear HA
      simp only [spec_printed.l0] at H
      by_cases c2 : x3_1 < (a0.size : Int)
      · rw [if_pos c2] at H
        have c2b0 : decide (x3_1 < (a0.size : Int)) = true := decide_eq_true c2
        clear c2
        by_cases c3 : 0 ≤ x3_1
        · rw [if_pos c3] at H
          have c3b0 : decide (0 ≤ x3_1) = true := decide_eq_true c3
          clear c3
          by_cases c5 : (bt a0 x3_1) < 32
          · rw [if_pos c5] at H
            have c5b0 : decide ((bt a0 x3_1) < 32) = true := decide_eq_true c5
            clear c5
            obtain rfl := Option.some.inj H
            have p4 : 0 ≤ (x3_1 : Int) := of_decide_eq_true (by first | (with_reducible assumption) | assumption)
            have q4 : x3_1 < (a0.size : Int) := of_decide_eq_true (by first | (with_reducible assumption) | assumption)
            have hx4 := bt_at a0 x3_1
            replace p4 := eq_true p4
            replace q4 := eq_true q4
            go_wp2
            go_ret
            exact ⟨by first | rfl | (simp; done) | (rw [prx_ne]; first | done | rfl) | (simp [*]; done), by repeat (first | exact Drawn0.refl _ | apply Drawn0.step)⟩
          · rw [if_neg c5] at H
            have c5b0 : decide ((bt a0 x3_1) < 32) = false := decide_eq_false c5
            clear c5
            by_cases c7 : (bt a0 x3_1) ≥ 127
            · rw [if_pos c7] at H
              have c7b0 : decide (127 ≤ (bt a0 x3_1)) = true := decide_eq_true c7
              clear c7
              obtain rfl := Option.some.inj H
              have p4 : 0 ≤ (x3_1 : Int) := of_decide_eq_true (by first | (with_reducible assumption) | assumption)
              have q4 : x3_1 < (a0.size : Int) := of_decide_eq_true (by first | (with_reducible assumption) | assumption)
              have hx4 := bt_at a0 x3_1
              replace p4 := eq_true p4
              replace q4 := eq_true q4
              have p6 : 0 ≤ (x3_1 : Int) := of_decide_eq_true (by first | (with_reducible assumption) | assumption)
              have q6 : x3_1 < (a0.size : Int) := of_decide_eq_true (by first | (with_reducible assumption) | assumption)
              have hx6 := bt_at a0 x3_1
              replace p6 := eq_true p6
              replace q6 := eq_true q6
              go_wp2
              go_ret
              exact ⟨by first | rfl | (simp; done) | (rw [prx_ne]; first | done | rfl) | (simp [*]; done), by repeat (first | exact Drawn0.refl _ | apply Drawn0.step)⟩
            · rw [if_neg c7] at H
              have c7b0 : decide (127 ≤ (bt a0 x3_1)) = false := decide_eq_false c7
              clear c7
              have H' := Aside0.mk H
              clear H
              have p4 : 0 ≤ (x3_1 : Int) := of_decide_eq_true (by first | (with_reducible assumption) | assumption)
              have q4 : x3_1 < (a0.size : Int) := of_decide_eq_true (by first | (with_reducible assumption) | assumption)
              have hx4 := bt_at a0 x3_1
              replace p4 := eq_true p4
              replace q4 := eq_true q4
              have p6 : 0 ≤ (x3_1 : Int) := of_decide_eq_true (by first | (with_reducible assumption) | assumption)
              have q6 : x3_1 < (a0.size : Int) := of_decide_eq_true (by first | (with_reducible assumption) | assumption)
              have hx6 := bt_at a0 x3_1
              replace p6 := eq_true p6
              replace q6 := eq_true q6
              go_wp2
              go_roundg k1
              case measure => have := HK1.out; omega
              case rel => exact ⟨(wrap64 (x3_1 + 1)), (by first | rfl | (simp; done) | (rw [prx_ne]; first | done | rfl) | (simp [*]; done)), H', ⟨by have := HK1.out; omega⟩, by repeat (first | exact Drawn0.refl _ | apply Drawn0.step)⟩
        · rw [if_neg c3] at H
          exact absurd H (by simp)
      · rw [if_neg c2] at H
        have c2b0 : decide (x3_1 < (a0.size : Int)) = false := decide_eq_false c2
        clear c2
        by_cases c8 : a0.toList = ([] : List UInt8)
        · rw [if_pos c8] at H
          have c8b0 : (a0.toList == ([] : List UInt8)) = true := beq_iff_eq.mpr c8
          have c8b1 : (a0.toList != ([] : List UInt8)) = false := bne_eq_false_iff_eq.mpr c8
          clear c8
          obtain rfl := Option.some.inj H
          go_wp2
          go_ret
          exact ⟨by first | rfl | (simp; done) | (rw [prx_ne]; first | done | rfl) | (simp [*]; done), by repeat (first | exact Drawn0.refl _ | apply Drawn0.step)⟩
        · rw [if_neg c8] at H
          have c8b0 : (a0.toList == ([] : List UInt8)) = false := beq_eq_false_iff_ne.mpr c8
          have c8b1 : (a0.toList != ([] : List UInt8)) = true := bne_iff_ne.mpr c8
          by_cases c9 : 0 < (a0.size : Int)
          · rw [if_pos c9] at H
            have c9b0 : decide (0 < (a0.size : Int)) = true := decide_eq_true c9
            have c9b1 : decide (0 < a0.size) = true := decide_eq_true (by omega)
            clear c9
            by_cases c11 : (bt a0 0) = 32
            · rw [if_pos c11] at H
              have c11b0 : ((bt a0 0) == 32) = true := beq_iff_eq.mpr c11
              have c11b1 : ((bt a0 0) != 32) = false := bne_eq_false_iff_eq.mpr c11
              clear c11
              obtain rfl := Option.some.inj H
              have p10 : 0 ≤ (0 : Int) := (by omega)
              have q10 : 0 < a0.size := (by have : (0 : Int) < (a0.size : Int) := of_decide_eq_true (by first | (with_reducible assumption) | assumption); omega)
              have hx10 : ∀ h : 0 < a0.size, ((a0[0]'h).toNat : Int) = bt a0 0 := bt_at a0 0
              clear p10
              have qi10 : (0 < (a0.size : Int)) = True := eq_true (of_decide_eq_true (by first | (with_reducible assumption) | assumption))
              replace q10 := eq_true q10
              go_wp2
              go_ret
              exact ⟨by first | rfl | (simp; done) | (rw [prx_ne]; first | done | rfl) | (simp [*]; done), by repeat (first | exact Drawn0.refl _ | apply Drawn0.step)⟩
            · rw [if_neg c11] at H
              have c11b0 : ((bt a0 0) == 32) = false := beq_eq_false_iff_ne.mpr c11
              have c11b1 : ((bt a0 0) != 32) = true := bne_iff_ne.mpr c11
              obtain ⟨ji12, hji12⟩ : ∃ j_ : Int, (wrap64 ((a0.size : Int) - 1)) = j_ := ⟨_, rfl⟩
              replace H : (if 0 ≤ (ji12) then (if (ji12) < (a0.size : Int) then (some ((bt a0 (ji12)) != 32)) else (none)) else (none)) = some r := by first | (rw [hji12] at H; exact H) | (simp only [hji12] at H ⊢; exact H)
              have hji12w : (IntKind.i64.wrap ((a0.size : Int) - 1)) = ji12 := (i64_w _).trans hji12
              by_cases c13 : 0 ≤ (ji12)
              · rw [if_pos c13] at H
                have c13b0 : decide (0 ≤ (ji12)) = true := decide_eq_true c13
                clear c13
                by_cases c14 : (ji12) < (a0.size : Int)
                · rw [if_pos c14] at H
                  have c14b0 : decide ((ji12) < (a0.size : Int)) = true := decide_eq_true c14
                  clear c14
                  obtain rfl := Option.some.inj H
                  have p10 : 0 ≤ (0 : Int) := (by omega)
                  have q10 : 0 < a0.size := (by have : (0 : Int) < (a0.size : Int) := of_decide_eq_true (by first | (with_reducible assumption) | assumption); omega)
                  have hx10 : ∀ h : 0 < a0.size, ((a0[0]'h).toNat : Int) = bt a0 0 := bt_at a0 0
                  clear p10
                  have qi10 : (0 < (a0.size : Int)) = True := eq_true (of_decide_eq_true (by first | (with_reducible assumption) | assumption))
                  replace q10 := eq_true q10
                  have p15 : 0 ≤ ((ji12) : Int) := of_decide_eq_true (by first | (with_reducible assumption) | assumption)
                  have q15 : (ji12) < (a0.size : Int) := of_decide_eq_true (by first | (with_reducible assumption) | assumption)
                  have hx15 := bt_at a0 (ji12)
                  replace p15 := eq_true p15
                  replace q15 := eq_true q15
                  go_wp2
                  go_ret
                  exact ⟨by first | rfl | (simp; done) | (simp only [← hji12] <;> (first | rfl | simp)) | (rw [prx_ne]; first | done | rfl) | (simp [*]; done), by repeat (first | exact Drawn0.refl _ | apply Drawn0.step)⟩
                · rw [if_neg c14] at H
                  exact absurd H (by simp)
              · rw [if_neg c13] at H
                exact absurd H (by simp)
          · rw [if_neg c9] at H
            exact absurd H (by simp)
def laws_stepsOf.l0 : Nat → List (S66) → List (S28) → Int → Int → Option ((List (S66)))
  | 0, _, _, _, _ => none
  | k + 1, x3, x6, x7, x8 => if x8 < x7 then (if 0 ≤ x8 then (if x8 < (x6.length : Int) then (if x3.length < 2513169434916 then (laws_stepsOf.l0 k (x3 ++ [(⟨(rd_T28 x6 x8).f0, (rd_T28 x6 x8).f1, (rd_T28 x6 x8).f2, (rd_T28 x6 x8).f3, (rd_T28 x6 x8).f4⟩ : S66)]) x6 x7 (wrap64 (x8 + 1))) else (none)) else (none)) else (none)) else (some x3)
def laws_stepsOf.f (k : Nat) (l0 : List (S28)) : Option ((List (S66))) := laws_stepsOf.l0 k ([] : List (S66)) l0 (l0.length : Int) 0
set_option maxHeartbeats 8000000 in
set_option maxRecDepth 100000 in
theorem laws_stepsOf.calls (k : Nat) (A0 : Option Addr) (c0 : Nat) (l0 : List (S28)) (r : List (S66)) (w : World) (hr0 : Kd.C k28 w A0 l0.length l0) (hc0 : l0.length ≤ c0) (h : laws_stepsOf.f k l0 = some r) :
    Calls Try.prog 24 #[.slice A0 l0.length c0] w fun e w' => ∃ v0_ : Value, e = .returned (v0_) ∧ Kd.R k66 66 w' w.heap.size (fun _ => True) v0_ r ∧ Below w.heap.size w w' := by
  have hu28 := Try.underlying28
  have HR0 := Aside0.mk hr0
  have HC0 := Aside0.mk hc0
  clear hr0 hc0
  have HB := Aside0.mk (Below.refl w.heap.size w)
  have H : (laws_stepsOf.l0 k ([] : List (S66)) l0 (l0.length : Int) 0) = some r := h
  clear h
  have H' := Aside0.mk H
  clear H
  go_enter Try.func24, Try.ntmps24
  go_wp2
  go_loopg [3, 8] k (fun kq v3 v8 w' => ∃ (x3_1 : List (S66)) (x8_1 : Int), v8 = .int .i64 x8_1 ∧ Aside0 (laws_stepsOf.l0 kq x3_1 l0 (l0.length : Int) x8_1 = some r) ∧ Aside0 (kq ≤ k) ∧ Aside0 (Kd.R k66 66 w' w.heap.size (fun _ => True) v3 x3_1) ∧ Aside0 (Below w.heap.size w w'))
  case atStart => exact ⟨(([] : List (S66))), (0), (by first | rfl | (simp; done) | (rw [prx_ne]; first | done | rfl) | (simp [*]; done)), H', ⟨Nat.le_refl _⟩, ⟨by first | exact Kd.R_nil _ _ _ _ _ | exact Kd.N_nil _ _ _ _ _ | exact Kd.V_nil _ _ _ _ _ | exact Kd.Q_nil _ _ _ _ _ | exact Kd.S_nil _ _ _ _ _⟩, ⟨by repeat (first | (with_reducible first | exact HB.out | apply below_alloc | apply pw_below_drewN | apply below_drew1) | exact HB.out)⟩⟩
  case round =>
    clear H'
    obtain ⟨x3_1, x8_1, rfl, HA, HK1, HO_3, HB⟩ := hrel
    cases gk with
    | zero => exact absurd HA.out (by simp [laws_stepsOf.l0])
    | succ k1 =>
      have H := HA.out
      clear HA
      simp only [laws_stepsOf.l0] at H
      by_cases c2 : x8_1 < (l0.length : Int)
      · rw [if_pos c2] at H
        have c2b0 : decide (x8_1 < (l0.length : Int)) = true := decide_eq_true c2
        clear c2
        by_cases c3 : 0 ≤ x8_1
        · rw [if_pos c3] at H
          have c3b0 : decide (0 ≤ x8_1) = true := decide_eq_true c3
          clear c3
          by_cases c4 : x8_1 < (l0.length : Int)
          · rw [if_pos c4] at H
            have c4b0 : decide (x8_1 < (l0.length : Int)) = true := decide_eq_true c4
            clear c4
            by_cases c5 : x3_1.length < 2513169434916
            · rw [if_pos c5] at H
              have LMc5 := Aside0.mk c5
              clear c5
              obtain ⟨y632, hy632⟩ : ∃ y_ : List (S66), y_ = (x3_1 ++ [(⟨(rd_T28 l0 x8_1).f0, (rd_T28 l0 x8_1).f1, (rd_T28 l0 x8_1).f2, (rd_T28 l0 x8_1).f3, (rd_T28 l0 x8_1).f4⟩ : S66)]) := ⟨_, rfl⟩
              replace H : (laws_stepsOf.l0 k1 y632 l0 (l0.length : Int) (wrap64 (x8_1 + 1))) = some r := by first | (rw [hy632]; with_reducible exact H) | (have H2_ := (Option.bind_some _ _).symm.trans H; rw [hy632]; with_reducible exact H2_) | (have H2_ := (Option.bind_some _ _).symm.trans H; with_reducible exact H2_) | with_reducible exact H | (rw [hy632]; exact H) | exact H
              have Ny632 := Aside0.mk hy632
              clear hy632
              have H' := Aside0.mk H
              clear H
              have p630 : 0 ≤ (x8_1 : Int) := of_decide_eq_true (by first | (with_reducible assumption) | assumption)
              have q630 : x8_1 < (l0.length : Int) := of_decide_eq_true (by first | (with_reducible assumption) | assumption)
              obtain ⟨ad630, e630, hx630_0, hx630_1, hx630_2, hx630_3, hx630_4⟩ := at_T28 HR0.out x8_1 p630 q630
              cases e630
              replace hx630_0 := (HB.out.cell (World.block_lt_of_cell? w _ hx630_0)).trans hx630_0
              replace hx630_1 := (HB.out.cell (World.block_lt_of_cell? w _ hx630_1)).trans hx630_1
              replace hx630_2 := (HB.out.cell (World.block_lt_of_cell? w _ hx630_2)).trans hx630_2
              replace hx630_3 := (HB.out.cell (World.block_lt_of_cell? w _ hx630_3)).trans hx630_3
              replace hx630_4 := (HB.out.cell (World.block_lt_of_cell? w _ hx630_4)).trans hx630_4
              replace p630 := eq_true p630
              replace q630 := eq_true q630
              go_wp2_with (first | ((with_reducible refine gate_dst (N := 5) rfl ?_); refine box_event ?hg (N := 5) ?hd (cs := #[.int .i64 0, .string (⟨#[]⟩ : ByteArray), .string (⟨#[]⟩ : ByteArray), .int .i64 0, .int .i64 0]) (t := 28) ?hr ?_; (case hd => rfl); (case hg => rfl); (case hr => first | (go_simp; done) | (go_simp; rfl)); intro gb631 hg w6 hbox hb; have n0_ := Aside0.mk (Kd.R_below (by (with_reducible repeat (first | apply Kd.R_alloc | apply Kd.R_drewN | apply Kd.R_drew)); exact HO_3.out) hb); have n1_ := Aside0.mk (below_step (by repeat (first | (with_reducible first | exact HB.out | apply below_alloc | apply pw_below_drewN | apply below_drew1) | exact HB.out)) hb); have n2_ := Aside0.mk (hbox); have n3_ := Aside0.mk ((by rw [hg]; exact (below_size (by repeat (first | (with_reducible first | exact HB.out | apply below_alloc | apply pw_below_drewN | apply below_drew1) | exact HB.out))) : w.heap.size ≤ gb631)); have n4_ := Aside0.mk ((by rw [hg]; exact (below_size (by repeat (first | (with_reducible first | exact HB.out | apply below_alloc | apply pw_below_drewN | apply below_drew1) | exact HB.out))) : w.heap.size ≤ gb631)); clear HO_3; clear HB; have HO_3 := n0_; have HB := n1_; have BK631 := n2_; have GW631 := n3_; have GE631 := n4_; clear n0_ n1_ n2_ n3_ n4_; clear hb hbox hg; have hcz7_0 : w6.cell? ⟨gb631, 0, none⟩ = some (.int .i64 0) := (blk_cell BK631.out 0).trans rfl; have hcz7_1 : w6.cell? ⟨gb631, 1, none⟩ = some (.string (⟨#[]⟩ : ByteArray)) := (blk_cell BK631.out 1).trans rfl; have hcz7_2 : w6.cell? ⟨gb631, 2, none⟩ = some (.string (⟨#[]⟩ : ByteArray)) := (blk_cell BK631.out 2).trans rfl; have hcz7_3 : w6.cell? ⟨gb631, 3, none⟩ = some (.int .i64 0) := (blk_cell BK631.out 3).trans rfl; have hcz7_4 : w6.cell? ⟨gb631, 4, none⟩ = some (.int .i64 0) := (blk_cell BK631.out 4).trans rfl; have hfz7_0 := blk_frozen BK631.out 0; have hfz7_1 := blk_frozen BK631.out 1; have hfz7_2 := blk_frozen BK631.out 2; have hfz7_3 := blk_frozen BK631.out 3; have hfz7_4 := blk_frozen BK631.out 4) | ((with_reducible refine gate_builtin (b := .append) (xs := #[.tmp 12, .tmp 14]) rfl ?_); at_builtin; refine Kd.R_append k66 (w0 := w) w.heap.size rfl (.tmp 12) (.tmp 14) 49 66 (.agg #[(.int .i64 0), (.string ⟨#[]⟩), (.string ⟨#[]⟩), (.int .i64 0), (.int .i64 0)]) 56 rfl Try.underlying49 info66 rfl (by decide) (by omega) u3 x3_1 (⟨(rd_T28 l0 x8_1).f0, (rd_T28 l0 x8_1).f1, (rd_T28 l0 x8_1).f2, (rd_T28 l0 x8_1).f3, (rd_T28 l0 x8_1).f4⟩ : S66) [.int .i64 ((rd_T28 l0 x8_1).f0), .string ((rd_T28 l0 x8_1).f1), .string ((rd_T28 l0 x8_1).f2), .int .i64 ((rd_T28 l0 x8_1).f3), .int .i64 ((rd_T28 l0 x8_1).f4)] (fun _ => True) (fun _ => False) rfl (by first | (go_simp; done) | (go_simp; rfl)) ?aP (fun _ hk => hk.elim) ?aF ?aO ?aB ?aS ?aL ?_; (case aP => exact k66_mkM _ _ _ (⟨(rd_T28 l0 x8_1).f0, (rd_T28 l0 x8_1).f1, (rd_T28 l0 x8_1).f2, (rd_T28 l0 x8_1).f3, (rd_T28 l0 x8_1).f4⟩ : S66)); (case aB => exact (by repeat (first | (with_reducible first | exact HB.out | apply below_alloc | apply pw_below_drewN | apply below_drew1 | refine below_set ?_ GE631.out) | exact HB.out))); (case aF => exact (fun _ _ => trivial)); (case aO => exact (by (with_reducible repeat (first | apply Kd.R_alloc | apply Kd.R_drewN | apply Kd.R_drew)); exact Kd.R_mono (Kd.R_far (p := ⟨gb631, 4, none⟩) (Kd.R_far (p := ⟨gb631, 3, none⟩) (Kd.R_far (p := ⟨gb631, 2, none⟩) (Kd.R_far (p := ⟨gb631, 1, none⟩) (Kd.R_far (p := ⟨gb631, 0, none⟩) (Kd.R_types HO_3.out BK631.out (by decide)) (fun _ hk => hk.2) (.int .i64 ((rd_T28 l0 x8_1).f0))) (fun _ hk => hk.2) (.string ((rd_T28 l0 x8_1).f1))) (fun _ hk => hk.2) (.string ((rd_T28 l0 x8_1).f2))) (fun _ hk => hk.2) (.int .i64 ((rd_T28 l0 x8_1).f3))) (fun _ hk => hk.2) (.int .i64 ((rd_T28 l0 x8_1).f4))) (fun _ hk => trivial))); (case aS => exact (below_size (by repeat (first | (with_reducible first | exact HB.out | apply below_alloc | apply pw_below_drewN | apply below_drew1 | refine below_set ?_ GE631.out) | exact HB.out)))); (case aL => have := LMc5.out; omega); intro v633 w8 ho hb hg hat; rw [← Ny632.out] at ho; have n0_ := Aside0.mk (blk_grown (g := gb631) (o := .cells #[.int .i64 ((rd_T28 l0 x8_1).f0), .string ((rd_T28 l0 x8_1).f1), .string ((rd_T28 l0 x8_1).f2), .int .i64 ((rd_T28 l0 x8_1).f3), .int .i64 ((rd_T28 l0 x8_1).f4)] 28 (0, 0)) (by (with_reducible repeat (first | refine blk_drewN ?_ _ | refine blk_drew ?_ | refine blk_alloc ?_ _)); refine blk_put (cs := #[.int .i64 ((rd_T28 l0 x8_1).f0), .string ((rd_T28 l0 x8_1).f1), .string ((rd_T28 l0 x8_1).f2), .int .i64 ((rd_T28 l0 x8_1).f3), .int .i64 0]) ?_ 4 _ rfl; (with_reducible repeat (first | refine blk_drewN ?_ _ | refine blk_drew ?_ | refine blk_alloc ?_ _)); refine blk_put (cs := #[.int .i64 ((rd_T28 l0 x8_1).f0), .string ((rd_T28 l0 x8_1).f1), .string ((rd_T28 l0 x8_1).f2), .int .i64 0, .int .i64 0]) ?_ 3 _ rfl; (with_reducible repeat (first | refine blk_drewN ?_ _ | refine blk_drew ?_ | refine blk_alloc ?_ _)); refine blk_put (cs := #[.int .i64 ((rd_T28 l0 x8_1).f0), .string ((rd_T28 l0 x8_1).f1), .string (⟨#[]⟩ : ByteArray), .int .i64 0, .int .i64 0]) ?_ 2 _ rfl; (with_reducible repeat (first | refine blk_drewN ?_ _ | refine blk_drew ?_ | refine blk_alloc ?_ _)); refine blk_put (cs := #[.int .i64 ((rd_T28 l0 x8_1).f0), .string (⟨#[]⟩ : ByteArray), .string (⟨#[]⟩ : ByteArray), .int .i64 0, .int .i64 0]) ?_ 1 _ rfl; (with_reducible repeat (first | refine blk_drewN ?_ _ | refine blk_drew ?_ | refine blk_alloc ?_ _)); refine blk_put (cs := #[.int .i64 0, .string (⟨#[]⟩ : ByteArray), .string (⟨#[]⟩ : ByteArray), .int .i64 0, .int .i64 0]) ?_ 0 _ rfl; (with_reducible repeat (first | refine blk_drewN ?_ _ | refine blk_drew ?_ | refine blk_alloc ?_ _)); exact BK631.out) hg (Kd.R_ne HO_3.out BK631.out (by decide))); have n1_ := Aside0.mk (hb); have n2_ := Aside0.mk (ho); clear BK631; clear HB; clear HO_3; have BK631 := n0_; have HB := n1_; have HO634 := n2_; clear n0_ n1_ n2_; clear ho hb hg hat))
              go_roundg k1
              case measure => have := HK1.out; omega
              case rel => exact ⟨(y632), (wrap64 (x8_1 + 1)), (by first | rfl | (simp; done) | (rw [prx_ne]; first | done | rfl) | (simp [*]; done)), H', ⟨by have := HK1.out; omega⟩, ⟨by (with_reducible repeat (first | apply Kd.R_alloc | apply Kd.R_drewN | apply Kd.R_drew)); exact HO634.out⟩, ⟨by repeat (first | (with_reducible first | exact HB.out | apply below_alloc | apply pw_below_drewN | apply below_drew1 | refine below_set ?_ GE631.out) | exact HB.out)⟩⟩
            · rw [if_neg c5] at H
              exact absurd H (by simp)
          · rw [if_neg c4] at H
            exact absurd H (by simp)
        · rw [if_neg c3] at H
          exact absurd H (by simp)
      · rw [if_neg c2] at H
        have c2b0 : decide (x8_1 < (l0.length : Int)) = false := decide_eq_false c2
        clear c2
        obtain rfl := Option.some.inj H
        go_wp2
        go_ret
        exact ⟨_, by first | rfl | (simp [errW_none, errW_some] <;> rfl) | (simp [*, errW_none, errW_some] <;> rfl), by (with_reducible repeat (first | apply Kd.R_alloc | apply Kd.R_drewN | apply Kd.R_drew)); exact HO_3.out, by repeat (first | (with_reducible first | exact HB.out | apply below_alloc | apply pw_below_drewN | apply below_drew1) | exact HB.out)⟩
def laws_values.l0 : Nat → ByteArray → List ByteArray → List (S34) → Int → Int → Option (List ByteArray)
  | 0, _, _, _, _, _ => none
  | k + 1, x1, x5, x8, x9, x10 => if x10 < x9 then (if 0 ≤ x10 then (if x10 < (x8.length : Int) then (if ((rd_T34 x8 x10).f0).toList = x1.toList then (if x5.length < 8796093022208 then (laws_values.l0 k x1 (x5 ++ [(rd_T34 x8 x10).f1]) x8 x9 (wrap64 (x10 + 1))) else (none)) else (laws_values.l0 k x1 x5 x8 x9 (wrap64 (x10 + 1)))) else (none)) else (none)) else (some x5)
def laws_values.f (k : Nat) (l0 : List (S34)) (a1 : ByteArray) : Option (List ByteArray) := laws_values.l0 k a1 ([] : List ByteArray) l0 (l0.length : Int) 0
def laws_printed.l0 : Nat → ByteArray → Int → Int → Option (Bool)
  | 0, _, _, _ => none
  | k + 1, x0, x5, x6 => if x6 < x5 then (if 0 ≤ x6 then (if x6 < (x0.size : Int) then (if (bt x0 x6) < 32 then (some false) else (if (bt x0 x6) > 126 then (some false) else (laws_printed.l0 k x0 x5 (wrap64 (x6 + 1))))) else (none)) else (none)) else (if x0.toList = ([] : List UInt8) then (some true) else (if 0 < (x0.size : Int) then (if (bt x0 0) = 32 then (some false) else (if 0 ≤ (wrap64 ((x0.size : Int) - 1)) then (if (wrap64 ((x0.size : Int) - 1)) < (x0.size : Int) then (some ((bt x0 (wrap64 ((x0.size : Int) - 1))) != 32)) else (none)) else (none))) else (none)))
def laws_printed.f (k : Nat) (a0 : ByteArray) : Option (Bool) := laws_printed.l0 k a0 (a0.size : Int) 0
set_option maxHeartbeats 8000000 in
set_option maxRecDepth 100000 in
theorem laws_printed.calls (k : Nat) (a0 : ByteArray) (r : Bool) (w : World) (h : laws_printed.f k a0 = some r) :
    Calls Try.prog 21 #[.string a0] w fun e w' => e = .returned (.bool r) ∧ Drawn0 w w' := by
  have H : (laws_printed.l0 k a0 (a0.size : Int) 0) = some r := h
  clear h
  have H' := Aside0.mk H
  clear H
  go_enter Try.func21, Try.ntmps21
  go_wp2
  go_loopg [6] k (fun kq v6 w' => ∃ (x6_1 : Int), v6 = .int .i64 x6_1 ∧ Aside0 (laws_printed.l0 kq a0 (a0.size : Int) x6_1 = some r) ∧ Aside0 (kq ≤ k) ∧ Drawn0 w w')
  case atStart => exact ⟨(0), (by first | rfl | (simp; done) | (rw [prx_ne]; first | done | rfl) | (simp [*]; done)), H', ⟨Nat.le_refl _⟩, by repeat (first | exact Drawn0.refl _ | apply Drawn0.step)⟩
  case round =>
    clear H'
    obtain ⟨x6_1, rfl, HA, HK1, ⟨m1, rfl⟩⟩ := hrel
    cases gk with
    | zero => exact absurd HA.out (by simp [laws_printed.l0])
    | succ k1 =>
      have H := HA.out
      clear HA
      simp only [laws_printed.l0] at H
      by_cases c2 : x6_1 < (a0.size : Int)
      · rw [if_pos c2] at H
        have c2b0 : decide (x6_1 < (a0.size : Int)) = true := decide_eq_true c2
        clear c2
        by_cases c3 : 0 ≤ x6_1
        · rw [if_pos c3] at H
          have c3b0 : decide (0 ≤ x6_1) = true := decide_eq_true c3
          clear c3
          by_cases c4 : x6_1 < (a0.size : Int)
          · rw [if_pos c4] at H
            have c4b0 : decide (x6_1 < (a0.size : Int)) = true := decide_eq_true c4
            clear c4
            by_cases c6 : (bt a0 x6_1) < 32
            · rw [if_pos c6] at H
              have c6b0 : decide ((bt a0 x6_1) < 32) = true := decide_eq_true c6
              clear c6
              obtain rfl := Option.some.inj H
              have p5 : 0 ≤ (x6_1 : Int) := of_decide_eq_true (by first | (with_reducible assumption) | assumption)
              have q5 : x6_1 < (a0.size : Int) := of_decide_eq_true (by first | (with_reducible assumption) | assumption)
              have hx5 := bt_at a0 x6_1
              replace p5 := eq_true p5
              replace q5 := eq_true q5
              go_wp2
              go_ret
              exact ⟨by first | rfl | (simp; done) | (rw [prx_ne]; first | done | rfl) | (simp [*]; done), by repeat (first | exact Drawn0.refl _ | apply Drawn0.step)⟩
            · rw [if_neg c6] at H
              have c6b0 : decide ((bt a0 x6_1) < 32) = false := decide_eq_false c6
              clear c6
              by_cases c8 : (bt a0 x6_1) > 126
              · rw [if_pos c8] at H
                have c8b0 : decide (126 < (bt a0 x6_1)) = true := decide_eq_true c8
                clear c8
                obtain rfl := Option.some.inj H
                have p5 : 0 ≤ (x6_1 : Int) := of_decide_eq_true (by first | (with_reducible assumption) | assumption)
                have q5 : x6_1 < (a0.size : Int) := of_decide_eq_true (by first | (with_reducible assumption) | assumption)
                have hx5 := bt_at a0 x6_1
                replace p5 := eq_true p5
                replace q5 := eq_true q5
                have p7 : 0 ≤ (x6_1 : Int) := of_decide_eq_true (by first | (with_reducible assumption) | assumption)
                have q7 : x6_1 < (a0.size : Int) := of_decide_eq_true (by first | (with_reducible assumption) | assumption)
                have hx7 := bt_at a0 x6_1
                replace p7 := eq_true p7
                replace q7 := eq_true q7
                go_wp2
                go_ret
                exact ⟨by first | rfl | (simp; done) | (rw [prx_ne]; first | done | rfl) | (simp [*]; done), by repeat (first | exact Drawn0.refl _ | apply Drawn0.step)⟩
              · rw [if_neg c8] at H
                have c8b0 : decide (126 < (bt a0 x6_1)) = false := decide_eq_false c8
                clear c8
                have H' := Aside0.mk H
                clear H
                have p5 : 0 ≤ (x6_1 : Int) := of_decide_eq_true (by first | (with_reducible assumption) | assumption)
                have q5 : x6_1 < (a0.size : Int) := of_decide_eq_true (by first | (with_reducible assumption) | assumption)
                have hx5 := bt_at a0 x6_1
                replace p5 := eq_true p5
                replace q5 := eq_true q5
                have p7 : 0 ≤ (x6_1 : Int) := of_decide_eq_true (by first | (with_reducible assumption) | assumption)
                have q7 : x6_1 < (a0.size : Int) := of_decide_eq_true (by first | (with_reducible assumption) | assumption)
                have hx7 := bt_at a0 x6_1
                replace p7 := eq_true p7
                replace q7 := eq_true q7
                go_wp2
                go_roundg k1
                case measure => have := HK1.out; omega
                case rel => exact ⟨(wrap64 (x6_1 + 1)), (by first | rfl | (simp; done) | (rw [prx_ne]; first | done | rfl) | (simp [*]; done)), H', ⟨by have := HK1.out; omega⟩, by repeat (first | exact Drawn0.refl _ | apply Drawn0.step)⟩
          · rw [if_neg c4] at H
            exact absurd H (by simp)
        · rw [if_neg c3] at H
          exact absurd H (by simp)
      · rw [if_neg c2] at H
        have c2b0 : decide (x6_1 < (a0.size : Int)) = false := decide_eq_false c2
        clear c2
        by_cases c9 : a0.toList = ([] : List UInt8)
        · rw [if_pos c9] at H
          have c9b0 : (a0.toList == ([] : List UInt8)) = true := beq_iff_eq.mpr c9
          have c9b1 : (a0.toList != ([] : List UInt8)) = false := bne_eq_false_iff_eq.mpr c9
          clear c9
          obtain rfl := Option.some.inj H
          go_wp2
          go_ret
          exact ⟨by first | rfl | (simp; done) | (rw [prx_ne]; first | done | rfl) | (simp [*]; done), by repeat (first | exact Drawn0.refl _ | apply Drawn0.step)⟩
        · rw [if_neg c9] at H
          have c9b0 : (a0.toList == ([] : List UInt8)) = false := beq_eq_false_iff_ne.mpr c9
          have c9b1 : (a0.toList != ([] : List UInt8)) = true := bne_iff_ne.mpr c9
          by_cases c10 : 0 < (a0.size : Int)
          · rw [if_pos c10] at H
            have c10b0 : decide (0 < (a0.size : Int)) = true := decide_eq_true c10
            have c10b1 : decide (0 < a0.size) = true := decide_eq_true (by omega)
            clear c10
            by_cases c12 : (bt a0 0) = 32
            · rw [if_pos c12] at H
              have c12b0 : ((bt a0 0) == 32) = true := beq_iff_eq.mpr c12
              have c12b1 : ((bt a0 0) != 32) = false := bne_eq_false_iff_eq.mpr c12
              clear c12
              obtain rfl := Option.some.inj H
              have p11 : 0 ≤ (0 : Int) := (by omega)
              have q11 : 0 < a0.size := (by have : (0 : Int) < (a0.size : Int) := of_decide_eq_true (by first | (with_reducible assumption) | assumption); omega)
              have hx11 : ∀ h : 0 < a0.size, ((a0[0]'h).toNat : Int) = bt a0 0 := bt_at a0 0
              clear p11
              have qi11 : (0 < (a0.size : Int)) = True := eq_true (of_decide_eq_true (by first | (with_reducible assumption) | assumption))
              replace q11 := eq_true q11
              go_wp2
              go_ret
              exact ⟨by first | rfl | (simp; done) | (rw [prx_ne]; first | done | rfl) | (simp [*]; done), by repeat (first | exact Drawn0.refl _ | apply Drawn0.step)⟩
            · rw [if_neg c12] at H
              have c12b0 : ((bt a0 0) == 32) = false := beq_eq_false_iff_ne.mpr c12
              have c12b1 : ((bt a0 0) != 32) = true := bne_iff_ne.mpr c12
              obtain ⟨ji13, hji13⟩ : ∃ j_ : Int, (wrap64 ((a0.size : Int) - 1)) = j_ := ⟨_, rfl⟩
              replace H : (if 0 ≤ (ji13) then (if (ji13) < (a0.size : Int) then (some ((bt a0 (ji13)) != 32)) else (none)) else (none)) = some r := by first | (rw [hji13] at H; exact H) | (simp only [hji13] at H ⊢; exact H)
              have hji13w : (IntKind.i64.wrap ((a0.size : Int) - 1)) = ji13 := (i64_w _).trans hji13
              by_cases c14 : 0 ≤ (ji13)
              · rw [if_pos c14] at H
                have c14b0 : decide (0 ≤ (ji13)) = true := decide_eq_true c14
                clear c14
                by_cases c15 : (ji13) < (a0.size : Int)
                · rw [if_pos c15] at H
                  have c15b0 : decide ((ji13) < (a0.size : Int)) = true := decide_eq_true c15
                  clear c15
                  obtain rfl := Option.some.inj H
                  have p11 : 0 ≤ (0 : Int) := (by omega)
                  have q11 : 0 < a0.size := (by have : (0 : Int) < (a0.size : Int) := of_decide_eq_true (by first | (with_reducible assumption) | assumption); omega)
                  have hx11 : ∀ h : 0 < a0.size, ((a0[0]'h).toNat : Int) = bt a0 0 := bt_at a0 0
                  clear p11
                  have qi11 : (0 < (a0.size : Int)) = True := eq_true (of_decide_eq_true (by first | (with_reducible assumption) | assumption))
                  replace q11 := eq_true q11
                  have p16 : 0 ≤ ((ji13) : Int) := of_decide_eq_true (by first | (with_reducible assumption) | assumption)
                  have q16 : (ji13) < (a0.size : Int) := of_decide_eq_true (by first | (with_reducible assumption) | assumption)
                  have hx16 := bt_at a0 (ji13)
                  replace p16 := eq_true p16
                  replace q16 := eq_true q16
                  go_wp2
                  go_ret
                  exact ⟨by first | rfl | (simp; done) | (simp only [← hji13] <;> (first | rfl | simp)) | (rw [prx_ne]; first | done | rfl) | (simp [*]; done), by repeat (first | exact Drawn0.refl _ | apply Drawn0.step)⟩
                · rw [if_neg c15] at H
                  exact absurd H (by simp)
              · rw [if_neg c14] at H
                exact absurd H (by simp)
          · rw [if_neg c10] at H
            exact absurd H (by simp)
def laws_zzFits4.f (a0_0 : Int) (a0_1 : ByteArray) (a0_2 : ByteArray) (a0_3 : Int) (a0_4 : Int) : Option (Bool) := if (a0_1.size : Int) > 2147483647 then (some false) else (if (a0_2.size : Int) > 2147483647 then (some false) else (some true))
set_option maxHeartbeats 8000000 in
set_option maxRecDepth 100000 in
theorem laws_zzFits4.calls (a0_0 : Int) (a0_1 : ByteArray) (a0_2 : ByteArray) (a0_3 : Int) (a0_4 : Int) (r : Bool) (w : World) (h : laws_zzFits4.f a0_0 a0_1 a0_2 a0_3 a0_4 = some r) :
    Calls Try.prog 28 #[.agg #[.int .i64 a0_0, .string a0_1, .string a0_2, .int .i64 a0_3, .int .i64 a0_4]] w fun e w' => e = .returned (.bool r) ∧ Below w.heap.size w w' := by
  have hu28 := Try.underlying28
  have HB := Aside0.mk (Below.refl w.heap.size w)
  have H : (if (a0_1.size : Int) > 2147483647 then (some false) else (if (a0_2.size : Int) > 2147483647 then (some false) else (some true))) = some r := h
  clear h
  by_cases c2 : (a0_1.size : Int) > 2147483647
  · rw [if_pos c2] at H
    have c2b0 : decide (2147483647 < (a0_1.size : Int)) = true := decide_eq_true c2
    have c2b1 : decide (2147483647 < a0_1.size) = true := decide_eq_true (by omega)
    clear c2
    obtain rfl := Option.some.inj H
    go_enter Try.func28, Try.ntmps28
    go_wp2_with (first | ((with_reducible refine gate_dst (N := 1) rfl ?_); refine box_event ?hg (N := 1) ?hd (cs := #[.int .i64 a0_0, .string a0_1, .string a0_2, .int .i64 a0_3, .int .i64 a0_4]) (t := 28) ?hr ?_; (case hd => rfl); (case hg => rfl); (case hr => first | (go_simp; done) | (go_simp; rfl)); intro gb365 hg w3 hbox hb; have n0_ := Aside0.mk (below_step (by repeat (first | (with_reducible first | exact HB.out | apply below_alloc | apply pw_below_drewN | apply below_drew1) | exact HB.out)) hb); have n1_ := Aside0.mk (hbox); have n2_ := Aside0.mk ((by rw [hg]; exact (below_size (by repeat (first | (with_reducible first | exact HB.out | apply below_alloc | apply pw_below_drewN | apply below_drew1) | exact HB.out))) : w.heap.size ≤ gb365)); have n3_ := Aside0.mk ((by rw [hg]; exact (below_size (by repeat (first | (with_reducible first | exact HB.out | apply below_alloc | apply pw_below_drewN | apply below_drew1) | exact HB.out))) : w.heap.size ≤ gb365)); clear HB; have HB := n0_; have BK365 := n1_; have GW365 := n2_; have GE365 := n3_; clear n0_ n1_ n2_ n3_; clear hb hbox hg; have hcz4_0 : w3.cell? ⟨gb365, 0, none⟩ = some (.int .i64 a0_0) := (blk_cell BK365.out 0).trans rfl; have hcz4_1 : w3.cell? ⟨gb365, 1, none⟩ = some (.string a0_1) := (blk_cell BK365.out 1).trans rfl; have hcz4_2 : w3.cell? ⟨gb365, 2, none⟩ = some (.string a0_2) := (blk_cell BK365.out 2).trans rfl; have hcz4_3 : w3.cell? ⟨gb365, 3, none⟩ = some (.int .i64 a0_3) := (blk_cell BK365.out 3).trans rfl; have hcz4_4 : w3.cell? ⟨gb365, 4, none⟩ = some (.int .i64 a0_4) := (blk_cell BK365.out 4).trans rfl; have hfz4_0 := blk_frozen BK365.out 0; have hfz4_1 := blk_frozen BK365.out 1; have hfz4_2 := blk_frozen BK365.out 2; have hfz4_3 := blk_frozen BK365.out 3; have hfz4_4 := blk_frozen BK365.out 4))
    go_ret
    exact ⟨by first | rfl | (simp [errW_none, errW_some] <;> rfl) | (simp [*, errW_none, errW_some] <;> rfl), by repeat (first | (with_reducible first | exact HB.out | apply below_alloc | apply pw_below_drewN | apply below_drew1 | refine below_set ?_ GE365.out) | exact HB.out)⟩
  · rw [if_neg c2] at H
    have c2b0 : decide (2147483647 < (a0_1.size : Int)) = false := decide_eq_false c2
    have c2b1 : decide (2147483647 < a0_1.size) = false := decide_eq_false (by omega)
    clear c2
    by_cases c5 : (a0_2.size : Int) > 2147483647
    · rw [if_pos c5] at H
      have c5b0 : decide (2147483647 < (a0_2.size : Int)) = true := decide_eq_true c5
      have c5b1 : decide (2147483647 < a0_2.size) = true := decide_eq_true (by omega)
      clear c5
      obtain rfl := Option.some.inj H
      go_enter Try.func28, Try.ntmps28
      go_wp2_with (first | ((with_reducible refine gate_dst (N := 1) rfl ?_); refine box_event ?hg (N := 1) ?hd (cs := #[.int .i64 a0_0, .string a0_1, .string a0_2, .int .i64 a0_3, .int .i64 a0_4]) (t := 28) ?hr ?_; (case hd => rfl); (case hg => rfl); (case hr => first | (go_simp; done) | (go_simp; rfl)); intro gb365 hg w6 hbox hb; have n0_ := Aside0.mk (below_step (by repeat (first | (with_reducible first | exact HB.out | apply below_alloc | apply pw_below_drewN | apply below_drew1) | exact HB.out)) hb); have n1_ := Aside0.mk (hbox); have n2_ := Aside0.mk ((by rw [hg]; exact (below_size (by repeat (first | (with_reducible first | exact HB.out | apply below_alloc | apply pw_below_drewN | apply below_drew1) | exact HB.out))) : w.heap.size ≤ gb365)); have n3_ := Aside0.mk ((by rw [hg]; exact (below_size (by repeat (first | (with_reducible first | exact HB.out | apply below_alloc | apply pw_below_drewN | apply below_drew1) | exact HB.out))) : w.heap.size ≤ gb365)); clear HB; have HB := n0_; have BK365 := n1_; have GW365 := n2_; have GE365 := n3_; clear n0_ n1_ n2_ n3_; clear hb hbox hg; have hcz7_0 : w6.cell? ⟨gb365, 0, none⟩ = some (.int .i64 a0_0) := (blk_cell BK365.out 0).trans rfl; have hcz7_1 : w6.cell? ⟨gb365, 1, none⟩ = some (.string a0_1) := (blk_cell BK365.out 1).trans rfl; have hcz7_2 : w6.cell? ⟨gb365, 2, none⟩ = some (.string a0_2) := (blk_cell BK365.out 2).trans rfl; have hcz7_3 : w6.cell? ⟨gb365, 3, none⟩ = some (.int .i64 a0_3) := (blk_cell BK365.out 3).trans rfl; have hcz7_4 : w6.cell? ⟨gb365, 4, none⟩ = some (.int .i64 a0_4) := (blk_cell BK365.out 4).trans rfl; have hfz7_0 := blk_frozen BK365.out 0; have hfz7_1 := blk_frozen BK365.out 1; have hfz7_2 := blk_frozen BK365.out 2; have hfz7_3 := blk_frozen BK365.out 3; have hfz7_4 := blk_frozen BK365.out 4))
      go_ret
      exact ⟨by first | rfl | (simp [errW_none, errW_some] <;> rfl) | (simp [*, errW_none, errW_some] <;> rfl), by repeat (first | (with_reducible first | exact HB.out | apply below_alloc | apply pw_below_drewN | apply below_drew1 | refine below_set ?_ GE365.out) | exact HB.out)⟩
    · rw [if_neg c5] at H
      have c5b0 : decide (2147483647 < (a0_2.size : Int)) = false := decide_eq_false c5
      have c5b1 : decide (2147483647 < a0_2.size) = false := decide_eq_false (by omega)
      clear c5
      obtain rfl := Option.some.inj H
      go_enter Try.func28, Try.ntmps28
      go_wp2_with (first | ((with_reducible refine gate_dst (N := 1) rfl ?_); refine box_event ?hg (N := 1) ?hd (cs := #[.int .i64 a0_0, .string a0_1, .string a0_2, .int .i64 a0_3, .int .i64 a0_4]) (t := 28) ?hr ?_; (case hd => rfl); (case hg => rfl); (case hr => first | (go_simp; done) | (go_simp; rfl)); intro gb365 hg w8 hbox hb; have n0_ := Aside0.mk (below_step (by repeat (first | (with_reducible first | exact HB.out | apply below_alloc | apply pw_below_drewN | apply below_drew1) | exact HB.out)) hb); have n1_ := Aside0.mk (hbox); have n2_ := Aside0.mk ((by rw [hg]; exact (below_size (by repeat (first | (with_reducible first | exact HB.out | apply below_alloc | apply pw_below_drewN | apply below_drew1) | exact HB.out))) : w.heap.size ≤ gb365)); have n3_ := Aside0.mk ((by rw [hg]; exact (below_size (by repeat (first | (with_reducible first | exact HB.out | apply below_alloc | apply pw_below_drewN | apply below_drew1) | exact HB.out))) : w.heap.size ≤ gb365)); clear HB; have HB := n0_; have BK365 := n1_; have GW365 := n2_; have GE365 := n3_; clear n0_ n1_ n2_ n3_; clear hb hbox hg; have hcz9_0 : w8.cell? ⟨gb365, 0, none⟩ = some (.int .i64 a0_0) := (blk_cell BK365.out 0).trans rfl; have hcz9_1 : w8.cell? ⟨gb365, 1, none⟩ = some (.string a0_1) := (blk_cell BK365.out 1).trans rfl; have hcz9_2 : w8.cell? ⟨gb365, 2, none⟩ = some (.string a0_2) := (blk_cell BK365.out 2).trans rfl; have hcz9_3 : w8.cell? ⟨gb365, 3, none⟩ = some (.int .i64 a0_3) := (blk_cell BK365.out 3).trans rfl; have hcz9_4 : w8.cell? ⟨gb365, 4, none⟩ = some (.int .i64 a0_4) := (blk_cell BK365.out 4).trans rfl; have hfz9_0 := blk_frozen BK365.out 0; have hfz9_1 := blk_frozen BK365.out 1; have hfz9_2 := blk_frozen BK365.out 2; have hfz9_3 := blk_frozen BK365.out 3; have hfz9_4 := blk_frozen BK365.out 4))
      go_ret
      exact ⟨by first | rfl | (simp [errW_none, errW_some] <;> rfl) | (simp [*, errW_none, errW_some] <;> rfl), by repeat (first | (with_reducible first | exact HB.out | apply below_alloc | apply pw_below_drewN | apply below_drew1 | refine below_set ?_ GE365.out) | exact HB.out)⟩
def laws_zzFits3.l0 : Nat → List (S28) → Int → Int → Option (Bool)
  | 0, _, _, _ => none
  | k + 1, x8, x9, x10 => if x10 < x9 then (if 0 ≤ x10 then (if x10 < (x8.length : Int) then ((laws_zzFits4.f ((rd_T28 x8 x10).f0) ((rd_T28 x8 x10).f1) ((rd_T28 x8 x10).f2) ((rd_T28 x8 x10).f3) ((rd_T28 x8 x10).f4)).bind fun t368 => (if t368 = true then (laws_zzFits3.l0 k x8 x9 (wrap64 (x10 + 1))) else (some false))) else (none)) else (none)) else (some true)
def laws_zzFits3.f (k : Nat) (l0 : List (S28)) : Option (Bool) := if (l0.length : Int) > 2147483647 then (some false) else (laws_zzFits3.l0 k l0 (l0.length : Int) 0)
set_option maxHeartbeats 8000000 in
set_option maxRecDepth 100000 in
theorem laws_zzFits3.calls (k : Nat) (A0 : Option Addr) (c0 : Nat) (l0 : List (S28)) (r : Bool) (w : World) (hr0 : Kd.C k28 w A0 l0.length l0) (hc0 : l0.length ≤ c0) (h : laws_zzFits3.f k l0 = some r) :
    Calls Try.prog 18 #[.slice A0 l0.length c0] w fun e w' => e = .returned (.bool r) ∧ Below w.heap.size w w' := by
  have hu28 := Try.underlying28
  have HR0 := Aside0.mk hr0
  have HC0 := Aside0.mk hc0
  clear hr0 hc0
  have HB := Aside0.mk (Below.refl w.heap.size w)
  have H : (if (l0.length : Int) > 2147483647 then (some false) else (laws_zzFits3.l0 k l0 (l0.length : Int) 0)) = some r := h
  clear h
  by_cases c2 : (l0.length : Int) > 2147483647
  · rw [if_pos c2] at H
    have c2b0 : decide (2147483647 < (l0.length : Int)) = true := decide_eq_true c2
    have c2b1 : decide (2147483647 < l0.length) = true := decide_eq_true (by omega)
    clear c2
    obtain rfl := Option.some.inj H
    go_enter Try.func18, Try.ntmps18
    go_wp2
    go_ret
    exact ⟨by first | rfl | (simp [errW_none, errW_some] <;> rfl) | (simp [*, errW_none, errW_some] <;> rfl), by repeat (first | (with_reducible first | exact HB.out | apply below_alloc | apply pw_below_drewN | apply below_drew1) | exact HB.out)⟩
  · rw [if_neg c2] at H
    have c2b0 : decide (2147483647 < (l0.length : Int)) = false := decide_eq_false c2
    have c2b1 : decide (2147483647 < l0.length) = false := decide_eq_false (by omega)
    clear c2
    have H' := Aside0.mk H
    clear H
    go_enter Try.func18, Try.ntmps18
    go_wp2
    go_loopg [10] k (fun kq v10 w' => ∃ (x10_1 : Int), v10 = .int .i64 x10_1 ∧ Aside0 (laws_zzFits3.l0 kq l0 (l0.length : Int) x10_1 = some r) ∧ Aside0 (kq ≤ k) ∧ Aside0 (Below w.heap.size w w'))
    case atStart => exact ⟨(0), (by first | rfl | (simp; done) | (rw [prx_ne]; first | done | rfl) | (simp [*]; done)), H', ⟨Nat.le_refl _⟩, ⟨by repeat (first | (with_reducible first | exact HB.out | apply below_alloc | apply pw_below_drewN | apply below_drew1) | exact HB.out)⟩⟩
    case round =>
      clear H'
      try clear c1
      try clear c2
      try clear c2b0
      try clear c2b1
      try clear p2
      obtain ⟨x10_1, rfl, HA, HK1, HB⟩ := hrel
      cases gk with
      | zero => exact absurd HA.out (by simp [laws_zzFits3.l0])
      | succ k1 =>
        have H := HA.out
        clear HA
        simp only [laws_zzFits3.l0] at H
        by_cases c3 : x10_1 < (l0.length : Int)
        · rw [if_pos c3] at H
          have c3b0 : decide (x10_1 < (l0.length : Int)) = true := decide_eq_true c3
          clear c3
          by_cases c4 : 0 ≤ x10_1
          · rw [if_pos c4] at H
            have c4b0 : decide (0 ≤ x10_1) = true := decide_eq_true c4
            clear c4
            by_cases c5 : x10_1 < (l0.length : Int)
            · rw [if_pos c5] at H
              have c5b0 : decide (x10_1 < (l0.length : Int)) = true := decide_eq_true c5
              clear c5
              replace H := Option.bind_eq_some_iff.mp H
              obtain ⟨t368, A60, H⟩ := H
              replace H : (if t368 = true then (laws_zzFits3.l0 k1 l0 (l0.length : Int) (wrap64 (x10_1 + 1))) else (some false)) = some r := H
              have A6 := Aside0.mk A60
              clear A60
              by_cases c7 : t368 = true
              · subst c7
                have H1 : (laws_zzFits3.l0 k1 l0 (l0.length : Int) (wrap64 (x10_1 + 1))) = some r := by rw [if_pos rfl] at H; exact H
                clear H
                have H := H1
                clear H1
                have H' := Aside0.mk H
                clear H
                have p366 : 0 ≤ (x10_1 : Int) := of_decide_eq_true (by first | (with_reducible assumption) | assumption)
                have q366 : x10_1 < (l0.length : Int) := of_decide_eq_true (by first | (with_reducible assumption) | assumption)
                obtain ⟨ad366, e366, hx366_0, hx366_1, hx366_2, hx366_3, hx366_4⟩ := at_T28 HR0.out x10_1 p366 q366
                cases e366
                replace hx366_0 := (HB.out.cell (World.block_lt_of_cell? w _ hx366_0)).trans hx366_0
                replace hx366_1 := (HB.out.cell (World.block_lt_of_cell? w _ hx366_1)).trans hx366_1
                replace hx366_2 := (HB.out.cell (World.block_lt_of_cell? w _ hx366_2)).trans hx366_2
                replace hx366_3 := (HB.out.cell (World.block_lt_of_cell? w _ hx366_3)).trans hx366_3
                replace hx366_4 := (HB.out.cell (World.block_lt_of_cell? w _ hx366_4)).trans hx366_4
                replace p366 := eq_true p366
                replace q366 := eq_true q366
                go_wp2_with (first | ((with_reducible refine gate_dst (N := 4) rfl ?_); refine box_event ?hg (N := 4) ?hd (cs := #[.int .i64 0, .string (⟨#[]⟩ : ByteArray), .string (⟨#[]⟩ : ByteArray), .int .i64 0, .int .i64 0]) (t := 28) ?hr ?_; (case hd => rfl); (case hg => rfl); (case hr => first | (go_simp; done) | (go_simp; rfl)); intro gb367 hg w8 hbox hb; have n0_ := Aside0.mk (below_step (by repeat (first | (with_reducible first | exact HB.out | apply below_alloc | apply pw_below_drewN | apply below_drew1) | exact HB.out)) hb); have n1_ := Aside0.mk (hbox); have n2_ := Aside0.mk ((by rw [hg]; exact (below_size (by repeat (first | (with_reducible first | exact HB.out | apply below_alloc | apply pw_below_drewN | apply below_drew1) | exact HB.out))) : w.heap.size ≤ gb367)); have n3_ := Aside0.mk ((by rw [hg]; exact (below_size (by repeat (first | (with_reducible first | exact HB.out | apply below_alloc | apply pw_below_drewN | apply below_drew1) | exact HB.out))) : w.heap.size ≤ gb367)); clear HB; have HB := n0_; have BK367 := n1_; have GW367 := n2_; have GE367 := n3_; clear n0_ n1_ n2_ n3_; clear hb hbox hg; have hcz9_0 : w8.cell? ⟨gb367, 0, none⟩ = some (.int .i64 0) := (blk_cell BK367.out 0).trans rfl; have hcz9_1 : w8.cell? ⟨gb367, 1, none⟩ = some (.string (⟨#[]⟩ : ByteArray)) := (blk_cell BK367.out 1).trans rfl; have hcz9_2 : w8.cell? ⟨gb367, 2, none⟩ = some (.string (⟨#[]⟩ : ByteArray)) := (blk_cell BK367.out 2).trans rfl; have hcz9_3 : w8.cell? ⟨gb367, 3, none⟩ = some (.int .i64 0) := (blk_cell BK367.out 3).trans rfl; have hcz9_4 : w8.cell? ⟨gb367, 4, none⟩ = some (.int .i64 0) := (blk_cell BK367.out 4).trans rfl; have hfz9_0 := blk_frozen BK367.out 0; have hfz9_1 := blk_frozen BK367.out 1; have hfz9_2 := blk_frozen BK367.out 2; have hfz9_3 := blk_frozen BK367.out 3; have hfz9_4 := blk_frozen BK367.out 4) | ((with_reducible refine gate_callee (f := 28) rfl ?_); refine goesL_ (some 15) rfl rfl Try.func28 (by kernel_rfl) rfl #[.agg #[.int .i64 ((rd_T28 l0 x10_1).f0), .string ((rd_T28 l0 x10_1).f1), .string ((rd_T28 l0 x10_1).f2), .int .i64 ((rd_T28 l0 x10_1).f3), .int .i64 ((rd_T28 l0 x10_1).f4)]] rfl (by (try simp only [List.map_toArray, List.map_cons, List.map_nil]); first | done | rfl | (simp only [List.length_drop, List.length_take]; rfl)) ?_; (with_reducible refine (laws_zzFits4.calls ((rd_T28 l0 x10_1).f0) ((rd_T28 l0 x10_1).f1) ((rd_T28 l0 x10_1).f2) ((rd_T28 l0 x10_1).f3) ((rd_T28 l0 x10_1).f4) true _ A6.out).mono ?_); rintro e w10 ⟨rfl, hb⟩; refine ⟨_, rfl, ?_⟩; have n0_ := Aside0.mk (blk_below (g := gb367) (o := .cells #[.int .i64 ((rd_T28 l0 x10_1).f0), .string ((rd_T28 l0 x10_1).f1), .string ((rd_T28 l0 x10_1).f2), .int .i64 ((rd_T28 l0 x10_1).f3), .int .i64 ((rd_T28 l0 x10_1).f4)] 28 (0, 0)) (by (with_reducible repeat (first | refine blk_drewN ?_ _ | refine blk_drew ?_ | refine blk_alloc ?_ _)); refine blk_put (cs := #[.int .i64 ((rd_T28 l0 x10_1).f0), .string ((rd_T28 l0 x10_1).f1), .string ((rd_T28 l0 x10_1).f2), .int .i64 ((rd_T28 l0 x10_1).f3), .int .i64 0]) ?_ 4 _ rfl; (with_reducible repeat (first | refine blk_drewN ?_ _ | refine blk_drew ?_ | refine blk_alloc ?_ _)); refine blk_put (cs := #[.int .i64 ((rd_T28 l0 x10_1).f0), .string ((rd_T28 l0 x10_1).f1), .string ((rd_T28 l0 x10_1).f2), .int .i64 0, .int .i64 0]) ?_ 3 _ rfl; (with_reducible repeat (first | refine blk_drewN ?_ _ | refine blk_drew ?_ | refine blk_alloc ?_ _)); refine blk_put (cs := #[.int .i64 ((rd_T28 l0 x10_1).f0), .string ((rd_T28 l0 x10_1).f1), .string (⟨#[]⟩ : ByteArray), .int .i64 0, .int .i64 0]) ?_ 2 _ rfl; (with_reducible repeat (first | refine blk_drewN ?_ _ | refine blk_drew ?_ | refine blk_alloc ?_ _)); refine blk_put (cs := #[.int .i64 ((rd_T28 l0 x10_1).f0), .string (⟨#[]⟩ : ByteArray), .string (⟨#[]⟩ : ByteArray), .int .i64 0, .int .i64 0]) ?_ 1 _ rfl; (with_reducible repeat (first | refine blk_drewN ?_ _ | refine blk_drew ?_ | refine blk_alloc ?_ _)); refine blk_put (cs := #[.int .i64 0, .string (⟨#[]⟩ : ByteArray), .string (⟨#[]⟩ : ByteArray), .int .i64 0, .int .i64 0]) ?_ 0 _ rfl; (with_reducible repeat (first | refine blk_drewN ?_ _ | refine blk_drew ?_ | refine blk_alloc ?_ _)); exact BK367.out) hb); have n1_ := Aside0.mk (below_step (by repeat (first | (with_reducible first | exact HB.out | apply below_alloc | apply pw_below_drewN | apply below_drew1 | refine below_set ?_ GE367.out) | exact HB.out)) hb); clear BK367; clear HB; have BK367 := n0_; have HB := n1_; clear n0_ n1_; (try clear hb); (try clear hb2); (try clear hk); (try clear hi)))
                go_roundg k1
                case measure => have := HK1.out; omega
                case rel => exact ⟨(wrap64 (x10_1 + 1)), (by first | rfl | (simp; done) | (rw [prx_ne]; first | done | rfl) | (simp [*]; done)), H', ⟨by have := HK1.out; omega⟩, ⟨by repeat (first | (with_reducible first | exact HB.out | apply below_alloc | apply pw_below_drewN | apply below_drew1 | refine below_set ?_ GE367.out) | exact HB.out)⟩⟩
              · replace c7 := Bool.eq_false_iff.mpr c7
                subst c7
                have H1 : (some false) = some r := by rw [if_neg (show ¬ (false = true) by decide)] at H; exact H
                clear H
                have H := H1
                clear H1
                obtain rfl := Option.some.inj H
                have p366 : 0 ≤ (x10_1 : Int) := of_decide_eq_true (by first | (with_reducible assumption) | assumption)
                have q366 : x10_1 < (l0.length : Int) := of_decide_eq_true (by first | (with_reducible assumption) | assumption)
                obtain ⟨ad366, e366, hx366_0, hx366_1, hx366_2, hx366_3, hx366_4⟩ := at_T28 HR0.out x10_1 p366 q366
                cases e366
                replace hx366_0 := (HB.out.cell (World.block_lt_of_cell? w _ hx366_0)).trans hx366_0
                replace hx366_1 := (HB.out.cell (World.block_lt_of_cell? w _ hx366_1)).trans hx366_1
                replace hx366_2 := (HB.out.cell (World.block_lt_of_cell? w _ hx366_2)).trans hx366_2
                replace hx366_3 := (HB.out.cell (World.block_lt_of_cell? w _ hx366_3)).trans hx366_3
                replace hx366_4 := (HB.out.cell (World.block_lt_of_cell? w _ hx366_4)).trans hx366_4
                replace p366 := eq_true p366
                replace q366 := eq_true q366
                go_wp2_with (first | ((with_reducible refine gate_dst (N := 4) rfl ?_); refine box_event ?hg (N := 4) ?hd (cs := #[.int .i64 0, .string (⟨#[]⟩ : ByteArray), .string (⟨#[]⟩ : ByteArray), .int .i64 0, .int .i64 0]) (t := 28) ?hr ?_; (case hd => rfl); (case hg => rfl); (case hr => first | (go_simp; done) | (go_simp; rfl)); intro gb367 hg w11 hbox hb; have n0_ := Aside0.mk (below_step (by repeat (first | (with_reducible first | exact HB.out | apply below_alloc | apply pw_below_drewN | apply below_drew1) | exact HB.out)) hb); have n1_ := Aside0.mk (hbox); have n2_ := Aside0.mk ((by rw [hg]; exact (below_size (by repeat (first | (with_reducible first | exact HB.out | apply below_alloc | apply pw_below_drewN | apply below_drew1) | exact HB.out))) : w.heap.size ≤ gb367)); have n3_ := Aside0.mk ((by rw [hg]; exact (below_size (by repeat (first | (with_reducible first | exact HB.out | apply below_alloc | apply pw_below_drewN | apply below_drew1) | exact HB.out))) : w.heap.size ≤ gb367)); clear HB; have HB := n0_; have BK367 := n1_; have GW367 := n2_; have GE367 := n3_; clear n0_ n1_ n2_ n3_; clear hb hbox hg; have hcz12_0 : w11.cell? ⟨gb367, 0, none⟩ = some (.int .i64 0) := (blk_cell BK367.out 0).trans rfl; have hcz12_1 : w11.cell? ⟨gb367, 1, none⟩ = some (.string (⟨#[]⟩ : ByteArray)) := (blk_cell BK367.out 1).trans rfl; have hcz12_2 : w11.cell? ⟨gb367, 2, none⟩ = some (.string (⟨#[]⟩ : ByteArray)) := (blk_cell BK367.out 2).trans rfl; have hcz12_3 : w11.cell? ⟨gb367, 3, none⟩ = some (.int .i64 0) := (blk_cell BK367.out 3).trans rfl; have hcz12_4 : w11.cell? ⟨gb367, 4, none⟩ = some (.int .i64 0) := (blk_cell BK367.out 4).trans rfl; have hfz12_0 := blk_frozen BK367.out 0; have hfz12_1 := blk_frozen BK367.out 1; have hfz12_2 := blk_frozen BK367.out 2; have hfz12_3 := blk_frozen BK367.out 3; have hfz12_4 := blk_frozen BK367.out 4) | ((with_reducible refine gate_callee (f := 28) rfl ?_); refine goesL_ (some 15) rfl rfl Try.func28 (by kernel_rfl) rfl #[.agg #[.int .i64 ((rd_T28 l0 x10_1).f0), .string ((rd_T28 l0 x10_1).f1), .string ((rd_T28 l0 x10_1).f2), .int .i64 ((rd_T28 l0 x10_1).f3), .int .i64 ((rd_T28 l0 x10_1).f4)]] rfl (by (try simp only [List.map_toArray, List.map_cons, List.map_nil]); first | done | rfl | (simp only [List.length_drop, List.length_take]; rfl)) ?_; (with_reducible refine (laws_zzFits4.calls ((rd_T28 l0 x10_1).f0) ((rd_T28 l0 x10_1).f1) ((rd_T28 l0 x10_1).f2) ((rd_T28 l0 x10_1).f3) ((rd_T28 l0 x10_1).f4) false _ A6.out).mono ?_); rintro e w13 ⟨rfl, hb⟩; refine ⟨_, rfl, ?_⟩; have n0_ := Aside0.mk (blk_below (g := gb367) (o := .cells #[.int .i64 ((rd_T28 l0 x10_1).f0), .string ((rd_T28 l0 x10_1).f1), .string ((rd_T28 l0 x10_1).f2), .int .i64 ((rd_T28 l0 x10_1).f3), .int .i64 ((rd_T28 l0 x10_1).f4)] 28 (0, 0)) (by (with_reducible repeat (first | refine blk_drewN ?_ _ | refine blk_drew ?_ | refine blk_alloc ?_ _)); refine blk_put (cs := #[.int .i64 ((rd_T28 l0 x10_1).f0), .string ((rd_T28 l0 x10_1).f1), .string ((rd_T28 l0 x10_1).f2), .int .i64 ((rd_T28 l0 x10_1).f3), .int .i64 0]) ?_ 4 _ rfl; (with_reducible repeat (first | refine blk_drewN ?_ _ | refine blk_drew ?_ | refine blk_alloc ?_ _)); refine blk_put (cs := #[.int .i64 ((rd_T28 l0 x10_1).f0), .string ((rd_T28 l0 x10_1).f1), .string ((rd_T28 l0 x10_1).f2), .int .i64 0, .int .i64 0]) ?_ 3 _ rfl; (with_reducible repeat (first | refine blk_drewN ?_ _ | refine blk_drew ?_ | refine blk_alloc ?_ _)); refine blk_put (cs := #[.int .i64 ((rd_T28 l0 x10_1).f0), .string ((rd_T28 l0 x10_1).f1), .string (⟨#[]⟩ : ByteArray), .int .i64 0, .int .i64 0]) ?_ 2 _ rfl; (with_reducible repeat (first | refine blk_drewN ?_ _ | refine blk_drew ?_ | refine blk_alloc ?_ _)); refine blk_put (cs := #[.int .i64 ((rd_T28 l0 x10_1).f0), .string (⟨#[]⟩ : ByteArray), .string (⟨#[]⟩ : ByteArray), .int .i64 0, .int .i64 0]) ?_ 1 _ rfl; (with_reducible repeat (first | refine blk_drewN ?_ _ | refine blk_drew ?_ | refine blk_alloc ?_ _)); refine blk_put (cs := #[.int .i64 0, .string (⟨#[]⟩ : ByteArray), .string (⟨#[]⟩ : ByteArray), .int .i64 0, .int .i64 0]) ?_ 0 _ rfl; (with_reducible repeat (first | refine blk_drewN ?_ _ | refine blk_drew ?_ | refine blk_alloc ?_ _)); exact BK367.out) hb); have n1_ := Aside0.mk (below_step (by repeat (first | (with_reducible first | exact HB.out | apply below_alloc | apply pw_below_drewN | apply below_drew1 | refine below_set ?_ GE367.out) | exact HB.out)) hb); clear BK367; clear HB; have BK367 := n0_; have HB := n1_; clear n0_ n1_; (try clear hb); (try clear hb2); (try clear hk); (try clear hi)))
                go_ret
                exact ⟨by first | rfl | (simp [errW_none, errW_some] <;> rfl) | (simp [*, errW_none, errW_some] <;> rfl), by repeat (first | (with_reducible first | exact HB.out | apply below_alloc | apply pw_below_drewN | apply below_drew1 | refine below_set ?_ GE367.out) | exact HB.out)⟩
            · rw [if_neg c5] at H
              exact absurd H (by simp)
          · rw [if_neg c4] at H
            exact absurd H (by simp)
        · rw [if_neg c3] at H
          have c3b0 : decide (x10_1 < (l0.length : Int)) = false := decide_eq_false c3
          clear c3
          obtain rfl := Option.some.inj H
          go_wp2
          go_ret
          exact ⟨by first | rfl | (simp [errW_none, errW_some] <;> rfl) | (simp [*, errW_none, errW_some] <;> rfl), by repeat (first | (with_reducible first | exact HB.out | apply below_alloc | apply pw_below_drewN | apply below_drew1) | exact HB.out)⟩
def laws_word.l0 : Nat → ByteArray → Int → Int → Option (Bool)
  | 0, _, _, _ => none
  | k + 1, x0, x6, x7 => if x7 < x6 then (if 0 ≤ x7 then (if x7 < (x0.size : Int) then (if (Go.bits .or .u8 (bt x0 x7) 32) < 97 then (if (bt x0 x7) < 48 then (some false) else (if (bt x0 x7) > 57 then (some false) else (laws_word.l0 k x0 x6 (wrap64 (x7 + 1))))) else (if (Go.bits .or .u8 (bt x0 x7) 32) > 122 then (if (bt x0 x7) < 48 then (some false) else (if (bt x0 x7) > 57 then (some false) else (laws_word.l0 k x0 x6 (wrap64 (x7 + 1))))) else (laws_word.l0 k x0 x6 (wrap64 (x7 + 1))))) else (none)) else (none)) else (some (x0.toList != ([] : List UInt8)))
def laws_word.f (k : Nat) (a0 : ByteArray) : Option (Bool) := laws_word.l0 k a0 (a0.size : Int) 0
end Go.Proofs.Ytoimkmoalmmooaa.QA
namespace Go.Proofs.Ytoimkmoalmmooaa.QA
open Go.Proofs.Ytoimkmoalmmooaa.Given
open Go.Proofs.Ytoimkmoalmmooaa.PrX
open Go.RowKit Go.Proofs.YtoimkmoalmmooaaW.PrintWords Go.Proofs.YtoimkmoalmmooaaW.PrintLast Go.Proofs.YtoimkmoalmmooaaW.PrintMore
mutual
def laws_name.j0 : Nat → ByteArray → Bool → Option (Bool)
  | 0, _, _ => none
  | k + 1, x0, x17 => if x17 = true then (some false) else (laws_name.l0 k x0 (x0.size : Int) 0)
def laws_name.l0 : Nat → ByteArray → Int → Int → Option (Bool)
  | 0, _, _, _ => none
  | k + 1, x0, x19, x20 => if x20 < x19 then (if 0 ≤ x20 then (if x20 < (x0.size : Int) then (if (bt x0 x20) = 45 then (laws_name.l0 k x0 x19 (wrap64 (x20 + 1))) else (if x20 ≤ (wrap64 (x20 + 1)) then (if (wrap64 (x20 + 1)) ≤ (x0.size : Int) then ((laws_word.f k (x0.extract (x20 : Int).toNat ((wrap64 (x20 + 1)) : Int).toNat)).bind fun t266 => (if t266 = true then (laws_name.l0 k x0 x19 (wrap64 (x20 + 1))) else (some false))) else (none)) else (none))) else (none)) else (none)) else (some true)
end
def laws_name.f (k : Nat) (a0 : ByteArray) : Option (Bool) := if (a0.size : Int) < 2 then (laws_name.j0 k a0 true) else (if 0 < (a0.size : Int) then (if (Go.bits .or .u8 (bt a0 0) 32) = 120 then (laws_name.j0 k a0 (decide ((a0.size : Int) > 60))) else (laws_name.j0 k a0 true)) else (none))
end Go.Proofs.Ytoimkmoalmmooaa.QA
namespace Go.Proofs.Ytoimkmoalmmooaa.QA
open Go.Proofs.Ytoimkmoalmmooaa.Given
open Go.Proofs.Ytoimkmoalmmooaa.PrX
open Go.RowKit Go.Proofs.YtoimkmoalmmooaaW.PrintWords Go.Proofs.YtoimkmoalmmooaaW.PrintLast Go.Proofs.YtoimkmoalmmooaaW.PrintMore
def laws_short.l0 : Nat → List ByteArray → List ByteArray → Int → Int → Option (Bool)
  | 0, _, _, _, _ => none
  | k + 1, x0, x5, x6, x7 => if x7 < x6 then (if 0 ≤ x7 then (if x7 < (x5.length : Int) then (if ((rdOf ByteArray.empty x5 x7).size : Int) > 200 then (some false) else (laws_short.l0 k x0 x5 x6 (wrap64 (x7 + 1)))) else (none)) else (none)) else (some (decide ((x0.length : Int) ≤ 60)))
def laws_short.f (k : Nat) (l0 : List ByteArray) : Option (Bool) := laws_short.l0 k l0 l0 (l0.length : Int) 0
end Go.Proofs.Ytoimkmoalmmooaa.QA
