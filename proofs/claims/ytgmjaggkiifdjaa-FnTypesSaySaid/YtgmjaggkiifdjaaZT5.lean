/- Texts of this claim, one behind the other (merged by wip/prune.py of this repo, without what the proof does not use): QA0, QA8, QA9, QA26, QA27, QA10, QA24, QA15, QA22, QA23, QA14, QA16, QA11, QA2, QA3. -/
import Derived.Test.YtgmjaggkiifdjaaZT2
import Derived.Test.YtgmjaggkiifdjaaZT3
import Derived.ArgAppend
import Derived.Below
import Derived.BigQuiet
import Derived.Deep.AppendLies
import Derived.Deep.CutBlock
import Derived.Deep.DeepCutAuto
import Derived.Deep.Draws
import Derived.Deep.LoopGhost
import Derived.Deep.OwnRows
import Derived.Deep.QuietTactic
import Derived.Deep.RegionHeld3
import Derived.KernelRfl
import Derived.Laws.BitsLemmas
import Derived.Laws.BytesArg
import Derived.Laws.IdiomCopy
import Derived.Laws.MakeOwn
import Derived.Laws.OwnMore
import Derived.Laws.Rows
import Derived.Laws.Slices
import Derived.Laws.StructEq
import Derived.Lib.AppendStr
import Derived.Lib.ConvBytes
import Derived.Maps.AppendAt
import Derived.OrdersHeld
import Derived.OwnWalk
import Derived.RowKit
import Derived.RowKit3
import Derived.Tactics
import Derived.Test.YtgmjaggkiifdjaaProg
import Derived.WalkKit
import Derived.WideLaws
set_option linter.unusedVariables false
set_option linter.unusedSimpArgs false
namespace Go.Proofs.Ytgmjaggkiifdjaa.QA
open Go.Proofs.Ytgmjaggkiifdjaa.Given
open Go.Proofs.Ytgmjaggkiifdjaa.PrX
open Go.RowKit Go.Proofs.YtgmjaggkiifdjaaW.PrintWords Go.Proofs.YtgmjaggkiifdjaaW.PrintLast Go.Proofs.YtgmjaggkiifdjaaW.PrintMore
def errW : Option Int → Value
  | none => .nilIface
  | some c => .iface 0 (.int .i64 c)
theorem errW_none : errW none = .nilIface := rfl
theorem errW_some (c : Int) : errW (some c) = .iface 0 (.int .i64 c) := rfl
theorem info38 : (Try.prog.info? 38).map (fun i => (i.zero, i.size, i.bytes)) = some (some (.agg #[(.string ⟨#[]⟩), (.string ⟨#[]⟩)]), 2, 32) := by kernel_rfl
theorem info49 : (Try.prog.info? 49).map (fun i => (i.zero, i.size, i.bytes)) = some (some (.agg #[(.string ⟨#[]⟩), (.int .i64 0), (.int .i64 0), (.int .i64 0), (.string ⟨#[]⟩)]), 5, 56) := by kernel_rfl
theorem info50 : (Try.prog.info? 50).map (fun i => (i.zero, i.size, i.bytes)) = some (some (.agg #[(.string ⟨#[]⟩), (.int .i64 0), (.int .i64 0), (.int .i64 0), (.string ⟨#[]⟩)]), 5, 56) := by kernel_rfl
theorem info68 : (Try.prog.info? 68).map (fun i => (i.zero, i.size, i.bytes)) = some (some (.agg #[(.string ⟨#[]⟩), (.int .i64 0), (.int .i64 0), (.int .i64 0), (.string ⟨#[]⟩)]), 5, 56) := by kernel_rfl
structure S38 where
  f0 : ByteArray
  f1 : ByteArray
def z38 : S38 := ⟨(⟨#[]⟩ : ByteArray), (⟨#[]⟩ : ByteArray)⟩
def k38 : Kd S38 := Kd.iso (Kd.pair Kd.string Kd.string) (fun x : S38 => (x.f0, x.f1))
theorem k38_open {w : World} {x : S38} {cs : List Value} (h : k38.K w x cs) : cs = [.string x.f0, .string x.f1] := by
  obtain ⟨_, _, rfl, rfl, rfl⟩ := h
  exact rfl
theorem k38_mkM (w : World) (base : Nat) (ok : Nat → Prop) (x : S38)  : k38.M w base ok x [.string x.f0, .string x.f1] := ⟨[.string x.f0], [.string x.f1], rfl, rfl, rfl⟩
def rd_T38 (xs : List S38) (i : Int) : S38 := xs.getD i.toNat z38
theorem at_T38 {w : World} {A : Option Addr} {n : Nat} {xs : List S38} (h : Kd.C k38 w A n xs) (i : Int) (h0 : 0 ≤ i) (h1 : i < n) : ∃ ad , A = some ad ∧ w.cell? (ad.add (i.toNat * 2)) = some (.string (rd_T38 xs i).f0) ∧ w.cell? ⟨(ad.add (i.toNat * 2)).block, (ad.add (i.toNat * 2)).off + 1, none⟩ = some (.string (rd_T38 xs i).f1) := by
  obtain ⟨ad, c, e, _, hK, hc0⟩ := Kd.C_get h z38 i h0 h1
  have hc : ∀ j u, c[j]? = some u → w.cell? (ad.add (i.toNat * 2 + j)) = some u := hc0
  obtain rfl := k38_open hK
  exact ⟨ad, e, hc 0 _ rfl, by rw [← add_field _ _ 1 (by omega)]; exact hc 1 _ rfl⟩
structure S36 where
  f0 : ByteArray
  f1 : ByteArray
structure S49 where
  f0 : ByteArray
  f1 : Int
  f2 : Int
  f3 : Int
  f4 : ByteArray
def z49 : S49 := ⟨(⟨#[]⟩ : ByteArray), (0 : Int), (0 : Int), (0 : Int), (⟨#[]⟩ : ByteArray)⟩
def k49 : Kd S49 := Kd.iso (Kd.pair Kd.string (Kd.pair (Kd.int .i64) (Kd.pair (Kd.int .i64) (Kd.pair (Kd.int .i64) Kd.string)))) (fun x : S49 => (x.f0, x.f1, x.f2, x.f3, x.f4))
theorem k49_open {w : World} {x : S49} {cs : List Value} (h : k49.K w x cs) : cs = [.string x.f0, .int .i64 x.f1, .int .i64 x.f2, .int .i64 x.f3, .string x.f4] := by
  obtain ⟨_, _, rfl, rfl, ⟨_, _, rfl, rfl, ⟨_, _, rfl, rfl, ⟨_, _, rfl, rfl, rfl⟩⟩⟩⟩ := h
  exact rfl
theorem k49_mk (w : World) (x : S49)  : k49.K w x [.string x.f0, .int .i64 x.f1, .int .i64 x.f2, .int .i64 x.f3, .string x.f4] := ⟨[.string x.f0], [.int .i64 x.f1, .int .i64 x.f2, .int .i64 x.f3, .string x.f4], rfl, rfl, ⟨[.int .i64 x.f1], [.int .i64 x.f2, .int .i64 x.f3, .string x.f4], rfl, rfl, ⟨[.int .i64 x.f2], [.int .i64 x.f3, .string x.f4], rfl, rfl, ⟨[.int .i64 x.f3], [.string x.f4], rfl, rfl, rfl⟩⟩⟩⟩
theorem k49_mkM (w : World) (base : Nat) (ok : Nat → Prop) (x : S49)  : k49.M w base ok x [.string x.f0, .int .i64 x.f1, .int .i64 x.f2, .int .i64 x.f3, .string x.f4] := ⟨[.string x.f0], [.int .i64 x.f1, .int .i64 x.f2, .int .i64 x.f3, .string x.f4], rfl, rfl, ⟨[.int .i64 x.f1], [.int .i64 x.f2, .int .i64 x.f3, .string x.f4], rfl, rfl, ⟨[.int .i64 x.f2], [.int .i64 x.f3, .string x.f4], rfl, rfl, ⟨[.int .i64 x.f3], [.string x.f4], rfl, rfl, rfl⟩⟩⟩⟩
def rd_T49 (xs : List S49) (i : Int) : S49 := xs.getD i.toNat z49
theorem at_T49 {w : World} {A : Option Addr} {n : Nat} {xs : List S49} (h : Kd.C k49 w A n xs) (i : Int) (h0 : 0 ≤ i) (h1 : i < n) : ∃ ad , A = some ad ∧ w.cell? (ad.add (i.toNat * 5)) = some (.string (rd_T49 xs i).f0) ∧ w.cell? ⟨(ad.add (i.toNat * 5)).block, (ad.add (i.toNat * 5)).off + 1, none⟩ = some (.int .i64 (rd_T49 xs i).f1) ∧ w.cell? ⟨(ad.add (i.toNat * 5)).block, (ad.add (i.toNat * 5)).off + 2, none⟩ = some (.int .i64 (rd_T49 xs i).f2) ∧ w.cell? ⟨(ad.add (i.toNat * 5)).block, (ad.add (i.toNat * 5)).off + 3, none⟩ = some (.int .i64 (rd_T49 xs i).f3) ∧ w.cell? ⟨(ad.add (i.toNat * 5)).block, (ad.add (i.toNat * 5)).off + 4, none⟩ = some (.string (rd_T49 xs i).f4) := by
  obtain ⟨ad, c, e, _, hK, hc0⟩ := Kd.C_get h z49 i h0 h1
  have hc : ∀ j u, c[j]? = some u → w.cell? (ad.add (i.toNat * 5 + j)) = some u := hc0
  obtain rfl := k49_open hK
  exact ⟨ad, e, hc 0 _ rfl, by rw [← add_field _ _ 1 (by omega)]; exact hc 1 _ rfl, by rw [← add_field _ _ 2 (by omega)]; exact hc 2 _ rfl, by rw [← add_field _ _ 3 (by omega)]; exact hc 3 _ rfl, by rw [← add_field _ _ 4 (by omega)]; exact hc 4 _ rfl⟩
structure S68 where
  f0 : ByteArray
  f1 : Int
  f2 : Int
  f3 : Int
  f4 : ByteArray
def z68 : S68 := ⟨(⟨#[]⟩ : ByteArray), (0 : Int), (0 : Int), (0 : Int), (⟨#[]⟩ : ByteArray)⟩
def k68 : Kd S68 := Kd.iso (Kd.pair Kd.string (Kd.pair (Kd.int .i64) (Kd.pair (Kd.int .i64) (Kd.pair (Kd.int .i64) Kd.string)))) (fun x : S68 => (x.f0, x.f1, x.f2, x.f3, x.f4))
theorem k68_open {w : World} {x : S68} {cs : List Value} (h : k68.K w x cs) : cs = [.string x.f0, .int .i64 x.f1, .int .i64 x.f2, .int .i64 x.f3, .string x.f4] := by
  obtain ⟨_, _, rfl, rfl, ⟨_, _, rfl, rfl, ⟨_, _, rfl, rfl, ⟨_, _, rfl, rfl, rfl⟩⟩⟩⟩ := h
  exact rfl
theorem k68_mkM (w : World) (base : Nat) (ok : Nat → Prop) (x : S68)  : k68.M w base ok x [.string x.f0, .int .i64 x.f1, .int .i64 x.f2, .int .i64 x.f3, .string x.f4] := ⟨[.string x.f0], [.int .i64 x.f1, .int .i64 x.f2, .int .i64 x.f3, .string x.f4], rfl, rfl, ⟨[.int .i64 x.f1], [.int .i64 x.f2, .int .i64 x.f3, .string x.f4], rfl, rfl, ⟨[.int .i64 x.f2], [.int .i64 x.f3, .string x.f4], rfl, rfl, ⟨[.int .i64 x.f3], [.string x.f4], rfl, rfl, rfl⟩⟩⟩⟩
def rd_T68 (xs : List S68) (i : Int) : S68 := xs.getD i.toNat z68
theorem at_T68 {w : World} {A : Option Addr} {n : Nat} {xs : List S68} (h : Kd.C k68 w A n xs) (i : Int) (h0 : 0 ≤ i) (h1 : i < n) : ∃ ad , A = some ad ∧ w.cell? (ad.add (i.toNat * 5)) = some (.string (rd_T68 xs i).f0) ∧ w.cell? ⟨(ad.add (i.toNat * 5)).block, (ad.add (i.toNat * 5)).off + 1, none⟩ = some (.int .i64 (rd_T68 xs i).f1) ∧ w.cell? ⟨(ad.add (i.toNat * 5)).block, (ad.add (i.toNat * 5)).off + 2, none⟩ = some (.int .i64 (rd_T68 xs i).f2) ∧ w.cell? ⟨(ad.add (i.toNat * 5)).block, (ad.add (i.toNat * 5)).off + 3, none⟩ = some (.int .i64 (rd_T68 xs i).f3) ∧ w.cell? ⟨(ad.add (i.toNat * 5)).block, (ad.add (i.toNat * 5)).off + 4, none⟩ = some (.string (rd_T68 xs i).f4) := by
  obtain ⟨ad, c, e, _, hK, hc0⟩ := Kd.C_get h z68 i h0 h1
  have hc : ∀ j u, c[j]? = some u → w.cell? (ad.add (i.toNat * 5 + j)) = some u := hc0
  obtain rfl := k68_open hK
  exact ⟨ad, e, hc 0 _ rfl, by rw [← add_field _ _ 1 (by omega)]; exact hc 1 _ rfl, by rw [← add_field _ _ 2 (by omega)]; exact hc 2 _ rfl, by rw [← add_field _ _ 3 (by omega)]; exact hc 3 _ rfl, by rw [← add_field _ _ 4 (by omega)]; exact hc 4 _ rfl⟩
structure S50 where
  f0 : ByteArray
  f1 : Int
  f2 : Int
  f3 : Int
  f4 : ByteArray
def z50 : S50 := ⟨(⟨#[]⟩ : ByteArray), (0 : Int), (0 : Int), (0 : Int), (⟨#[]⟩ : ByteArray)⟩
def k50 : Kd S50 := Kd.iso (Kd.pair Kd.string (Kd.pair (Kd.int .i64) (Kd.pair (Kd.int .i64) (Kd.pair (Kd.int .i64) Kd.string)))) (fun x : S50 => (x.f0, x.f1, x.f2, x.f3, x.f4))
theorem k50_open {w : World} {x : S50} {cs : List Value} (h : k50.K w x cs) : cs = [.string x.f0, .int .i64 x.f1, .int .i64 x.f2, .int .i64 x.f3, .string x.f4] := by
  obtain ⟨_, _, rfl, rfl, ⟨_, _, rfl, rfl, ⟨_, _, rfl, rfl, ⟨_, _, rfl, rfl, rfl⟩⟩⟩⟩ := h
  exact rfl
theorem k50_mkM (w : World) (base : Nat) (ok : Nat → Prop) (x : S50)  : k50.M w base ok x [.string x.f0, .int .i64 x.f1, .int .i64 x.f2, .int .i64 x.f3, .string x.f4] := ⟨[.string x.f0], [.int .i64 x.f1, .int .i64 x.f2, .int .i64 x.f3, .string x.f4], rfl, rfl, ⟨[.int .i64 x.f1], [.int .i64 x.f2, .int .i64 x.f3, .string x.f4], rfl, rfl, ⟨[.int .i64 x.f2], [.int .i64 x.f3, .string x.f4], rfl, rfl, ⟨[.int .i64 x.f3], [.string x.f4], rfl, rfl, rfl⟩⟩⟩⟩
def rd_T50 (xs : List S50) (i : Int) : S50 := xs.getD i.toNat z50
theorem at_T50 {w : World} {A : Option Addr} {n : Nat} {xs : List S50} (h : Kd.C k50 w A n xs) (i : Int) (h0 : 0 ≤ i) (h1 : i < n) : ∃ ad , A = some ad ∧ w.cell? (ad.add (i.toNat * 5)) = some (.string (rd_T50 xs i).f0) ∧ w.cell? ⟨(ad.add (i.toNat * 5)).block, (ad.add (i.toNat * 5)).off + 1, none⟩ = some (.int .i64 (rd_T50 xs i).f1) ∧ w.cell? ⟨(ad.add (i.toNat * 5)).block, (ad.add (i.toNat * 5)).off + 2, none⟩ = some (.int .i64 (rd_T50 xs i).f2) ∧ w.cell? ⟨(ad.add (i.toNat * 5)).block, (ad.add (i.toNat * 5)).off + 3, none⟩ = some (.int .i64 (rd_T50 xs i).f3) ∧ w.cell? ⟨(ad.add (i.toNat * 5)).block, (ad.add (i.toNat * 5)).off + 4, none⟩ = some (.string (rd_T50 xs i).f4) := by
  obtain ⟨ad, c, e, _, hK, hc0⟩ := Kd.C_get h z50 i h0 h1
  have hc : ∀ j u, c[j]? = some u → w.cell? (ad.add (i.toNat * 5 + j)) = some u := hc0
  obtain rfl := k50_open hK
  exact ⟨ad, e, hc 0 _ rfl, by rw [← add_field _ _ 1 (by omega)]; exact hc 1 _ rfl, by rw [← add_field _ _ 2 (by omega)]; exact hc 2 _ rfl, by rw [← add_field _ _ 3 (by omega)]; exact hc 3 _ rfl, by rw [← add_field _ _ 4 (by omega)]; exact hc 4 _ rfl⟩
def laws_short.l0 : Nat → List ByteArray → List ByteArray → Int → Int → Option (Bool)
  | 0, _, _, _, _ => none
  | k + 1, x0, x5, x6, x7 => if x7 < x6 then (if 0 ≤ x7 then (if x7 < (x5.length : Int) then (if ((rdOf ByteArray.empty x5 x7).size : Int) > 200 then (some false) else (laws_short.l0 k x0 x5 x6 (wrap64 (x7 + 1)))) else (none)) else (none)) else (some (decide ((x0.length : Int) ≤ 60)))
def laws_short.f (k : Nat) (l0 : List ByteArray) : Option (Bool) := laws_short.l0 k l0 l0 (l0.length : Int) 0
set_option maxHeartbeats 8000000 in
set_option maxRecDepth 100000 in
theorem laws_short.calls (k : Nat) (A0 : Option Addr) (c0 : Nat) (l0 : List ByteArray) (r : Bool) (w : World) (hr0 : Kd.C Kd.string w A0 l0.length l0) (hc0 : l0.length ≤ c0) (h : laws_short.f k l0 = some r) :
    Calls Try.prog 7 #[.slice A0 l0.length c0] w fun e w' => e = .returned (.bool r) ∧ Drawn0 w w' := by
  have HR0 := Aside0.mk hr0
  have HC0 := Aside0.mk hc0
  clear hr0 hc0
  have H : (laws_short.l0 k l0 l0 (l0.length : Int) 0) = some r := h
  clear h
  have H' := Aside0.mk H
  clear H
  go_enter Try.func7, Try.ntmps7
  go_wp2
  go_loopg [7] k (fun kq v7 w' => ∃ (x7_1 : Int), v7 = .int .i64 x7_1 ∧ Aside0 (laws_short.l0 kq l0 l0 (l0.length : Int) x7_1 = some r) ∧ Aside0 (kq ≤ k) ∧ Drawn0 w w')
  case atStart => exact ⟨(0), (by first | rfl | (simp; done) | (rw [prx_ne]; first | done | rfl) | (simp [*]; done)), H', ⟨Nat.le_refl _⟩, by repeat (first | exact Drawn0.refl _ | apply Drawn0.step)⟩
  case round =>
    clear H'
    obtain ⟨x7_1, rfl, HA, HK1, ⟨m1, rfl⟩⟩ := hrel
    cases gk with
    | zero => exact absurd HA.out (by simp [laws_short.l0])
    | succ k1 =>
      have H := HA.out
      clear HA
      simp only [laws_short.l0] at H
      by_cases c2 : x7_1 < (l0.length : Int)
      · rw [if_pos c2] at H
        have c2b0 : decide (x7_1 < (l0.length : Int)) = true := decide_eq_true c2
        clear c2
        by_cases c3 : 0 ≤ x7_1
        · rw [if_pos c3] at H
          have c3b0 : decide (0 ≤ x7_1) = true := decide_eq_true c3
          clear c3
          by_cases c4 : x7_1 < (l0.length : Int)
          · rw [if_pos c4] at H
            have c4b0 : decide (x7_1 < (l0.length : Int)) = true := decide_eq_true c4
            clear c4
            by_cases c5 : ((rdOf ByteArray.empty l0 x7_1).size : Int) > 200
            · rw [if_pos c5] at H
              have c5b0 : decide (200 < ((rdOf ByteArray.empty l0 x7_1).size : Int)) = true := decide_eq_true c5
              have c5b1 : decide (200 < (rdOf ByteArray.empty l0 x7_1).size) = true := decide_eq_true (by omega)
              clear c5
              obtain rfl := Option.some.inj H
              have p114 : 0 ≤ (x7_1 : Int) := of_decide_eq_true (by first | (with_reducible assumption) | assumption)
              have q114 : x7_1 < (l0.length : Int) := of_decide_eq_true (by first | (with_reducible assumption) | assumption)
              obtain ⟨ad114, e114, hx114_0⟩ := Kd.at_string HR0.out x7_1 p114 q114
              cases e114
              replace p114 := eq_true p114
              replace q114 := eq_true q114
              go_wp2
              go_ret
              exact ⟨by first | rfl | (simp; done) | (rw [prx_ne]; first | done | rfl) | (simp [*]; done), by repeat (first | exact Drawn0.refl _ | apply Drawn0.step)⟩
            · rw [if_neg c5] at H
              have c5b0 : decide (200 < ((rdOf ByteArray.empty l0 x7_1).size : Int)) = false := decide_eq_false c5
              have c5b1 : decide (200 < (rdOf ByteArray.empty l0 x7_1).size) = false := decide_eq_false (by omega)
              clear c5
              have H' := Aside0.mk H
              clear H
              have p114 : 0 ≤ (x7_1 : Int) := of_decide_eq_true (by first | (with_reducible assumption) | assumption)
              have q114 : x7_1 < (l0.length : Int) := of_decide_eq_true (by first | (with_reducible assumption) | assumption)
              obtain ⟨ad114, e114, hx114_0⟩ := Kd.at_string HR0.out x7_1 p114 q114
              cases e114
              replace p114 := eq_true p114
              replace q114 := eq_true q114
              go_wp2
              go_roundg k1
              case measure => have := HK1.out; omega
              case rel => exact ⟨(wrap64 (x7_1 + 1)), (by first | rfl | (simp; done) | (rw [prx_ne]; first | done | rfl) | (simp [*]; done)), H', ⟨by have := HK1.out; omega⟩, by repeat (first | exact Drawn0.refl _ | apply Drawn0.step)⟩
          · rw [if_neg c4] at H
            exact absurd H (by simp)
        · rw [if_neg c3] at H
          exact absurd H (by simp)
      · rw [if_neg c2] at H
        have c2b0 : decide (x7_1 < (l0.length : Int)) = false := decide_eq_false c2
        clear c2
        obtain rfl := Option.some.inj H
        go_wp2
        go_ret
        exact ⟨by first | rfl | (simp; done) | (rw [prx_ne]; first | done | rfl) | (simp [*]; done), by repeat (first | exact Drawn0.refl _ | apply Drawn0.step)⟩
def laws_holds.l0 : Nat → ByteArray → Int → Int → Int → Option (Bool)
  | 0, _, _, _, _ => none
  | k + 1, x0, x1, x7, x8 => if x8 < x7 then (if 0 ≤ x8 then (if x8 < (x0.size : Int) then (if (bt x0 x8) = x1 then (some true) else (laws_holds.l0 k x0 x1 x7 (wrap64 (x8 + 1)))) else (none)) else (none)) else (some false)
def laws_holds.f (k : Nat) (a0 : ByteArray) (a1 : Int) : Option (Bool) := laws_holds.l0 k a0 a1 (a0.size : Int) 0
set_option maxHeartbeats 8000000 in
set_option maxRecDepth 100000 in
theorem laws_holds.calls (k : Nat) (a0 : ByteArray) (a1 : Int) (r : Bool) (w : World) (h : laws_holds.f k a0 a1 = some r) :
    Calls Try.prog 8 #[.string a0, .int .u8 a1] w fun e w' => e = .returned (.bool r) ∧ Drawn0 w w' := by
  have H : (laws_holds.l0 k a0 a1 (a0.size : Int) 0) = some r := h
  clear h
  have H' := Aside0.mk H
  clear H
  go_enter Try.func8, Try.ntmps8
  go_wp2
  go_loopg [8] k (fun kq v8 w' => ∃ (x8_1 : Int), v8 = .int .i64 x8_1 ∧ Aside0 (laws_holds.l0 kq a0 a1 (a0.size : Int) x8_1 = some r) ∧ Aside0 (kq ≤ k) ∧ Drawn0 w w')
  case atStart => exact ⟨(0), (by first | rfl | (simp; done) | (rw [prx_ne]; first | done | rfl) | (simp [*]; done)), H', ⟨Nat.le_refl _⟩, by repeat (first | exact Drawn0.refl _ | apply Drawn0.step)⟩
  case round =>
    clear H'
    try clear p2
    obtain ⟨x8_1, rfl, HA, HK1, ⟨m1, rfl⟩⟩ := hrel
    cases gk with
    | zero => exact absurd HA.out (by simp [laws_holds.l0])
    | succ k1 =>
      have H := HA.out
      clear HA
      simp only [laws_holds.l0] at H
      by_cases c3 : x8_1 < (a0.size : Int)
      · rw [if_pos c3] at H
        have c3b0 : decide (x8_1 < (a0.size : Int)) = true := decide_eq_true c3
        clear c3
        by_cases c4 : 0 ≤ x8_1
        · rw [if_pos c4] at H
          have c4b0 : decide (0 ≤ x8_1) = true := decide_eq_true c4
          clear c4
          by_cases c5 : x8_1 < (a0.size : Int)
          · rw [if_pos c5] at H
            have c5b0 : decide (x8_1 < (a0.size : Int)) = true := decide_eq_true c5
            clear c5
            by_cases c7 : (bt a0 x8_1) = a1
            · rw [if_pos c7] at H
              have c7b0 : ((bt a0 x8_1) == a1) = true := beq_iff_eq.mpr c7
              have c7b1 : ((bt a0 x8_1) != a1) = false := bne_eq_false_iff_eq.mpr c7
              clear c7
              obtain rfl := Option.some.inj H
              have p6 : 0 ≤ (x8_1 : Int) := of_decide_eq_true (by first | (with_reducible assumption) | assumption)
              have q6 : x8_1 < (a0.size : Int) := of_decide_eq_true (by first | (with_reducible assumption) | assumption)
              have hx6 := bt_at a0 x8_1
              replace p6 := eq_true p6
              replace q6 := eq_true q6
              go_wp2
              go_ret
              exact ⟨by first | rfl | (simp; done) | (rw [prx_ne]; first | done | rfl) | (simp [*]; done), by repeat (first | exact Drawn0.refl _ | apply Drawn0.step)⟩
            · rw [if_neg c7] at H
              have c7b0 : ((bt a0 x8_1) == a1) = false := beq_eq_false_iff_ne.mpr c7
              have c7b1 : ((bt a0 x8_1) != a1) = true := bne_iff_ne.mpr c7
              have H' := Aside0.mk H
              clear H
              have p6 : 0 ≤ (x8_1 : Int) := of_decide_eq_true (by first | (with_reducible assumption) | assumption)
              have q6 : x8_1 < (a0.size : Int) := of_decide_eq_true (by first | (with_reducible assumption) | assumption)
              have hx6 := bt_at a0 x8_1
              replace p6 := eq_true p6
              replace q6 := eq_true q6
              go_wp2
              go_roundg k1
              case measure => have := HK1.out; omega
              case rel => exact ⟨(wrap64 (x8_1 + 1)), (by first | rfl | (simp; done) | (rw [prx_ne]; first | done | rfl) | (simp [*]; done)), H', ⟨by have := HK1.out; omega⟩, by repeat (first | exact Drawn0.refl _ | apply Drawn0.step)⟩
          · rw [if_neg c5] at H
            exact absurd H (by simp)
        · rw [if_neg c4] at H
          exact absurd H (by simp)
      · rw [if_neg c3] at H
        have c3b0 : decide (x8_1 < (a0.size : Int)) = false := decide_eq_false c3
        clear c3
        obtain rfl := Option.some.inj H
        go_wp2
        go_ret
        exact ⟨by first | rfl | (simp; done) | (rw [prx_ne]; first | done | rfl) | (simp [*]; done), by repeat (first | exact Drawn0.refl _ | apply Drawn0.step)⟩
def laws_zzFits8.f (a0_0 : ByteArray) (a0_1 : Int) (a0_2 : Int) (a0_3 : Int) (a0_4 : ByteArray) : Option (Bool) := if (a0_0.size : Int) > 2147483647 then (some false) else (if (a0_4.size : Int) > 2147483647 then (some false) else (some true))
set_option maxHeartbeats 8000000 in
set_option maxRecDepth 100000 in
theorem laws_zzFits8.calls (a0_0 : ByteArray) (a0_1 : Int) (a0_2 : Int) (a0_3 : Int) (a0_4 : ByteArray) (r : Bool) (w : World) (h : laws_zzFits8.f a0_0 a0_1 a0_2 a0_3 a0_4 = some r) :
    Calls Try.prog 34 #[.agg #[.string a0_0, .int .i64 a0_1, .int .i64 a0_2, .int .i64 a0_3, .string a0_4]] w fun e w' => e = .returned (.bool r) ∧ Below w.heap.size w w' := by
  have hu49 := Try.underlying49
  have HB := Aside0.mk (Below.refl w.heap.size w)
  have H : (if (a0_0.size : Int) > 2147483647 then (some false) else (if (a0_4.size : Int) > 2147483647 then (some false) else (some true))) = some r := h
  clear h
  by_cases c2 : (a0_0.size : Int) > 2147483647
  · rw [if_pos c2] at H
    have c2b0 : decide (2147483647 < (a0_0.size : Int)) = true := decide_eq_true c2
    have c2b1 : decide (2147483647 < a0_0.size) = true := decide_eq_true (by omega)
    clear c2
    obtain rfl := Option.some.inj H
    go_enter Try.func34, Try.ntmps34
    go_wp2_with (first | ((with_reducible refine gate_dst (N := 1) rfl ?_); refine box_event ?hg (N := 1) ?hd (cs := #[.string a0_0, .int .i64 a0_1, .int .i64 a0_2, .int .i64 a0_3, .string a0_4]) (t := 49) ?hr ?_; (case hd => rfl); (case hg => rfl); (case hr => first | (go_simp; done) | (go_simp; rfl)); intro gb219 hg w3 hbox hb; have n0_ := Aside0.mk (below_step (by repeat (first | (with_reducible first | exact HB.out | apply below_alloc | apply pw_below_drewN | apply below_drew1) | exact HB.out)) hb); have n1_ := Aside0.mk (hbox); have n2_ := Aside0.mk ((by rw [hg]; exact (below_size (by repeat (first | (with_reducible first | exact HB.out | apply below_alloc | apply pw_below_drewN | apply below_drew1) | exact HB.out))) : w.heap.size ≤ gb219)); have n3_ := Aside0.mk ((by rw [hg]; exact (below_size (by repeat (first | (with_reducible first | exact HB.out | apply below_alloc | apply pw_below_drewN | apply below_drew1) | exact HB.out))) : w.heap.size ≤ gb219)); clear HB; have HB := n0_; have BK219 := n1_; have GW219 := n2_; have GE219 := n3_; clear n0_ n1_ n2_ n3_; clear hb hbox hg; have hcz4_0 : w3.cell? ⟨gb219, 0, none⟩ = some (.string a0_0) := (blk_cell BK219.out 0).trans rfl; have hcz4_1 : w3.cell? ⟨gb219, 1, none⟩ = some (.int .i64 a0_1) := (blk_cell BK219.out 1).trans rfl; have hcz4_2 : w3.cell? ⟨gb219, 2, none⟩ = some (.int .i64 a0_2) := (blk_cell BK219.out 2).trans rfl; have hcz4_3 : w3.cell? ⟨gb219, 3, none⟩ = some (.int .i64 a0_3) := (blk_cell BK219.out 3).trans rfl; have hcz4_4 : w3.cell? ⟨gb219, 4, none⟩ = some (.string a0_4) := (blk_cell BK219.out 4).trans rfl; have hfz4_0 := blk_frozen BK219.out 0; have hfz4_1 := blk_frozen BK219.out 1; have hfz4_2 := blk_frozen BK219.out 2; have hfz4_3 := blk_frozen BK219.out 3; have hfz4_4 := blk_frozen BK219.out 4))
    go_ret
    exact ⟨by first | rfl | (simp [errW_none, errW_some] <;> rfl) | (simp [*, errW_none, errW_some] <;> rfl), by repeat (first | (with_reducible first | exact HB.out | apply below_alloc | apply pw_below_drewN | apply below_drew1 | refine below_set ?_ GE219.out) | exact HB.out)⟩
  · rw [if_neg c2] at H
    have c2b0 : decide (2147483647 < (a0_0.size : Int)) = false := decide_eq_false c2
    have c2b1 : decide (2147483647 < a0_0.size) = false := decide_eq_false (by omega)
    clear c2
    by_cases c5 : (a0_4.size : Int) > 2147483647
    · rw [if_pos c5] at H
      have c5b0 : decide (2147483647 < (a0_4.size : Int)) = true := decide_eq_true c5
      have c5b1 : decide (2147483647 < a0_4.size) = true := decide_eq_true (by omega)
      clear c5
      obtain rfl := Option.some.inj H
      go_enter Try.func34, Try.ntmps34
      go_wp2_with (first | ((with_reducible refine gate_dst (N := 1) rfl ?_); refine box_event ?hg (N := 1) ?hd (cs := #[.string a0_0, .int .i64 a0_1, .int .i64 a0_2, .int .i64 a0_3, .string a0_4]) (t := 49) ?hr ?_; (case hd => rfl); (case hg => rfl); (case hr => first | (go_simp; done) | (go_simp; rfl)); intro gb219 hg w6 hbox hb; have n0_ := Aside0.mk (below_step (by repeat (first | (with_reducible first | exact HB.out | apply below_alloc | apply pw_below_drewN | apply below_drew1) | exact HB.out)) hb); have n1_ := Aside0.mk (hbox); have n2_ := Aside0.mk ((by rw [hg]; exact (below_size (by repeat (first | (with_reducible first | exact HB.out | apply below_alloc | apply pw_below_drewN | apply below_drew1) | exact HB.out))) : w.heap.size ≤ gb219)); have n3_ := Aside0.mk ((by rw [hg]; exact (below_size (by repeat (first | (with_reducible first | exact HB.out | apply below_alloc | apply pw_below_drewN | apply below_drew1) | exact HB.out))) : w.heap.size ≤ gb219)); clear HB; have HB := n0_; have BK219 := n1_; have GW219 := n2_; have GE219 := n3_; clear n0_ n1_ n2_ n3_; clear hb hbox hg; have hcz7_0 : w6.cell? ⟨gb219, 0, none⟩ = some (.string a0_0) := (blk_cell BK219.out 0).trans rfl; have hcz7_1 : w6.cell? ⟨gb219, 1, none⟩ = some (.int .i64 a0_1) := (blk_cell BK219.out 1).trans rfl; have hcz7_2 : w6.cell? ⟨gb219, 2, none⟩ = some (.int .i64 a0_2) := (blk_cell BK219.out 2).trans rfl; have hcz7_3 : w6.cell? ⟨gb219, 3, none⟩ = some (.int .i64 a0_3) := (blk_cell BK219.out 3).trans rfl; have hcz7_4 : w6.cell? ⟨gb219, 4, none⟩ = some (.string a0_4) := (blk_cell BK219.out 4).trans rfl; have hfz7_0 := blk_frozen BK219.out 0; have hfz7_1 := blk_frozen BK219.out 1; have hfz7_2 := blk_frozen BK219.out 2; have hfz7_3 := blk_frozen BK219.out 3; have hfz7_4 := blk_frozen BK219.out 4))
      go_ret
      exact ⟨by first | rfl | (simp [errW_none, errW_some] <;> rfl) | (simp [*, errW_none, errW_some] <;> rfl), by repeat (first | (with_reducible first | exact HB.out | apply below_alloc | apply pw_below_drewN | apply below_drew1 | refine below_set ?_ GE219.out) | exact HB.out)⟩
    · rw [if_neg c5] at H
      have c5b0 : decide (2147483647 < (a0_4.size : Int)) = false := decide_eq_false c5
      have c5b1 : decide (2147483647 < a0_4.size) = false := decide_eq_false (by omega)
      clear c5
      obtain rfl := Option.some.inj H
      go_enter Try.func34, Try.ntmps34
      go_wp2_with (first | ((with_reducible refine gate_dst (N := 1) rfl ?_); refine box_event ?hg (N := 1) ?hd (cs := #[.string a0_0, .int .i64 a0_1, .int .i64 a0_2, .int .i64 a0_3, .string a0_4]) (t := 49) ?hr ?_; (case hd => rfl); (case hg => rfl); (case hr => first | (go_simp; done) | (go_simp; rfl)); intro gb219 hg w8 hbox hb; have n0_ := Aside0.mk (below_step (by repeat (first | (with_reducible first | exact HB.out | apply below_alloc | apply pw_below_drewN | apply below_drew1) | exact HB.out)) hb); have n1_ := Aside0.mk (hbox); have n2_ := Aside0.mk ((by rw [hg]; exact (below_size (by repeat (first | (with_reducible first | exact HB.out | apply below_alloc | apply pw_below_drewN | apply below_drew1) | exact HB.out))) : w.heap.size ≤ gb219)); have n3_ := Aside0.mk ((by rw [hg]; exact (below_size (by repeat (first | (with_reducible first | exact HB.out | apply below_alloc | apply pw_below_drewN | apply below_drew1) | exact HB.out))) : w.heap.size ≤ gb219)); clear HB; have HB := n0_; have BK219 := n1_; have GW219 := n2_; have GE219 := n3_; clear n0_ n1_ n2_ n3_; clear hb hbox hg; have hcz9_0 : w8.cell? ⟨gb219, 0, none⟩ = some (.string a0_0) := (blk_cell BK219.out 0).trans rfl; have hcz9_1 : w8.cell? ⟨gb219, 1, none⟩ = some (.int .i64 a0_1) := (blk_cell BK219.out 1).trans rfl; have hcz9_2 : w8.cell? ⟨gb219, 2, none⟩ = some (.int .i64 a0_2) := (blk_cell BK219.out 2).trans rfl; have hcz9_3 : w8.cell? ⟨gb219, 3, none⟩ = some (.int .i64 a0_3) := (blk_cell BK219.out 3).trans rfl; have hcz9_4 : w8.cell? ⟨gb219, 4, none⟩ = some (.string a0_4) := (blk_cell BK219.out 4).trans rfl; have hfz9_0 := blk_frozen BK219.out 0; have hfz9_1 := blk_frozen BK219.out 1; have hfz9_2 := blk_frozen BK219.out 2; have hfz9_3 := blk_frozen BK219.out 3; have hfz9_4 := blk_frozen BK219.out 4))
      go_ret
      exact ⟨by first | rfl | (simp [errW_none, errW_some] <;> rfl) | (simp [*, errW_none, errW_some] <;> rfl), by repeat (first | (with_reducible first | exact HB.out | apply below_alloc | apply pw_below_drewN | apply below_drew1 | refine below_set ?_ GE219.out) | exact HB.out)⟩
def laws_zzFits7.l0 : Nat → List (S49) → Int → Int → Option (Bool)
  | 0, _, _, _ => none
  | k + 1, x8, x9, x10 => if x10 < x9 then (if 0 ≤ x10 then (if x10 < (x8.length : Int) then ((laws_zzFits8.f ((rd_T49 x8 x10).f0) ((rd_T49 x8 x10).f1) ((rd_T49 x8 x10).f2) ((rd_T49 x8 x10).f3) ((rd_T49 x8 x10).f4)).bind fun t222 => (if t222 = true then (laws_zzFits7.l0 k x8 x9 (wrap64 (x10 + 1))) else (some false))) else (none)) else (none)) else (some true)
def laws_zzFits7.f (k : Nat) (l0 : List (S49)) : Option (Bool) := if (l0.length : Int) > 2147483647 then (some false) else (laws_zzFits7.l0 k l0 (l0.length : Int) 0)
set_option maxHeartbeats 8000000 in
set_option maxRecDepth 100000 in
theorem laws_zzFits7.calls (k : Nat) (A0 : Option Addr) (c0 : Nat) (l0 : List (S49)) (r : Bool) (w : World) (hr0 : Kd.C k49 w A0 l0.length l0) (hc0 : l0.length ≤ c0) (h : laws_zzFits7.f k l0 = some r) :
    Calls Try.prog 17 #[.slice A0 l0.length c0] w fun e w' => e = .returned (.bool r) ∧ Below w.heap.size w w' := by
  have hu49 := Try.underlying49
  have HR0 := Aside0.mk hr0
  have HC0 := Aside0.mk hc0
  clear hr0 hc0
  have HB := Aside0.mk (Below.refl w.heap.size w)
  have H : (if (l0.length : Int) > 2147483647 then (some false) else (laws_zzFits7.l0 k l0 (l0.length : Int) 0)) = some r := h
  clear h
  by_cases c2 : (l0.length : Int) > 2147483647
  · rw [if_pos c2] at H
    have c2b0 : decide (2147483647 < (l0.length : Int)) = true := decide_eq_true c2
    have c2b1 : decide (2147483647 < l0.length) = true := decide_eq_true (by omega)
    clear c2
    obtain rfl := Option.some.inj H
    go_enter Try.func17, Try.ntmps17
    go_wp2
    go_ret
    exact ⟨by first | rfl | (simp [errW_none, errW_some] <;> rfl) | (simp [*, errW_none, errW_some] <;> rfl), by repeat (first | (with_reducible first | exact HB.out | apply below_alloc | apply pw_below_drewN | apply below_drew1) | exact HB.out)⟩
  · rw [if_neg c2] at H
    have c2b0 : decide (2147483647 < (l0.length : Int)) = false := decide_eq_false c2
    have c2b1 : decide (2147483647 < l0.length) = false := decide_eq_false (by omega)
    clear c2
    have H' := Aside0.mk H
    clear H
    go_enter Try.func17, Try.ntmps17
    go_wp2
    go_loopg [10] k (fun kq v10 w' => ∃ (x10_1 : Int), v10 = .int .i64 x10_1 ∧ Aside0 (laws_zzFits7.l0 kq l0 (l0.length : Int) x10_1 = some r) ∧ Aside0 (kq ≤ k) ∧ Aside0 (Below w.heap.size w w'))
    case atStart => exact ⟨(0), (by first | rfl | (simp; done) | (rw [prx_ne]; first | done | rfl) | (simp [*]; done)), H', ⟨Nat.le_refl _⟩, ⟨by repeat (first | (with_reducible first | exact HB.out | apply below_alloc | apply pw_below_drewN | apply below_drew1) | exact HB.out)⟩⟩
    case round =>
      clear H'
      try clear c1
      try clear c2
      try clear c2b0
      try clear c2b1
      try clear p2
      obtain ⟨x10_1, rfl, HA, HK1, HB⟩ := hrel
      cases gk with
      | zero => exact absurd HA.out (by simp [laws_zzFits7.l0])
      | succ k1 =>
        have H := HA.out
        clear HA
        simp only [laws_zzFits7.l0] at H
        by_cases c3 : x10_1 < (l0.length : Int)
        · rw [if_pos c3] at H
          have c3b0 : decide (x10_1 < (l0.length : Int)) = true := decide_eq_true c3
          clear c3
          by_cases c4 : 0 ≤ x10_1
          · rw [if_pos c4] at H
            have c4b0 : decide (0 ≤ x10_1) = true := decide_eq_true c4
            clear c4
            by_cases c5 : x10_1 < (l0.length : Int)
            · rw [if_pos c5] at H
              have c5b0 : decide (x10_1 < (l0.length : Int)) = true := decide_eq_true c5
              clear c5
              replace H := Option.bind_eq_some_iff.mp H
              obtain ⟨t222, A60, H⟩ := H
              replace H : (if t222 = true then (laws_zzFits7.l0 k1 l0 (l0.length : Int) (wrap64 (x10_1 + 1))) else (some false)) = some r := H
              have A6 := Aside0.mk A60
              clear A60
              by_cases c7 : t222 = true
              · subst c7
                have H1 : (laws_zzFits7.l0 k1 l0 (l0.length : Int) (wrap64 (x10_1 + 1))) = some r := by rw [if_pos rfl] at H; exact H
                clear H
                have H := H1
                clear H1
                have H' := Aside0.mk H
                clear H
                have p220 : 0 ≤ (x10_1 : Int) := of_decide_eq_true (by first | (with_reducible assumption) | assumption)
                have q220 : x10_1 < (l0.length : Int) := of_decide_eq_true (by first | (with_reducible assumption) | assumption)
                obtain ⟨ad220, e220, hx220_0, hx220_1, hx220_2, hx220_3, hx220_4⟩ := at_T49 HR0.out x10_1 p220 q220
                cases e220
                replace hx220_0 := (HB.out.cell (World.block_lt_of_cell? w _ hx220_0)).trans hx220_0
                replace hx220_1 := (HB.out.cell (World.block_lt_of_cell? w _ hx220_1)).trans hx220_1
                replace hx220_2 := (HB.out.cell (World.block_lt_of_cell? w _ hx220_2)).trans hx220_2
                replace hx220_3 := (HB.out.cell (World.block_lt_of_cell? w _ hx220_3)).trans hx220_3
                replace hx220_4 := (HB.out.cell (World.block_lt_of_cell? w _ hx220_4)).trans hx220_4
                replace p220 := eq_true p220
                replace q220 := eq_true q220
                go_wp2_with (first | ((with_reducible refine gate_dst (N := 4) rfl ?_); refine box_event ?hg (N := 4) ?hd (cs := #[.string (⟨#[]⟩ : ByteArray), .int .i64 0, .int .i64 0, .int .i64 0, .string (⟨#[]⟩ : ByteArray)]) (t := 49) ?hr ?_; (case hd => rfl); (case hg => rfl); (case hr => first | (go_simp; done) | (go_simp; rfl)); intro gb221 hg w8 hbox hb; have n0_ := Aside0.mk (below_step (by repeat (first | (with_reducible first | exact HB.out | apply below_alloc | apply pw_below_drewN | apply below_drew1) | exact HB.out)) hb); have n1_ := Aside0.mk (hbox); have n2_ := Aside0.mk ((by rw [hg]; exact (below_size (by repeat (first | (with_reducible first | exact HB.out | apply below_alloc | apply pw_below_drewN | apply below_drew1) | exact HB.out))) : w.heap.size ≤ gb221)); have n3_ := Aside0.mk ((by rw [hg]; exact (below_size (by repeat (first | (with_reducible first | exact HB.out | apply below_alloc | apply pw_below_drewN | apply below_drew1) | exact HB.out))) : w.heap.size ≤ gb221)); clear HB; have HB := n0_; have BK221 := n1_; have GW221 := n2_; have GE221 := n3_; clear n0_ n1_ n2_ n3_; clear hb hbox hg; have hcz9_0 : w8.cell? ⟨gb221, 0, none⟩ = some (.string (⟨#[]⟩ : ByteArray)) := (blk_cell BK221.out 0).trans rfl; have hcz9_1 : w8.cell? ⟨gb221, 1, none⟩ = some (.int .i64 0) := (blk_cell BK221.out 1).trans rfl; have hcz9_2 : w8.cell? ⟨gb221, 2, none⟩ = some (.int .i64 0) := (blk_cell BK221.out 2).trans rfl; have hcz9_3 : w8.cell? ⟨gb221, 3, none⟩ = some (.int .i64 0) := (blk_cell BK221.out 3).trans rfl; have hcz9_4 : w8.cell? ⟨gb221, 4, none⟩ = some (.string (⟨#[]⟩ : ByteArray)) := (blk_cell BK221.out 4).trans rfl; have hfz9_0 := blk_frozen BK221.out 0; have hfz9_1 := blk_frozen BK221.out 1; have hfz9_2 := blk_frozen BK221.out 2; have hfz9_3 := blk_frozen BK221.out 3; have hfz9_4 := blk_frozen BK221.out 4) | ((with_reducible refine gate_callee (f := 34) rfl ?_); refine goesL_ (some 15) rfl rfl Try.func34 (by kernel_rfl) rfl #[.agg #[.string ((rd_T49 l0 x10_1).f0), .int .i64 ((rd_T49 l0 x10_1).f1), .int .i64 ((rd_T49 l0 x10_1).f2), .int .i64 ((rd_T49 l0 x10_1).f3), .string ((rd_T49 l0 x10_1).f4)]] rfl (by (try simp only [List.map_toArray, List.map_cons, List.map_nil]); first | done | rfl | (simp only [List.length_drop, List.length_take]; rfl)) ?_; (with_reducible refine (laws_zzFits8.calls ((rd_T49 l0 x10_1).f0) ((rd_T49 l0 x10_1).f1) ((rd_T49 l0 x10_1).f2) ((rd_T49 l0 x10_1).f3) ((rd_T49 l0 x10_1).f4) true _ A6.out).mono ?_); rintro e w10 ⟨rfl, hb⟩; refine ⟨_, rfl, ?_⟩; have n0_ := Aside0.mk (blk_below (g := gb221) (o := .cells #[.string ((rd_T49 l0 x10_1).f0), .int .i64 ((rd_T49 l0 x10_1).f1), .int .i64 ((rd_T49 l0 x10_1).f2), .int .i64 ((rd_T49 l0 x10_1).f3), .string ((rd_T49 l0 x10_1).f4)] 49 (0, 0)) (by (with_reducible repeat (first | refine blk_drewN ?_ _ | refine blk_drew ?_ | refine blk_alloc ?_ _)); refine blk_put (cs := #[.string ((rd_T49 l0 x10_1).f0), .int .i64 ((rd_T49 l0 x10_1).f1), .int .i64 ((rd_T49 l0 x10_1).f2), .int .i64 ((rd_T49 l0 x10_1).f3), .string (⟨#[]⟩ : ByteArray)]) ?_ 4 _ rfl; (with_reducible repeat (first | refine blk_drewN ?_ _ | refine blk_drew ?_ | refine blk_alloc ?_ _)); refine blk_put (cs := #[.string ((rd_T49 l0 x10_1).f0), .int .i64 ((rd_T49 l0 x10_1).f1), .int .i64 ((rd_T49 l0 x10_1).f2), .int .i64 0, .string (⟨#[]⟩ : ByteArray)]) ?_ 3 _ rfl; (with_reducible repeat (first | refine blk_drewN ?_ _ | refine blk_drew ?_ | refine blk_alloc ?_ _)); refine blk_put (cs := #[.string ((rd_T49 l0 x10_1).f0), .int .i64 ((rd_T49 l0 x10_1).f1), .int .i64 0, .int .i64 0, .string (⟨#[]⟩ : ByteArray)]) ?_ 2 _ rfl; (with_reducible repeat (first | refine blk_drewN ?_ _ | refine blk_drew ?_ | refine blk_alloc ?_ _)); refine blk_put (cs := #[.string ((rd_T49 l0 x10_1).f0), .int .i64 0, .int .i64 0, .int .i64 0, .string (⟨#[]⟩ : ByteArray)]) ?_ 1 _ rfl; (with_reducible repeat (first | refine blk_drewN ?_ _ | refine blk_drew ?_ | refine blk_alloc ?_ _)); refine blk_put (cs := #[.string (⟨#[]⟩ : ByteArray), .int .i64 0, .int .i64 0, .int .i64 0, .string (⟨#[]⟩ : ByteArray)]) ?_ 0 _ rfl; (with_reducible repeat (first | refine blk_drewN ?_ _ | refine blk_drew ?_ | refine blk_alloc ?_ _)); exact BK221.out) hb); have n1_ := Aside0.mk (below_step (by repeat (first | (with_reducible first | exact HB.out | apply below_alloc | apply pw_below_drewN | apply below_drew1 | refine below_set ?_ GE221.out) | exact HB.out)) hb); clear BK221; clear HB; have BK221 := n0_; have HB := n1_; clear n0_ n1_; (try clear hb); (try clear hb2); (try clear hk); (try clear hi)))
                go_roundg k1
                case measure => have := HK1.out; omega
                case rel => exact ⟨(wrap64 (x10_1 + 1)), (by first | rfl | (simp; done) | (rw [prx_ne]; first | done | rfl) | (simp [*]; done)), H', ⟨by have := HK1.out; omega⟩, ⟨by repeat (first | (with_reducible first | exact HB.out | apply below_alloc | apply pw_below_drewN | apply below_drew1 | refine below_set ?_ GE221.out) | exact HB.out)⟩⟩
              · replace c7 := Bool.eq_false_iff.mpr c7
                subst c7
                have H1 : (some false) = some r := by rw [if_neg (show ¬ (false = true) by decide)] at H; exact H
                clear H
                have H := H1
                clear H1
                obtain rfl := Option.some.inj H
                have p220 : 0 ≤ (x10_1 : Int) := of_decide_eq_true (by first | (with_reducible assumption) | assumption)
                have q220 : x10_1 < (l0.length : Int) := of_decide_eq_true (by first | (with_reducible assumption) | assumption)
                obtain ⟨ad220, e220, hx220_0, hx220_1, hx220_2, hx220_3, hx220_4⟩ := at_T49 HR0.out x10_1 p220 q220
                cases e220
                replace hx220_0 := (HB.out.cell (World.block_lt_of_cell? w _ hx220_0)).trans hx220_0
                replace hx220_1 := (HB.out.cell (World.block_lt_of_cell? w _ hx220_1)).trans hx220_1
                replace hx220_2 := (HB.out.cell (World.block_lt_of_cell? w _ hx220_2)).trans hx220_2
                replace hx220_3 := (HB.out.cell (World.block_lt_of_cell? w _ hx220_3)).trans hx220_3
                replace hx220_4 := (HB.out.cell (World.block_lt_of_cell? w _ hx220_4)).trans hx220_4
                replace p220 := eq_true p220
                replace q220 := eq_true q220
                go_wp2_with (first | ((with_reducible refine gate_dst (N := 4) rfl ?_); refine box_event ?hg (N := 4) ?hd (cs := #[.string (⟨#[]⟩ : ByteArray), .int .i64 0, .int .i64 0, .int .i64 0, .string (⟨#[]⟩ : ByteArray)]) (t := 49) ?hr ?_; (case hd => rfl); (case hg => rfl); (case hr => first | (go_simp; done) | (go_simp; rfl)); intro gb221 hg w11 hbox hb; have n0_ := Aside0.mk (below_step (by repeat (first | (with_reducible first | exact HB.out | apply below_alloc | apply pw_below_drewN | apply below_drew1) | exact HB.out)) hb); have n1_ := Aside0.mk (hbox); have n2_ := Aside0.mk ((by rw [hg]; exact (below_size (by repeat (first | (with_reducible first | exact HB.out | apply below_alloc | apply pw_below_drewN | apply below_drew1) | exact HB.out))) : w.heap.size ≤ gb221)); have n3_ := Aside0.mk ((by rw [hg]; exact (below_size (by repeat (first | (with_reducible first | exact HB.out | apply below_alloc | apply pw_below_drewN | apply below_drew1) | exact HB.out))) : w.heap.size ≤ gb221)); clear HB; have HB := n0_; have BK221 := n1_; have GW221 := n2_; have GE221 := n3_; clear n0_ n1_ n2_ n3_; clear hb hbox hg; have hcz12_0 : w11.cell? ⟨gb221, 0, none⟩ = some (.string (⟨#[]⟩ : ByteArray)) := (blk_cell BK221.out 0).trans rfl; have hcz12_1 : w11.cell? ⟨gb221, 1, none⟩ = some (.int .i64 0) := (blk_cell BK221.out 1).trans rfl; have hcz12_2 : w11.cell? ⟨gb221, 2, none⟩ = some (.int .i64 0) := (blk_cell BK221.out 2).trans rfl; have hcz12_3 : w11.cell? ⟨gb221, 3, none⟩ = some (.int .i64 0) := (blk_cell BK221.out 3).trans rfl; have hcz12_4 : w11.cell? ⟨gb221, 4, none⟩ = some (.string (⟨#[]⟩ : ByteArray)) := (blk_cell BK221.out 4).trans rfl; have hfz12_0 := blk_frozen BK221.out 0; have hfz12_1 := blk_frozen BK221.out 1; have hfz12_2 := blk_frozen BK221.out 2; have hfz12_3 := blk_frozen BK221.out 3; have hfz12_4 := blk_frozen BK221.out 4) | ((with_reducible refine gate_callee (f := 34) rfl ?_); refine goesL_ (some 15) rfl rfl Try.func34 (by kernel_rfl) rfl #[.agg #[.string ((rd_T49 l0 x10_1).f0), .int .i64 ((rd_T49 l0 x10_1).f1), .int .i64 ((rd_T49 l0 x10_1).f2), .int .i64 ((rd_T49 l0 x10_1).f3), .string ((rd_T49 l0 x10_1).f4)]] rfl (by (try simp only [List.map_toArray, List.map_cons, List.map_nil]); first | done | rfl | (simp only [List.length_drop, List.length_take]; rfl)) ?_; (with_reducible refine (laws_zzFits8.calls ((rd_T49 l0 x10_1).f0) ((rd_T49 l0 x10_1).f1) ((rd_T49 l0 x10_1).f2) ((rd_T49 l0 x10_1).f3) ((rd_T49 l0 x10_1).f4) false _ A6.out).mono ?_); rintro e w13 ⟨rfl, hb⟩; refine ⟨_, rfl, ?_⟩; have n0_ := Aside0.mk (blk_below (g := gb221) (o := .cells #[.string ((rd_T49 l0 x10_1).f0), .int .i64 ((rd_T49 l0 x10_1).f1), .int .i64 ((rd_T49 l0 x10_1).f2), .int .i64 ((rd_T49 l0 x10_1).f3), .string ((rd_T49 l0 x10_1).f4)] 49 (0, 0)) (by (with_reducible repeat (first | refine blk_drewN ?_ _ | refine blk_drew ?_ | refine blk_alloc ?_ _)); refine blk_put (cs := #[.string ((rd_T49 l0 x10_1).f0), .int .i64 ((rd_T49 l0 x10_1).f1), .int .i64 ((rd_T49 l0 x10_1).f2), .int .i64 ((rd_T49 l0 x10_1).f3), .string (⟨#[]⟩ : ByteArray)]) ?_ 4 _ rfl; (with_reducible repeat (first | refine blk_drewN ?_ _ | refine blk_drew ?_ | refine blk_alloc ?_ _)); refine blk_put (cs := #[.string ((rd_T49 l0 x10_1).f0), .int .i64 ((rd_T49 l0 x10_1).f1), .int .i64 ((rd_T49 l0 x10_1).f2), .int .i64 0, .string (⟨#[]⟩ : ByteArray)]) ?_ 3 _ rfl; (with_reducible repeat (first | refine blk_drewN ?_ _ | refine blk_drew ?_ | refine blk_alloc ?_ _)); refine blk_put (cs := #[.string ((rd_T49 l0 x10_1).f0), .int .i64 ((rd_T49 l0 x10_1).f1), .int .i64 0, .int .i64 0, .string (⟨#[]⟩ : ByteArray)]) ?_ 2 _ rfl; (with_reducible repeat (first | refine blk_drewN ?_ _ | refine blk_drew ?_ | refine blk_alloc ?_ _)); refine blk_put (cs := #[.string ((rd_T49 l0 x10_1).f0), .int .i64 0, .int .i64 0, .int .i64 0, .string (⟨#[]⟩ : ByteArray)]) ?_ 1 _ rfl; (with_reducible repeat (first | refine blk_drewN ?_ _ | refine blk_drew ?_ | refine blk_alloc ?_ _)); refine blk_put (cs := #[.string (⟨#[]⟩ : ByteArray), .int .i64 0, .int .i64 0, .int .i64 0, .string (⟨#[]⟩ : ByteArray)]) ?_ 0 _ rfl; (with_reducible repeat (first | refine blk_drewN ?_ _ | refine blk_drew ?_ | refine blk_alloc ?_ _)); exact BK221.out) hb); have n1_ := Aside0.mk (below_step (by repeat (first | (with_reducible first | exact HB.out | apply below_alloc | apply pw_below_drewN | apply below_drew1 | refine below_set ?_ GE221.out) | exact HB.out)) hb); clear BK221; clear HB; have BK221 := n0_; have HB := n1_; clear n0_ n1_; (try clear hb); (try clear hb2); (try clear hk); (try clear hi)))
                go_ret
                exact ⟨by first | rfl | (simp [errW_none, errW_some] <;> rfl) | (simp [*, errW_none, errW_some] <;> rfl), by repeat (first | (with_reducible first | exact HB.out | apply below_alloc | apply pw_below_drewN | apply below_drew1 | refine below_set ?_ GE221.out) | exact HB.out)⟩
            · rw [if_neg c5] at H
              exact absurd H (by simp)
          · rw [if_neg c4] at H
            exact absurd H (by simp)
        · rw [if_neg c3] at H
          have c3b0 : decide (x10_1 < (l0.length : Int)) = false := decide_eq_false c3
          clear c3
          obtain rfl := Option.some.inj H
          go_wp2
          go_ret
          exact ⟨by first | rfl | (simp [errW_none, errW_some] <;> rfl) | (simp [*, errW_none, errW_some] <;> rfl), by repeat (first | (with_reducible first | exact HB.out | apply below_alloc | apply pw_below_drewN | apply below_drew1) | exact HB.out)⟩
def spec_place.l0 : Nat → ByteArray → Int → Int → Int → Option (Int)
  | 0, _, _, _, _ => none
  | k + 1, x0, x1, x7, x8 => if x8 < x7 then (if 0 ≤ x8 then (if x8 < (x0.size : Int) then (if (bt x0 x8) = x1 then (some x8) else (spec_place.l0 k x0 x1 x7 (wrap64 (x8 + 1)))) else (none)) else (none)) else (some (-1))
def spec_place.f (k : Nat) (a0 : ByteArray) (a1 : Int) : Option (Int) := spec_place.l0 k a0 a1 (a0.size : Int) 0
theorem spec_place.mono_l : ∀ k, (∀ y0 y1 y2 y3, LeO (spec_place.l0 k y0 y1 y2 y3) (spec_place.l0 (k + 1) y0 y1 y2 y3))
  | 0 => fun _ _ _ _ r h => by simp [spec_place.l0] at h
  | k + 1 => by
    have ih0 := spec_place.mono_l k
    · intro y0 y1 y2 y3
      unfold spec_place.l0
      repeat' first
      | (with_reducible exact ih0 _ _ _ _)
      | (with_reducible exact LeO.refl _)
      | (with_reducible exact LeO.none _)
      | (with_reducible refine LeO.ite ?_ ?_)
      | (with_reducible refine LeO.bind ?_ (fun _ => ?_))
      | exact ih0 _ _ _ _
      | exact LeO.none _
      | refine LeO.ite ?_ ?_
      | refine LeO.bind ?_ (fun _ => ?_)
theorem spec_place.mono : ∀ a0 a1 k, LeO (spec_place.f k a0 a1) (spec_place.f (k + 1) a0 a1) := by
  intro a0 a1 k
  have ih0 := spec_place.mono_l k
  unfold spec_place.f
  repeat' first
      | (with_reducible exact ih0 _ _ _ _)
      | (with_reducible exact LeO.refl _)
      | (with_reducible exact LeO.none _)
      | (with_reducible refine LeO.ite ?_ ?_)
      | (with_reducible refine LeO.bind ?_ (fun _ => ?_))
      | exact ih0 _ _ _ _
      | exact LeO.none _
      | refine LeO.ite ?_ ?_
      | refine LeO.bind ?_ (fun _ => ?_)
set_option maxHeartbeats 8000000 in
set_option maxRecDepth 100000 in
theorem spec_place.calls (k : Nat) (a0 : ByteArray) (a1 : Int) (r : Int) (w : World) (h : spec_place.f k a0 a1 = some r) :
    Calls Try.prog 24 #[.string a0, .int .u8 a1] w fun e w' => e = .returned (.int .i64 r) ∧ Drawn0 w w' := by
  have H : (spec_place.l0 k a0 a1 (a0.size : Int) 0) = some r := h
  clear h
  have H' := Aside0.mk H
  clear H
  go_enter Try.func24, Try.ntmps24
  go_wp2
  go_loopg [8] k (fun kq v8 w' => ∃ (x8_1 : Int), v8 = .int .i64 x8_1 ∧ Aside0 (spec_place.l0 kq a0 a1 (a0.size : Int) x8_1 = some r) ∧ Aside0 (kq ≤ k) ∧ Drawn0 w w')
  case atStart => exact ⟨(0), (by first | rfl | (simp; done) | (rw [prx_ne]; first | done | rfl) | (simp [*]; done)), H', ⟨Nat.le_refl _⟩, by repeat (first | exact Drawn0.refl _ | apply Drawn0.step)⟩
  case round =>
    clear H'
    try clear c2
    try clear p2
    obtain ⟨x8_1, rfl, HA, HK1, ⟨m1, rfl⟩⟩ := hrel
    cases gk with
    | zero => exact absurd HA.out (by simp [spec_place.l0])
    | succ k1 =>
      have H := HA.out
      clear HA
      simp only [spec_place.l0] at H
      by_cases c3 : x8_1 < (a0.size : Int)
      · rw [if_pos c3] at H
        have c3b0 : decide (x8_1 < (a0.size : Int)) = true := decide_eq_true c3
        clear c3
        by_cases c4 : 0 ≤ x8_1
        · rw [if_pos c4] at H
          have c4b0 : decide (0 ≤ x8_1) = true := decide_eq_true c4
          clear c4
          by_cases c5 : x8_1 < (a0.size : Int)
          · rw [if_pos c5] at H
            have c5b0 : decide (x8_1 < (a0.size : Int)) = true := decide_eq_true c5
            clear c5
            by_cases c7 : (bt a0 x8_1) = a1
            · rw [if_pos c7] at H
              have c7b0 : ((bt a0 x8_1) == a1) = true := beq_iff_eq.mpr c7
              have c7b1 : ((bt a0 x8_1) != a1) = false := bne_eq_false_iff_eq.mpr c7
              clear c7
              obtain rfl := Option.some.inj H
              have p6 : 0 ≤ (x8_1 : Int) := of_decide_eq_true (by first | (with_reducible assumption) | assumption)
              have q6 : x8_1 < (a0.size : Int) := of_decide_eq_true (by first | (with_reducible assumption) | assumption)
              have hx6 := bt_at a0 x8_1
              replace p6 := eq_true p6
              replace q6 := eq_true q6
              go_wp2
              go_ret
              exact ⟨by first | rfl | (simp; done) | (rw [prx_ne]; first | done | rfl) | (simp [*]; done), by repeat (first | exact Drawn0.refl _ | apply Drawn0.step)⟩
            · rw [if_neg c7] at H
              have c7b0 : ((bt a0 x8_1) == a1) = false := beq_eq_false_iff_ne.mpr c7
              have c7b1 : ((bt a0 x8_1) != a1) = true := bne_iff_ne.mpr c7
              have H' := Aside0.mk H
              clear H
              have p6 : 0 ≤ (x8_1 : Int) := of_decide_eq_true (by first | (with_reducible assumption) | assumption)
              have q6 : x8_1 < (a0.size : Int) := of_decide_eq_true (by first | (with_reducible assumption) | assumption)
              have hx6 := bt_at a0 x8_1
              replace p6 := eq_true p6
              replace q6 := eq_true q6
              go_wp2
              go_roundg k1
              case measure => have := HK1.out; omega
              case rel => exact ⟨(wrap64 (x8_1 + 1)), (by first | rfl | (simp; done) | (rw [prx_ne]; first | done | rfl) | (simp [*]; done)), H', ⟨by have := HK1.out; omega⟩, by repeat (first | exact Drawn0.refl _ | apply Drawn0.step)⟩
          · rw [if_neg c5] at H
            exact absurd H (by simp)
        · rw [if_neg c4] at H
          exact absurd H (by simp)
      · rw [if_neg c3] at H
        have c3b0 : decide (x8_1 < (a0.size : Int)) = false := decide_eq_false c3
        clear c3
        obtain rfl := Option.some.inj H
        go_wp2
        go_ret
        exact ⟨by first | rfl | (simp; done) | (rw [prx_ne]; first | done | rfl) | (simp [*]; done), by repeat (first | exact Drawn0.refl _ | apply Drawn0.step)⟩
def spec_starts.f (a0 : ByteArray) (a1 : ByteArray) : Option (Bool) := if (a1.size : Int) ≤ (a0.size : Int) then (if 0 ≤ (a1.size : Int) then (some ((a0.extract 0 ((a1.size : Int) : Int).toNat).toList == a1.toList)) else (none)) else (some false)
set_option maxHeartbeats 8000000 in
set_option maxRecDepth 100000 in
theorem spec_starts.calls (a0 : ByteArray) (a1 : ByteArray) (r : Bool) (w : World) (h : spec_starts.f a0 a1 = some r) :
    Calls Try.prog 33 #[.string a0, .string a1] w fun e w' => e = .returned (.bool r) ∧ Drawn0 w w' := by
  have H : (if (a1.size : Int) ≤ (a0.size : Int) then (if 0 ≤ (a1.size : Int) then (some ((a0.extract 0 ((a1.size : Int) : Int).toNat).toList == a1.toList)) else (none)) else (some false)) = some r := h
  clear h
  by_cases c3 : (a1.size : Int) ≤ (a0.size : Int)
  · rw [if_pos c3] at H
    have c3b0 : decide ((a1.size : Int) ≤ (a0.size : Int)) = true := decide_eq_true c3
    have c3b1 : decide (a1.size ≤ a0.size) = true := decide_eq_true (Int.ofNat_le.mp c3)
    clear c3
    by_cases c4 : 0 ≤ (a1.size : Int)
    · rw [if_pos c4] at H
      have c4b0 := eq_true c4
      have c4b1 : decide (0 ≤ (a1.size : Int)) = true := decide_eq_true c4
      clear c4
      have c5b0 := eq_true (of_decide_eq_true (by first | (with_reducible assumption) | assumption) : (a1.size : Int) ≤ (a0.size : Int))
      obtain rfl := Option.some.inj H
      go_enter Try.func33, Try.ntmps33
      go_wp2
      go_ret
      exact ⟨by first | rfl | (simp; done) | (rw [prx_ne]; first | done | rfl) | (simp [*]; done), by repeat (first | exact Drawn0.refl _ | apply Drawn0.step)⟩
    · rw [if_neg c4] at H
      exact absurd H (by simp)
  · rw [if_neg c3] at H
    have c3b0 : decide ((a1.size : Int) ≤ (a0.size : Int)) = false := decide_eq_false c3
    have c3b1 : decide (a1.size ≤ a0.size) = false := decide_eq_false (fun h => c3 (Int.ofNat_le.mpr h))
    clear c3
    obtain rfl := Option.some.inj H
    go_enter Try.func33, Try.ntmps33
    go_wp2
    go_ret
    exact ⟨by first | rfl | (simp; done) | (rw [prx_ne]; first | done | rfl) | (simp [*]; done), by repeat (first | exact Drawn0.refl _ | apply Drawn0.step)⟩
def spec_AcceptsOffer.f (a0 : ByteArray) (a1 : ByteArray) : Option (Bool) := if a0.toList = ([] : List UInt8) then ((spec_starts.f a0 a1).bind fun t183 => (some t183)) else (if 0 ≤ (wrap64 ((a0.size : Int) - 1)) then (if (wrap64 ((a0.size : Int) - 1)) < (a0.size : Int) then (if (bt a0 (wrap64 ((a0.size : Int) - 1))) = 42 then (some true) else ((spec_starts.f a0 a1).bind fun t184 => (some t184))) else (none)) else (none))
def spec_fold.f (a0 : Int) : Option (Int) := if a0 ≥ 65 then (if a0 ≤ 90 then (some ((a0 + 32) % 256)) else (some a0)) else (some a0)
set_option maxHeartbeats 8000000 in
set_option maxRecDepth 100000 in
theorem spec_fold.calls (a0 : Int) (r : Int) (w : World) (h : spec_fold.f a0 = some r) :
    Calls Try.prog 42 #[.int .u8 a0] w fun e w' => e = .returned (.int .u8 r) ∧ Drawn0 w w' := by
  have H : (if a0 ≥ 65 then (if a0 ≤ 90 then (some ((a0 + 32) % 256)) else (some a0)) else (some a0)) = some r := h
  clear h
  by_cases c2 : a0 ≥ 65
  · rw [if_pos c2] at H
    have c2b0 : decide (65 ≤ a0) = true := decide_eq_true c2
    clear c2
    by_cases c3 : a0 ≤ 90
    · rw [if_pos c3] at H
      have c3b0 : decide (a0 ≤ 90) = true := decide_eq_true c3
      clear c3
      obtain rfl := Option.some.inj H
      go_enter Try.func42, Try.ntmps42
      go_wp2
      go_ret
      exact ⟨by first | rfl | (simp; done) | (rw [prx_ne]; first | done | rfl) | (simp [*]; done), by repeat (first | exact Drawn0.refl _ | apply Drawn0.step)⟩
    · rw [if_neg c3] at H
      have c3b0 : decide (a0 ≤ 90) = false := decide_eq_false c3
      clear c3
      obtain rfl := Option.some.inj H
      go_enter Try.func42, Try.ntmps42
      go_wp2
      go_ret
      exact ⟨by first | rfl | (simp; done) | (rw [prx_ne]; first | done | rfl) | (simp [*]; done), by repeat (first | exact Drawn0.refl _ | apply Drawn0.step)⟩
  · rw [if_neg c2] at H
    have c2b0 : decide (65 ≤ a0) = false := decide_eq_false c2
    clear c2
    obtain rfl := Option.some.inj H
    go_enter Try.func42, Try.ntmps42
    go_wp2
    go_ret
    exact ⟨by first | rfl | (simp; done) | (rw [prx_ne]; first | done | rfl) | (simp [*]; done), by repeat (first | exact Drawn0.refl _ | apply Drawn0.step)⟩
def spec_same.l0 : Nat → ByteArray → ByteArray → Int → Int → Option (Bool)
  | 0, _, _, _, _ => none
  | k + 1, x0, x1, x12, x13 => if x13 < x12 then (if 0 ≤ x13 then (if x13 < (x0.size : Int) then ((spec_fold.f (bt x0 x13)).bind fun t178 => (if x13 < (x1.size : Int) then ((spec_fold.f (bt x1 x13)).bind fun t179 => (if t178 = t179 then (spec_same.l0 k x0 x1 x12 (wrap64 (x13 + 1))) else (some false))) else (none))) else (none)) else (none)) else (some true)
def spec_same.f (k : Nat) (a0 : ByteArray) (a1 : ByteArray) : Option (Bool) := if (a0.size : Int) = (a1.size : Int) then (spec_same.l0 k a0 a1 (a0.size : Int) 0) else (some false)
set_option maxHeartbeats 8000000 in
set_option maxRecDepth 100000 in
theorem spec_same.calls (k : Nat) (a0 : ByteArray) (a1 : ByteArray) (r : Bool) (w : World) (h : spec_same.f k a0 a1 = some r) :
    Calls Try.prog 31 #[.string a0, .string a1] w fun e w' => e = .returned (.bool r) ∧ Drawn0 w w' := by
  have H : (if (a0.size : Int) = (a1.size : Int) then (spec_same.l0 k a0 a1 (a0.size : Int) 0) else (some false)) = some r := h
  clear h
  by_cases c3 : (a0.size : Int) = (a1.size : Int)
  · rw [if_pos c3] at H
    have c3b0 : ((a0.size : Int) == (a1.size : Int)) = true := beq_iff_eq.mpr c3
    have c3b1 : ((a0.size : Int) != (a1.size : Int)) = false := bne_eq_false_iff_eq.mpr c3
    have c3b2 : (a0.size == a1.size) = true := by first | simpa using c3 | (simp at c3 ⊢; omega)
    clear c3
    have H' := Aside0.mk H
    clear H
    go_enter Try.func31, Try.ntmps31
    go_wp2
    repeat (go_quiet (fail); try go_wp2)
    go_loopg [13] k (fun kq v13 w' => ∃ (x13_1 : Int), v13 = .int .i64 x13_1 ∧ Aside0 (spec_same.l0 kq a0 a1 (a0.size : Int) x13_1 = some r) ∧ Aside0 (kq ≤ k) ∧ Drawn0 w w')
    case atStart => exact ⟨(0), (by first | rfl | (simp; done) | (rw [prx_ne]; first | done | rfl) | (simp [*]; done)), H', ⟨Nat.le_refl _⟩, by repeat (first | exact Drawn0.refl _ | apply Drawn0.step)⟩
    case round =>
      clear H'
      try clear p2
      try clear c3
      try clear c3b0
      try clear c3b1
      try clear c3b2
      obtain ⟨x13_1, rfl, HA, HK1, ⟨m1, rfl⟩⟩ := hrel
      cases gk with
      | zero => exact absurd HA.out (by simp [spec_same.l0])
      | succ k1 =>
        have H := HA.out
        clear HA
        simp only [spec_same.l0] at H
        by_cases c4 : x13_1 < (a0.size : Int)
        · rw [if_pos c4] at H
          have c4b0 : decide (x13_1 < (a0.size : Int)) = true := decide_eq_true c4
          clear c4
          by_cases c5 : 0 ≤ x13_1
          · rw [if_pos c5] at H
            have c5b0 : decide (0 ≤ x13_1) = true := decide_eq_true c5
            clear c5
            by_cases c6 : x13_1 < (a0.size : Int)
            · rw [if_pos c6] at H
              have c6b0 : decide (x13_1 < (a0.size : Int)) = true := decide_eq_true c6
              clear c6
              replace H := Option.bind_eq_some_iff.mp H
              obtain ⟨t178, A80, H⟩ := H
              replace H : (if x13_1 < (a1.size : Int) then ((spec_fold.f (bt a1 x13_1)).bind fun t179 => (if t178 = t179 then (spec_same.l0 k1 a0 a1 (a0.size : Int) (wrap64 (x13_1 + 1))) else (some false))) else (none)) = some r := H
              have A8 := Aside0.mk A80
              clear A80
              by_cases c9 : x13_1 < (a1.size : Int)
              · rw [if_pos c9] at H
                have c9b0 : decide (x13_1 < (a1.size : Int)) = true := decide_eq_true c9
                clear c9
                replace H := Option.bind_eq_some_iff.mp H
                obtain ⟨t179, A110, H⟩ := H
                replace H : (if t178 = t179 then (spec_same.l0 k1 a0 a1 (a0.size : Int) (wrap64 (x13_1 + 1))) else (some false)) = some r := H
                have A11 := Aside0.mk A110
                clear A110
                by_cases c12 : t178 = t179
                · rw [if_pos c12] at H
                  have c12b0 : (t178 == t179) = true := beq_iff_eq.mpr c12
                  have c12b1 : (t178 != t179) = false := bne_eq_false_iff_eq.mpr c12
                  clear c12
                  have H' := Aside0.mk H
                  clear H
                  have p7 : 0 ≤ (x13_1 : Int) := of_decide_eq_true (by first | (with_reducible assumption) | assumption)
                  have q7 : x13_1 < (a0.size : Int) := of_decide_eq_true (by first | (with_reducible assumption) | assumption)
                  have hx7 := bt_at a0 x13_1
                  replace p7 := eq_true p7
                  replace q7 := eq_true q7
                  go_wp2_with (first | (go_at_call 42; (with_reducible refine (spec_fold.calls (bt a0 x13_1) t178 _ A8.out).mono ?_); rintro e w' ⟨rfl, ⟨nd, rfl⟩⟩; (try first | exact ⟨rfl, _, World.drewN_drewN _ _ _⟩ | exact ⟨rfl, _, Eq.trans (World.drewN_drewN _ _ _) (congrArg (World.drewN _) (Nat.add_assoc _ _ _))⟩); have p10 : 0 ≤ (x13_1 : Int) := of_decide_eq_true (by first | (with_reducible assumption) | assumption); have q10 : x13_1 < (a1.size : Int) := of_decide_eq_true (by first | (with_reducible assumption) | assumption); have hx10 := bt_at a1 x13_1; replace p10 := eq_true p10; replace q10 := eq_true q10) | (go_at_call 42; (with_reducible refine (spec_fold.calls (bt a1 x13_1) t179 _ A11.out).mono ?_); rintro e w' ⟨rfl, ⟨nd, rfl⟩⟩; (try first | exact ⟨rfl, _, World.drewN_drewN _ _ _⟩ | exact ⟨rfl, _, Eq.trans (World.drewN_drewN _ _ _) (congrArg (World.drewN _) (Nat.add_assoc _ _ _))⟩)))
                  repeat (go_quiet (first | (go_at_call 42; (with_reducible refine (spec_fold.calls (bt a0 x13_1) t178 _ A8.out).mono ?_); rintro e w' ⟨rfl, ⟨nd, rfl⟩⟩; (try first | exact ⟨rfl, _, World.drewN_drewN _ _ _⟩ | exact ⟨rfl, _, Eq.trans (World.drewN_drewN _ _ _) (congrArg (World.drewN _) (Nat.add_assoc _ _ _))⟩); have p10 : 0 ≤ (x13_1 : Int) := of_decide_eq_true (by first | (with_reducible assumption) | assumption); have q10 : x13_1 < (a1.size : Int) := of_decide_eq_true (by first | (with_reducible assumption) | assumption); have hx10 := bt_at a1 x13_1; replace p10 := eq_true p10; replace q10 := eq_true q10) | (go_at_call 42; (with_reducible refine (spec_fold.calls (bt a1 x13_1) t179 _ A11.out).mono ?_); rintro e w' ⟨rfl, ⟨nd, rfl⟩⟩; (try first | exact ⟨rfl, _, World.drewN_drewN _ _ _⟩ | exact ⟨rfl, _, Eq.trans (World.drewN_drewN _ _ _) (congrArg (World.drewN _) (Nat.add_assoc _ _ _))⟩))); try go_wp2_with (first | (go_at_call 42; (with_reducible refine (spec_fold.calls (bt a0 x13_1) t178 _ A8.out).mono ?_); rintro e w' ⟨rfl, ⟨nd, rfl⟩⟩; (try first | exact ⟨rfl, _, World.drewN_drewN _ _ _⟩ | exact ⟨rfl, _, Eq.trans (World.drewN_drewN _ _ _) (congrArg (World.drewN _) (Nat.add_assoc _ _ _))⟩); have p10 : 0 ≤ (x13_1 : Int) := of_decide_eq_true (by first | (with_reducible assumption) | assumption); have q10 : x13_1 < (a1.size : Int) := of_decide_eq_true (by first | (with_reducible assumption) | assumption); have hx10 := bt_at a1 x13_1; replace p10 := eq_true p10; replace q10 := eq_true q10) | (go_at_call 42; (with_reducible refine (spec_fold.calls (bt a1 x13_1) t179 _ A11.out).mono ?_); rintro e w' ⟨rfl, ⟨nd, rfl⟩⟩; (try first | exact ⟨rfl, _, World.drewN_drewN _ _ _⟩ | exact ⟨rfl, _, Eq.trans (World.drewN_drewN _ _ _) (congrArg (World.drewN _) (Nat.add_assoc _ _ _))⟩))))
                  go_roundg k1
                  case measure => have := HK1.out; omega
                  case rel => exact ⟨(wrap64 (x13_1 + 1)), (by first | rfl | (simp; done) | (rw [prx_ne]; first | done | rfl) | (simp [*]; done)), H', ⟨by have := HK1.out; omega⟩, by repeat (first | exact Drawn0.refl _ | apply Drawn0.step)⟩
                · rw [if_neg c12] at H
                  have c12b0 : (t178 == t179) = false := beq_eq_false_iff_ne.mpr c12
                  have c12b1 : (t178 != t179) = true := bne_iff_ne.mpr c12
                  obtain rfl := Option.some.inj H
                  have p7 : 0 ≤ (x13_1 : Int) := of_decide_eq_true (by first | (with_reducible assumption) | assumption)
                  have q7 : x13_1 < (a0.size : Int) := of_decide_eq_true (by first | (with_reducible assumption) | assumption)
                  have hx7 := bt_at a0 x13_1
                  replace p7 := eq_true p7
                  replace q7 := eq_true q7
                  go_wp2_with (first | (go_at_call 42; (with_reducible refine (spec_fold.calls (bt a0 x13_1) t178 _ A8.out).mono ?_); rintro e w' ⟨rfl, ⟨nd, rfl⟩⟩; (try first | exact ⟨rfl, _, World.drewN_drewN _ _ _⟩ | exact ⟨rfl, _, Eq.trans (World.drewN_drewN _ _ _) (congrArg (World.drewN _) (Nat.add_assoc _ _ _))⟩); have p10 : 0 ≤ (x13_1 : Int) := of_decide_eq_true (by first | (with_reducible assumption) | assumption); have q10 : x13_1 < (a1.size : Int) := of_decide_eq_true (by first | (with_reducible assumption) | assumption); have hx10 := bt_at a1 x13_1; replace p10 := eq_true p10; replace q10 := eq_true q10) | (go_at_call 42; (with_reducible refine (spec_fold.calls (bt a1 x13_1) t179 _ A11.out).mono ?_); rintro e w' ⟨rfl, ⟨nd, rfl⟩⟩; (try first | exact ⟨rfl, _, World.drewN_drewN _ _ _⟩ | exact ⟨rfl, _, Eq.trans (World.drewN_drewN _ _ _) (congrArg (World.drewN _) (Nat.add_assoc _ _ _))⟩)))
                  repeat (go_quiet (first | (go_at_call 42; (with_reducible refine (spec_fold.calls (bt a0 x13_1) t178 _ A8.out).mono ?_); rintro e w' ⟨rfl, ⟨nd, rfl⟩⟩; (try first | exact ⟨rfl, _, World.drewN_drewN _ _ _⟩ | exact ⟨rfl, _, Eq.trans (World.drewN_drewN _ _ _) (congrArg (World.drewN _) (Nat.add_assoc _ _ _))⟩); have p10 : 0 ≤ (x13_1 : Int) := of_decide_eq_true (by first | (with_reducible assumption) | assumption); have q10 : x13_1 < (a1.size : Int) := of_decide_eq_true (by first | (with_reducible assumption) | assumption); have hx10 := bt_at a1 x13_1; replace p10 := eq_true p10; replace q10 := eq_true q10) | (go_at_call 42; (with_reducible refine (spec_fold.calls (bt a1 x13_1) t179 _ A11.out).mono ?_); rintro e w' ⟨rfl, ⟨nd, rfl⟩⟩; (try first | exact ⟨rfl, _, World.drewN_drewN _ _ _⟩ | exact ⟨rfl, _, Eq.trans (World.drewN_drewN _ _ _) (congrArg (World.drewN _) (Nat.add_assoc _ _ _))⟩))); try go_wp2_with (first | (go_at_call 42; (with_reducible refine (spec_fold.calls (bt a0 x13_1) t178 _ A8.out).mono ?_); rintro e w' ⟨rfl, ⟨nd, rfl⟩⟩; (try first | exact ⟨rfl, _, World.drewN_drewN _ _ _⟩ | exact ⟨rfl, _, Eq.trans (World.drewN_drewN _ _ _) (congrArg (World.drewN _) (Nat.add_assoc _ _ _))⟩); have p10 : 0 ≤ (x13_1 : Int) := of_decide_eq_true (by first | (with_reducible assumption) | assumption); have q10 : x13_1 < (a1.size : Int) := of_decide_eq_true (by first | (with_reducible assumption) | assumption); have hx10 := bt_at a1 x13_1; replace p10 := eq_true p10; replace q10 := eq_true q10) | (go_at_call 42; (with_reducible refine (spec_fold.calls (bt a1 x13_1) t179 _ A11.out).mono ?_); rintro e w' ⟨rfl, ⟨nd, rfl⟩⟩; (try first | exact ⟨rfl, _, World.drewN_drewN _ _ _⟩ | exact ⟨rfl, _, Eq.trans (World.drewN_drewN _ _ _) (congrArg (World.drewN _) (Nat.add_assoc _ _ _))⟩))))
                  go_ret
                  exact ⟨by first | rfl | (simp; done) | (rw [prx_ne]; first | done | rfl) | (simp [*]; done), by repeat (first | exact Drawn0.refl _ | apply Drawn0.step)⟩
              · rw [if_neg c9] at H
                exact absurd H (by simp)
            · rw [if_neg c6] at H
              exact absurd H (by simp)
          · rw [if_neg c5] at H
            exact absurd H (by simp)
        · rw [if_neg c4] at H
          have c4b0 : decide (x13_1 < (a0.size : Int)) = false := decide_eq_false c4
          clear c4
          obtain rfl := Option.some.inj H
          go_wp2
          repeat (go_quiet (fail); try go_wp2)
          go_ret
          exact ⟨by first | rfl | (simp; done) | (rw [prx_ne]; first | done | rfl) | (simp [*]; done), by repeat (first | exact Drawn0.refl _ | apply Drawn0.step)⟩
  · rw [if_neg c3] at H
    have c3b0 : ((a0.size : Int) == (a1.size : Int)) = false := beq_eq_false_iff_ne.mpr c3
    have c3b1 : ((a0.size : Int) != (a1.size : Int)) = true := bne_iff_ne.mpr c3
    have c3b2 : (a0.size == a1.size) = false := by first | simpa using c3 | (simp at c3 ⊢; omega)
    obtain rfl := Option.some.inj H
    go_enter Try.func31, Try.ntmps31
    go_wp2
    repeat (go_quiet (fail); try go_wp2)
    go_ret
    exact ⟨by first | rfl | (simp; done) | (rw [prx_ne]; first | done | rfl) | (simp [*]; done), by repeat (first | exact Drawn0.refl _ | apply Drawn0.step)⟩
def spec_valueOf.l0 : Nat → ByteArray → List (S38) → Int → Int → Option (ByteArray × Bool)
  | 0, _, _, _, _ => none
  | k + 1, x1, x8, x9, x10 => if x10 < x9 then (if 0 ≤ x10 then (if x10 < (x8.length : Int) then ((spec_same.f k ((rd_T38 x8 x10).f0) x1).bind fun t182 => (if t182 = true then (some ((rd_T38 x8 x10).f1, true)) else (spec_valueOf.l0 k x1 x8 x9 (wrap64 (x10 + 1))))) else (none)) else (none)) else (some ((⟨#[]⟩ : ByteArray), false))
def spec_valueOf.f (k : Nat) (l0 : List (S38)) (a1 : ByteArray) : Option (ByteArray × Bool) := spec_valueOf.l0 k a1 l0 (l0.length : Int) 0
set_option maxHeartbeats 8000000 in
set_option maxRecDepth 100000 in
theorem spec_valueOf.calls (k : Nat) (A0 : Option Addr) (c0 : Nat) (l0 : List (S38)) (a1 : ByteArray) (r1 : ByteArray) (r2 : Bool) (w : World) (hr0 : Kd.C k38 w A0 l0.length l0) (hc0 : l0.length ≤ c0) (h : spec_valueOf.f k l0 a1 = some (r1, r2)) :
    Calls Try.prog 32 #[.slice A0 l0.length c0, .string a1] w fun e w' => e = .returned (.tuple #[.string r1, .bool r2]) ∧ Below w.heap.size w w' := by
  have hu38 := Try.underlying38
  have HR0 := Aside0.mk hr0
  have HC0 := Aside0.mk hc0
  clear hr0 hc0
  have HB := Aside0.mk (Below.refl w.heap.size w)
  have H : (spec_valueOf.l0 k a1 l0 (l0.length : Int) 0) = some (r1, r2) := h
  clear h
  have H' := Aside0.mk H
  clear H
  go_enter Try.func32, Try.ntmps32
  go_wp2
  go_loopg [10] k (fun kq v10 w' => ∃ (x10_1 : Int), v10 = .int .i64 x10_1 ∧ Aside0 (spec_valueOf.l0 kq a1 l0 (l0.length : Int) x10_1 = some (r1, r2)) ∧ Aside0 (kq ≤ k) ∧ Aside0 (Below w.heap.size w w'))
  case atStart => exact ⟨(0), (by first | rfl | (simp; done) | (rw [prx_ne]; first | done | rfl) | (simp [*]; done)), H', ⟨Nat.le_refl _⟩, ⟨by repeat (first | (with_reducible first | exact HB.out | apply below_alloc | apply pw_below_drewN | apply below_drew1) | exact HB.out)⟩⟩
  case round =>
    clear H'
    try clear p2
    obtain ⟨x10_1, rfl, HA, HK1, HB⟩ := hrel
    cases gk with
    | zero => exact absurd HA.out (by simp [spec_valueOf.l0])
    | succ k1 =>
      have H := HA.out
      clear HA
      simp only [spec_valueOf.l0] at H
      by_cases c3 : x10_1 < (l0.length : Int)
      · rw [if_pos c3] at H
        have c3b0 : decide (x10_1 < (l0.length : Int)) = true := decide_eq_true c3
        clear c3
        by_cases c4 : 0 ≤ x10_1
        · rw [if_pos c4] at H
          have c4b0 : decide (0 ≤ x10_1) = true := decide_eq_true c4
          clear c4
          by_cases c5 : x10_1 < (l0.length : Int)
          · rw [if_pos c5] at H
            have c5b0 : decide (x10_1 < (l0.length : Int)) = true := decide_eq_true c5
            clear c5
            replace H := Option.bind_eq_some_iff.mp H
            obtain ⟨t182, A60, H⟩ := H
            replace H : (if t182 = true then (some ((rd_T38 l0 x10_1).f1, true)) else (spec_valueOf.l0 k1 a1 l0 (l0.length : Int) (wrap64 (x10_1 + 1)))) = some (r1, r2) := H
            have A6 := Aside0.mk A60
            clear A60
            by_cases c7 : t182 = true
            · subst c7
              have H1 : (some ((rd_T38 l0 x10_1).f1, true)) = some (r1, r2) := by rw [if_pos rfl] at H; exact H
              clear H
              have H := H1
              clear H1
              simp only [Option.some.injEq, Prod.mk.injEq] at H
              obtain ⟨rfl, rfl⟩ := H
              have p180 : 0 ≤ (x10_1 : Int) := of_decide_eq_true (by first | (with_reducible assumption) | assumption)
              have q180 : x10_1 < (l0.length : Int) := of_decide_eq_true (by first | (with_reducible assumption) | assumption)
              obtain ⟨ad180, e180, hx180_0, hx180_1⟩ := at_T38 HR0.out x10_1 p180 q180
              cases e180
              replace hx180_0 := (HB.out.cell (World.block_lt_of_cell? w _ hx180_0)).trans hx180_0
              replace hx180_1 := (HB.out.cell (World.block_lt_of_cell? w _ hx180_1)).trans hx180_1
              replace p180 := eq_true p180
              replace q180 := eq_true q180
              go_wp2_with (first | ((with_reducible refine gate_dst (N := 7) rfl ?_); refine box_event ?hg (N := 7) ?hd (cs := #[.string (⟨#[]⟩ : ByteArray), .string (⟨#[]⟩ : ByteArray)]) (t := 38) ?hr ?_; (case hd => rfl); (case hg => rfl); (case hr => first | (go_simp; done) | (go_simp; rfl)); intro gb181 hg w8 hbox hb; have n0_ := Aside0.mk (below_step (by repeat (first | (with_reducible first | exact HB.out | apply below_alloc | apply pw_below_drewN | apply below_drew1) | exact HB.out)) hb); have n1_ := Aside0.mk (hbox); have n2_ := Aside0.mk ((by rw [hg]; exact (below_size (by repeat (first | (with_reducible first | exact HB.out | apply below_alloc | apply pw_below_drewN | apply below_drew1) | exact HB.out))) : w.heap.size ≤ gb181)); have n3_ := Aside0.mk ((by rw [hg]; exact (below_size (by repeat (first | (with_reducible first | exact HB.out | apply below_alloc | apply pw_below_drewN | apply below_drew1) | exact HB.out))) : w.heap.size ≤ gb181)); clear HB; have HB := n0_; have BK181 := n1_; have GW181 := n2_; have GE181 := n3_; clear n0_ n1_ n2_ n3_; clear hb hbox hg; have hcz9_0 : w8.cell? ⟨gb181, 0, none⟩ = some (.string (⟨#[]⟩ : ByteArray)) := (blk_cell BK181.out 0).trans rfl; have hcz9_1 : w8.cell? ⟨gb181, 1, none⟩ = some (.string (⟨#[]⟩ : ByteArray)) := (blk_cell BK181.out 1).trans rfl; have hfz9_0 := blk_frozen BK181.out 0; have hfz9_1 := blk_frozen BK181.out 1) | ((with_reducible refine gate_callee (f := 31) rfl ?_); refine goesL_ (some 17) rfl rfl Try.func31 (by kernel_rfl) rfl #[.string ((rd_T38 l0 x10_1).f0), .string a1] rfl (by (try simp only [List.map_toArray, List.map_cons, List.map_nil]); first | done | rfl | (simp only [List.length_drop, List.length_take]; rfl)) ?_; (with_reducible refine (spec_same.calls k1 ((rd_T38 l0 x10_1).f0) a1 true _ A6.out).mono ?_); rintro e w' ⟨rfl, ⟨nd, rfl⟩⟩; refine ⟨_, rfl, ?_⟩))
              go_ret2
              exact ⟨by first | rfl | (simp [errW_none, errW_some] <;> rfl) | (simp [*, errW_none, errW_some] <;> rfl), by repeat (first | (with_reducible first | exact HB.out | apply below_alloc | apply pw_below_drewN | apply below_drew1 | refine below_set ?_ GE181.out) | exact HB.out)⟩
            · replace c7 := Bool.eq_false_iff.mpr c7
              subst c7
              have H1 : (spec_valueOf.l0 k1 a1 l0 (l0.length : Int) (wrap64 (x10_1 + 1))) = some (r1, r2) := by rw [if_neg (show ¬ (false = true) by decide)] at H; exact H
              clear H
              have H := H1
              clear H1
              have H' := Aside0.mk H
              clear H
              have p180 : 0 ≤ (x10_1 : Int) := of_decide_eq_true (by first | (with_reducible assumption) | assumption)
              have q180 : x10_1 < (l0.length : Int) := of_decide_eq_true (by first | (with_reducible assumption) | assumption)
              obtain ⟨ad180, e180, hx180_0, hx180_1⟩ := at_T38 HR0.out x10_1 p180 q180
              cases e180
              replace hx180_0 := (HB.out.cell (World.block_lt_of_cell? w _ hx180_0)).trans hx180_0
              replace hx180_1 := (HB.out.cell (World.block_lt_of_cell? w _ hx180_1)).trans hx180_1
              replace p180 := eq_true p180
              replace q180 := eq_true q180
              go_wp2_with (first | ((with_reducible refine gate_dst (N := 7) rfl ?_); refine box_event ?hg (N := 7) ?hd (cs := #[.string (⟨#[]⟩ : ByteArray), .string (⟨#[]⟩ : ByteArray)]) (t := 38) ?hr ?_; (case hd => rfl); (case hg => rfl); (case hr => first | (go_simp; done) | (go_simp; rfl)); intro gb181 hg w10 hbox hb; have n0_ := Aside0.mk (below_step (by repeat (first | (with_reducible first | exact HB.out | apply below_alloc | apply pw_below_drewN | apply below_drew1) | exact HB.out)) hb); have n1_ := Aside0.mk (hbox); have n2_ := Aside0.mk ((by rw [hg]; exact (below_size (by repeat (first | (with_reducible first | exact HB.out | apply below_alloc | apply pw_below_drewN | apply below_drew1) | exact HB.out))) : w.heap.size ≤ gb181)); have n3_ := Aside0.mk ((by rw [hg]; exact (below_size (by repeat (first | (with_reducible first | exact HB.out | apply below_alloc | apply pw_below_drewN | apply below_drew1) | exact HB.out))) : w.heap.size ≤ gb181)); clear HB; have HB := n0_; have BK181 := n1_; have GW181 := n2_; have GE181 := n3_; clear n0_ n1_ n2_ n3_; clear hb hbox hg; have hcz11_0 : w10.cell? ⟨gb181, 0, none⟩ = some (.string (⟨#[]⟩ : ByteArray)) := (blk_cell BK181.out 0).trans rfl; have hcz11_1 : w10.cell? ⟨gb181, 1, none⟩ = some (.string (⟨#[]⟩ : ByteArray)) := (blk_cell BK181.out 1).trans rfl; have hfz11_0 := blk_frozen BK181.out 0; have hfz11_1 := blk_frozen BK181.out 1) | ((with_reducible refine gate_callee (f := 31) rfl ?_); refine goesL_ (some 17) rfl rfl Try.func31 (by kernel_rfl) rfl #[.string ((rd_T38 l0 x10_1).f0), .string a1] rfl (by (try simp only [List.map_toArray, List.map_cons, List.map_nil]); first | done | rfl | (simp only [List.length_drop, List.length_take]; rfl)) ?_; (with_reducible refine (spec_same.calls k1 ((rd_T38 l0 x10_1).f0) a1 false _ A6.out).mono ?_); rintro e w' ⟨rfl, ⟨nd, rfl⟩⟩; refine ⟨_, rfl, ?_⟩))
              go_roundg k1
              case measure => have := HK1.out; omega
              case rel => exact ⟨(wrap64 (x10_1 + 1)), (by first | rfl | (simp; done) | (rw [prx_ne]; first | done | rfl) | (simp [*]; done)), H', ⟨by have := HK1.out; omega⟩, ⟨by repeat (first | (with_reducible first | exact HB.out | apply below_alloc | apply pw_below_drewN | apply below_drew1 | refine below_set ?_ GE181.out) | exact HB.out)⟩⟩
          · rw [if_neg c5] at H
            exact absurd H (by simp)
        · rw [if_neg c4] at H
          exact absurd H (by simp)
      · rw [if_neg c3] at H
        have c3b0 : decide (x10_1 < (l0.length : Int)) = false := decide_eq_false c3
        clear c3
        simp only [Option.some.injEq, Prod.mk.injEq] at H
        obtain ⟨rfl, rfl⟩ := H
        go_wp2
        go_ret2
        exact ⟨by first | rfl | (simp [errW_none, errW_some] <;> rfl) | (simp [*, errW_none, errW_some] <;> rfl), by repeat (first | (with_reducible first | exact HB.out | apply below_alloc | apply pw_below_drewN | apply below_drew1) | exact HB.out)⟩
def spec_gap.l0 : Nat → ByteArray → Option (ByteArray)
  | 0, _ => none
  | k + 1, x0 => if x0.toList = ([] : List UInt8) then (some x0) else (if 0 < (x0.size : Int) then (if (bt x0 0) = 32 then (if 1 ≤ (x0.size : Int) then (spec_gap.l0 k (x0.extract 1 x0.size)) else (none)) else (if (bt x0 0) = 9 then (if 1 ≤ (x0.size : Int) then (spec_gap.l0 k (x0.extract 1 x0.size)) else (none)) else (some x0))) else (none))
def spec_gap.f (k : Nat) (a0 : ByteArray) : Option (ByteArray) := spec_gap.l0 k a0
theorem spec_gap.mono_l : ∀ k, (∀ y0, LeO (spec_gap.l0 k y0) (spec_gap.l0 (k + 1) y0))
  | 0 => fun _ r h => by simp [spec_gap.l0] at h
  | k + 1 => by
    have ih0 := spec_gap.mono_l k
    · intro y0
      unfold spec_gap.l0
      repeat' first
      | (with_reducible exact ih0 _)
      | (with_reducible exact LeO.refl _)
      | (with_reducible exact LeO.none _)
      | (with_reducible refine LeO.ite ?_ ?_)
      | (with_reducible refine LeO.bind ?_ (fun _ => ?_))
      | exact ih0 _
      | exact LeO.none _
      | refine LeO.ite ?_ ?_
      | refine LeO.bind ?_ (fun _ => ?_)
theorem spec_gap.mono : ∀ a0 k, LeO (spec_gap.f k a0) (spec_gap.f (k + 1) a0) := by
  intro a0 k
  have ih0 := spec_gap.mono_l k
  unfold spec_gap.f
  repeat' first
      | (with_reducible exact ih0 _)
      | (with_reducible exact LeO.refl _)
      | (with_reducible exact LeO.none _)
      | (with_reducible refine LeO.ite ?_ ?_)
      | (with_reducible refine LeO.bind ?_ (fun _ => ?_))
      | exact ih0 _
      | exact LeO.none _
      | refine LeO.ite ?_ ?_
      | refine LeO.bind ?_ (fun _ => ?_)
set_option maxHeartbeats 8000000 in
set_option maxRecDepth 100000 in
theorem spec_gap.calls (k : Nat) (a0 : ByteArray) (r : ByteArray) (w : World) (h : spec_gap.f k a0 = some r) :
    Calls Try.prog 26 #[.string a0] w fun e w' => e = .returned (.string r) ∧ Drawn0 w w' := by
  have H : (spec_gap.l0 k a0) = some r := h
  clear h
  have H' := Aside0.mk H
  clear H
  go_enter Try.func26, Try.ntmps26
  go_wp2
  go_loopg [0] k (fun kq v0 w' => ∃ (x0_1 : ByteArray), v0 = .string x0_1 ∧ Aside0 (spec_gap.l0 kq x0_1 = some r) ∧ Aside0 (kq ≤ k) ∧ Drawn0 w w')
  case atStart => exact ⟨(a0), (by first | rfl | (simp; done) | (rw [prx_ne]; first | done | rfl) | (simp [*]; done)), H', ⟨Nat.le_refl _⟩, by repeat (first | exact Drawn0.refl _ | apply Drawn0.step)⟩
  case round =>
    clear H'
    obtain ⟨x0_1, rfl, HA, HK1, ⟨m1, rfl⟩⟩ := hrel
    cases gk with
    | zero => exact absurd HA.out (by simp [spec_gap.l0])
    | succ k1 =>
      have H := HA.out
      clear HA
      simp only [spec_gap.l0] at H
      by_cases c2 : x0_1.toList = ([] : List UInt8)
      · rw [if_pos c2] at H
        have c2b0 : (x0_1.toList == ([] : List UInt8)) = true := beq_iff_eq.mpr c2
        have c2b1 : (x0_1.toList != ([] : List UInt8)) = false := bne_eq_false_iff_eq.mpr c2
        clear c2
        obtain rfl := Option.some.inj H
        go_wp2
        go_ret
        exact ⟨by first | rfl | (simp; done) | (rw [prx_ne]; first | done | rfl) | (simp [*]; done), by repeat (first | exact Drawn0.refl _ | apply Drawn0.step)⟩
      · rw [if_neg c2] at H
        have c2b0 : (x0_1.toList == ([] : List UInt8)) = false := beq_eq_false_iff_ne.mpr c2
        have c2b1 : (x0_1.toList != ([] : List UInt8)) = true := bne_iff_ne.mpr c2
        by_cases c3 : 0 < (x0_1.size : Int)
        · rw [if_pos c3] at H
          have c3b0 : decide (0 < (x0_1.size : Int)) = true := decide_eq_true c3
          have c3b1 : decide (0 < x0_1.size) = true := decide_eq_true (by omega)
          clear c3
          by_cases c5 : (bt x0_1 0) = 32
          · rw [if_pos c5] at H
            have c5b0 : ((bt x0_1 0) == 32) = true := beq_iff_eq.mpr c5
            have c5b1 : ((bt x0_1 0) != 32) = false := bne_eq_false_iff_eq.mpr c5
            clear c5
            by_cases c6 : 1 ≤ (x0_1.size : Int)
            · rw [if_pos c6] at H
              have c6b0 := eq_true c6
              have c6b1 : decide (1 ≤ (x0_1.size : Int)) = true := decide_eq_true c6
              clear c6
              have H' := Aside0.mk H
              clear H
              have p4 : 0 ≤ (0 : Int) := (by omega)
              have q4 : 0 < x0_1.size := (by have : (0 : Int) < (x0_1.size : Int) := of_decide_eq_true (by first | (with_reducible assumption) | assumption); omega)
              have hx4 : ∀ h : 0 < x0_1.size, ((x0_1[0]'h).toNat : Int) = bt x0_1 0 := bt_at x0_1 0
              clear p4
              have qi4 : (0 < (x0_1.size : Int)) = True := eq_true (of_decide_eq_true (by first | (with_reducible assumption) | assumption))
              replace q4 := eq_true q4
              go_wp2
              go_roundg k1
              case measure => have := HK1.out; omega
              case rel => exact ⟨(x0_1.extract 1 x0_1.size), (by first | rfl | (simp; done) | (rw [prx_ne]; first | done | rfl) | (simp [*]; done)), H', ⟨by have := HK1.out; omega⟩, by repeat (first | exact Drawn0.refl _ | apply Drawn0.step)⟩
            · rw [if_neg c6] at H
              exact absurd H (by simp)
          · rw [if_neg c5] at H
            have c5b0 : ((bt x0_1 0) == 32) = false := beq_eq_false_iff_ne.mpr c5
            have c5b1 : ((bt x0_1 0) != 32) = true := bne_iff_ne.mpr c5
            by_cases c8 : (bt x0_1 0) = 9
            · rw [if_pos c8] at H
              have c8b0 : ((bt x0_1 0) == 9) = true := beq_iff_eq.mpr c8
              have c8b1 : ((bt x0_1 0) != 9) = false := bne_eq_false_iff_eq.mpr c8
              clear c8
              by_cases c9 : 1 ≤ (x0_1.size : Int)
              · rw [if_pos c9] at H
                have c9b0 := eq_true c9
                have c9b1 : decide (1 ≤ (x0_1.size : Int)) = true := decide_eq_true c9
                clear c9
                have H' := Aside0.mk H
                clear H
                have p4 : 0 ≤ (0 : Int) := (by omega)
                have q4 : 0 < x0_1.size := (by have : (0 : Int) < (x0_1.size : Int) := of_decide_eq_true (by first | (with_reducible assumption) | assumption); omega)
                have hx4 : ∀ h : 0 < x0_1.size, ((x0_1[0]'h).toNat : Int) = bt x0_1 0 := bt_at x0_1 0
                clear p4
                have qi4 : (0 < (x0_1.size : Int)) = True := eq_true (of_decide_eq_true (by first | (with_reducible assumption) | assumption))
                replace q4 := eq_true q4
                have p7 : 0 ≤ (0 : Int) := (by omega)
                have q7 : 0 < x0_1.size := (by have : (0 : Int) < (x0_1.size : Int) := of_decide_eq_true (by first | (with_reducible assumption) | assumption); omega)
                have hx7 : ∀ h : 0 < x0_1.size, ((x0_1[0]'h).toNat : Int) = bt x0_1 0 := bt_at x0_1 0
                clear p7
                have qi7 : (0 < (x0_1.size : Int)) = True := eq_true (of_decide_eq_true (by first | (with_reducible assumption) | assumption))
                replace q7 := eq_true q7
                go_wp2
                go_roundg k1
                case measure => have := HK1.out; omega
                case rel => exact ⟨(x0_1.extract 1 x0_1.size), (by first | rfl | (simp; done) | (rw [prx_ne]; first | done | rfl) | (simp [*]; done)), H', ⟨by have := HK1.out; omega⟩, by repeat (first | exact Drawn0.refl _ | apply Drawn0.step)⟩
              · rw [if_neg c9] at H
                exact absurd H (by simp)
            · rw [if_neg c8] at H
              have c8b0 : ((bt x0_1 0) == 9) = false := beq_eq_false_iff_ne.mpr c8
              have c8b1 : ((bt x0_1 0) != 9) = true := bne_iff_ne.mpr c8
              obtain rfl := Option.some.inj H
              have p4 : 0 ≤ (0 : Int) := (by omega)
              have q4 : 0 < x0_1.size := (by have : (0 : Int) < (x0_1.size : Int) := of_decide_eq_true (by first | (with_reducible assumption) | assumption); omega)
              have hx4 : ∀ h : 0 < x0_1.size, ((x0_1[0]'h).toNat : Int) = bt x0_1 0 := bt_at x0_1 0
              clear p4
              have qi4 : (0 < (x0_1.size : Int)) = True := eq_true (of_decide_eq_true (by first | (with_reducible assumption) | assumption))
              replace q4 := eq_true q4
              have p7 : 0 ≤ (0 : Int) := (by omega)
              have q7 : 0 < x0_1.size := (by have : (0 : Int) < (x0_1.size : Int) := of_decide_eq_true (by first | (with_reducible assumption) | assumption); omega)
              have hx7 : ∀ h : 0 < x0_1.size, ((x0_1[0]'h).toNat : Int) = bt x0_1 0 := bt_at x0_1 0
              clear p7
              have qi7 : (0 < (x0_1.size : Int)) = True := eq_true (of_decide_eq_true (by first | (with_reducible assumption) | assumption))
              replace q7 := eq_true q7
              go_wp2
              go_ret
              exact ⟨by first | rfl | (simp; done) | (rw [prx_ne]; first | done | rfl) | (simp [*]; done), by repeat (first | exact Drawn0.refl _ | apply Drawn0.step)⟩
        · rw [if_neg c3] at H
          exact absurd H (by simp)
def spec_FieldByte.f (k : Nat) (a0 : Int) : Option (Bool) := if a0 ≥ 48 then (if a0 ≤ 57 then (some true) else ((spec_fold.f a0).bind fun t135 => (if t135 ≥ 97 then ((spec_fold.f a0).bind fun t136 => (if t136 ≤ 122 then (some true) else ((some (([96] : List Int) : List Int)).bind fun y137 => (if 12 + (strOfNums y137).size ≤ 9223372036854775807 then (if ((⟨#[33, 35, 36, 37, 38, 39, 42, 43, 45, 46, 94, 95]⟩ : ByteArray) ++ (strOfNums y137)).size + 2 ≤ 9223372036854775807 then ((spec_place.f k (((⟨#[33, 35, 36, 37, 38, 39, 42, 43, 45, 46, 94, 95]⟩ : ByteArray) ++ (strOfNums y137)) ++ (⟨#[124, 126]⟩ : ByteArray)) a0).bind fun t140 => (some (decide (t140 ≥ 0)))) else (none)) else (none))))) else ((some (([96] : List Int) : List Int)).bind fun y141 => (if 12 + (strOfNums y141).size ≤ 9223372036854775807 then (if ((⟨#[33, 35, 36, 37, 38, 39, 42, 43, 45, 46, 94, 95]⟩ : ByteArray) ++ (strOfNums y141)).size + 2 ≤ 9223372036854775807 then ((spec_place.f k (((⟨#[33, 35, 36, 37, 38, 39, 42, 43, 45, 46, 94, 95]⟩ : ByteArray) ++ (strOfNums y141)) ++ (⟨#[124, 126]⟩ : ByteArray)) a0).bind fun t144 => (some (decide (t144 ≥ 0)))) else (none)) else (none)))))) else ((spec_fold.f a0).bind fun t145 => (if t145 ≥ 97 then ((spec_fold.f a0).bind fun t146 => (if t146 ≤ 122 then (some true) else ((some (([96] : List Int) : List Int)).bind fun y147 => (if 12 + (strOfNums y147).size ≤ 9223372036854775807 then (if ((⟨#[33, 35, 36, 37, 38, 39, 42, 43, 45, 46, 94, 95]⟩ : ByteArray) ++ (strOfNums y147)).size + 2 ≤ 9223372036854775807 then ((spec_place.f k (((⟨#[33, 35, 36, 37, 38, 39, 42, 43, 45, 46, 94, 95]⟩ : ByteArray) ++ (strOfNums y147)) ++ (⟨#[124, 126]⟩ : ByteArray)) a0).bind fun t150 => (some (decide (t150 ≥ 0)))) else (none)) else (none))))) else ((some (([96] : List Int) : List Int)).bind fun y151 => (if 12 + (strOfNums y151).size ≤ 9223372036854775807 then (if ((⟨#[33, 35, 36, 37, 38, 39, 42, 43, 45, 46, 94, 95]⟩ : ByteArray) ++ (strOfNums y151)).size + 2 ≤ 9223372036854775807 then ((spec_place.f k (((⟨#[33, 35, 36, 37, 38, 39, 42, 43, 45, 46, 94, 95]⟩ : ByteArray) ++ (strOfNums y151)) ++ (⟨#[124, 126]⟩ : ByteArray)) a0).bind fun t154 => (some (decide (t154 ≥ 0)))) else (none)) else (none)))))
theorem spec_FieldByte.mono : ∀ a0 k, LeO (spec_FieldByte.f k a0) (spec_FieldByte.f (k + 1) a0) := by
  intro a0 k
  unfold spec_FieldByte.f
  repeat' first
      | (with_reducible exact spec_place.mono _ _ _)
      | (with_reducible exact LeO.refl _)
      | (with_reducible exact LeO.none _)
      | (with_reducible refine LeO.ite ?_ ?_)
      | (with_reducible refine LeO.bind ?_ (fun _ => ?_))
      | exact spec_place.mono _ _ _
      | exact LeO.none _
      | refine LeO.ite ?_ ?_
      | refine LeO.bind ?_ (fun _ => ?_)
set_option maxHeartbeats 8000000 in
set_option maxRecDepth 100000 in
theorem spec_FieldByte.calls (k : Nat) (a0 : Int) (r : Bool) (w : World) (h : spec_FieldByte.f k a0 = some r) :
  Calls Try.prog 27 #[.int .u8 a0] w fun e w' => e = .returned (.bool r) ∧ Below w.heap.size w w' := by
 have HB := Aside0.mk (Below.refl w.heap.size w)
 have H : (if a0 ≥ 48 then (if a0 ≤ 57 then (some true) else ((spec_fold.f a0).bind fun t135 => (if t135 ≥ 97 then ((spec_fold.f a0).bind fun t136 => (if t136 ≤ 122 then (some true) else ((some (([96] : List Int) : List Int)).bind fun y137 => (if 12 + (strOfNums y137).size ≤ 9223372036854775807 then (if ((⟨#[33, 35, 36, 37, 38, 39, 42, 43, 45, 46, 94, 95]⟩ : ByteArray) ++ (strOfNums y137)).size + 2 ≤ 9223372036854775807 then ((spec_place.f k (((⟨#[33, 35, 36, 37, 38, 39, 42, 43, 45, 46, 94, 95]⟩ : ByteArray) ++ (strOfNums y137)) ++ (⟨#[124, 126]⟩ : ByteArray)) a0).bind fun t140 => (some (decide (t140 ≥ 0)))) else (none)) else (none))))) else ((some (([96] : List Int) : List Int)).bind fun y141 => (if 12 + (strOfNums y141).size ≤ 9223372036854775807 then (if ((⟨#[33, 35, 36, 37, 38, 39, 42, 43, 45, 46, 94, 95]⟩ : ByteArray) ++ (strOfNums y141)).size + 2 ≤ 9223372036854775807 then ((spec_place.f k (((⟨#[33, 35, 36, 37, 38, 39, 42, 43, 45, 46, 94, 95]⟩ : ByteArray) ++ (strOfNums y141)) ++ (⟨#[124, 126]⟩ : ByteArray)) a0).bind fun t144 => (some (decide (t144 ≥ 0)))) else (none)) else (none)))))) else ((spec_fold.f a0).bind fun t145 => (if t145 ≥ 97 then ((spec_fold.f a0).bind fun t146 => (if t146 ≤ 122 then (some true) else ((some (([96] : List Int) : List Int)).bind fun y147 => (if 12 + (strOfNums y147).size ≤ 9223372036854775807 then (if ((⟨#[33, 35, 36, 37, 38, 39, 42, 43, 45, 46, 94, 95]⟩ : ByteArray) ++ (strOfNums y147)).size + 2 ≤ 9223372036854775807 then ((spec_place.f k (((⟨#[33, 35, 36, 37, 38, 39, 42, 43, 45, 46, 94, 95]⟩ : ByteArray) ++ (strOfNums y147)) ++ (⟨#[124, 126]⟩ : ByteArray)) a0).bind fun t150 => (some (decide (t150 ≥ 0)))) else (none)) else (none))))) else ((some (([96] : List Int) : List Int)).bind fun y151 => (if 12 + (strOfNums y151).size ≤ 9223372036854775807 then (if ((⟨#[33, 35, 36, 37, 38, 39, 42, 43, 45, 46, 94, 95]⟩ : ByteArray) ++ (strOfNums y151)).size + 2 ≤ 9223372036854775807 then ((spec_place.f k (((⟨#[33, 35, 36, 37, 38, 39, 42, 43, 45, 46, 94, 95]⟩ : ByteArray) ++ (strOfNums y151)) ++ (⟨#[124, 126]⟩ : ByteArray)) a0).bind fun t154 => (some (decide (t154 ≥ 0)))) else (none)) else (none)))))) = some r := h
 clear h
 by_cases c2 : a0 ≥ 48
 ·rw [if_pos c2] at H
  have c2b0 : decide (48 ≤ a0) = true := decide_eq_true c2
  clear c2
  by_cases c3 : a0 ≤ 57
  ·rw [if_pos c3] at H
   have c3b0 : decide (a0 ≤ 57) = true := decide_eq_true c3
   clear c3
   obtain rfl := Option.some.inj H
   go_enter Try.func27, Try.ntmps27
   go_wp2
   go_ret
   exact ⟨by first | rfl | (simp [errW_none, errW_some] <;> rfl) | (simp [*, errW_none, errW_some] <;> rfl), by repeat (first | (with_reducible first | exact HB.out | apply below_alloc | apply pw_below_drewN | apply below_drew1) | exact HB.out)⟩
  ·rw [if_neg c3] at H
   have c3b0 : decide (a0 ≤ 57) = false := decide_eq_false c3
   clear c3
   replace H := Option.bind_eq_some_iff.mp H
   obtain ⟨t135, A40, H⟩ := H
   replace H : (if t135 ≥ 97 then ((spec_fold.f a0).bind fun t136 => (if t136 ≤ 122 then (some true) else ((some (([96] : List Int) : List Int)).bind fun y137 => (if 12 + (strOfNums y137).size ≤ 9223372036854775807 then (if ((⟨#[33, 35, 36, 37, 38, 39, 42, 43, 45, 46, 94, 95]⟩ : ByteArray) ++ (strOfNums y137)).size + 2 ≤ 9223372036854775807 then ((spec_place.f k (((⟨#[33, 35, 36, 37, 38, 39, 42, 43, 45, 46, 94, 95]⟩ : ByteArray) ++ (strOfNums y137)) ++ (⟨#[124, 126]⟩ : ByteArray)) a0).bind fun t140 => (some (decide (t140 ≥ 0)))) else (none)) else (none))))) else ((some (([96] : List Int) : List Int)).bind fun y141 => (if 12 + (strOfNums y141).size ≤ 9223372036854775807 then (if ((⟨#[33, 35, 36, 37, 38, 39, 42, 43, 45, 46, 94, 95]⟩ : ByteArray) ++ (strOfNums y141)).size + 2 ≤ 9223372036854775807 then ((spec_place.f k (((⟨#[33, 35, 36, 37, 38, 39, 42, 43, 45, 46, 94, 95]⟩ : ByteArray) ++ (strOfNums y141)) ++ (⟨#[124, 126]⟩ : ByteArray)) a0).bind fun t144 => (some (decide (t144 ≥ 0)))) else (none)) else (none)))) = some r := H
   have A4 := Aside0.mk A40
   clear A40
   by_cases c5 : t135 ≥ 97
   ·rw [if_pos c5] at H
    have c5b0 : decide (97 ≤ t135) = true := decide_eq_true c5
    clear c5
    replace H := Option.bind_eq_some_iff.mp H
    obtain ⟨t136, A60, H⟩ := H
    replace H : (if t136 ≤ 122 then (some true) else ((some (([96] : List Int) : List Int)).bind fun y137 => (if 12 + (strOfNums y137).size ≤ 9223372036854775807 then (if ((⟨#[33, 35, 36, 37, 38, 39, 42, 43, 45, 46, 94, 95]⟩ : ByteArray) ++ (strOfNums y137)).size + 2 ≤ 9223372036854775807 then ((spec_place.f k (((⟨#[33, 35, 36, 37, 38, 39, 42, 43, 45, 46, 94, 95]⟩ : ByteArray) ++ (strOfNums y137)) ++ (⟨#[124, 126]⟩ : ByteArray)) a0).bind fun t140 => (some (decide (t140 ≥ 0)))) else (none)) else (none)))) = some r := H
    have A6 := Aside0.mk A60
    clear A60
    by_cases c7 : t136 ≤ 122
    ·rw [if_pos c7] at H
     have c7b0 : decide (t136 ≤ 122) = true := decide_eq_true c7
     clear c7
     try (obtain rfl : t136 = t135 := Option.some.inj (A6.out.symm.trans A4.out))
     obtain rfl := Option.some.inj H
     go_enter Try.func27, Try.ntmps27
     go_wp2_with (first | (go_at_call 42; (with_reducible refine (spec_fold.calls a0 t136 _ A4.out).mono ?_); rintro e w' ⟨rfl, ⟨nd, rfl⟩⟩) | (go_at_call 42; (with_reducible refine (spec_fold.calls a0 t136 _ A6.out).mono ?_); rintro e w' ⟨rfl, ⟨nd, rfl⟩⟩))
     go_ret
     exact ⟨by first | rfl | (simp [errW_none, errW_some] <;> rfl) | (simp [*, errW_none, errW_some] <;> rfl), by repeat (first | (with_reducible first | exact HB.out | apply below_alloc | apply pw_below_drewN | apply below_drew1) | exact HB.out)⟩
    ·rw [if_neg c7] at H
     have c7b0 : decide (t136 ≤ 122) = false := decide_eq_false c7
     clear c7
     obtain ⟨y137, hy137⟩ : ∃ y_ : List Int, y_ = (([96] : List Int)) := ⟨_, rfl⟩
     replace H : (if 12 + (strOfNums y137).size ≤ 9223372036854775807 then (if ((⟨#[33, 35, 36, 37, 38, 39, 42, 43, 45, 46, 94, 95]⟩ : ByteArray) ++ (strOfNums y137)).size + 2 ≤ 9223372036854775807 then ((spec_place.f k (((⟨#[33, 35, 36, 37, 38, 39, 42, 43, 45, 46, 94, 95]⟩ : ByteArray) ++ (strOfNums y137)) ++ (⟨#[124, 126]⟩ : ByteArray)) a0).bind fun t140 => (some (decide (t140 ≥ 0)))) else (none)) else (none)) = some r := by first | (rw [hy137]; with_reducible exact H) | (have H2_ := (Option.bind_some _ _).symm.trans H; rw [hy137]; with_reducible exact H2_) | (have H2_ := (Option.bind_some _ _).symm.trans H; with_reducible exact H2_) | with_reducible exact H | (rw [hy137]; exact H) | exact H
     have Ny137 := Aside0.mk hy137
     clear hy137
     by_cases c8 : 12 + (strOfNums y137).size ≤ 9223372036854775807
     ·rw [if_pos c8] at H
      have c8b0 := eq_true c8
      have c8b1 : decide (12 + (strOfNums y137).size ≤ 9223372036854775807) = true := decide_eq_true c8
      try have c8b2 : (9223372036854775807 < 12 + (strOfNums y137).size) = False := eq_false (Nat.not_lt.2 c8)
      try (have c8b3 := c8; simp only [ByteArray.size_append, prx_sz, List.length_cons, List.length_nil] at c8b3)
      by_cases c9 : ((⟨#[33, 35, 36, 37, 38, 39, 42, 43, 45, 46, 94, 95]⟩ : ByteArray) ++ (strOfNums y137)).size + 2 ≤ 9223372036854775807
      ·rw [if_pos c9] at H
       have c9b0 := eq_true c9
       have c9b1 : decide (((⟨#[33, 35, 36, 37, 38, 39, 42, 43, 45, 46, 94, 95]⟩ : ByteArray) ++ (strOfNums y137)).size + 2 ≤ 9223372036854775807) = true := decide_eq_true c9
       try have c9b2 : (9223372036854775807 < ((⟨#[33, 35, 36, 37, 38, 39, 42, 43, 45, 46, 94, 95]⟩ : ByteArray) ++ (strOfNums y137)).size + 2) = False := eq_false (Nat.not_lt.2 c9)
       try (have c9b3 := c9; simp only [ByteArray.size_append, prx_sz, List.length_cons, List.length_nil] at c9b3)
       replace H := Option.bind_eq_some_iff.mp H
       obtain ⟨t140, A100, H⟩ := H
       replace H : (some (decide (t140 ≥ 0))) = some r := H
       have A10 := Aside0.mk A100
       clear A100
       try (obtain rfl : t136 = t135 := Option.some.inj (A6.out.symm.trans A4.out))
       obtain rfl := Option.some.inj H
       go_enter Try.func27, Try.ntmps27
       go_wp2_with (first | (go_at_call 42; (with_reducible refine (spec_fold.calls a0 t136 _ A4.out).mono ?_); rintro e w' ⟨rfl, ⟨nd, rfl⟩⟩) | (go_at_call 42; (with_reducible refine (spec_fold.calls a0 t136 _ A6.out).mono ?_); rintro e w' ⟨rfl, ⟨nd, rfl⟩⟩) | ((with_reducible refine gate_dst (N := 19) rfl ?_); refine Kd.R_lit (Kd.int .u8) _ 5 ?hg (N := 19) ?hd (xs := ([96] : List Int)) (inner := [.int .u8 96]) (ok := fun _ => True) (okp := fun _ => True) ?hr ?hp (fun _ hk => hk) trivial (Below.refl _ _) (Nat.le_refl _) (by simp) ?_; (case hd => rfl); (case hg => rfl); (case hr => first | (go_simp; done) | (go_simp; rfl)); (case hp => exact (Reps.one (show Kd.M (Kd.int .u8) _ _ _ 96 [.int .u8 96] from rfl) (Reps.none _ _))); intro v138 w11 ho12 hb hg_ hnew_; clear hg_ hnew_; (first | rw [← Ny137.out] at ho12 | (simp only [Int.reduceToNat] at ho12; rw [← Ny137.out] at ho12)); have n0_ := Aside0.mk (Kd.R_lower ho12 (below_size (by repeat (first | (with_reducible first | exact HB.out | apply below_alloc | apply pw_below_drewN | apply below_drew1) | exact HB.out)))); have n1_ := Aside0.mk (below_step (by repeat (first | (with_reducible first | exact HB.out | apply below_alloc | apply pw_below_drewN | apply below_drew1) | exact HB.out)) hb); clear HB; have HO139 := n0_; have HB := n1_; clear n0_ n1_; clear hb ho12; have hcv13 := own_string (P := Try.prog) Try.underlying73 Try.underlying5 Try.underlying9 (Kd.own_of_R HO139.out)) | ((with_reducible refine gate_callee (f := 24) rfl ?_); refine goesL_ (some 24) rfl rfl Try.func24 (by kernel_rfl) rfl #[.string (((⟨#[33, 35, 36, 37, 38, 39, 42, 43, 45, 46, 94, 95]⟩ : ByteArray) ++ (strOfNums y137)) ++ (⟨#[124, 126]⟩ : ByteArray)), .int .u8 a0] rfl (by (try simp only [List.map_toArray, List.map_cons, List.map_nil]); first | done | rfl | (simp only [List.length_drop, List.length_take]; rfl)) ?_; (with_reducible refine (spec_place.calls k (((⟨#[33, 35, 36, 37, 38, 39, 42, 43, 45, 46, 94, 95]⟩ : ByteArray) ++ (strOfNums y137)) ++ (⟨#[124, 126]⟩ : ByteArray)) a0 t140 _ A10.out).mono ?_); rintro e w' ⟨rfl, ⟨nd, rfl⟩⟩; refine ⟨_, rfl, ?_⟩))
       go_ret
       exact ⟨by first | rfl | (simp [errW_none, errW_some] <;> rfl) | (simp [*, errW_none, errW_some] <;> rfl), by repeat (first | (with_reducible first | exact HB.out | apply below_alloc | apply pw_below_drewN | apply below_drew1) | exact HB.out)⟩
      ·rw [if_neg c9] at H
       exact absurd H (by simp)
     ·rw [if_neg c8] at H
      exact absurd H (by simp)
   ·rw [if_neg c5] at H
    have c5b0 : decide (97 ≤ t135) = false := decide_eq_false c5
    clear c5
    obtain ⟨y141, hy141⟩ : ∃ y_ : List Int, y_ = (([96] : List Int)) := ⟨_, rfl⟩
    replace H : (if 12 + (strOfNums y141).size ≤ 9223372036854775807 then (if ((⟨#[33, 35, 36, 37, 38, 39, 42, 43, 45, 46, 94, 95]⟩ : ByteArray) ++ (strOfNums y141)).size + 2 ≤ 9223372036854775807 then ((spec_place.f k (((⟨#[33, 35, 36, 37, 38, 39, 42, 43, 45, 46, 94, 95]⟩ : ByteArray) ++ (strOfNums y141)) ++ (⟨#[124, 126]⟩ : ByteArray)) a0).bind fun t144 => (some (decide (t144 ≥ 0)))) else (none)) else (none)) = some r := by first | (rw [hy141]; with_reducible exact H) | (have H2_ := (Option.bind_some _ _).symm.trans H; rw [hy141]; with_reducible exact H2_) | (have H2_ := (Option.bind_some _ _).symm.trans H; with_reducible exact H2_) | with_reducible exact H | (rw [hy141]; exact H) | exact H
    have Ny141 := Aside0.mk hy141
    clear hy141
    by_cases c14 : 12 + (strOfNums y141).size ≤ 9223372036854775807
    ·rw [if_pos c14] at H
     have c14b0 := eq_true c14
     have c14b1 : decide (12 + (strOfNums y141).size ≤ 9223372036854775807) = true := decide_eq_true c14
     try have c14b2 : (9223372036854775807 < 12 + (strOfNums y141).size) = False := eq_false (Nat.not_lt.2 c14)
     try (have c14b3 := c14; simp only [ByteArray.size_append, prx_sz, List.length_cons, List.length_nil] at c14b3)
     by_cases c15 : ((⟨#[33, 35, 36, 37, 38, 39, 42, 43, 45, 46, 94, 95]⟩ : ByteArray) ++ (strOfNums y141)).size + 2 ≤ 9223372036854775807
     ·rw [if_pos c15] at H
      have c15b0 := eq_true c15
      have c15b1 : decide (((⟨#[33, 35, 36, 37, 38, 39, 42, 43, 45, 46, 94, 95]⟩ : ByteArray) ++ (strOfNums y141)).size + 2 ≤ 9223372036854775807) = true := decide_eq_true c15
      try have c15b2 : (9223372036854775807 < ((⟨#[33, 35, 36, 37, 38, 39, 42, 43, 45, 46, 94, 95]⟩ : ByteArray) ++ (strOfNums y141)).size + 2) = False := eq_false (Nat.not_lt.2 c15)
      try (have c15b3 := c15; simp only [ByteArray.size_append, prx_sz, List.length_cons, List.length_nil] at c15b3)
      replace H := Option.bind_eq_some_iff.mp H
      obtain ⟨t144, A160, H⟩ := H
      replace H : (some (decide (t144 ≥ 0))) = some r := H
      have A16 := Aside0.mk A160
      clear A160
      obtain rfl := Option.some.inj H
      go_enter Try.func27, Try.ntmps27
      go_wp2_with (first | (go_at_call 42; (with_reducible refine (spec_fold.calls a0 t135 _ A4.out).mono ?_); rintro e w' ⟨rfl, ⟨nd, rfl⟩⟩) | ((with_reducible refine gate_dst (N := 19) rfl ?_); refine Kd.R_lit (Kd.int .u8) _ 5 ?hg (N := 19) ?hd (xs := ([96] : List Int)) (inner := [.int .u8 96]) (ok := fun _ => True) (okp := fun _ => True) ?hr ?hp (fun _ hk => hk) trivial (Below.refl _ _) (Nat.le_refl _) (by simp) ?_; (case hd => rfl); (case hg => rfl); (case hr => first | (go_simp; done) | (go_simp; rfl)); (case hp => exact (Reps.one (show Kd.M (Kd.int .u8) _ _ _ 96 [.int .u8 96] from rfl) (Reps.none _ _))); intro v142 w17 ho18 hb hg_ hnew_; clear hg_ hnew_; (first | rw [← Ny141.out] at ho18 | (simp only [Int.reduceToNat] at ho18; rw [← Ny141.out] at ho18)); have n0_ := Aside0.mk (Kd.R_lower ho18 (below_size (by repeat (first | (with_reducible first | exact HB.out | apply below_alloc | apply pw_below_drewN | apply below_drew1) | exact HB.out)))); have n1_ := Aside0.mk (below_step (by repeat (first | (with_reducible first | exact HB.out | apply below_alloc | apply pw_below_drewN | apply below_drew1) | exact HB.out)) hb); clear HB; have HO143 := n0_; have HB := n1_; clear n0_ n1_; clear hb ho18; have hcv19 := own_string (P := Try.prog) Try.underlying73 Try.underlying5 Try.underlying9 (Kd.own_of_R HO143.out)) | ((with_reducible refine gate_callee (f := 24) rfl ?_); refine goesL_ (some 24) rfl rfl Try.func24 (by kernel_rfl) rfl #[.string (((⟨#[33, 35, 36, 37, 38, 39, 42, 43, 45, 46, 94, 95]⟩ : ByteArray) ++ (strOfNums y141)) ++ (⟨#[124, 126]⟩ : ByteArray)), .int .u8 a0] rfl (by (try simp only [List.map_toArray, List.map_cons, List.map_nil]); first | done | rfl | (simp only [List.length_drop, List.length_take]; rfl)) ?_; (with_reducible refine (spec_place.calls k (((⟨#[33, 35, 36, 37, 38, 39, 42, 43, 45, 46, 94, 95]⟩ : ByteArray) ++ (strOfNums y141)) ++ (⟨#[124, 126]⟩ : ByteArray)) a0 t144 _ A16.out).mono ?_); rintro e w' ⟨rfl, ⟨nd, rfl⟩⟩; refine ⟨_, rfl, ?_⟩))
      go_ret
      exact ⟨by first | rfl | (simp [errW_none, errW_some] <;> rfl) | (simp [*, errW_none, errW_some] <;> rfl), by repeat (first | (with_reducible first | exact HB.out | apply below_alloc | apply pw_below_drewN | apply below_drew1) | exact HB.out)⟩
     ·rw [if_neg c15] at H
      exact absurd H (by simp)
    ·rw [if_neg c14] at H
     exact absurd H (by simp)
 ·rw [if_neg c2] at H
  have c2b0 : decide (48 ≤ a0) = false := decide_eq_false c2
  clear c2
  replace H := Option.bind_eq_some_iff.mp H
  obtain ⟨t145, A200, H⟩ := H
  replace H : (if t145 ≥ 97 then ((spec_fold.f a0).bind fun t146 => (if t146 ≤ 122 then (some true) else ((some (([96] : List Int) : List Int)).bind fun y147 => (if 12 + (strOfNums y147).size ≤ 9223372036854775807 then (if ((⟨#[33, 35, 36, 37, 38, 39, 42, 43, 45, 46, 94, 95]⟩ : ByteArray) ++ (strOfNums y147)).size + 2 ≤ 9223372036854775807 then ((spec_place.f k (((⟨#[33, 35, 36, 37, 38, 39, 42, 43, 45, 46, 94, 95]⟩ : ByteArray) ++ (strOfNums y147)) ++ (⟨#[124, 126]⟩ : ByteArray)) a0).bind fun t150 => (some (decide (t150 ≥ 0)))) else (none)) else (none))))) else ((some (([96] : List Int) : List Int)).bind fun y151 => (if 12 + (strOfNums y151).size ≤ 9223372036854775807 then (if ((⟨#[33, 35, 36, 37, 38, 39, 42, 43, 45, 46, 94, 95]⟩ : ByteArray) ++ (strOfNums y151)).size + 2 ≤ 9223372036854775807 then ((spec_place.f k (((⟨#[33, 35, 36, 37, 38, 39, 42, 43, 45, 46, 94, 95]⟩ : ByteArray) ++ (strOfNums y151)) ++ (⟨#[124, 126]⟩ : ByteArray)) a0).bind fun t154 => (some (decide (t154 ≥ 0)))) else (none)) else (none)))) = some r := H
  have A20 := Aside0.mk A200
  clear A200
  by_cases c21 : t145 ≥ 97
  ·rw [if_pos c21] at H
   have c21b0 : decide (97 ≤ t145) = true := decide_eq_true c21
   clear c21
   replace H := Option.bind_eq_some_iff.mp H
   obtain ⟨t146, A220, H⟩ := H
   replace H : (if t146 ≤ 122 then (some true) else ((some (([96] : List Int) : List Int)).bind fun y147 => (if 12 + (strOfNums y147).size ≤ 9223372036854775807 then (if ((⟨#[33, 35, 36, 37, 38, 39, 42, 43, 45, 46, 94, 95]⟩ : ByteArray) ++ (strOfNums y147)).size + 2 ≤ 9223372036854775807 then ((spec_place.f k (((⟨#[33, 35, 36, 37, 38, 39, 42, 43, 45, 46, 94, 95]⟩ : ByteArray) ++ (strOfNums y147)) ++ (⟨#[124, 126]⟩ : ByteArray)) a0).bind fun t150 => (some (decide (t150 ≥ 0)))) else (none)) else (none)))) = some r := H
   have A22 := Aside0.mk A220
   clear A220
   by_cases c23 : t146 ≤ 122
   ·rw [if_pos c23] at H
    have c23b0 : decide (t146 ≤ 122) = true := decide_eq_true c23
    clear c23
    try (obtain rfl : t146 = t145 := Option.some.inj (A22.out.symm.trans A20.out))
    obtain rfl := Option.some.inj H
    go_enter Try.func27, Try.ntmps27
    go_wp2_with (first | (go_at_call 42; (with_reducible refine (spec_fold.calls a0 t146 _ A20.out).mono ?_); rintro e w' ⟨rfl, ⟨nd, rfl⟩⟩) | (go_at_call 42; (with_reducible refine (spec_fold.calls a0 t146 _ A22.out).mono ?_); rintro e w' ⟨rfl, ⟨nd, rfl⟩⟩))
    go_ret
    exact ⟨by first | rfl | (simp [errW_none, errW_some] <;> rfl) | (simp [*, errW_none, errW_some] <;> rfl), by repeat (first | (with_reducible first | exact HB.out | apply below_alloc | apply pw_below_drewN | apply below_drew1) | exact HB.out)⟩
   ·rw [if_neg c23] at H
    have c23b0 : decide (t146 ≤ 122) = false := decide_eq_false c23
    clear c23
    obtain ⟨y147, hy147⟩ : ∃ y_ : List Int, y_ = (([96] : List Int)) := ⟨_, rfl⟩
    replace H : (if 12 + (strOfNums y147).size ≤ 9223372036854775807 then (if ((⟨#[33, 35, 36, 37, 38, 39, 42, 43, 45, 46, 94, 95]⟩ : ByteArray) ++ (strOfNums y147)).size + 2 ≤ 9223372036854775807 then ((spec_place.f k (((⟨#[33, 35, 36, 37, 38, 39, 42, 43, 45, 46, 94, 95]⟩ : ByteArray) ++ (strOfNums y147)) ++ (⟨#[124, 126]⟩ : ByteArray)) a0).bind fun t150 => (some (decide (t150 ≥ 0)))) else (none)) else (none)) = some r := by first | (rw [hy147]; with_reducible exact H) | (have H2_ := (Option.bind_some _ _).symm.trans H; rw [hy147]; with_reducible exact H2_) | (have H2_ := (Option.bind_some _ _).symm.trans H; with_reducible exact H2_) | with_reducible exact H | (rw [hy147]; exact H) | exact H
    have Ny147 := Aside0.mk hy147
    clear hy147
    by_cases c24 : 12 + (strOfNums y147).size ≤ 9223372036854775807
    ·rw [if_pos c24] at H
     have c24b0 := eq_true c24
     have c24b1 : decide (12 + (strOfNums y147).size ≤ 9223372036854775807) = true := decide_eq_true c24
     try have c24b2 : (9223372036854775807 < 12 + (strOfNums y147).size) = False := eq_false (Nat.not_lt.2 c24)
     try (have c24b3 := c24; simp only [ByteArray.size_append, prx_sz, List.length_cons, List.length_nil] at c24b3)
     by_cases c25 : ((⟨#[33, 35, 36, 37, 38, 39, 42, 43, 45, 46, 94, 95]⟩ : ByteArray) ++ (strOfNums y147)).size + 2 ≤ 9223372036854775807
     ·rw [if_pos c25] at H
      have c25b0 := eq_true c25
      have c25b1 : decide (((⟨#[33, 35, 36, 37, 38, 39, 42, 43, 45, 46, 94, 95]⟩ : ByteArray) ++ (strOfNums y147)).size + 2 ≤ 9223372036854775807) = true := decide_eq_true c25
      try have c25b2 : (9223372036854775807 < ((⟨#[33, 35, 36, 37, 38, 39, 42, 43, 45, 46, 94, 95]⟩ : ByteArray) ++ (strOfNums y147)).size + 2) = False := eq_false (Nat.not_lt.2 c25)
      try (have c25b3 := c25; simp only [ByteArray.size_append, prx_sz, List.length_cons, List.length_nil] at c25b3)
      replace H := Option.bind_eq_some_iff.mp H
      obtain ⟨t150, A260, H⟩ := H
      replace H : (some (decide (t150 ≥ 0))) = some r := H
      have A26 := Aside0.mk A260
      clear A260
      try (obtain rfl : t146 = t145 := Option.some.inj (A22.out.symm.trans A20.out))
      obtain rfl := Option.some.inj H
      go_enter Try.func27, Try.ntmps27
      go_wp2_with (first | (go_at_call 42; (with_reducible refine (spec_fold.calls a0 t146 _ A20.out).mono ?_); rintro e w' ⟨rfl, ⟨nd, rfl⟩⟩) | (go_at_call 42; (with_reducible refine (spec_fold.calls a0 t146 _ A22.out).mono ?_); rintro e w' ⟨rfl, ⟨nd, rfl⟩⟩) | ((with_reducible refine gate_dst (N := 19) rfl ?_); refine Kd.R_lit (Kd.int .u8) _ 5 ?hg (N := 19) ?hd (xs := ([96] : List Int)) (inner := [.int .u8 96]) (ok := fun _ => True) (okp := fun _ => True) ?hr ?hp (fun _ hk => hk) trivial (Below.refl _ _) (Nat.le_refl _) (by simp) ?_; (case hd => rfl); (case hg => rfl); (case hr => first | (go_simp; done) | (go_simp; rfl)); (case hp => exact (Reps.one (show Kd.M (Kd.int .u8) _ _ _ 96 [.int .u8 96] from rfl) (Reps.none _ _))); intro v148 w27 ho28 hb hg_ hnew_; clear hg_ hnew_; (first | rw [← Ny147.out] at ho28 | (simp only [Int.reduceToNat] at ho28; rw [← Ny147.out] at ho28)); have n0_ := Aside0.mk (Kd.R_lower ho28 (below_size (by repeat (first | (with_reducible first | exact HB.out | apply below_alloc | apply pw_below_drewN | apply below_drew1) | exact HB.out)))); have n1_ := Aside0.mk (below_step (by repeat (first | (with_reducible first | exact HB.out | apply below_alloc | apply pw_below_drewN | apply below_drew1) | exact HB.out)) hb); clear HB; have HO149 := n0_; have HB := n1_; clear n0_ n1_; clear hb ho28; have hcv29 := own_string (P := Try.prog) Try.underlying73 Try.underlying5 Try.underlying9 (Kd.own_of_R HO149.out)) | ((with_reducible refine gate_callee (f := 24) rfl ?_); refine goesL_ (some 24) rfl rfl Try.func24 (by kernel_rfl) rfl #[.string (((⟨#[33, 35, 36, 37, 38, 39, 42, 43, 45, 46, 94, 95]⟩ : ByteArray) ++ (strOfNums y147)) ++ (⟨#[124, 126]⟩ : ByteArray)), .int .u8 a0] rfl (by (try simp only [List.map_toArray, List.map_cons, List.map_nil]); first | done | rfl | (simp only [List.length_drop, List.length_take]; rfl)) ?_; (with_reducible refine (spec_place.calls k (((⟨#[33, 35, 36, 37, 38, 39, 42, 43, 45, 46, 94, 95]⟩ : ByteArray) ++ (strOfNums y147)) ++ (⟨#[124, 126]⟩ : ByteArray)) a0 t150 _ A26.out).mono ?_); rintro e w' ⟨rfl, ⟨nd, rfl⟩⟩; refine ⟨_, rfl, ?_⟩))
      go_ret
      exact ⟨by first | rfl | (simp [errW_none, errW_some] <;> rfl) | (simp [*, errW_none, errW_some] <;> rfl), by repeat (first | (with_reducible first | exact HB.out | apply below_alloc | apply pw_below_drewN | apply below_drew1) | exact HB.out)⟩
     ·rw [if_neg c25] at H
      exact absurd H (by simp)
    ·rw [if_neg c24] at H
     exact absurd H (by simp)
  ·rw [if_neg c21] at H
   have c21b0 : decide (97 ≤ t145) = false := decide_eq_false c21
   clear c21
   obtain ⟨y151, hy151⟩ : ∃ y_ : List Int, y_ = (([96] : List Int)) := ⟨_, rfl⟩
   replace H : (if 12 + (strOfNums y151).size ≤ 9223372036854775807 then (if ((⟨#[33, 35, 36, 37, 38, 39, 42, 43, 45, 46, 94, 95]⟩ : ByteArray) ++ (strOfNums y151)).size + 2 ≤ 9223372036854775807 then ((spec_place.f k (((⟨#[33, 35, 36, 37, 38, 39, 42, 43, 45, 46, 94, 95]⟩ : ByteArray) ++ (strOfNums y151)) ++ (⟨#[124, 126]⟩ : ByteArray)) a0).bind fun t154 => (some (decide (t154 ≥ 0)))) else (none)) else (none)) = some r := by first | (rw [hy151]; with_reducible exact H) | (have H2_ := (Option.bind_some _ _).symm.trans H; rw [hy151]; with_reducible exact H2_) | (have H2_ := (Option.bind_some _ _).symm.trans H; with_reducible exact H2_) | with_reducible exact H | (rw [hy151]; exact H) | exact H
   have Ny151 := Aside0.mk hy151
   clear hy151
   by_cases c30 : 12 + (strOfNums y151).size ≤ 9223372036854775807
   ·rw [if_pos c30] at H
    have c30b0 := eq_true c30
    have c30b1 : decide (12 + (strOfNums y151).size ≤ 9223372036854775807) = true := decide_eq_true c30
    try have c30b2 : (9223372036854775807 < 12 + (strOfNums y151).size) = False := eq_false (Nat.not_lt.2 c30)
    try (have c30b3 := c30; simp only [ByteArray.size_append, prx_sz, List.length_cons, List.length_nil] at c30b3)
    by_cases c31 : ((⟨#[33, 35, 36, 37, 38, 39, 42, 43, 45, 46, 94, 95]⟩ : ByteArray) ++ (strOfNums y151)).size + 2 ≤ 9223372036854775807
    ·rw [if_pos c31] at H
     have c31b0 := eq_true c31
     have c31b1 : decide (((⟨#[33, 35, 36, 37, 38, 39, 42, 43, 45, 46, 94, 95]⟩ : ByteArray) ++ (strOfNums y151)).size + 2 ≤ 9223372036854775807) = true := decide_eq_true c31
     try have c31b2 : (9223372036854775807 < ((⟨#[33, 35, 36, 37, 38, 39, 42, 43, 45, 46, 94, 95]⟩ : ByteArray) ++ (strOfNums y151)).size + 2) = False := eq_false (Nat.not_lt.2 c31)
     try (have c31b3 := c31; simp only [ByteArray.size_append, prx_sz, List.length_cons, List.length_nil] at c31b3)
     replace H := Option.bind_eq_some_iff.mp H
     obtain ⟨t154, A320, H⟩ := H
     replace H : (some (decide (t154 ≥ 0))) = some r := H
     have A32 := Aside0.mk A320
     clear A320
     obtain rfl := Option.some.inj H
     go_enter Try.func27, Try.ntmps27
     go_wp2_with (first | (go_at_call 42; (with_reducible refine (spec_fold.calls a0 t145 _ A20.out).mono ?_); rintro e w' ⟨rfl, ⟨nd, rfl⟩⟩) | ((with_reducible refine gate_dst (N := 19) rfl ?_); refine Kd.R_lit (Kd.int .u8) _ 5 ?hg (N := 19) ?hd (xs := ([96] : List Int)) (inner := [.int .u8 96]) (ok := fun _ => True) (okp := fun _ => True) ?hr ?hp (fun _ hk => hk) trivial (Below.refl _ _) (Nat.le_refl _) (by simp) ?_; (case hd => rfl); (case hg => rfl); (case hr => first | (go_simp; done) | (go_simp; rfl)); (case hp => exact (Reps.one (show Kd.M (Kd.int .u8) _ _ _ 96 [.int .u8 96] from rfl) (Reps.none _ _))); intro v152 w33 ho34 hb hg_ hnew_; clear hg_ hnew_; (first | rw [← Ny151.out] at ho34 | (simp only [Int.reduceToNat] at ho34; rw [← Ny151.out] at ho34)); have n0_ := Aside0.mk (Kd.R_lower ho34 (below_size (by repeat (first | (with_reducible first | exact HB.out | apply below_alloc | apply pw_below_drewN | apply below_drew1) | exact HB.out)))); have n1_ := Aside0.mk (below_step (by repeat (first | (with_reducible first | exact HB.out | apply below_alloc | apply pw_below_drewN | apply below_drew1) | exact HB.out)) hb); clear HB; have HO153 := n0_; have HB := n1_; clear n0_ n1_; clear hb ho34; have hcv35 := own_string (P := Try.prog) Try.underlying73 Try.underlying5 Try.underlying9 (Kd.own_of_R HO153.out)) | ((with_reducible refine gate_callee (f := 24) rfl ?_); refine goesL_ (some 24) rfl rfl Try.func24 (by kernel_rfl) rfl #[.string (((⟨#[33, 35, 36, 37, 38, 39, 42, 43, 45, 46, 94, 95]⟩ : ByteArray) ++ (strOfNums y151)) ++ (⟨#[124, 126]⟩ : ByteArray)), .int .u8 a0] rfl (by (try simp only [List.map_toArray, List.map_cons, List.map_nil]); first | done | rfl | (simp only [List.length_drop, List.length_take]; rfl)) ?_; (with_reducible refine (spec_place.calls k (((⟨#[33, 35, 36, 37, 38, 39, 42, 43, 45, 46, 94, 95]⟩ : ByteArray) ++ (strOfNums y151)) ++ (⟨#[124, 126]⟩ : ByteArray)) a0 t154 _ A32.out).mono ?_); rintro e w' ⟨rfl, ⟨nd, rfl⟩⟩; refine ⟨_, rfl, ?_⟩))
     go_ret
     exact ⟨by first | rfl | (simp [errW_none, errW_some] <;> rfl) | (simp [*, errW_none, errW_some] <;> rfl), by repeat (first | (with_reducible first | exact HB.out | apply below_alloc | apply pw_below_drewN | apply below_drew1) | exact HB.out)⟩
    ·rw [if_neg c31] at H
     exact absurd H (by simp)
   ·rw [if_neg c30] at H
    exact absurd H (by simp)
def spec_ahead.l0 : Nat → ByteArray → Option (ByteArray)
  | 0, _ => none
  | k + 1, x0 => if x0.toList = ([] : List UInt8) then (some x0) else (if 0 < (x0.size : Int) then (if (bt x0 0) = 32 then (if 1 ≤ (x0.size : Int) then (spec_ahead.l0 k (x0.extract 1 x0.size)) else (none)) else (some x0)) else (none))
def spec_ahead.f (k : Nat) (a0 : ByteArray) : Option (ByteArray) := spec_ahead.l0 k a0
def fiberutils_TrimLeft.l0 : Nat → ByteArray → Int → Int → Int → Option (ByteArray)
  | 0, _, _, _, _ => none
  | k + 1, x0, x1, x5, x6 => if x6 < x5 then (if 0 ≤ x6 then (if x6 < (x0.size : Int) then (if (bt x0 x6) = x1 then (fiberutils_TrimLeft.l0 k x0 x1 x5 (wrap64 (x6 + 1))) else (if x6 ≤ (x0.size : Int) then (some (x0.extract (x6 : Int).toNat x0.size)) else (none))) else (none)) else (none)) else (if 0 ≤ x6 then (if x6 ≤ (x0.size : Int) then (some (x0.extract (x6 : Int).toNat x0.size)) else (none)) else (none))
def fiberutils_TrimLeft.f (k : Nat) (a0 : ByteArray) (a1 : Int) : Option (ByteArray) := fiberutils_TrimLeft.l0 k a0 a1 (a0.size : Int) 0
set_option maxHeartbeats 8000000 in
set_option maxRecDepth 100000 in
theorem fiberutils_TrimLeft.calls (k : Nat) (a0 : ByteArray) (a1 : Int) (r : ByteArray) (w : World) (h : fiberutils_TrimLeft.f k a0 a1 = some r) :
    Calls Try.prog 49 #[.string a0, .int .u8 a1] w fun e w' => e = .returned (.string r) ∧ Drawn0 w w' := by
  have H : (fiberutils_TrimLeft.l0 k a0 a1 (a0.size : Int) 0) = some r := h
  clear h
  have H' := Aside0.mk H
  clear H
  go_enter Try.func49, Try.ntmps49
  go_wp2
  go_loopg [6] k (fun kq v6 w' => ∃ (x6_1 : Int), v6 = .int .i64 x6_1 ∧ Aside0 (fiberutils_TrimLeft.l0 kq a0 a1 (a0.size : Int) x6_1 = some r) ∧ Aside0 (kq ≤ k) ∧ Drawn0 w w')
  case atStart => exact ⟨(0), (by first | rfl | (simp; done) | (rw [prx_ne]; first | done | rfl) | (simp [*]; done)), H', ⟨Nat.le_refl _⟩, by repeat (first | exact Drawn0.refl _ | apply Drawn0.step)⟩
  case round =>
    clear H'
    try clear p2
    obtain ⟨x6_1, rfl, HA, HK1, ⟨m1, rfl⟩⟩ := hrel
    cases gk with
    | zero => exact absurd HA.out (by simp [fiberutils_TrimLeft.l0])
    | succ k1 =>
      have H := HA.out
      clear HA
      simp only [fiberutils_TrimLeft.l0] at H
      by_cases c3 : x6_1 < (a0.size : Int)
      · rw [if_pos c3] at H
        have c3b0 : decide (x6_1 < (a0.size : Int)) = true := decide_eq_true c3
        clear c3
        by_cases c4 : 0 ≤ x6_1
        · rw [if_pos c4] at H
          have c4b0 : decide (0 ≤ x6_1) = true := decide_eq_true c4
          clear c4
          by_cases c5 : x6_1 < (a0.size : Int)
          · rw [if_pos c5] at H
            have c5b0 : decide (x6_1 < (a0.size : Int)) = true := decide_eq_true c5
            clear c5
            by_cases c7 : (bt a0 x6_1) = a1
            · rw [if_pos c7] at H
              have c7b0 : ((bt a0 x6_1) == a1) = true := beq_iff_eq.mpr c7
              have c7b1 : ((bt a0 x6_1) != a1) = false := bne_eq_false_iff_eq.mpr c7
              clear c7
              have H' := Aside0.mk H
              clear H
              have p6 : 0 ≤ (x6_1 : Int) := of_decide_eq_true (by first | (with_reducible assumption) | assumption)
              have q6 : x6_1 < (a0.size : Int) := of_decide_eq_true (by first | (with_reducible assumption) | assumption)
              have hx6 := bt_at a0 x6_1
              replace p6 := eq_true p6
              replace q6 := eq_true q6
              go_wp2
              go_roundg k1
              case measure => have := HK1.out; omega
              case rel => exact ⟨(wrap64 (x6_1 + 1)), (by first | rfl | (simp; done) | (rw [prx_ne]; first | done | rfl) | (simp [*]; done)), H', ⟨by have := HK1.out; omega⟩, by repeat (first | exact Drawn0.refl _ | apply Drawn0.step)⟩
            · rw [if_neg c7] at H
              have c7b0 : ((bt a0 x6_1) == a1) = false := beq_eq_false_iff_ne.mpr c7
              have c7b1 : ((bt a0 x6_1) != a1) = true := bne_iff_ne.mpr c7
              have c8b0 := eq_true (of_decide_eq_true (by first | (with_reducible assumption) | assumption) : 0 ≤ x6_1)
              by_cases c9 : x6_1 ≤ (a0.size : Int)
              · rw [if_pos c9] at H
                have c9b0 := eq_true c9
                have c9b1 : decide (x6_1 ≤ (a0.size : Int)) = true := decide_eq_true c9
                clear c9
                obtain rfl := Option.some.inj H
                have p6 : 0 ≤ (x6_1 : Int) := of_decide_eq_true (by first | (with_reducible assumption) | assumption)
                have q6 : x6_1 < (a0.size : Int) := of_decide_eq_true (by first | (with_reducible assumption) | assumption)
                have hx6 := bt_at a0 x6_1
                replace p6 := eq_true p6
                replace q6 := eq_true q6
                go_wp2
                go_ret
                exact ⟨by first | rfl | (simp; done) | (rw [prx_ne]; first | done | rfl) | (simp [*]; done), by repeat (first | exact Drawn0.refl _ | apply Drawn0.step)⟩
              · rw [if_neg c9] at H
                exact absurd H (by simp)
          · rw [if_neg c5] at H
            exact absurd H (by simp)
        · rw [if_neg c4] at H
          exact absurd H (by simp)
      · rw [if_neg c3] at H
        have c3b0 : decide (x6_1 < (a0.size : Int)) = false := decide_eq_false c3
        clear c3
        by_cases c10 : 0 ≤ x6_1
        · rw [if_pos c10] at H
          have c10b0 := eq_true c10
          have c10b1 : decide (0 ≤ x6_1) = true := decide_eq_true c10
          clear c10
          by_cases c11 : x6_1 ≤ (a0.size : Int)
          · rw [if_pos c11] at H
            have c11b0 := eq_true c11
            have c11b1 : decide (x6_1 ≤ (a0.size : Int)) = true := decide_eq_true c11
            clear c11
            obtain rfl := Option.some.inj H
            go_wp2
            go_ret
            exact ⟨by first | rfl | (simp; done) | (rw [prx_ne]; first | done | rfl) | (simp [*]; done), by repeat (first | exact Drawn0.refl _ | apply Drawn0.step)⟩
          · rw [if_neg c11] at H
            exact absurd H (by simp)
        · rw [if_neg c10] at H
          exact absurd H (by simp)
def fiberhelpers_validHeaderFieldByte.f (a0 : Int) : Option (Bool) := if 0 ≤ a0 then (some ((Go.bits .or .u64 (Go.bits .and .u64 (shl .u64 1 a0) 288068722172624896) (Go.bits .and .u64 (shl .u64 1 ((a0 - 64) % 256)) 6341068274398134270)) != 0)) else (none)
set_option maxHeartbeats 8000000 in
set_option maxRecDepth 100000 in
theorem fiberhelpers_validHeaderFieldByte.calls (a0 : Int) (r : Bool) (w : World) (h : fiberhelpers_validHeaderFieldByte.f a0 = some r) :
    Calls Try.prog 51 #[.int .u8 a0] w fun e w' => e = .returned (.bool r) ∧ Drawn0 w w' := by
  have H : (if 0 ≤ a0 then (some ((Go.bits .or .u64 (Go.bits .and .u64 (shl .u64 1 a0) 288068722172624896) (Go.bits .and .u64 (shl .u64 1 ((a0 - 64) % 256)) 6341068274398134270)) != 0)) else (none)) = some r := h
  clear h
  by_cases c2 : 0 ≤ a0
  · rw [if_pos c2] at H
    have c2b0 := eq_true c2
    have c2b1 : decide (0 ≤ a0) = true := decide_eq_true c2
    clear c2
    obtain ⟨ji3, hji3⟩ : ∃ j_ : Int, (shl .u64 1 a0) = j_ := ⟨_, rfl⟩
    replace H : (some ((Go.bits .or .u64 (Go.bits .and .u64 (ji3) 288068722172624896) (Go.bits .and .u64 (shl .u64 1 ((a0 - 64) % 256)) 6341068274398134270)) != 0)) = some r := by first | (rw [hji3] at H; exact H) | (simp only [hji3] at H ⊢; exact H)
    try (have hji3n : 0 ≤ a0 := by omega)
    have hji3_ : (IntKind.u64.wrap (1 * 2 ^ min a0.toNat 64)) = ji3 := hji3
    have hji3z : a0 ≤ 64 → (IntKind.u64.wrap (1 * 2 ^ a0.toNat)) = ji3 := shl_small hji3
    have hji3u : (IntKind.u64.wrap (2 ^ min a0.toNat 64)) = ji3 := by have h_ := hji3_; rw [Int.one_mul] at h_; exact h_
    have hji3v : a0 ≤ 64 → (IntKind.u64.wrap (2 ^ a0.toNat)) = ji3 := fun hle_ => by have h_ := hji3z hle_; rw [Int.one_mul] at h_; exact h_
    obtain ⟨ji4, hji4⟩ : ∃ j_ : Int, (shl .u64 1 ((a0 - 64) % 256)) = j_ := ⟨_, rfl⟩
    replace H : (some ((Go.bits .or .u64 (Go.bits .and .u64 (ji3) 288068722172624896) (Go.bits .and .u64 (ji4) 6341068274398134270)) != 0)) = some r := by first | (rw [hji4] at H; exact H) | (simp only [hji4] at H ⊢; exact H)
    try (have hji4n : 0 ≤ ((a0 - 64) % 256) := by omega)
    have hji4_ : (IntKind.u64.wrap (1 * 2 ^ min ((a0 - 64) % 256).toNat 64)) = ji4 := hji4
    have hji4z : ((a0 - 64) % 256) ≤ 64 → (IntKind.u64.wrap (1 * 2 ^ ((a0 - 64) % 256).toNat)) = ji4 := shl_small hji4
    have hji4u : (IntKind.u64.wrap (2 ^ min ((a0 - 64) % 256).toNat 64)) = ji4 := by have h_ := hji4_; rw [Int.one_mul] at h_; exact h_
    have hji4v : ((a0 - 64) % 256) ≤ 64 → (IntKind.u64.wrap (2 ^ ((a0 - 64) % 256).toNat)) = ji4 := fun hle_ => by have h_ := hji4z hle_; rw [Int.one_mul] at h_; exact h_
    obtain rfl := Option.some.inj H
    go_enter Try.func51, Try.ntmps51
    go_wp2
    go_ret
    exact ⟨by first | rfl | (simp; done) | (simp only [← hji3, ← hji4] <;> (first | rfl | simp)) | (rw [prx_ne]; first | done | rfl) | (simp [*]; done), by repeat (first | exact Drawn0.refl _ | apply Drawn0.step)⟩
  · rw [if_neg c2] at H
    exact absurd H (by simp)
def stringslite_HasPrefix.f (a0 : ByteArray) (a1 : ByteArray) : Option (Bool) := if (a0.size : Int) ≥ (a1.size : Int) then (if 0 ≤ (a1.size : Int) then (if (a1.size : Int) ≤ (a0.size : Int) then (some ((a0.extract 0 ((a1.size : Int) : Int).toNat).toList == a1.toList)) else (none)) else (none)) else (some false)
set_option maxHeartbeats 8000000 in
set_option maxRecDepth 100000 in
theorem stringslite_HasPrefix.calls (a0 : ByteArray) (a1 : ByteArray) (r : Bool) (w : World) (h : stringslite_HasPrefix.f a0 a1 = some r) :
    Calls Try.prog 56 #[.string a0, .string a1] w fun e w' => e = .returned (.bool r) ∧ Drawn0 w w' := by
  have H : (if (a0.size : Int) ≥ (a1.size : Int) then (if 0 ≤ (a1.size : Int) then (if (a1.size : Int) ≤ (a0.size : Int) then (some ((a0.extract 0 ((a1.size : Int) : Int).toNat).toList == a1.toList)) else (none)) else (none)) else (some false)) = some r := h
  clear h
  by_cases c3 : (a0.size : Int) ≥ (a1.size : Int)
  · rw [if_pos c3] at H
    have c3b0 : decide ((a1.size : Int) ≤ (a0.size : Int)) = true := decide_eq_true c3
    have c3b1 : decide (a1.size ≤ a0.size) = true := decide_eq_true (Int.ofNat_le.mp c3)
    clear c3
    by_cases c4 : 0 ≤ (a1.size : Int)
    · rw [if_pos c4] at H
      have c4b0 := eq_true c4
      have c4b1 : decide (0 ≤ (a1.size : Int)) = true := decide_eq_true c4
      clear c4
      by_cases c5 : (a1.size : Int) ≤ (a0.size : Int)
      · rw [if_pos c5] at H
        have c5b0 := eq_true c5
        have c5b1 : decide ((a1.size : Int) ≤ (a0.size : Int)) = true := decide_eq_true c5
        clear c5
        obtain rfl := Option.some.inj H
        go_enter Try.func56, Try.ntmps56
        go_wp2
        go_ret
        exact ⟨by first | rfl | (simp; done) | (rw [prx_ne]; first | done | rfl) | (simp [*]; done), by repeat (first | exact Drawn0.refl _ | apply Drawn0.step)⟩
      · rw [if_neg c5] at H
        exact absurd H (by simp)
    · rw [if_neg c4] at H
      exact absurd H (by simp)
  · rw [if_neg c3] at H
    have c3b0 : decide ((a1.size : Int) ≤ (a0.size : Int)) = false := decide_eq_false c3
    have c3b1 : decide (a1.size ≤ a0.size) = false := decide_eq_false (fun h => c3 (Int.ofNat_le.mpr h))
    clear c3
    obtain rfl := Option.some.inj H
    go_enter Try.func56, Try.ntmps56
    go_wp2
    go_ret
    exact ⟨by first | rfl | (simp; done) | (rw [prx_ne]; first | done | rfl) | (simp [*]; done), by repeat (first | exact Drawn0.refl _ | apply Drawn0.step)⟩
def strings_HasPrefix.f (a0 : ByteArray) (a1 : ByteArray) : Option (Bool) := (stringslite_HasPrefix.f a0 a1).bind fun t101 => (some t101)
set_option maxHeartbeats 8000000 in
set_option maxRecDepth 100000 in
theorem strings_HasPrefix.calls (a0 : ByteArray) (a1 : ByteArray) (r : Bool) (w : World) (h : strings_HasPrefix.f a0 a1 = some r) :
    Calls Try.prog 50 #[.string a0, .string a1] w fun e w' => e = .returned (.bool r) ∧ Drawn0 w w' := by
  have H : ((stringslite_HasPrefix.f a0 a1).bind fun t101 => (some t101)) = some r := h
  clear h
  replace H := Option.bind_eq_some_iff.mp H
  obtain ⟨t101, A30, H⟩ := H
  replace H : (some t101) = some r := H
  have A3 := Aside0.mk A30
  clear A30
  obtain rfl := Option.some.inj H
  go_enter Try.func50, Try.ntmps50
  go_wp2_with (first | ((with_reducible refine gate_callee (f := 56) rfl ?_); refine goesL_ (some 7) rfl rfl Try.func56 (by kernel_rfl) rfl #[.string a0, .string a1] rfl (by (try simp only [List.map_toArray, List.map_cons, List.map_nil]); first | done | rfl | (simp only [List.length_drop, List.length_take]; rfl)) ?_; (with_reducible refine (stringslite_HasPrefix.calls a0 a1 t101 _ A3.out).mono ?_); rintro e w' ⟨rfl, ⟨nd, rfl⟩⟩; refine ⟨_, rfl, ?_⟩))
  go_ret
  exact ⟨by first | rfl | (simp; done) | (rw [prx_ne]; first | done | rfl) | (simp [*]; done), by repeat (first | exact Drawn0.refl _ | apply Drawn0.step)⟩
end Go.Proofs.Ytgmjaggkiifdjaa.QA
