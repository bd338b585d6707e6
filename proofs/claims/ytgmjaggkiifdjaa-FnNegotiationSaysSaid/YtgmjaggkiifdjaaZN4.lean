/- Texts of this claim, one behind the other (merged by wip/prune.py of this repo, without what the proof does not use): QA0, QA2, QA5, QA6, QA7, QA8, QA9, QA10, QA11, QA12, QA13, QA14, QA15. -/
import Derived.Test.YtgmjaggkiifdjaaZN1
import Derived.Test.YtgmjaggkiifdjaaZN2
import Derived.ArgAppend
import Derived.Below
import Derived.BigQuiet
import Derived.Deep.AppendLies
import Derived.Deep.CutBlock
import Derived.Deep.DeepCutAuto
import Derived.Deep.Draws
import Derived.Deep.LoopGhost
import Derived.Deep.OwnRows
import Derived.Deep.QuietTactic
import Derived.Deep.RegionHeld3
import Derived.KernelRfl
import Derived.Laws.BitsLemmas
import Derived.Laws.BytesArg
import Derived.Laws.IdiomCopy
import Derived.Laws.MakeOwn
import Derived.Laws.OwnMore
import Derived.Laws.Rows
import Derived.Laws.Slices
import Derived.Laws.StructEq
import Derived.Lib.AppendStr
import Derived.Lib.ConvBytes
import Derived.Maps.AppendAt
import Derived.OrdersHeld
import Derived.OwnWalk
import Derived.RowKit
import Derived.RowKit3
import Derived.Tactics
import Derived.Test.YtgmjaggkiifdjaaProg
import Derived.WalkKit
import Derived.WideLaws
set_option linter.unusedVariables false
set_option linter.unusedSimpArgs false
namespace Go.Proofs.Ytgmjaggkiifdjaa.QA
open Go.Proofs.Ytgmjaggkiifdjaa.Given
open Go.Proofs.Ytgmjaggkiifdjaa.PrX
open Go.RowKit Go.Proofs.YtgmjaggkiifdjaaW.PrintWords Go.Proofs.YtgmjaggkiifdjaaW.PrintLast Go.Proofs.YtgmjaggkiifdjaaW.PrintMore
def errW : Option Int → Value
  | none => .nilIface
  | some c => .iface 0 (.int .i64 c)
theorem errW_none : errW none = .nilIface := rfl
theorem errW_some (c : Int) : errW (some c) = .iface 0 (.int .i64 c) := rfl
theorem info9 : (Try.prog.info? 9).map (fun i => (i.zero, i.size, i.bytes)) = some (some (.string ⟨#[]⟩), 1, 16) := by kernel_rfl
theorem info36 : (Try.prog.info? 36).map (fun i => (i.zero, i.size, i.bytes)) = some (some (.agg #[(.string ⟨#[]⟩), (.string ⟨#[]⟩)]), 2, 32) := by kernel_rfl
theorem info38 : (Try.prog.info? 38).map (fun i => (i.zero, i.size, i.bytes)) = some (some (.agg #[(.string ⟨#[]⟩), (.string ⟨#[]⟩)]), 2, 32) := by kernel_rfl
structure S38 where
  f0 : ByteArray
  f1 : ByteArray
def z38 : S38 := ⟨(⟨#[]⟩ : ByteArray), (⟨#[]⟩ : ByteArray)⟩
def k38 : Kd S38 := Kd.iso (Kd.pair Kd.string Kd.string) (fun x : S38 => (x.f0, x.f1))
theorem k38_open {w : World} {x : S38} {cs : List Value} (h : k38.K w x cs) : cs = [.string x.f0, .string x.f1] := by
  obtain ⟨_, _, rfl, rfl, rfl⟩ := h
  exact rfl
theorem k38_mkM (w : World) (base : Nat) (ok : Nat → Prop) (x : S38)  : k38.M w base ok x [.string x.f0, .string x.f1] := ⟨[.string x.f0], [.string x.f1], rfl, rfl, rfl⟩
def rd_T38 (xs : List S38) (i : Int) : S38 := xs.getD i.toNat z38
theorem at_T38 {w : World} {A : Option Addr} {n : Nat} {xs : List S38} (h : Kd.C k38 w A n xs) (i : Int) (h0 : 0 ≤ i) (h1 : i < n) : ∃ ad , A = some ad ∧ w.cell? (ad.add (i.toNat * 2)) = some (.string (rd_T38 xs i).f0) ∧ w.cell? ⟨(ad.add (i.toNat * 2)).block, (ad.add (i.toNat * 2)).off + 1, none⟩ = some (.string (rd_T38 xs i).f1) := by
  obtain ⟨ad, c, e, _, hK, hc0⟩ := Kd.C_get h z38 i h0 h1
  have hc : ∀ j u, c[j]? = some u → w.cell? (ad.add (i.toNat * 2 + j)) = some u := hc0
  obtain rfl := k38_open hK
  exact ⟨ad, e, hc 0 _ rfl, by rw [← add_field _ _ 1 (by omega)]; exact hc 1 _ rfl⟩
structure S36 where
  f0 : ByteArray
  f1 : ByteArray
def z36 : S36 := ⟨(⟨#[]⟩ : ByteArray), (⟨#[]⟩ : ByteArray)⟩
def k36 : Kd S36 := Kd.iso (Kd.pair Kd.string Kd.string) (fun x : S36 => (x.f0, x.f1))
theorem k36_open {w : World} {x : S36} {cs : List Value} (h : k36.K w x cs) : cs = [.string x.f0, .string x.f1] := by
  obtain ⟨_, _, rfl, rfl, rfl⟩ := h
  exact rfl
theorem k36_mkM (w : World) (base : Nat) (ok : Nat → Prop) (x : S36)  : k36.M w base ok x [.string x.f0, .string x.f1] := ⟨[.string x.f0], [.string x.f1], rfl, rfl, rfl⟩
def rd_T36 (xs : List S36) (i : Int) : S36 := xs.getD i.toNat z36
theorem at_T36 {w : World} {A : Option Addr} {n : Nat} {xs : List S36} (h : Kd.C k36 w A n xs) (i : Int) (h0 : 0 ≤ i) (h1 : i < n) : ∃ ad , A = some ad ∧ w.cell? (ad.add (i.toNat * 2)) = some (.string (rd_T36 xs i).f0) ∧ w.cell? ⟨(ad.add (i.toNat * 2)).block, (ad.add (i.toNat * 2)).off + 1, none⟩ = some (.string (rd_T36 xs i).f1) := by
  obtain ⟨ad, c, e, _, hK, hc0⟩ := Kd.C_get h z36 i h0 h1
  have hc : ∀ j u, c[j]? = some u → w.cell? (ad.add (i.toNat * 2 + j)) = some u := hc0
  obtain rfl := k36_open hK
  exact ⟨ad, e, hc 0 _ rfl, by rw [← add_field _ _ 1 (by omega)]; exact hc 1 _ rfl⟩
def fiberhelpers_validHeaderFieldByte.f (a0 : Int) : Option (Bool) := if 0 ≤ a0 then (some ((Go.bits .or .u64 (Go.bits .and .u64 (shl .u64 1 a0) 288068722172624896) (Go.bits .and .u64 (shl .u64 1 ((a0 - 64) % 256)) 6341068274398134270)) != 0)) else (none)
set_option maxHeartbeats 8000000 in
set_option maxRecDepth 100000 in
theorem fiberhelpers_validHeaderFieldByte.calls (a0 : Int) (r : Bool) (w : World) (h : fiberhelpers_validHeaderFieldByte.f a0 = some r) :
    Calls Try.prog 51 #[.int .u8 a0] w fun e w' => e = .returned (.bool r) ∧ Drawn0 w w' := by
  have H : (if 0 ≤ a0 then (some ((Go.bits .or .u64 (Go.bits .and .u64 (shl .u64 1 a0) 288068722172624896) (Go.bits .and .u64 (shl .u64 1 ((a0 - 64) % 256)) 6341068274398134270)) != 0)) else (none)) = some r := h
  clear h
  by_cases c2 : 0 ≤ a0
  · rw [if_pos c2] at H
    have c2b0 := eq_true c2
    have c2b1 : decide (0 ≤ a0) = true := decide_eq_true c2
    clear c2
    obtain ⟨ji3, hji3⟩ : ∃ j_ : Int, (shl .u64 1 a0) = j_ := ⟨_, rfl⟩
    replace H : (some ((Go.bits .or .u64 (Go.bits .and .u64 (ji3) 288068722172624896) (Go.bits .and .u64 (shl .u64 1 ((a0 - 64) % 256)) 6341068274398134270)) != 0)) = some r := by first | (rw [hji3] at H; exact H) | (simp only [hji3] at H ⊢; exact H)
    try (have hji3n : 0 ≤ a0 := by omega)
    have hji3_ : (IntKind.u64.wrap (1 * 2 ^ min a0.toNat 64)) = ji3 := hji3
    have hji3z : a0 ≤ 64 → (IntKind.u64.wrap (1 * 2 ^ a0.toNat)) = ji3 := shl_small hji3
    have hji3u : (IntKind.u64.wrap (2 ^ min a0.toNat 64)) = ji3 := by have h_ := hji3_; rw [Int.one_mul] at h_; exact h_
    have hji3v : a0 ≤ 64 → (IntKind.u64.wrap (2 ^ a0.toNat)) = ji3 := fun hle_ => by have h_ := hji3z hle_; rw [Int.one_mul] at h_; exact h_
    obtain ⟨ji4, hji4⟩ : ∃ j_ : Int, (shl .u64 1 ((a0 - 64) % 256)) = j_ := ⟨_, rfl⟩
    replace H : (some ((Go.bits .or .u64 (Go.bits .and .u64 (ji3) 288068722172624896) (Go.bits .and .u64 (ji4) 6341068274398134270)) != 0)) = some r := by first | (rw [hji4] at H; exact H) | (simp only [hji4] at H ⊢; exact H)
    try (have hji4n : 0 ≤ ((a0 - 64) % 256) := by omega)
    have hji4_ : (IntKind.u64.wrap (1 * 2 ^ min ((a0 - 64) % 256).toNat 64)) = ji4 := hji4
    have hji4z : ((a0 - 64) % 256) ≤ 64 → (IntKind.u64.wrap (1 * 2 ^ ((a0 - 64) % 256).toNat)) = ji4 := shl_small hji4
    have hji4u : (IntKind.u64.wrap (2 ^ min ((a0 - 64) % 256).toNat 64)) = ji4 := by have h_ := hji4_; rw [Int.one_mul] at h_; exact h_
    have hji4v : ((a0 - 64) % 256) ≤ 64 → (IntKind.u64.wrap (2 ^ ((a0 - 64) % 256).toNat)) = ji4 := fun hle_ => by have h_ := hji4z hle_; rw [Int.one_mul] at h_; exact h_
    obtain rfl := Option.some.inj H
    go_enter Try.func51, Try.ntmps51
    go_wp2
    go_ret
    exact ⟨by first | rfl | (simp; done) | (simp only [← hji3, ← hji4] <;> (first | rfl | simp)) | (rw [prx_ne]; first | done | rfl) | (simp [*]; done), by repeat (first | exact Drawn0.refl _ | apply Drawn0.step)⟩
  · rw [if_neg c2] at H
    exact absurd H (by simp)
def stringslite_HasPrefix.f (a0 : ByteArray) (a1 : ByteArray) : Option (Bool) := if (a0.size : Int) ≥ (a1.size : Int) then (if 0 ≤ (a1.size : Int) then (if (a1.size : Int) ≤ (a0.size : Int) then (some ((a0.extract 0 ((a1.size : Int) : Int).toNat).toList == a1.toList)) else (none)) else (none)) else (some false)
set_option maxHeartbeats 8000000 in
set_option maxRecDepth 100000 in
theorem stringslite_HasPrefix.calls (a0 : ByteArray) (a1 : ByteArray) (r : Bool) (w : World) (h : stringslite_HasPrefix.f a0 a1 = some r) :
    Calls Try.prog 56 #[.string a0, .string a1] w fun e w' => e = .returned (.bool r) ∧ Drawn0 w w' := by
  have H : (if (a0.size : Int) ≥ (a1.size : Int) then (if 0 ≤ (a1.size : Int) then (if (a1.size : Int) ≤ (a0.size : Int) then (some ((a0.extract 0 ((a1.size : Int) : Int).toNat).toList == a1.toList)) else (none)) else (none)) else (some false)) = some r := h
  clear h
  by_cases c3 : (a0.size : Int) ≥ (a1.size : Int)
  · rw [if_pos c3] at H
    have c3b0 : decide ((a1.size : Int) ≤ (a0.size : Int)) = true := decide_eq_true c3
    have c3b1 : decide (a1.size ≤ a0.size) = true := decide_eq_true (Int.ofNat_le.mp c3)
    clear c3
    by_cases c4 : 0 ≤ (a1.size : Int)
    · rw [if_pos c4] at H
      have c4b0 := eq_true c4
      have c4b1 : decide (0 ≤ (a1.size : Int)) = true := decide_eq_true c4
      clear c4
      by_cases c5 : (a1.size : Int) ≤ (a0.size : Int)
      · rw [if_pos c5] at H
        have c5b0 := eq_true c5
        have c5b1 : decide ((a1.size : Int) ≤ (a0.size : Int)) = true := decide_eq_true c5
        clear c5
        obtain rfl := Option.some.inj H
        go_enter Try.func56, Try.ntmps56
        go_wp2
        go_ret
        exact ⟨by first | rfl | (simp; done) | (rw [prx_ne]; first | done | rfl) | (simp [*]; done), by repeat (first | exact Drawn0.refl _ | apply Drawn0.step)⟩
      · rw [if_neg c5] at H
        exact absurd H (by simp)
    · rw [if_neg c4] at H
      exact absurd H (by simp)
  · rw [if_neg c3] at H
    have c3b0 : decide ((a1.size : Int) ≤ (a0.size : Int)) = false := decide_eq_false c3
    have c3b1 : decide (a1.size ≤ a0.size) = false := decide_eq_false (fun h => c3 (Int.ofNat_le.mpr h))
    clear c3
    obtain rfl := Option.some.inj H
    go_enter Try.func56, Try.ntmps56
    go_wp2
    go_ret
    exact ⟨by first | rfl | (simp; done) | (rw [prx_ne]; first | done | rfl) | (simp [*]; done), by repeat (first | exact Drawn0.refl _ | apply Drawn0.step)⟩
def strings_HasPrefix.f (a0 : ByteArray) (a1 : ByteArray) : Option (Bool) := (stringslite_HasPrefix.f a0 a1).bind fun t101 => (some t101)
set_option maxHeartbeats 8000000 in
set_option maxRecDepth 100000 in
theorem strings_HasPrefix.calls (a0 : ByteArray) (a1 : ByteArray) (r : Bool) (w : World) (h : strings_HasPrefix.f a0 a1 = some r) :
    Calls Try.prog 50 #[.string a0, .string a1] w fun e w' => e = .returned (.bool r) ∧ Drawn0 w w' := by
  have H : ((stringslite_HasPrefix.f a0 a1).bind fun t101 => (some t101)) = some r := h
  clear h
  replace H := Option.bind_eq_some_iff.mp H
  obtain ⟨t101, A30, H⟩ := H
  replace H : (some t101) = some r := H
  have A3 := Aside0.mk A30
  clear A30
  obtain rfl := Option.some.inj H
  go_enter Try.func50, Try.ntmps50
  go_wp2_with (first | ((with_reducible refine gate_callee (f := 56) rfl ?_); refine goesL_ (some 7) rfl rfl Try.func56 (by kernel_rfl) rfl #[.string a0, .string a1] rfl (by (try simp only [List.map_toArray, List.map_cons, List.map_nil]); first | done | rfl | (simp only [List.length_drop, List.length_take]; rfl)) ?_; (with_reducible refine (stringslite_HasPrefix.calls a0 a1 t101 _ A3.out).mono ?_); rintro e w' ⟨rfl, ⟨nd, rfl⟩⟩; refine ⟨_, rfl, ?_⟩))
  go_ret
  exact ⟨by first | rfl | (simp; done) | (rw [prx_ne]; first | done | rfl) | (simp [*]; done), by repeat (first | exact Drawn0.refl _ | apply Drawn0.step)⟩
def fiberhelpers_acceptsOffer.j0 : Nat → ByteArray → ByteArray → Bool → Option (Bool)
  | 0, _, _, _ => none
  | k + 1, x0, x1, x17 => if x17 = true then (some true) else ((strings_HasPrefix.f x0 x1).bind fun t111 => (if t111 = true then (some true) else (some false)))
def fiberhelpers_acceptsOffer.f (k : Nat) (a0 : ByteArray) (a1 : ByteArray) (a2 : ByteArray) : Option (Bool) := if (a0.size : Int) ≥ 1 then (if 0 ≤ (wrap64 ((a0.size : Int) - 1)) then (if (wrap64 ((a0.size : Int) - 1)) < (a0.size : Int) then (fiberhelpers_acceptsOffer.j0 k a0 a1 ((bt a0 (wrap64 ((a0.size : Int) - 1))) == 42)) else (none)) else (none)) else (fiberhelpers_acceptsOffer.j0 k a0 a1 false)
set_option maxHeartbeats 8000000 in
set_option maxRecDepth 100000 in
theorem fiberhelpers_acceptsOffer.calls (k : Nat) (a0 : ByteArray) (a1 : ByteArray) (a2 : ByteArray) (r : Bool) (w : World) (h : fiberhelpers_acceptsOffer.f k a0 a1 a2 = some r) :
    Calls Try.prog 41 #[.string a0, .string a1, .string a2] w fun e w' => e = .returned (.bool r) ∧ Drawn0 w w' := by
  have H : (if (a0.size : Int) ≥ 1 then (if 0 ≤ (wrap64 ((a0.size : Int) - 1)) then (if (wrap64 ((a0.size : Int) - 1)) < (a0.size : Int) then (fiberhelpers_acceptsOffer.j0 k a0 a1 ((bt a0 (wrap64 ((a0.size : Int) - 1))) == 42)) else (none)) else (none)) else (fiberhelpers_acceptsOffer.j0 k a0 a1 false)) = some r := h
  clear h
  have HC4 := Aside0.mk H
  clear H
  go_enter Try.func41, Try.ntmps41
  go_upto_region 1 with (fail)
  go_cut [17] (fun v17 wc => ∃ (kq : Nat) (x17_3 : Bool), v17 = .bool x17_3 ∧ Aside0 (fiberhelpers_acceptsOffer.j0 kq a0 a1 x17_3 = some r) ∧ Aside0 (kq ≤ k) ∧ Drawn0 w wc)
  case first =>
    have H := HC4.out
    clear HC4
    by_cases c5 : (a0.size : Int) ≥ 1
    · rw [if_pos c5] at H
      have c5b0 : decide (1 ≤ (a0.size : Int)) = true := decide_eq_true c5
      have c5b1 : decide (1 ≤ a0.size) = true := decide_eq_true (by omega)
      clear c5
      (first | rw [c5b0] | (simp only [i64_w, i32_w]; rw [c5b0]) | skip)
      obtain ⟨ji6, hji6⟩ : ∃ j_ : Int, (wrap64 ((a0.size : Int) - 1)) = j_ := ⟨_, rfl⟩
      replace H : (if 0 ≤ (ji6) then (if (ji6) < (a0.size : Int) then (fiberhelpers_acceptsOffer.j0 k a0 a1 ((bt a0 (ji6)) == 42)) else (none)) else (none)) = some r := by first | (rw [hji6] at H; exact H) | (simp only [hji6] at H ⊢; exact H)
      have hji6w : (IntKind.i64.wrap ((a0.size : Int) - 1)) = ji6 := (i64_w _).trans hji6
      by_cases c7 : 0 ≤ (ji6)
      · rw [if_pos c7] at H
        have c7b0 : decide (0 ≤ (ji6)) = true := decide_eq_true c7
        clear c7
        by_cases c8 : (ji6) < (a0.size : Int)
        · rw [if_pos c8] at H
          have c8b0 : decide ((ji6) < (a0.size : Int)) = true := decide_eq_true c8
          clear c8
          have H' := Aside0.mk H
          clear H
          have p9 : 0 ≤ ((ji6) : Int) := of_decide_eq_true (by first | (with_reducible assumption) | assumption)
          have q9 : (ji6) < (a0.size : Int) := of_decide_eq_true (by first | (with_reducible assumption) | assumption)
          have hx9 := bt_at a0 (ji6)
          replace p9 := eq_true p9
          replace q9 := eq_true q9
          go_wp2
          go_meet
          case rel => exact ⟨_, (((bt a0 (ji6)) == 42)), (by first | rfl | (simp; done) | (simp only [← hji6] <;> (first | rfl | simp)) | (rw [prx_ne]; first | done | rfl) | (simp [*]; done)), H', ⟨by first | omega | exact Nat.le_refl _⟩, by repeat (first | exact Drawn0.refl _ | apply Drawn0.step)⟩
        · rw [if_neg c8] at H
          exact absurd H (by simp)
      · rw [if_neg c7] at H
        exact absurd H (by simp)
    · rw [if_neg c5] at H
      have c5b0 : decide (1 ≤ (a0.size : Int)) = false := decide_eq_false c5
      have c5b1 : decide (1 ≤ a0.size) = false := decide_eq_false (by omega)
      clear c5
      (first | rw [c5b0] | (simp only [i64_w, i32_w]; rw [c5b0]) | skip)
      have H' := Aside0.mk H
      clear H
      go_wp2
      go_meet
      case rel => exact ⟨_, (false), (by first | rfl | (simp; done) | (rw [prx_ne]; first | done | rfl) | (simp [*]; done)), H', ⟨by first | omega | exact Nat.le_refl _⟩, by repeat (first | exact Drawn0.refl _ | apply Drawn0.step)⟩
  case rest =>
    clear HC4
    try clear p2
    try clear c4
    try clear c5
    try clear c5b0
    try clear c5b1
    try clear p6
    try clear c7
    try clear c7b0
    try clear c8
    try clear c8b0
    try clear p9
    try clear q9
    try clear hx9
    try clear p9
    try clear q9
    obtain ⟨kq, x17_3, rfl, HA, HJ3, ⟨mc3, rfl⟩⟩ := hcut
    cases kq with
    | zero => exact absurd HA.out (by simp [fiberhelpers_acceptsOffer.j0])
    | succ kj3 =>
      have H := HA.out
      clear HA
      simp only [fiberhelpers_acceptsOffer.j0] at H
      by_cases c10 : x17_3 = true
      · subst c10
        have H1 : (some true) = some r := by rw [if_pos rfl] at H; exact H
        clear H
        have H := H1
        clear H1
        obtain rfl := Option.some.inj H
        go_wp2
        go_ret
        exact ⟨by first | rfl | (simp; done) | (rw [prx_ne]; first | done | rfl) | (simp [*]; done), by repeat (first | exact Drawn0.refl _ | apply Drawn0.step)⟩
      · replace c10 := Bool.eq_false_iff.mpr c10
        subst c10
        have H1 : ((strings_HasPrefix.f a0 a1).bind fun t111 => (if t111 = true then (some true) else (some false))) = some r := by rw [if_neg (show ¬ (false = true) by decide)] at H; exact H
        clear H
        have H := H1
        clear H1
        replace H := Option.bind_eq_some_iff.mp H
        obtain ⟨t111, A110, H⟩ := H
        replace H : (if t111 = true then (some true) else (some false)) = some r := H
        have A11 := Aside0.mk A110
        clear A110
        by_cases c12 : t111 = true
        · subst c12
          have H1 : (some true) = some r := by rw [if_pos rfl] at H; exact H
          clear H
          have H := H1
          clear H1
          obtain rfl := Option.some.inj H
          go_wp2_with (first | ((with_reducible refine gate_callee (f := 50) rfl ?_); refine goesL_ (some 20) rfl rfl Try.func50 (by kernel_rfl) rfl #[.string a0, .string a1] rfl (by (try simp only [List.map_toArray, List.map_cons, List.map_nil]); first | done | rfl | (simp only [List.length_drop, List.length_take]; rfl)) ?_; (with_reducible refine (strings_HasPrefix.calls a0 a1 true _ A11.out).mono ?_); rintro e w' ⟨rfl, ⟨nd, rfl⟩⟩; refine ⟨_, rfl, ?_⟩))
          go_ret
          exact ⟨by first | rfl | (simp; done) | (rw [prx_ne]; first | done | rfl) | (simp [*]; done), by repeat (first | exact Drawn0.refl _ | apply Drawn0.step)⟩
        · replace c12 := Bool.eq_false_iff.mpr c12
          subst c12
          have H1 : (some false) = some r := by rw [if_neg (show ¬ (false = true) by decide)] at H; exact H
          clear H
          have H := H1
          clear H1
          obtain rfl := Option.some.inj H
          go_wp2_with (first | ((with_reducible refine gate_callee (f := 50) rfl ?_); refine goesL_ (some 20) rfl rfl Try.func50 (by kernel_rfl) rfl #[.string a0, .string a1] rfl (by (try simp only [List.map_toArray, List.map_cons, List.map_nil]); first | done | rfl | (simp only [List.length_drop, List.length_take]; rfl)) ?_; (with_reducible refine (strings_HasPrefix.calls a0 a1 false _ A11.out).mono ?_); rintro e w' ⟨rfl, ⟨nd, rfl⟩⟩; refine ⟨_, rfl, ?_⟩))
          go_ret
          exact ⟨by first | rfl | (simp; done) | (rw [prx_ne]; first | done | rfl) | (simp [*]; done), by repeat (first | exact Drawn0.refl _ | apply Drawn0.step)⟩
def fiberhelpers_ZzOffer.f (k : Nat) (a0 : ByteArray) (a1 : ByteArray) : Option (Bool) := (fiberhelpers_acceptsOffer.f k a0 a1 (⟨#[]⟩ : ByteArray)).bind fun t112 => (some t112)
set_option maxHeartbeats 8000000 in
set_option maxRecDepth 100000 in
theorem fiberhelpers_ZzOffer.calls (k : Nat) (a0 : ByteArray) (a1 : ByteArray) (r : Bool) (w : World) (h : fiberhelpers_ZzOffer.f k a0 a1 = some r) :
    Calls Try.prog 23 #[.string a0, .string a1] w fun e w' => e = .returned (.bool r) ∧ Drawn0 w w' := by
  have H : ((fiberhelpers_acceptsOffer.f k a0 a1 (⟨#[]⟩ : ByteArray)).bind fun t112 => (some t112)) = some r := h
  clear h
  replace H := Option.bind_eq_some_iff.mp H
  obtain ⟨t112, A30, H⟩ := H
  replace H : (some t112) = some r := H
  have A3 := Aside0.mk A30
  clear A30
  obtain rfl := Option.some.inj H
  go_enter Try.func23, Try.ntmps23
  go_wp2_with (first | ((with_reducible refine gate_callee (f := 41) rfl ?_); refine goesL_ (some 7) rfl rfl Try.func41 (by kernel_rfl) rfl #[.string a0, .string a1, .string (⟨#[]⟩ : ByteArray)] rfl (by (try simp only [List.map_toArray, List.map_cons, List.map_nil]); first | done | rfl | (simp only [List.length_drop, List.length_take]; rfl)) ?_; (with_reducible refine (fiberhelpers_acceptsOffer.calls k a0 a1 (⟨#[]⟩ : ByteArray) t112 _ A3.out).mono ?_); rintro e w' ⟨rfl, ⟨nd, rfl⟩⟩; refine ⟨_, rfl, ?_⟩))
  go_ret
  exact ⟨by first | rfl | (simp; done) | (rw [prx_ne]; first | done | rfl) | (simp [*]; done), by repeat (first | exact Drawn0.refl _ | apply Drawn0.step)⟩
def impl_AcceptsOffer.f (k : Nat) (a0 : ByteArray) (a1 : ByteArray) : Option (Bool) := (fiberhelpers_ZzOffer.f k a0 a1).bind fun t113 => (some t113)
set_option maxHeartbeats 8000000 in
set_option maxRecDepth 100000 in
theorem impl_AcceptsOffer.calls (k : Nat) (a0 : ByteArray) (a1 : ByteArray) (r : Bool) (w : World) (h : impl_AcceptsOffer.f k a0 a1 = some r) :
    Calls Try.prog 6 #[.string a0, .string a1] w fun e w' => e = .returned (.bool r) ∧ Drawn0 w w' := by
  have H : ((fiberhelpers_ZzOffer.f k a0 a1).bind fun t113 => (some t113)) = some r := h
  clear h
  replace H := Option.bind_eq_some_iff.mp H
  obtain ⟨t113, A30, H⟩ := H
  replace H : (some t113) = some r := H
  have A3 := Aside0.mk A30
  clear A30
  obtain rfl := Option.some.inj H
  go_enter Try.func6, Try.ntmps6
  go_wp2_with (first | ((with_reducible refine gate_callee (f := 23) rfl ?_); refine goesL_ (some 7) rfl rfl Try.func23 (by kernel_rfl) rfl #[.string a0, .string a1] rfl (by (try simp only [List.map_toArray, List.map_cons, List.map_nil]); first | done | rfl | (simp only [List.length_drop, List.length_take]; rfl)) ?_; (with_reducible refine (fiberhelpers_ZzOffer.calls k a0 a1 t113 _ A3.out).mono ?_); rintro e w' ⟨rfl, ⟨nd, rfl⟩⟩; refine ⟨_, rfl, ?_⟩))
  go_ret
  exact ⟨by first | rfl | (simp; done) | (rw [prx_ne]; first | done | rfl) | (simp [*]; done), by repeat (first | exact Drawn0.refl _ | apply Drawn0.step)⟩
def laws_short.l0 : Nat → List ByteArray → List ByteArray → Int → Int → Option (Bool)
  | 0, _, _, _, _ => none
  | k + 1, x0, x5, x6, x7 => if x7 < x6 then (if 0 ≤ x7 then (if x7 < (x5.length : Int) then (if ((rdOf ByteArray.empty x5 x7).size : Int) > 200 then (some false) else (laws_short.l0 k x0 x5 x6 (wrap64 (x7 + 1)))) else (none)) else (none)) else (some (decide ((x0.length : Int) ≤ 60)))
def laws_short.f (k : Nat) (l0 : List ByteArray) : Option (Bool) := laws_short.l0 k l0 l0 (l0.length : Int) 0
set_option maxHeartbeats 8000000 in
set_option maxRecDepth 100000 in
theorem laws_short.calls (k : Nat) (A0 : Option Addr) (c0 : Nat) (l0 : List ByteArray) (r : Bool) (w : World) (hr0 : Kd.C Kd.string w A0 l0.length l0) (hc0 : l0.length ≤ c0) (h : laws_short.f k l0 = some r) :
    Calls Try.prog 7 #[.slice A0 l0.length c0] w fun e w' => e = .returned (.bool r) ∧ Drawn0 w w' := by
  have HR0 := Aside0.mk hr0
  have HC0 := Aside0.mk hc0
  clear hr0 hc0
  have H : (laws_short.l0 k l0 l0 (l0.length : Int) 0) = some r := h
  clear h
  have H' := Aside0.mk H
  clear H
  go_enter Try.func7, Try.ntmps7
  go_wp2
  go_loopg [7] k (fun kq v7 w' => ∃ (x7_1 : Int), v7 = .int .i64 x7_1 ∧ Aside0 (laws_short.l0 kq l0 l0 (l0.length : Int) x7_1 = some r) ∧ Aside0 (kq ≤ k) ∧ Drawn0 w w')
  case atStart => exact ⟨(0), (by first | rfl | (simp; done) | (rw [prx_ne]; first | done | rfl) | (simp [*]; done)), H', ⟨Nat.le_refl _⟩, by repeat (first | exact Drawn0.refl _ | apply Drawn0.step)⟩
  case round =>
    clear H'
    obtain ⟨x7_1, rfl, HA, HK1, ⟨m1, rfl⟩⟩ := hrel
    cases gk with
    | zero => exact absurd HA.out (by simp [laws_short.l0])
    | succ k1 =>
      have H := HA.out
      clear HA
      simp only [laws_short.l0] at H
      by_cases c2 : x7_1 < (l0.length : Int)
      · rw [if_pos c2] at H
        have c2b0 : decide (x7_1 < (l0.length : Int)) = true := decide_eq_true c2
        clear c2
        by_cases c3 : 0 ≤ x7_1
        · rw [if_pos c3] at H
          have c3b0 : decide (0 ≤ x7_1) = true := decide_eq_true c3
          clear c3
          by_cases c4 : x7_1 < (l0.length : Int)
          · rw [if_pos c4] at H
            have c4b0 : decide (x7_1 < (l0.length : Int)) = true := decide_eq_true c4
            clear c4
            by_cases c5 : ((rdOf ByteArray.empty l0 x7_1).size : Int) > 200
            · rw [if_pos c5] at H
              have c5b0 : decide (200 < ((rdOf ByteArray.empty l0 x7_1).size : Int)) = true := decide_eq_true c5
              have c5b1 : decide (200 < (rdOf ByteArray.empty l0 x7_1).size) = true := decide_eq_true (by omega)
              clear c5
              obtain rfl := Option.some.inj H
              have p114 : 0 ≤ (x7_1 : Int) := of_decide_eq_true (by first | (with_reducible assumption) | assumption)
              have q114 : x7_1 < (l0.length : Int) := of_decide_eq_true (by first | (with_reducible assumption) | assumption)
              obtain ⟨ad114, e114, hx114_0⟩ := Kd.at_string HR0.out x7_1 p114 q114
              cases e114
              replace p114 := eq_true p114
              replace q114 := eq_true q114
              go_wp2
              go_ret
              exact ⟨by first | rfl | (simp; done) | (rw [prx_ne]; first | done | rfl) | (simp [*]; done), by repeat (first | exact Drawn0.refl _ | apply Drawn0.step)⟩
            · rw [if_neg c5] at H
              have c5b0 : decide (200 < ((rdOf ByteArray.empty l0 x7_1).size : Int)) = false := decide_eq_false c5
              have c5b1 : decide (200 < (rdOf ByteArray.empty l0 x7_1).size) = false := decide_eq_false (by omega)
              clear c5
              have H' := Aside0.mk H
              clear H
              have p114 : 0 ≤ (x7_1 : Int) := of_decide_eq_true (by first | (with_reducible assumption) | assumption)
              have q114 : x7_1 < (l0.length : Int) := of_decide_eq_true (by first | (with_reducible assumption) | assumption)
              obtain ⟨ad114, e114, hx114_0⟩ := Kd.at_string HR0.out x7_1 p114 q114
              cases e114
              replace p114 := eq_true p114
              replace q114 := eq_true q114
              go_wp2
              go_roundg k1
              case measure => have := HK1.out; omega
              case rel => exact ⟨(wrap64 (x7_1 + 1)), (by first | rfl | (simp; done) | (rw [prx_ne]; first | done | rfl) | (simp [*]; done)), H', ⟨by have := HK1.out; omega⟩, by repeat (first | exact Drawn0.refl _ | apply Drawn0.step)⟩
          · rw [if_neg c4] at H
            exact absurd H (by simp)
        · rw [if_neg c3] at H
          exact absurd H (by simp)
      · rw [if_neg c2] at H
        have c2b0 : decide (x7_1 < (l0.length : Int)) = false := decide_eq_false c2
        clear c2
        obtain rfl := Option.some.inj H
        go_wp2
        go_ret
        exact ⟨by first | rfl | (simp; done) | (rw [prx_ne]; first | done | rfl) | (simp [*]; done), by repeat (first | exact Drawn0.refl _ | apply Drawn0.step)⟩
def laws_holds.l0 : Nat → ByteArray → Int → Int → Int → Option (Bool)
  | 0, _, _, _, _ => none
  | k + 1, x0, x1, x7, x8 => if x8 < x7 then (if 0 ≤ x8 then (if x8 < (x0.size : Int) then (if (bt x0 x8) = x1 then (some true) else (laws_holds.l0 k x0 x1 x7 (wrap64 (x8 + 1)))) else (none)) else (none)) else (some false)
def laws_holds.f (k : Nat) (a0 : ByteArray) (a1 : Int) : Option (Bool) := laws_holds.l0 k a0 a1 (a0.size : Int) 0
set_option maxHeartbeats 8000000 in
set_option maxRecDepth 100000 in
theorem laws_holds.calls (k : Nat) (a0 : ByteArray) (a1 : Int) (r : Bool) (w : World) (h : laws_holds.f k a0 a1 = some r) :
    Calls Try.prog 8 #[.string a0, .int .u8 a1] w fun e w' => e = .returned (.bool r) ∧ Drawn0 w w' := by
  have H : (laws_holds.l0 k a0 a1 (a0.size : Int) 0) = some r := h
  clear h
  have H' := Aside0.mk H
  clear H
  go_enter Try.func8, Try.ntmps8
  go_wp2
  go_loopg [8] k (fun kq v8 w' => ∃ (x8_1 : Int), v8 = .int .i64 x8_1 ∧ Aside0 (laws_holds.l0 kq a0 a1 (a0.size : Int) x8_1 = some r) ∧ Aside0 (kq ≤ k) ∧ Drawn0 w w')
  case atStart => exact ⟨(0), (by first | rfl | (simp; done) | (rw [prx_ne]; first | done | rfl) | (simp [*]; done)), H', ⟨Nat.le_refl _⟩, by repeat (first | exact Drawn0.refl _ | apply Drawn0.step)⟩
  case round =>
    clear H'
    try clear p2
    obtain ⟨x8_1, rfl, HA, HK1, ⟨m1, rfl⟩⟩ := hrel
    cases gk with
    | zero => exact absurd HA.out (by simp [laws_holds.l0])
    | succ k1 =>
      have H := HA.out
      clear HA
      simp only [laws_holds.l0] at H
      by_cases c3 : x8_1 < (a0.size : Int)
      · rw [if_pos c3] at H
        have c3b0 : decide (x8_1 < (a0.size : Int)) = true := decide_eq_true c3
        clear c3
        by_cases c4 : 0 ≤ x8_1
        · rw [if_pos c4] at H
          have c4b0 : decide (0 ≤ x8_1) = true := decide_eq_true c4
          clear c4
          by_cases c5 : x8_1 < (a0.size : Int)
          · rw [if_pos c5] at H
            have c5b0 : decide (x8_1 < (a0.size : Int)) = true := decide_eq_true c5
            clear c5
            by_cases c7 : (bt a0 x8_1) = a1
            · rw [if_pos c7] at H
              have c7b0 : ((bt a0 x8_1) == a1) = true := beq_iff_eq.mpr c7
              have c7b1 : ((bt a0 x8_1) != a1) = false := bne_eq_false_iff_eq.mpr c7
              clear c7
              obtain rfl := Option.some.inj H
              have p6 : 0 ≤ (x8_1 : Int) := of_decide_eq_true (by first | (with_reducible assumption) | assumption)
              have q6 : x8_1 < (a0.size : Int) := of_decide_eq_true (by first | (with_reducible assumption) | assumption)
              have hx6 := bt_at a0 x8_1
              replace p6 := eq_true p6
              replace q6 := eq_true q6
              go_wp2
              go_ret
              exact ⟨by first | rfl | (simp; done) | (rw [prx_ne]; first | done | rfl) | (simp [*]; done), by repeat (first | exact Drawn0.refl _ | apply Drawn0.step)⟩
            · rw [if_neg c7] at H
              have c7b0 : ((bt a0 x8_1) == a1) = false := beq_eq_false_iff_ne.mpr c7
              have c7b1 : ((bt a0 x8_1) != a1) = true := bne_iff_ne.mpr c7
              have H' := Aside0.mk H
              clear H
              have p6 : 0 ≤ (x8_1 : Int) := of_decide_eq_true (by first | (with_reducible assumption) | assumption)
              have q6 : x8_1 < (a0.size : Int) := of_decide_eq_true (by first | (with_reducible assumption) | assumption)
              have hx6 := bt_at a0 x8_1
              replace p6 := eq_true p6
              replace q6 := eq_true q6
              go_wp2
              go_roundg k1
              case measure => have := HK1.out; omega
              case rel => exact ⟨(wrap64 (x8_1 + 1)), (by first | rfl | (simp; done) | (rw [prx_ne]; first | done | rfl) | (simp [*]; done)), H', ⟨by have := HK1.out; omega⟩, by repeat (first | exact Drawn0.refl _ | apply Drawn0.step)⟩
          · rw [if_neg c5] at H
            exact absurd H (by simp)
        · rw [if_neg c4] at H
          exact absurd H (by simp)
      · rw [if_neg c3] at H
        have c3b0 : decide (x8_1 < (a0.size : Int)) = false := decide_eq_false c3
        clear c3
        obtain rfl := Option.some.inj H
        go_wp2
        go_ret
        exact ⟨by first | rfl | (simp; done) | (rw [prx_ne]; first | done | rfl) | (simp [*]; done), by repeat (first | exact Drawn0.refl _ | apply Drawn0.step)⟩
def spec_place.l0 : Nat → ByteArray → Int → Int → Int → Option (Int)
  | 0, _, _, _, _ => none
  | k + 1, x0, x1, x7, x8 => if x8 < x7 then (if 0 ≤ x8 then (if x8 < (x0.size : Int) then (if (bt x0 x8) = x1 then (some x8) else (spec_place.l0 k x0 x1 x7 (wrap64 (x8 + 1)))) else (none)) else (none)) else (some (-1))
def spec_place.f (k : Nat) (a0 : ByteArray) (a1 : Int) : Option (Int) := spec_place.l0 k a0 a1 (a0.size : Int) 0
theorem spec_place.mono_l : ∀ k, (∀ y0 y1 y2 y3, LeO (spec_place.l0 k y0 y1 y2 y3) (spec_place.l0 (k + 1) y0 y1 y2 y3))
  | 0 => fun _ _ _ _ r h => by simp [spec_place.l0] at h
  | k + 1 => by
    have ih0 := spec_place.mono_l k
    · intro y0 y1 y2 y3
      unfold spec_place.l0
      repeat' first
      | (with_reducible exact ih0 _ _ _ _)
      | (with_reducible exact LeO.refl _)
      | (with_reducible exact LeO.none _)
      | (with_reducible refine LeO.ite ?_ ?_)
      | (with_reducible refine LeO.bind ?_ (fun _ => ?_))
      | exact ih0 _ _ _ _
      | exact LeO.none _
      | refine LeO.ite ?_ ?_
      | refine LeO.bind ?_ (fun _ => ?_)
theorem spec_place.mono : ∀ a0 a1 k, LeO (spec_place.f k a0 a1) (spec_place.f (k + 1) a0 a1) := by
  intro a0 a1 k
  have ih0 := spec_place.mono_l k
  unfold spec_place.f
  repeat' first
      | (with_reducible exact ih0 _ _ _ _)
      | (with_reducible exact LeO.refl _)
      | (with_reducible exact LeO.none _)
      | (with_reducible refine LeO.ite ?_ ?_)
      | (with_reducible refine LeO.bind ?_ (fun _ => ?_))
      | exact ih0 _ _ _ _
      | exact LeO.none _
      | refine LeO.ite ?_ ?_
      | refine LeO.bind ?_ (fun _ => ?_)
set_option maxHeartbeats 8000000 in
set_option maxRecDepth 100000 in
theorem spec_place.calls (k : Nat) (a0 : ByteArray) (a1 : Int) (r : Int) (w : World) (h : spec_place.f k a0 a1 = some r) :
    Calls Try.prog 24 #[.string a0, .int .u8 a1] w fun e w' => e = .returned (.int .i64 r) ∧ Drawn0 w w' := by
  have H : (spec_place.l0 k a0 a1 (a0.size : Int) 0) = some r := h
  clear h
  have H' := Aside0.mk H
  clear H
  go_enter Try.func24, Try.ntmps24
  go_wp2
  go_loopg [8] k (fun kq v8 w' => ∃ (x8_1 : Int), v8 = .int .i64 x8_1 ∧ Aside0 (spec_place.l0 kq a0 a1 (a0.size : Int) x8_1 = some r) ∧ Aside0 (kq ≤ k) ∧ Drawn0 w w')
  case atStart => exact ⟨(0), (by first | rfl | (simp; done) | (rw [prx_ne]; first | done | rfl) | (simp [*]; done)), H', ⟨Nat.le_refl _⟩, by repeat (first | exact Drawn0.refl _ | apply Drawn0.step)⟩
  case round =>
    clear H'
    try clear c2
    try clear p2
    obtain ⟨x8_1, rfl, HA, HK1, ⟨m1, rfl⟩⟩ := hrel
    cases gk with
    | zero => exact absurd HA.out (by simp [spec_place.l0])
    | succ k1 =>
      have H := HA.out
      clear HA
      simp only [spec_place.l0] at H
      by_cases c3 : x8_1 < (a0.size : Int)
      · rw [if_pos c3] at H
        have c3b0 : decide (x8_1 < (a0.size : Int)) = true := decide_eq_true c3
        clear c3
        by_cases c4 : 0 ≤ x8_1
        · rw [if_pos c4] at H
          have c4b0 : decide (0 ≤ x8_1) = true := decide_eq_true c4
          clear c4
          by_cases c5 : x8_1 < (a0.size : Int)
          · rw [if_pos c5] at H
            have c5b0 : decide (x8_1 < (a0.size : Int)) = true := decide_eq_true c5
            clear c5
            by_cases c7 : (bt a0 x8_1) = a1
            · rw [if_pos c7] at H
              have c7b0 : ((bt a0 x8_1) == a1) = true := beq_iff_eq.mpr c7
              have c7b1 : ((bt a0 x8_1) != a1) = false := bne_eq_false_iff_eq.mpr c7
              clear c7
              obtain rfl := Option.some.inj H
              have p6 : 0 ≤ (x8_1 : Int) := of_decide_eq_true (by first | (with_reducible assumption) | assumption)
              have q6 : x8_1 < (a0.size : Int) := of_decide_eq_true (by first | (with_reducible assumption) | assumption)
              have hx6 := bt_at a0 x8_1
              replace p6 := eq_true p6
              replace q6 := eq_true q6
              go_wp2
              go_ret
              exact ⟨by first | rfl | (simp; done) | (rw [prx_ne]; first | done | rfl) | (simp [*]; done), by repeat (first | exact Drawn0.refl _ | apply Drawn0.step)⟩
            · rw [if_neg c7] at H
              have c7b0 : ((bt a0 x8_1) == a1) = false := beq_eq_false_iff_ne.mpr c7
              have c7b1 : ((bt a0 x8_1) != a1) = true := bne_iff_ne.mpr c7
              have H' := Aside0.mk H
              clear H
              have p6 : 0 ≤ (x8_1 : Int) := of_decide_eq_true (by first | (with_reducible assumption) | assumption)
              have q6 : x8_1 < (a0.size : Int) := of_decide_eq_true (by first | (with_reducible assumption) | assumption)
              have hx6 := bt_at a0 x8_1
              replace p6 := eq_true p6
              replace q6 := eq_true q6
              go_wp2
              go_roundg k1
              case measure => have := HK1.out; omega
              case rel => exact ⟨(wrap64 (x8_1 + 1)), (by first | rfl | (simp; done) | (rw [prx_ne]; first | done | rfl) | (simp [*]; done)), H', ⟨by have := HK1.out; omega⟩, by repeat (first | exact Drawn0.refl _ | apply Drawn0.step)⟩
          · rw [if_neg c5] at H
            exact absurd H (by simp)
        · rw [if_neg c4] at H
          exact absurd H (by simp)
      · rw [if_neg c3] at H
        have c3b0 : decide (x8_1 < (a0.size : Int)) = false := decide_eq_false c3
        clear c3
        obtain rfl := Option.some.inj H
        go_wp2
        go_ret
        exact ⟨by first | rfl | (simp; done) | (rw [prx_ne]; first | done | rfl) | (simp [*]; done), by repeat (first | exact Drawn0.refl _ | apply Drawn0.step)⟩
def spec_ahead.l0 : Nat → ByteArray → Option (ByteArray)
  | 0, _ => none
  | k + 1, x0 => if x0.toList = ([] : List UInt8) then (some x0) else (if 0 < (x0.size : Int) then (if (bt x0 0) = 32 then (if 1 ≤ (x0.size : Int) then (spec_ahead.l0 k (x0.extract 1 x0.size)) else (none)) else (some x0)) else (none))
def spec_ahead.f (k : Nat) (a0 : ByteArray) : Option (ByteArray) := spec_ahead.l0 k a0
set_option maxHeartbeats 8000000 in
set_option maxRecDepth 100000 in
theorem spec_ahead.calls (k : Nat) (a0 : ByteArray) (r : ByteArray) (w : World) (h : spec_ahead.f k a0 = some r) :
    Calls Try.prog 25 #[.string a0] w fun e w' => e = .returned (.string r) ∧ Drawn0 w w' := by
  have H : (spec_ahead.l0 k a0) = some r := h
  clear h
  have H' := Aside0.mk H
  clear H
  go_enter Try.func25, Try.ntmps25
  go_wp2
  go_loopg [0] k (fun kq v0 w' => ∃ (x0_1 : ByteArray), v0 = .string x0_1 ∧ Aside0 (spec_ahead.l0 kq x0_1 = some r) ∧ Aside0 (kq ≤ k) ∧ Drawn0 w w')
  case atStart => exact ⟨(a0), (by first | rfl | (simp; done) | (rw [prx_ne]; first | done | rfl) | (simp [*]; done)), H', ⟨Nat.le_refl _⟩, by repeat (first | exact Drawn0.refl _ | apply Drawn0.step)⟩
  case round =>
    clear H'
    obtain ⟨x0_1, rfl, HA, HK1, ⟨m1, rfl⟩⟩ := hrel
    cases gk with
    | zero => exact absurd HA.out (by simp [spec_ahead.l0])
    | succ k1 =>
      have H := HA.out
      clear HA
      simp only [spec_ahead.l0] at H
      by_cases c2 : x0_1.toList = ([] : List UInt8)
      · rw [if_pos c2] at H
        have c2b0 : (x0_1.toList == ([] : List UInt8)) = true := beq_iff_eq.mpr c2
        have c2b1 : (x0_1.toList != ([] : List UInt8)) = false := bne_eq_false_iff_eq.mpr c2
        clear c2
        obtain rfl := Option.some.inj H
        go_wp2
        go_ret
        exact ⟨by first | rfl | (simp; done) | (rw [prx_ne]; first | done | rfl) | (simp [*]; done), by repeat (first | exact Drawn0.refl _ | apply Drawn0.step)⟩
      · rw [if_neg c2] at H
        have c2b0 : (x0_1.toList == ([] : List UInt8)) = false := beq_eq_false_iff_ne.mpr c2
        have c2b1 : (x0_1.toList != ([] : List UInt8)) = true := bne_iff_ne.mpr c2
        by_cases c3 : 0 < (x0_1.size : Int)
        · rw [if_pos c3] at H
          have c3b0 : decide (0 < (x0_1.size : Int)) = true := decide_eq_true c3
          have c3b1 : decide (0 < x0_1.size) = true := decide_eq_true (by omega)
          clear c3
          by_cases c5 : (bt x0_1 0) = 32
          · rw [if_pos c5] at H
            have c5b0 : ((bt x0_1 0) == 32) = true := beq_iff_eq.mpr c5
            have c5b1 : ((bt x0_1 0) != 32) = false := bne_eq_false_iff_eq.mpr c5
            clear c5
            by_cases c6 : 1 ≤ (x0_1.size : Int)
            · rw [if_pos c6] at H
              have c6b0 := eq_true c6
              have c6b1 : decide (1 ≤ (x0_1.size : Int)) = true := decide_eq_true c6
              clear c6
              have H' := Aside0.mk H
              clear H
              have p4 : 0 ≤ (0 : Int) := (by omega)
              have q4 : 0 < x0_1.size := (by have : (0 : Int) < (x0_1.size : Int) := of_decide_eq_true (by first | (with_reducible assumption) | assumption); omega)
              have hx4 : ∀ h : 0 < x0_1.size, ((x0_1[0]'h).toNat : Int) = bt x0_1 0 := bt_at x0_1 0
              clear p4
              have qi4 : (0 < (x0_1.size : Int)) = True := eq_true (of_decide_eq_true (by first | (with_reducible assumption) | assumption))
              replace q4 := eq_true q4
              go_wp2
              go_roundg k1
              case measure => have := HK1.out; omega
              case rel => exact ⟨(x0_1.extract 1 x0_1.size), (by first | rfl | (simp; done) | (rw [prx_ne]; first | done | rfl) | (simp [*]; done)), H', ⟨by have := HK1.out; omega⟩, by repeat (first | exact Drawn0.refl _ | apply Drawn0.step)⟩
            · rw [if_neg c6] at H
              exact absurd H (by simp)
          · rw [if_neg c5] at H
            have c5b0 : ((bt x0_1 0) == 32) = false := beq_eq_false_iff_ne.mpr c5
            have c5b1 : ((bt x0_1 0) != 32) = true := bne_iff_ne.mpr c5
            obtain rfl := Option.some.inj H
            have p4 : 0 ≤ (0 : Int) := (by omega)
            have q4 : 0 < x0_1.size := (by have : (0 : Int) < (x0_1.size : Int) := of_decide_eq_true (by first | (with_reducible assumption) | assumption); omega)
            have hx4 : ∀ h : 0 < x0_1.size, ((x0_1[0]'h).toNat : Int) = bt x0_1 0 := bt_at x0_1 0
            clear p4
            have qi4 : (0 < (x0_1.size : Int)) = True := eq_true (of_decide_eq_true (by first | (with_reducible assumption) | assumption))
            replace q4 := eq_true q4
            go_wp2
            go_ret
            exact ⟨by first | rfl | (simp; done) | (rw [prx_ne]; first | done | rfl) | (simp [*]; done), by repeat (first | exact Drawn0.refl _ | apply Drawn0.step)⟩
        · rw [if_neg c3] at H
          exact absurd H (by simp)
end Go.Proofs.Ytgmjaggkiifdjaa.QA
namespace Go.Proofs.Ytgmjaggkiifdjaa.QA
open Go.Proofs.Ytgmjaggkiifdjaa.Given
open Go.Proofs.Ytgmjaggkiifdjaa.PrX
open Go.RowKit Go.Proofs.YtgmjaggkiifdjaaW.PrintWords Go.Proofs.YtgmjaggkiifdjaaW.PrintLast Go.Proofs.YtgmjaggkiifdjaaW.PrintMore
mutual
def spec_MediaRanges.l0 : Nat → ByteArray → List ByteArray → Bool → Int → Int → Option (List ByteArray × Int)
  | 0, _, _, _, _, _ => none
  | k + 1, x0, x4, x5, x6, x7 => if x7 ≤ (x0.size : Int) then (if x7 < (x0.size : Int) then (if 0 ≤ x7 then (spec_MediaRanges.j1 k x0 x4 x5 x6 x7 ((bt x0 x7) == 34)) else (none)) else (spec_MediaRanges.j1 k x0 x4 x5 x6 x7 false)) else (spec_MediaRanges.l1 k x4 x5 x4 (x4.length : Int) 0)
def spec_MediaRanges.j1 : Nat → ByteArray → List ByteArray → Bool → Int → Int → Bool → Option (List ByteArray × Int)
  | 0, _, _, _, _, _, _ => none
  | k + 1, x0, x4, x5, x6, x7, x30 => if x30 = true then (if x7 = (x0.size : Int) then (if 0 ≤ x6 then (if x6 ≤ x7 then (if x7 ≤ (x0.size : Int) then ((spec_ahead.f k (x0.extract (x6 : Int).toNat (x7 : Int).toNat)).bind fun t116 => (if x4.length < 8796093022208 then (spec_MediaRanges.l0 k x0 (x4 ++ [t116]) (!x5) (wrap64 (x7 + 1)) (wrap64 (x7 + 1))) else (none))) else (none)) else (none)) else (none)) else (if 0 ≤ x7 then (if x7 < (x0.size : Int) then (if (bt x0 x7) = 44 then (if x5 = true then (if 0 ≤ x6 then (if x6 ≤ x7 then (if x7 ≤ (x0.size : Int) then ((spec_ahead.f k (x0.extract (x6 : Int).toNat (x7 : Int).toNat)).bind fun t120 => (if x4.length < 8796093022208 then (spec_MediaRanges.l0 k x0 (x4 ++ [t120]) (!x5) (wrap64 (x7 + 1)) (wrap64 (x7 + 1))) else (none))) else (none)) else (none)) else (none)) else (spec_MediaRanges.l0 k x0 x4 (!x5) x6 (wrap64 (x7 + 1)))) else (spec_MediaRanges.l0 k x0 x4 (!x5) x6 (wrap64 (x7 + 1)))) else (none)) else (none))) else (if x7 = (x0.size : Int) then (if 0 ≤ x6 then (if x6 ≤ x7 then (if x7 ≤ (x0.size : Int) then ((spec_ahead.f k (x0.extract (x6 : Int).toNat (x7 : Int).toNat)).bind fun t124 => (if x4.length < 8796093022208 then (spec_MediaRanges.l0 k x0 (x4 ++ [t124]) x5 (wrap64 (x7 + 1)) (wrap64 (x7 + 1))) else (none))) else (none)) else (none)) else (none)) else (if 0 ≤ x7 then (if x7 < (x0.size : Int) then (if (bt x0 x7) = 44 then (if x5 = true then (spec_MediaRanges.l0 k x0 x4 x5 x6 (wrap64 (x7 + 1))) else (if 0 ≤ x6 then (if x6 ≤ x7 then (if x7 ≤ (x0.size : Int) then ((spec_ahead.f k (x0.extract (x6 : Int).toNat (x7 : Int).toNat)).bind fun t128 => (if x4.length < 8796093022208 then (spec_MediaRanges.l0 k x0 (x4 ++ [t128]) x5 (wrap64 (x7 + 1)) (wrap64 (x7 + 1))) else (none))) else (none)) else (none)) else (none))) else (spec_MediaRanges.l0 k x0 x4 x5 x6 (wrap64 (x7 + 1)))) else (none)) else (none)))
def spec_MediaRanges.l1 : Nat → List ByteArray → Bool → List ByteArray → Int → Int → Option (List ByteArray × Int)
  | 0, _, _, _, _, _ => none
  | k + 1, x4, x5, x57, x58, x59 => if x59 < x58 then (if 0 ≤ x59 then (if x59 < (x57.length : Int) then (if (rdOf ByteArray.empty x57 x59).toList = ([] : List UInt8) then (some (([] : List ByteArray), 2)) else (spec_MediaRanges.l1 k x4 x5 x57 x58 (wrap64 (x59 + 1)))) else (none)) else (none)) else (if x5 = true then (some (([] : List ByteArray), 2)) else (some (x4, 1)))
end
def spec_MediaRanges.f (k : Nat) (a0 : ByteArray) : Option (List ByteArray × Int) := (spec_place.f k a0 92).bind fun t115 => (if t115 ≥ 0 then (some (([] : List ByteArray), 2)) else (if a0.toList = ([] : List UInt8) then (some (([] : List ByteArray), 1)) else (spec_MediaRanges.l0 k a0 ([] : List ByteArray) false 0 0)))
set_option maxHeartbeats 8000000 in
set_option maxRecDepth 100000 in
theorem spec_MediaRanges.calls (k : Nat) (a0 : ByteArray) (r1 : List ByteArray) (r2 : Int) (w : World) (h : spec_MediaRanges.f k a0 = some (r1, r2)) :
  Calls Try.prog 9 #[.string a0] w fun e w' => ∃ v0_ : Value, e = .returned (.tuple #[v0_, .int .i64 r2]) ∧ Kd.R Kd.string 9 w' w.heap.size (fun _ => True) v0_ r1 ∧ Below w.heap.size w w' := by
 have HB := Aside0.mk (Below.refl w.heap.size w)
 have H : ((spec_place.f k a0 92).bind fun t115 => (if t115 ≥ 0 then (some (([] : List ByteArray), 2)) else (if a0.toList = ([] : List UInt8) then (some (([] : List ByteArray), 1)) else (spec_MediaRanges.l0 k a0 ([] : List ByteArray) false 0 0)))) = some (r1, r2) := h
 clear h
 replace H := Option.bind_eq_some_iff.mp H
 obtain ⟨t115, A20, H⟩ := H
 replace H : (if t115 ≥ 0 then (some (([] : List ByteArray), 2)) else (if a0.toList = ([] : List UInt8) then (some (([] : List ByteArray), 1)) else (spec_MediaRanges.l0 k a0 ([] : List ByteArray) false 0 0))) = some (r1, r2) := H
 have A2 := Aside0.mk A20
 clear A20
 by_cases c3 : t115 ≥ 0
 ·rw [if_pos c3] at H
  have c3b0 : decide (0 ≤ t115) = true := decide_eq_true c3
  clear c3
  simp only [Option.some.injEq, Prod.mk.injEq] at H
  obtain ⟨rfl, rfl⟩ := H
  go_enter Try.func9, Try.ntmps9
  go_wp2_with (first | ((with_reducible refine gate_callee (f := 24) rfl ?_); refine goesL_ (some 11) rfl rfl Try.func24 (by kernel_rfl) rfl #[.string a0, .int .u8 92] rfl (by (try simp only [List.map_toArray, List.map_cons, List.map_nil]); first | done | rfl | (simp only [List.length_drop, List.length_take]; rfl)) ?_; (with_reducible refine (spec_place.calls k a0 92 t115 _ A2.out).mono ?_); rintro e w' ⟨rfl, ⟨nd, rfl⟩⟩; refine ⟨_, rfl, ?_⟩))
  go_ret2
  exact ⟨_, by first | rfl | (simp [errW_none, errW_some] <;> rfl) | (simp [*, errW_none, errW_some] <;> rfl), by first | exact Kd.R_nil _ _ _ _ _ | exact Kd.N_nil _ _ _ _ _ | exact Kd.V_nil _ _ _ _ _ | exact Kd.Q_nil _ _ _ _ _ | exact Kd.S_nil _ _ _ _ _, by repeat (first | (with_reducible first | exact HB.out | apply below_alloc | apply pw_below_drewN | apply below_drew1) | exact HB.out)⟩
 ·rw [if_neg c3] at H
  have c3b0 : decide (0 ≤ t115) = false := decide_eq_false c3
  clear c3
  by_cases c4 : a0.toList = ([] : List UInt8)
  ·rw [if_pos c4] at H
   have c4b0 : (a0.toList == ([] : List UInt8)) = true := beq_iff_eq.mpr c4
   have c4b1 : (a0.toList != ([] : List UInt8)) = false := bne_eq_false_iff_eq.mpr c4
   clear c4
   simp only [Option.some.injEq, Prod.mk.injEq] at H
   obtain ⟨rfl, rfl⟩ := H
   go_enter Try.func9, Try.ntmps9
   go_wp2_with (first | ((with_reducible refine gate_callee (f := 24) rfl ?_); refine goesL_ (some 11) rfl rfl Try.func24 (by kernel_rfl) rfl #[.string a0, .int .u8 92] rfl (by (try simp only [List.map_toArray, List.map_cons, List.map_nil]); first | done | rfl | (simp only [List.length_drop, List.length_take]; rfl)) ?_; (with_reducible refine (spec_place.calls k a0 92 t115 _ A2.out).mono ?_); rintro e w' ⟨rfl, ⟨nd, rfl⟩⟩; refine ⟨_, rfl, ?_⟩))
   go_ret2
   exact ⟨_, by first | rfl | (simp [errW_none, errW_some] <;> rfl) | (simp [*, errW_none, errW_some] <;> rfl), by first | exact Kd.R_nil _ _ _ _ _ | exact Kd.N_nil _ _ _ _ _ | exact Kd.V_nil _ _ _ _ _ | exact Kd.Q_nil _ _ _ _ _ | exact Kd.S_nil _ _ _ _ _, by repeat (first | (with_reducible first | exact HB.out | apply below_alloc | apply pw_below_drewN | apply below_drew1) | exact HB.out)⟩
  ·rw [if_neg c4] at H
   have c4b0 : (a0.toList == ([] : List UInt8)) = false := beq_eq_false_iff_ne.mpr c4
   have c4b1 : (a0.toList != ([] : List UInt8)) = true := bne_iff_ne.mpr c4
   have H' := Aside0.mk H
   clear H
   go_enter Try.func9, Try.ntmps9
   go_wp2_with (first | ((with_reducible refine gate_callee (f := 24) rfl ?_); refine goesL_ (some 11) rfl rfl Try.func24 (by kernel_rfl) rfl #[.string a0, .int .u8 92] rfl (by (try simp only [List.map_toArray, List.map_cons, List.map_nil]); first | done | rfl | (simp only [List.length_drop, List.length_take]; rfl)) ?_; (with_reducible refine (spec_place.calls k a0 92 t115 _ A2.out).mono ?_); rintro e w' ⟨rfl, ⟨nd, rfl⟩⟩; refine ⟨_, rfl, ?_⟩))
   go_loopg [4, 5, 6, 7] k (fun kq v4 v5 v6 v7 w' => ∃ (x4_1 : List ByteArray) (x5_1 : Bool) (x6_1 : Int) (x7_1 : Int), v5 = .bool x5_1 ∧ v6 = .int .i64 x6_1 ∧ v7 = .int .i64 x7_1 ∧ Aside0 (spec_MediaRanges.l0 kq a0 x4_1 x5_1 x6_1 x7_1 = some (r1, r2)) ∧ Aside0 (kq ≤ k) ∧ Aside0 (Kd.R Kd.string 9 w' w.heap.size (fun _ => True) v4 x4_1) ∧ Aside0 (Below w.heap.size w w'))
   case atStart => exact ⟨(([] : List ByteArray)), (false), (0), (0), (by first | rfl | (simp; done) | (rw [prx_ne]; first | done | rfl) | (simp [*]; done)), (by first | rfl | (simp; done) | (rw [prx_ne]; first | done | rfl) | (simp [*]; done)), (by first | rfl | (simp; done) | (rw [prx_ne]; first | done | rfl) | (simp [*]; done)), H', ⟨Nat.le_refl _⟩, ⟨by first | exact Kd.R_nil _ _ _ _ _ | exact Kd.N_nil _ _ _ _ _ | exact Kd.V_nil _ _ _ _ _ | exact Kd.Q_nil _ _ _ _ _ | exact Kd.S_nil _ _ _ _ _⟩, ⟨by repeat (first | (with_reducible first | exact HB.out | apply below_alloc | apply pw_below_drewN | apply below_drew1) | exact HB.out)⟩⟩
   case round =>
    clear H'
    try clear c2
    try clear p2
    try clear c3
    try clear c3b0
    try clear c4
    try clear c4b0
    try clear c4b1
    obtain ⟨x4_1, x5_1, x6_1, x7_1, rfl, rfl, rfl, HA, HK1, HO_4, HB⟩ := hrel
    cases gk with
    | zero => exact absurd HA.out (by simp [spec_MediaRanges.l0])
    | succ k1 =>
     have H := HA.out
     clear HA
     simp only [spec_MediaRanges.l0] at H
     by_cases c5 : x7_1 ≤ (a0.size : Int)
     ·rw [if_pos c5] at H
      have c5b0 : decide (x7_1 ≤ (a0.size : Int)) = true := decide_eq_true c5
      clear c5
      have HC6 := Aside0.mk H
      clear H
      go_upto_region 10 with (fail)
      go_cut [30] (fun v30 wc => ∃ (kq : Nat) (x30_5 : Bool), v30 = .bool x30_5 ∧ Aside0 (spec_MediaRanges.j1 kq a0 x4_1 x5_1 x6_1 x7_1 x30_5 = some (r1, r2)) ∧ Aside0 (kq ≤ k1) ∧ Aside0 (Kd.R Kd.string 9 wc w.heap.size (fun _ => True) u4 x4_1) ∧ Aside0 (Below w.heap.size w wc))
      case first =>
       have H := HC6.out
       clear HC6
       by_cases c7 : x7_1 < (a0.size : Int)
       ·rw [if_pos c7] at H
        have c7b0 : decide (x7_1 < (a0.size : Int)) = true := decide_eq_true c7
        clear c7
        (first | rw [c7b0] | (simp only [i64_w, i32_w]; rw [c7b0]) | skip)
        by_cases c8 : 0 ≤ x7_1
        ·rw [if_pos c8] at H
         have c8b0 : decide (0 ≤ x7_1) = true := decide_eq_true c8
         clear c8
         have H' := Aside0.mk H
         clear H
         have p9 : 0 ≤ (x7_1 : Int) := of_decide_eq_true (by first | (with_reducible assumption) | assumption)
         have q9 : x7_1 < (a0.size : Int) := of_decide_eq_true (by first | (with_reducible assumption) | assumption)
         have hx9 := bt_at a0 x7_1
         replace p9 := eq_true p9
         replace q9 := eq_true q9
         go_wp2
         go_meet
         case rel => exact ⟨_, (((bt a0 x7_1) == 34)), (by first | rfl | (simp; done) | (rw [prx_ne]; first | done | rfl) | (simp [*]; done)), H', ⟨by have := HK1.out; first | omega | exact Nat.le_refl _⟩, ⟨by (with_reducible repeat (first | apply Kd.R_alloc | apply Kd.R_drewN | apply Kd.R_drew)); exact HO_4.out⟩, ⟨by repeat (first | (with_reducible first | exact HB.out | apply below_alloc | apply pw_below_drewN | apply below_drew1) | exact HB.out)⟩⟩
        ·rw [if_neg c8] at H
         exact absurd H (by simp)
       ·rw [if_neg c7] at H
        have c7b0 : decide (x7_1 < (a0.size : Int)) = false := decide_eq_false c7
        clear c7
        (first | rw [c7b0] | (simp only [i64_w, i32_w]; rw [c7b0]) | skip)
        have H' := Aside0.mk H
        clear H
        go_wp2
        go_meet
        case rel => exact ⟨_, (false), (by first | rfl | (simp; done) | (rw [prx_ne]; first | done | rfl) | (simp [*]; done)), H', ⟨by have := HK1.out; first | omega | exact Nat.le_refl _⟩, ⟨by (with_reducible repeat (first | apply Kd.R_alloc | apply Kd.R_drewN | apply Kd.R_drew)); exact HO_4.out⟩, ⟨by repeat (first | (with_reducible first | exact HB.out | apply below_alloc | apply pw_below_drewN | apply below_drew1) | exact HB.out)⟩⟩
      case rest =>
       clear HC6
       try clear c2
       try clear p2
       try clear c3
       try clear c3b0
       try clear c4
       try clear c4b0
       try clear c4b1
       try clear c5
       try clear c5b0
       try clear c7
       try clear c7b0
       try clear c8
       try clear c8b0
       try clear c9
       try clear p9
       try clear q9
       try clear hx9
       try clear p2
       try clear p9
       try clear q9
       obtain ⟨kq, x30_5, rfl, HA, HJ5, HO_4, HB⟩ := hcut
       cases kq with
       | zero => exact absurd HA.out (by simp [spec_MediaRanges.j1])
       | succ kj5 =>
        have H := HA.out
        clear HA
        simp only [spec_MediaRanges.j1] at H
        by_cases c10 : x30_5 = true
        ·subst c10
         have H1 : (if x7_1 = (a0.size : Int) then (if 0 ≤ x6_1 then (if x6_1 ≤ x7_1 then (if x7_1 ≤ (a0.size : Int) then ((spec_ahead.f kj5 (a0.extract (x6_1 : Int).toNat (x7_1 : Int).toNat)).bind fun t116 => (if x4_1.length < 8796093022208 then (spec_MediaRanges.l0 kj5 a0 (x4_1 ++ [t116]) (!x5_1) (wrap64 (x7_1 + 1)) (wrap64 (x7_1 + 1))) else (none))) else (none)) else (none)) else (none)) else (if 0 ≤ x7_1 then (if x7_1 < (a0.size : Int) then (if (bt a0 x7_1) = 44 then (if x5_1 = true then (if 0 ≤ x6_1 then (if x6_1 ≤ x7_1 then (if x7_1 ≤ (a0.size : Int) then ((spec_ahead.f kj5 (a0.extract (x6_1 : Int).toNat (x7_1 : Int).toNat)).bind fun t120 => (if x4_1.length < 8796093022208 then (spec_MediaRanges.l0 kj5 a0 (x4_1 ++ [t120]) (!x5_1) (wrap64 (x7_1 + 1)) (wrap64 (x7_1 + 1))) else (none))) else (none)) else (none)) else (none)) else (spec_MediaRanges.l0 kj5 a0 x4_1 (!x5_1) x6_1 (wrap64 (x7_1 + 1)))) else (spec_MediaRanges.l0 kj5 a0 x4_1 (!x5_1) x6_1 (wrap64 (x7_1 + 1)))) else (none)) else (none))) = some (r1, r2) := by rw [if_pos rfl] at H; exact H
         clear H
         have H := H1
         clear H1
         by_cases c11 : x7_1 = (a0.size : Int)
         ·rw [if_pos c11] at H
          have c11b0 : (x7_1 == (a0.size : Int)) = true := beq_iff_eq.mpr c11
          have c11b1 : (x7_1 != (a0.size : Int)) = false := bne_eq_false_iff_eq.mpr c11
          clear c11
          by_cases c12 : 0 ≤ x6_1
          ·rw [if_pos c12] at H
           have c12b0 := eq_true c12
           have c12b1 : decide (0 ≤ x6_1) = true := decide_eq_true c12
           clear c12
           by_cases c13 : x6_1 ≤ x7_1
           ·rw [if_pos c13] at H
            have c13b0 := eq_true c13
            have c13b1 : decide (x6_1 ≤ x7_1) = true := decide_eq_true c13
            clear c13
            by_cases c14 : x7_1 ≤ (a0.size : Int)
            ·rw [if_pos c14] at H
             have c14b0 := eq_true c14
             have c14b1 : decide (x7_1 ≤ (a0.size : Int)) = true := decide_eq_true c14
             clear c14
             replace H := Option.bind_eq_some_iff.mp H
             obtain ⟨t116, A150, H⟩ := H
             replace H : (if x4_1.length < 8796093022208 then (spec_MediaRanges.l0 kj5 a0 (x4_1 ++ [t116]) (!x5_1) (wrap64 (x7_1 + 1)) (wrap64 (x7_1 + 1))) else (none)) = some (r1, r2) := H
             have A15 := Aside0.mk A150
             clear A150
             by_cases c16 : x4_1.length < 8796093022208
             ·rw [if_pos c16] at H
              have LMc16 := Aside0.mk c16
              clear c16
              obtain ⟨y117, hy117⟩ : ∃ y_ : List ByteArray, y_ = (x4_1 ++ [t116]) := ⟨_, rfl⟩
              replace H : (spec_MediaRanges.l0 kj5 a0 y117 (!x5_1) (wrap64 (x7_1 + 1)) (wrap64 (x7_1 + 1))) = some (r1, r2) := by first | (rw [hy117]; with_reducible exact H) | (have H2_ := (Option.bind_some _ _).symm.trans H; rw [hy117]; with_reducible exact H2_) | (have H2_ := (Option.bind_some _ _).symm.trans H; with_reducible exact H2_) | with_reducible exact H | (rw [hy117]; exact H) | exact H
              have Ny117 := Aside0.mk hy117
              clear hy117
              have H' := Aside0.mk H
              clear H
              go_wp2_with (first | ((with_reducible refine gate_callee (f := 25) rfl ?_); refine goesL_ (some 52) rfl rfl Try.func25 (by kernel_rfl) rfl #[.string (a0.extract (x6_1 : Int).toNat (x7_1 : Int).toNat)] rfl (by (try simp only [List.map_toArray, List.map_cons, List.map_nil]); first | done | rfl | (simp only [List.length_drop, List.length_take]; rfl)) ?_; (with_reducible refine (spec_ahead.calls kj5 (a0.extract (x6_1 : Int).toNat (x7_1 : Int).toNat) t116 _ A15.out).mono ?_); rintro e w' ⟨rfl, ⟨nd, rfl⟩⟩; refine ⟨_, rfl, ?_⟩) | ((with_reducible refine gate_builtin (b := .append) (xs := #[.tmp 47, .tmp 53]) rfl ?_); at_builtin; refine Kd.R_append Kd.string (w0 := w) w.heap.size rfl (.tmp 47) (.tmp 53) 22 9 (.string ⟨#[]⟩) 16 rfl Try.underlying22 info9 rfl (by decide) (by omega) u4 x4_1 t116 [.string t116] (fun _ => True) (fun _ => False) rfl rfl ?aP (fun _ hk => hk.elim) ?aF ?aO ?aB ?aS ?aL ?_; (case aP => exact rfl); (case aB => exact (by repeat (first | (with_reducible first | exact HB.out | apply below_alloc | apply pw_below_drewN | apply below_drew1) | exact HB.out))); (case aF => exact (fun _ _ => trivial)); (case aO => exact (by (with_reducible repeat (first | apply Kd.R_alloc | apply Kd.R_drewN | apply Kd.R_drew)); exact HO_4.out)); (case aS => exact (below_size (by repeat (first | (with_reducible first | exact HB.out | apply below_alloc | apply pw_below_drewN | apply below_drew1) | exact HB.out)))); (case aL => have := LMc16.out; omega); intro v118 w17 ho hb hg hat; rw [← Ny117.out] at ho; have n0_ := Aside0.mk (hb); have n1_ := Aside0.mk (ho); clear HB; clear HO_4; have HB := n0_; have HO119 := n1_; clear n0_ n1_; clear ho hb hg hat))
              go_roundg kj5
              case measure => have := HK1.out; have := HJ5.out; omega
              case rel => exact ⟨(y117), (!x5_1), (wrap64 (x7_1 + 1)), (wrap64 (x7_1 + 1)), (by first | rfl | (simp; done) | (rw [prx_ne]; first | done | rfl) | (simp [*]; done)), (by first | rfl | (simp; done) | (rw [prx_ne]; first | done | rfl) | (simp [*]; done)), (by first | rfl | (simp; done) | (rw [prx_ne]; first | done | rfl) | (simp [*]; done)), H', ⟨by have := HK1.out; have := HJ5.out; omega⟩, ⟨by (with_reducible repeat (first | apply Kd.R_alloc | apply Kd.R_drewN | apply Kd.R_drew)); exact HO119.out⟩, ⟨by repeat (first | (with_reducible first | exact HB.out | apply below_alloc | apply pw_below_drewN | apply below_drew1) | exact HB.out)⟩⟩
             ·rw [if_neg c16] at H
              exact absurd H (by simp)
            ·rw [if_neg c14] at H
             exact absurd H (by simp)
           ·rw [if_neg c13] at H
            exact absurd H (by simp)
          ·rw [if_neg c12] at H
           exact absurd H (by simp)
         ·rw [if_neg c11] at H
          have c11b0 : (x7_1 == (a0.size : Int)) = false := beq_eq_false_iff_ne.mpr c11
          have c11b1 : (x7_1 != (a0.size : Int)) = true := bne_iff_ne.mpr c11
          by_cases c18 : 0 ≤ x7_1
          ·rw [if_pos c18] at H
           have c18b0 : decide (0 ≤ x7_1) = true := decide_eq_true c18
           clear c18
           by_cases c19 : x7_1 < (a0.size : Int)
           ·rw [if_pos c19] at H
            have c19b0 : decide (x7_1 < (a0.size : Int)) = true := decide_eq_true c19
            clear c19
            by_cases c21 : (bt a0 x7_1) = 44
            ·rw [if_pos c21] at H
             have c21b0 : ((bt a0 x7_1) == 44) = true := beq_iff_eq.mpr c21
             have c21b1 : ((bt a0 x7_1) != 44) = false := bne_eq_false_iff_eq.mpr c21
             clear c21
             by_cases c22 : x5_1 = true
             ·subst c22
              have H1 : (if 0 ≤ x6_1 then (if x6_1 ≤ x7_1 then (if x7_1 ≤ (a0.size : Int) then ((spec_ahead.f kj5 (a0.extract (x6_1 : Int).toNat (x7_1 : Int).toNat)).bind fun t120 => (if x4_1.length < 8796093022208 then (spec_MediaRanges.l0 kj5 a0 (x4_1 ++ [t120]) (!true) (wrap64 (x7_1 + 1)) (wrap64 (x7_1 + 1))) else (none))) else (none)) else (none)) else (none)) = some (r1, r2) := by rw [if_pos rfl] at H; exact H
              clear H
              have H := H1
              clear H1
              by_cases c23 : 0 ≤ x6_1
              ·rw [if_pos c23] at H
               have c23b0 := eq_true c23
               have c23b1 : decide (0 ≤ x6_1) = true := decide_eq_true c23
               clear c23
               by_cases c24 : x6_1 ≤ x7_1
               ·rw [if_pos c24] at H
                have c24b0 := eq_true c24
                have c24b1 : decide (x6_1 ≤ x7_1) = true := decide_eq_true c24
                clear c24
                by_cases c25 : x7_1 ≤ (a0.size : Int)
                ·rw [if_pos c25] at H
                 have c25b0 := eq_true c25
                 have c25b1 : decide (x7_1 ≤ (a0.size : Int)) = true := decide_eq_true c25
                 clear c25
                 replace H := Option.bind_eq_some_iff.mp H
                 obtain ⟨t120, A260, H⟩ := H
                 replace H : (if x4_1.length < 8796093022208 then (spec_MediaRanges.l0 kj5 a0 (x4_1 ++ [t120]) (!true) (wrap64 (x7_1 + 1)) (wrap64 (x7_1 + 1))) else (none)) = some (r1, r2) := H
                 have A26 := Aside0.mk A260
                 clear A260
                 by_cases c27 : x4_1.length < 8796093022208
                 ·rw [if_pos c27] at H
                  have LMc27 := Aside0.mk c27
                  clear c27
                  obtain ⟨y121, hy121⟩ : ∃ y_ : List ByteArray, y_ = (x4_1 ++ [t120]) := ⟨_, rfl⟩
                  replace H : (spec_MediaRanges.l0 kj5 a0 y121 (!true) (wrap64 (x7_1 + 1)) (wrap64 (x7_1 + 1))) = some (r1, r2) := by first | (rw [hy121]; with_reducible exact H) | (have H2_ := (Option.bind_some _ _).symm.trans H; rw [hy121]; with_reducible exact H2_) | (have H2_ := (Option.bind_some _ _).symm.trans H; with_reducible exact H2_) | with_reducible exact H | (rw [hy121]; exact H) | exact H
                  have Ny121 := Aside0.mk hy121
                  clear hy121
                  have H' := Aside0.mk H
                  clear H
                  have p20 : 0 ≤ (x7_1 : Int) := of_decide_eq_true (by first | (with_reducible assumption) | assumption)
                  have q20 : x7_1 < (a0.size : Int) := of_decide_eq_true (by first | (with_reducible assumption) | assumption)
                  have hx20 := bt_at a0 x7_1
                  replace p20 := eq_true p20
                  replace q20 := eq_true q20
                  go_wp2_with (first | ((with_reducible refine gate_callee (f := 25) rfl ?_); refine goesL_ (some 52) rfl rfl Try.func25 (by kernel_rfl) rfl #[.string (a0.extract (x6_1 : Int).toNat (x7_1 : Int).toNat)] rfl (by (try simp only [List.map_toArray, List.map_cons, List.map_nil]); first | done | rfl | (simp only [List.length_drop, List.length_take]; rfl)) ?_; (with_reducible refine (spec_ahead.calls kj5 (a0.extract (x6_1 : Int).toNat (x7_1 : Int).toNat) t120 _ A26.out).mono ?_); rintro e w' ⟨rfl, ⟨nd, rfl⟩⟩; refine ⟨_, rfl, ?_⟩) | ((with_reducible refine gate_builtin (b := .append) (xs := #[.tmp 47, .tmp 53]) rfl ?_); at_builtin; refine Kd.R_append Kd.string (w0 := w) w.heap.size rfl (.tmp 47) (.tmp 53) 22 9 (.string ⟨#[]⟩) 16 rfl Try.underlying22 info9 rfl (by decide) (by omega) u4 x4_1 t120 [.string t120] (fun _ => True) (fun _ => False) rfl rfl ?aP (fun _ hk => hk.elim) ?aF ?aO ?aB ?aS ?aL ?_; (case aP => exact rfl); (case aB => exact (by repeat (first | (with_reducible first | exact HB.out | apply below_alloc | apply pw_below_drewN | apply below_drew1) | exact HB.out))); (case aF => exact (fun _ _ => trivial)); (case aO => exact (by (with_reducible repeat (first | apply Kd.R_alloc | apply Kd.R_drewN | apply Kd.R_drew)); exact HO_4.out)); (case aS => exact (below_size (by repeat (first | (with_reducible first | exact HB.out | apply below_alloc | apply pw_below_drewN | apply below_drew1) | exact HB.out)))); (case aL => have := LMc27.out; omega); intro v122 w28 ho hb hg hat; rw [← Ny121.out] at ho; have n0_ := Aside0.mk (hb); have n1_ := Aside0.mk (ho); clear HB; clear HO_4; have HB := n0_; have HO123 := n1_; clear n0_ n1_; clear ho hb hg hat))
                  go_roundg kj5
                  case measure => have := HK1.out; have := HJ5.out; omega
                  case rel => exact ⟨(y121), (!true), (wrap64 (x7_1 + 1)), (wrap64 (x7_1 + 1)), (by first | rfl | (simp; done) | (rw [prx_ne]; first | done | rfl) | (simp [*]; done)), (by first | rfl | (simp; done) | (rw [prx_ne]; first | done | rfl) | (simp [*]; done)), (by first | rfl | (simp; done) | (rw [prx_ne]; first | done | rfl) | (simp [*]; done)), H', ⟨by have := HK1.out; have := HJ5.out; omega⟩, ⟨by (with_reducible repeat (first | apply Kd.R_alloc | apply Kd.R_drewN | apply Kd.R_drew)); exact HO123.out⟩, ⟨by repeat (first | (with_reducible first | exact HB.out | apply below_alloc | apply pw_below_drewN | apply below_drew1) | exact HB.out)⟩⟩
                 ·rw [if_neg c27] at H
                  exact absurd H (by simp)
                ·rw [if_neg c25] at H
                 exact absurd H (by simp)
               ·rw [if_neg c24] at H
                exact absurd H (by simp)
              ·rw [if_neg c23] at H
               exact absurd H (by simp)
             ·replace c22 := Bool.eq_false_iff.mpr c22
              subst c22
              have H1 : (spec_MediaRanges.l0 kj5 a0 x4_1 (!false) x6_1 (wrap64 (x7_1 + 1))) = some (r1, r2) := by rw [if_neg (show ¬ (false = true) by decide)] at H; exact H
              clear H
              have H := H1
              clear H1
              have H' := Aside0.mk H
              clear H
              have p20 : 0 ≤ (x7_1 : Int) := of_decide_eq_true (by first | (with_reducible assumption) | assumption)
              have q20 : x7_1 < (a0.size : Int) := of_decide_eq_true (by first | (with_reducible assumption) | assumption)
              have hx20 := bt_at a0 x7_1
              replace p20 := eq_true p20
              replace q20 := eq_true q20
              go_wp2
              go_roundg kj5
              case measure => have := HK1.out; have := HJ5.out; omega
              case rel => exact ⟨(x4_1), (!false), (x6_1), (wrap64 (x7_1 + 1)), (by first | rfl | (simp; done) | (rw [prx_ne]; first | done | rfl) | (simp [*]; done)), (by first | rfl | (simp; done) | (rw [prx_ne]; first | done | rfl) | (simp [*]; done)), (by first | rfl | (simp; done) | (rw [prx_ne]; first | done | rfl) | (simp [*]; done)), H', ⟨by have := HK1.out; have := HJ5.out; omega⟩, ⟨by (with_reducible repeat (first | apply Kd.R_alloc | apply Kd.R_drewN | apply Kd.R_drew)); exact HO_4.out⟩, ⟨by repeat (first | (with_reducible first | exact HB.out | apply below_alloc | apply pw_below_drewN | apply below_drew1) | exact HB.out)⟩⟩
            ·rw [if_neg c21] at H
             have c21b0 : ((bt a0 x7_1) == 44) = false := beq_eq_false_iff_ne.mpr c21
             have c21b1 : ((bt a0 x7_1) != 44) = true := bne_iff_ne.mpr c21
             have H' := Aside0.mk H
             clear H
             have p20 : 0 ≤ (x7_1 : Int) := of_decide_eq_true (by first | (with_reducible assumption) | assumption)
             have q20 : x7_1 < (a0.size : Int) := of_decide_eq_true (by first | (with_reducible assumption) | assumption)
             have hx20 := bt_at a0 x7_1
             replace p20 := eq_true p20
             replace q20 := eq_true q20
             go_wp2
             go_roundg kj5
             case measure => have := HK1.out; have := HJ5.out; omega
             case rel => exact ⟨(x4_1), (!x5_1), (x6_1), (wrap64 (x7_1 + 1)), (by first | rfl | (simp; done) | (rw [prx_ne]; first | done | rfl) | (simp [*]; done)), (by first | rfl | (simp; done) | (rw [prx_ne]; first | done | rfl) | (simp [*]; done)), (by first | rfl | (simp; done) | (rw [prx_ne]; first | done | rfl) | (simp [*]; done)), H', ⟨by have := HK1.out; have := HJ5.out; omega⟩, ⟨by (with_reducible repeat (first | apply Kd.R_alloc | apply Kd.R_drewN | apply Kd.R_drew)); exact HO_4.out⟩, ⟨by repeat (first | (with_reducible first | exact HB.out | apply below_alloc | apply pw_below_drewN | apply below_drew1) | exact HB.out)⟩⟩
           ·rw [if_neg c19] at H
            exact absurd H (by simp)
          ·rw [if_neg c18] at H
           exact absurd H (by simp)
        ·replace c10 := Bool.eq_false_iff.mpr c10
         subst c10
         have H1 : (if x7_1 = (a0.size : Int) then (if 0 ≤ x6_1 then (if x6_1 ≤ x7_1 then (if x7_1 ≤ (a0.size : Int) then ((spec_ahead.f kj5 (a0.extract (x6_1 : Int).toNat (x7_1 : Int).toNat)).bind fun t124 => (if x4_1.length < 8796093022208 then (spec_MediaRanges.l0 kj5 a0 (x4_1 ++ [t124]) x5_1 (wrap64 (x7_1 + 1)) (wrap64 (x7_1 + 1))) else (none))) else (none)) else (none)) else (none)) else (if 0 ≤ x7_1 then (if x7_1 < (a0.size : Int) then (if (bt a0 x7_1) = 44 then (if x5_1 = true then (spec_MediaRanges.l0 kj5 a0 x4_1 x5_1 x6_1 (wrap64 (x7_1 + 1))) else (if 0 ≤ x6_1 then (if x6_1 ≤ x7_1 then (if x7_1 ≤ (a0.size : Int) then ((spec_ahead.f kj5 (a0.extract (x6_1 : Int).toNat (x7_1 : Int).toNat)).bind fun t128 => (if x4_1.length < 8796093022208 then (spec_MediaRanges.l0 kj5 a0 (x4_1 ++ [t128]) x5_1 (wrap64 (x7_1 + 1)) (wrap64 (x7_1 + 1))) else (none))) else (none)) else (none)) else (none))) else (spec_MediaRanges.l0 kj5 a0 x4_1 x5_1 x6_1 (wrap64 (x7_1 + 1)))) else (none)) else (none))) = some (r1, r2) := by rw [if_neg (show ¬ (false = true) by decide)] at H; exact H
         clear H
         have H := H1
         clear H1
         by_cases c29 : x7_1 = (a0.size : Int)
         ·rw [if_pos c29] at H
          have c29b0 : (x7_1 == (a0.size : Int)) = true := beq_iff_eq.mpr c29
          have c29b1 : (x7_1 != (a0.size : Int)) = false := bne_eq_false_iff_eq.mpr c29
          clear c29
          by_cases c30 : 0 ≤ x6_1
          ·rw [if_pos c30] at H
           have c30b0 := eq_true c30
           have c30b1 : decide (0 ≤ x6_1) = true := decide_eq_true c30
           clear c30
           by_cases c31 : x6_1 ≤ x7_1
           ·rw [if_pos c31] at H
            have c31b0 := eq_true c31
            have c31b1 : decide (x6_1 ≤ x7_1) = true := decide_eq_true c31
            clear c31
            by_cases c32 : x7_1 ≤ (a0.size : Int)
            ·rw [if_pos c32] at H
             have c32b0 := eq_true c32
             have c32b1 : decide (x7_1 ≤ (a0.size : Int)) = true := decide_eq_true c32
             clear c32
             replace H := Option.bind_eq_some_iff.mp H
             obtain ⟨t124, A330, H⟩ := H
             replace H : (if x4_1.length < 8796093022208 then (spec_MediaRanges.l0 kj5 a0 (x4_1 ++ [t124]) x5_1 (wrap64 (x7_1 + 1)) (wrap64 (x7_1 + 1))) else (none)) = some (r1, r2) := H
             have A33 := Aside0.mk A330
             clear A330
             by_cases c34 : x4_1.length < 8796093022208
             ·rw [if_pos c34] at H
              have LMc34 := Aside0.mk c34
              clear c34
              obtain ⟨y125, hy125⟩ : ∃ y_ : List ByteArray, y_ = (x4_1 ++ [t124]) := ⟨_, rfl⟩
              replace H : (spec_MediaRanges.l0 kj5 a0 y125 x5_1 (wrap64 (x7_1 + 1)) (wrap64 (x7_1 + 1))) = some (r1, r2) := by first | (rw [hy125]; with_reducible exact H) | (have H2_ := (Option.bind_some _ _).symm.trans H; rw [hy125]; with_reducible exact H2_) | (have H2_ := (Option.bind_some _ _).symm.trans H; with_reducible exact H2_) | with_reducible exact H | (rw [hy125]; exact H) | exact H
              have Ny125 := Aside0.mk hy125
              clear hy125
              have H' := Aside0.mk H
              clear H
              go_wp2_with (first | ((with_reducible refine gate_callee (f := 25) rfl ?_); refine goesL_ (some 52) rfl rfl Try.func25 (by kernel_rfl) rfl #[.string (a0.extract (x6_1 : Int).toNat (x7_1 : Int).toNat)] rfl (by (try simp only [List.map_toArray, List.map_cons, List.map_nil]); first | done | rfl | (simp only [List.length_drop, List.length_take]; rfl)) ?_; (with_reducible refine (spec_ahead.calls kj5 (a0.extract (x6_1 : Int).toNat (x7_1 : Int).toNat) t124 _ A33.out).mono ?_); rintro e w' ⟨rfl, ⟨nd, rfl⟩⟩; refine ⟨_, rfl, ?_⟩) | ((with_reducible refine gate_builtin (b := .append) (xs := #[.tmp 47, .tmp 53]) rfl ?_); at_builtin; refine Kd.R_append Kd.string (w0 := w) w.heap.size rfl (.tmp 47) (.tmp 53) 22 9 (.string ⟨#[]⟩) 16 rfl Try.underlying22 info9 rfl (by decide) (by omega) u4 x4_1 t124 [.string t124] (fun _ => True) (fun _ => False) rfl rfl ?aP (fun _ hk => hk.elim) ?aF ?aO ?aB ?aS ?aL ?_; (case aP => exact rfl); (case aB => exact (by repeat (first | (with_reducible first | exact HB.out | apply below_alloc | apply pw_below_drewN | apply below_drew1) | exact HB.out))); (case aF => exact (fun _ _ => trivial)); (case aO => exact (by (with_reducible repeat (first | apply Kd.R_alloc | apply Kd.R_drewN | apply Kd.R_drew)); exact HO_4.out)); (case aS => exact (below_size (by repeat (first | (with_reducible first | exact HB.out | apply below_alloc | apply pw_below_drewN | apply below_drew1) | exact HB.out)))); (case aL => have := LMc34.out; omega); intro v126 w35 ho hb hg hat; rw [← Ny125.out] at ho; have n0_ := Aside0.mk (hb); have n1_ := Aside0.mk (ho); clear HB; clear HO_4; have HB := n0_; have HO127 := n1_; clear n0_ n1_; clear ho hb hg hat))
              go_roundg kj5
              case measure => have := HK1.out; have := HJ5.out; omega
              case rel => exact ⟨(y125), (x5_1), (wrap64 (x7_1 + 1)), (wrap64 (x7_1 + 1)), (by first | rfl | (simp; done) | (rw [prx_ne]; first | done | rfl) | (simp [*]; done)), (by first | rfl | (simp; done) | (rw [prx_ne]; first | done | rfl) | (simp [*]; done)), (by first | rfl | (simp; done) | (rw [prx_ne]; first | done | rfl) | (simp [*]; done)), H', ⟨by have := HK1.out; have := HJ5.out; omega⟩, ⟨by (with_reducible repeat (first | apply Kd.R_alloc | apply Kd.R_drewN | apply Kd.R_drew)); exact HO127.out⟩, ⟨by repeat (first | (with_reducible first | exact HB.out | apply below_alloc | apply pw_below_drewN | apply below_drew1) | exact HB.out)⟩⟩
             ·rw [if_neg c34] at H
              exact absurd H (by simp)
            ·rw [if_neg c32] at H
             exact absurd H (by simp)
           ·rw [if_neg c31] at H
            exact absurd H (by simp)
          ·rw [if_neg c30] at H
           exact absurd H (by simp)
         ·rw [if_neg c29] at H
          have c29b0 : (x7_1 == (a0.size : Int)) = false := beq_eq_false_iff_ne.mpr c29
          have c29b1 : (x7_1 != (a0.size : Int)) = true := bne_iff_ne.mpr c29
          by_cases c36 : 0 ≤ x7_1
          ·rw [if_pos c36] at H
           have c36b0 : decide (0 ≤ x7_1) = true := decide_eq_true c36
           clear c36
           by_cases c37 : x7_1 < (a0.size : Int)
           ·rw [if_pos c37] at H
            have c37b0 : decide (x7_1 < (a0.size : Int)) = true := decide_eq_true c37
            clear c37
            by_cases c39 : (bt a0 x7_1) = 44
            ·rw [if_pos c39] at H
             have c39b0 : ((bt a0 x7_1) == 44) = true := beq_iff_eq.mpr c39
             have c39b1 : ((bt a0 x7_1) != 44) = false := bne_eq_false_iff_eq.mpr c39
             clear c39
             by_cases c40 : x5_1 = true
             ·subst c40
              have H1 : (spec_MediaRanges.l0 kj5 a0 x4_1 true x6_1 (wrap64 (x7_1 + 1))) = some (r1, r2) := by rw [if_pos rfl] at H; exact H
              clear H
              have H := H1
              clear H1
              have H' := Aside0.mk H
              clear H
              have p38 : 0 ≤ (x7_1 : Int) := of_decide_eq_true (by first | (with_reducible assumption) | assumption)
              have q38 : x7_1 < (a0.size : Int) := of_decide_eq_true (by first | (with_reducible assumption) | assumption)
              have hx38 := bt_at a0 x7_1
              replace p38 := eq_true p38
              replace q38 := eq_true q38
              go_wp2
              go_roundg kj5
              case measure => have := HK1.out; have := HJ5.out; omega
              case rel => exact ⟨(x4_1), (true), (x6_1), (wrap64 (x7_1 + 1)), (by first | rfl | (simp; done) | (rw [prx_ne]; first | done | rfl) | (simp [*]; done)), (by first | rfl | (simp; done) | (rw [prx_ne]; first | done | rfl) | (simp [*]; done)), (by first | rfl | (simp; done) | (rw [prx_ne]; first | done | rfl) | (simp [*]; done)), H', ⟨by have := HK1.out; have := HJ5.out; omega⟩, ⟨by (with_reducible repeat (first | apply Kd.R_alloc | apply Kd.R_drewN | apply Kd.R_drew)); exact HO_4.out⟩, ⟨by repeat (first | (with_reducible first | exact HB.out | apply below_alloc | apply pw_below_drewN | apply below_drew1) | exact HB.out)⟩⟩
             ·replace c40 := Bool.eq_false_iff.mpr c40
              subst c40
              have H1 : (if 0 ≤ x6_1 then (if x6_1 ≤ x7_1 then (if x7_1 ≤ (a0.size : Int) then ((spec_ahead.f kj5 (a0.extract (x6_1 : Int).toNat (x7_1 : Int).toNat)).bind fun t128 => (if x4_1.length < 8796093022208 then (spec_MediaRanges.l0 kj5 a0 (x4_1 ++ [t128]) false (wrap64 (x7_1 + 1)) (wrap64 (x7_1 + 1))) else (none))) else (none)) else (none)) else (none)) = some (r1, r2) := by rw [if_neg (show ¬ (false = true) by decide)] at H; exact H
              clear H
              have H := H1
              clear H1
              by_cases c41 : 0 ≤ x6_1
              ·rw [if_pos c41] at H
               have c41b0 := eq_true c41
               have c41b1 : decide (0 ≤ x6_1) = true := decide_eq_true c41
               clear c41
               by_cases c42 : x6_1 ≤ x7_1
               ·rw [if_pos c42] at H
                have c42b0 := eq_true c42
                have c42b1 : decide (x6_1 ≤ x7_1) = true := decide_eq_true c42
                clear c42
                by_cases c43 : x7_1 ≤ (a0.size : Int)
                ·rw [if_pos c43] at H
                 have c43b0 := eq_true c43
                 have c43b1 : decide (x7_1 ≤ (a0.size : Int)) = true := decide_eq_true c43
                 clear c43
                 replace H := Option.bind_eq_some_iff.mp H
                 obtain ⟨t128, A440, H⟩ := H
                 replace H : (if x4_1.length < 8796093022208 then (spec_MediaRanges.l0 kj5 a0 (x4_1 ++ [t128]) false (wrap64 (x7_1 + 1)) (wrap64 (x7_1 + 1))) else (none)) = some (r1, r2) := H
                 have A44 := Aside0.mk A440
                 clear A440
                 by_cases c45 : x4_1.length < 8796093022208
                 ·rw [if_pos c45] at H
                  have LMc45 := Aside0.mk c45
                  clear c45
                  obtain ⟨y129, hy129⟩ : ∃ y_ : List ByteArray, y_ = (x4_1 ++ [t128]) := ⟨_, rfl⟩
                  replace H : (spec_MediaRanges.l0 kj5 a0 y129 false (wrap64 (x7_1 + 1)) (wrap64 (x7_1 + 1))) = some (r1, r2) := by first | (rw [hy129]; with_reducible exact H) | (have H2_ := (Option.bind_some _ _).symm.trans H; rw [hy129]; with_reducible exact H2_) | (have H2_ := (Option.bind_some _ _).symm.trans H; with_reducible exact H2_) | with_reducible exact H | (rw [hy129]; exact H) | exact H
                  have Ny129 := Aside0.mk hy129
                  clear hy129
                  have H' := Aside0.mk H
                  clear H
                  have p38 : 0 ≤ (x7_1 : Int) := of_decide_eq_true (by first | (with_reducible assumption) | assumption)
                  have q38 : x7_1 < (a0.size : Int) := of_decide_eq_true (by first | (with_reducible assumption) | assumption)
                  have hx38 := bt_at a0 x7_1
                  replace p38 := eq_true p38
                  replace q38 := eq_true q38
                  go_wp2_with (first | ((with_reducible refine gate_callee (f := 25) rfl ?_); refine goesL_ (some 52) rfl rfl Try.func25 (by kernel_rfl) rfl #[.string (a0.extract (x6_1 : Int).toNat (x7_1 : Int).toNat)] rfl (by (try simp only [List.map_toArray, List.map_cons, List.map_nil]); first | done | rfl | (simp only [List.length_drop, List.length_take]; rfl)) ?_; (with_reducible refine (spec_ahead.calls kj5 (a0.extract (x6_1 : Int).toNat (x7_1 : Int).toNat) t128 _ A44.out).mono ?_); rintro e w' ⟨rfl, ⟨nd, rfl⟩⟩; refine ⟨_, rfl, ?_⟩) | ((with_reducible refine gate_builtin (b := .append) (xs := #[.tmp 47, .tmp 53]) rfl ?_); at_builtin; refine Kd.R_append Kd.string (w0 := w) w.heap.size rfl (.tmp 47) (.tmp 53) 22 9 (.string ⟨#[]⟩) 16 rfl Try.underlying22 info9 rfl (by decide) (by omega) u4 x4_1 t128 [.string t128] (fun _ => True) (fun _ => False) rfl rfl ?aP (fun _ hk => hk.elim) ?aF ?aO ?aB ?aS ?aL ?_; (case aP => exact rfl); (case aB => exact (by repeat (first | (with_reducible first | exact HB.out | apply below_alloc | apply pw_below_drewN | apply below_drew1) | exact HB.out))); (case aF => exact (fun _ _ => trivial)); (case aO => exact (by (with_reducible repeat (first | apply Kd.R_alloc | apply Kd.R_drewN | apply Kd.R_drew)); exact HO_4.out)); (case aS => exact (below_size (by repeat (first | (with_reducible first | exact HB.out | apply below_alloc | apply pw_below_drewN | apply below_drew1) | exact HB.out)))); (case aL => have := LMc45.out; omega); intro v130 w46 ho hb hg hat; rw [← Ny129.out] at ho; have n0_ := Aside0.mk (hb); have n1_ := Aside0.mk (ho); clear HB; clear HO_4; have HB := n0_; have HO131 := n1_; clear n0_ n1_; clear ho hb hg hat))
                  go_roundg kj5
                  case measure => have := HK1.out; have := HJ5.out; omega
                  case rel => exact ⟨(y129), (false), (wrap64 (x7_1 + 1)), (wrap64 (x7_1 + 1)), (by first | rfl | (simp; done) | (rw [prx_ne]; first | done | rfl) | (simp [*]; done)), (by first | rfl | (simp; done) | (rw [prx_ne]; first | done | rfl) | (simp [*]; done)), (by first | rfl | (simp; done) | (rw [prx_ne]; first | done | rfl) | (simp [*]; done)), H', ⟨by have := HK1.out; have := HJ5.out; omega⟩, ⟨by (with_reducible repeat (first | apply Kd.R_alloc | apply Kd.R_drewN | apply Kd.R_drew)); exact HO131.out⟩, ⟨by repeat (first | (with_reducible first | exact HB.out | apply below_alloc | apply pw_below_drewN | apply below_drew1) | exact HB.out)⟩⟩
                 ·rw [if_neg c45] at H
                  exact absurd H (by simp)
                ·rw [if_neg c43] at H
                 exact absurd H (by simp)
               ·rw [if_neg c42] at H
                exact absurd H (by simp)
              ·rw [if_neg c41] at H
               exact absurd H (by simp)
            ·rw [if_neg c39] at H
             have c39b0 : ((bt a0 x7_1) == 44) = false := beq_eq_false_iff_ne.mpr c39
             have c39b1 : ((bt a0 x7_1) != 44) = true := bne_iff_ne.mpr c39
             have H' := Aside0.mk H
             clear H
             have p38 : 0 ≤ (x7_1 : Int) := of_decide_eq_true (by first | (with_reducible assumption) | assumption)
             have q38 : x7_1 < (a0.size : Int) := of_decide_eq_true (by first | (with_reducible assumption) | assumption)
             have hx38 := bt_at a0 x7_1
             replace p38 := eq_true p38
             replace q38 := eq_true q38
             go_wp2
             go_roundg kj5
             case measure => have := HK1.out; have := HJ5.out; omega
             case rel => exact ⟨(x4_1), (x5_1), (x6_1), (wrap64 (x7_1 + 1)), (by first | rfl | (simp; done) | (rw [prx_ne]; first | done | rfl) | (simp [*]; done)), (by first | rfl | (simp; done) | (rw [prx_ne]; first | done | rfl) | (simp [*]; done)), (by first | rfl | (simp; done) | (rw [prx_ne]; first | done | rfl) | (simp [*]; done)), H', ⟨by have := HK1.out; have := HJ5.out; omega⟩, ⟨by (with_reducible repeat (first | apply Kd.R_alloc | apply Kd.R_drewN | apply Kd.R_drew)); exact HO_4.out⟩, ⟨by repeat (first | (with_reducible first | exact HB.out | apply below_alloc | apply pw_below_drewN | apply below_drew1) | exact HB.out)⟩⟩
           ·rw [if_neg c37] at H
            exact absurd H (by simp)
          ·rw [if_neg c36] at H
           exact absurd H (by simp)
     ·rw [if_neg c5] at H
      have c5b0 : decide (x7_1 ≤ (a0.size : Int)) = false := decide_eq_false c5
      clear c5
      have H' := Aside0.mk H
      clear H
      obtain ⟨Ao47, co47, eo47⟩ := Kd.R_slice HO_4.out
      subst eo47
      go_wp2
      go_loopg [59] k1 (fun kq v59 w' => ∃ (x59_2 : Int), v59 = .int .i64 x59_2 ∧ Aside0 (spec_MediaRanges.l1 kq x4_1 x5_1 x4_1 (x4_1.length : Int) x59_2 = some (r1, r2)) ∧ Aside0 (kq ≤ k1) ∧ Aside0 (Kd.R Kd.string 9 w' w.heap.size (fun _ => True) (.slice Ao47 x4_1.length co47) x4_1) ∧ Aside0 (Kd.R Kd.string 9 w' w.heap.size (fun _ => True) (.slice Ao47 x4_1.length co47) x4_1) ∧ Aside0 (Below w.heap.size w w'))
      case atStart => exact ⟨(0), (by first | rfl | (simp; done) | (rw [prx_ne]; first | done | rfl) | (simp [*]; done)), H', ⟨Nat.le_refl _⟩, ⟨by (with_reducible repeat (first | apply Kd.R_alloc | apply Kd.R_drewN | apply Kd.R_drew)); exact HO_4.out⟩, ⟨by (with_reducible repeat (first | apply Kd.R_alloc | apply Kd.R_drewN | apply Kd.R_drew)); exact HO_4.out⟩, ⟨by repeat (first | (with_reducible first | exact HB.out | apply below_alloc | apply pw_below_drewN | apply below_drew1) | exact HB.out)⟩⟩
      case round =>
       clear H'
       try clear c1
       try clear c2
       try clear p2
       try clear q2
       try clear hx2
       try clear c3
       try clear c3b0
       try clear p3
       try clear q3
       try clear hx3
       try clear c4
       try clear c4b0
       try clear c4b1
       try clear c5
       try clear c5b0
       try clear p6
       try clear c7
       try clear c7b0
       try clear c8
       try clear c8b0
       try clear c9
       try clear p9
       try clear q9
       try clear hx9
       try clear c10
       try clear c11
       try clear c11b0
       try clear c11b1
       try clear c12
       try clear c12b0
       try clear c12b1
       try clear c13
       try clear c13b0
       try clear c13b1
       try clear c14
       try clear c14b0
       try clear c14b1
       try clear c16
       try clear c18
       try clear c18b0
       try clear c19
       try clear c19b0
       try clear p20
       try clear q20
       try clear hx20
       try clear c21
       try clear c21b0
       try clear c21b1
       try clear c22
       try clear c23
       try clear c23b0
       try clear c23b1
       try clear c24
       try clear c24b0
       try clear c24b1
       try clear c25
       try clear c25b0
       try clear c25b1
       try clear c27
       try clear c29
       try clear c29b0
       try clear c29b1
       try clear c30
       try clear c30b0
       try clear c30b1
       try clear c31
       try clear c31b0
       try clear c31b1
       try clear c32
       try clear c32b0
       try clear c32b1
       try clear c34
       try clear c36
       try clear c36b0
       try clear c37
       try clear c37b0
       try clear p38
       try clear q38
       try clear hx38
       try clear c39
       try clear c39b0
       try clear c39b1
       try clear c40
       try clear c41
       try clear c41b0
       try clear c41b1
       try clear c42
       try clear c42b0
       try clear c42b1
       try clear c43
       try clear c43b0
       try clear c43b1
       try clear c45
       try clear p2
       try clear p20
       try clear p38
       try clear p9
       try clear q20
       try clear q38
       try clear q9
       obtain ⟨x59_2, rfl, HA, HK2, HO_4, HO_57, HB⟩ := hrel
       cases gk with
       | zero => exact absurd HA.out (by simp [spec_MediaRanges.l1])
       | succ k2 =>
        have H := HA.out
        clear HA
        simp only [spec_MediaRanges.l1] at H
        by_cases c48 : x59_2 < (x4_1.length : Int)
        ·rw [if_pos c48] at H
         have c48b0 : decide (x59_2 < (x4_1.length : Int)) = true := decide_eq_true c48
         clear c48
         by_cases c49 : 0 ≤ x59_2
         ·rw [if_pos c49] at H
          have c49b0 : decide (0 ≤ x59_2) = true := decide_eq_true c49
          clear c49
          by_cases c50 : x59_2 < (x4_1.length : Int)
          ·rw [if_pos c50] at H
           have c50b0 : decide (x59_2 < (x4_1.length : Int)) = true := decide_eq_true c50
           clear c50
           by_cases c51 : (rdOf ByteArray.empty x4_1 x59_2).toList = ([] : List UInt8)
           ·rw [if_pos c51] at H
            have c51b0 : ((rdOf ByteArray.empty x4_1 x59_2).toList == ([] : List UInt8)) = true := beq_iff_eq.mpr c51
            have c51b1 : ((rdOf ByteArray.empty x4_1 x59_2).toList != ([] : List UInt8)) = false := bne_eq_false_iff_eq.mpr c51
            clear c51
            simp only [Option.some.injEq, Prod.mk.injEq] at H
            obtain ⟨rfl, rfl⟩ := H
            have p132 : 0 ≤ (x59_2 : Int) := of_decide_eq_true (by first | (with_reducible assumption) | assumption)
            have q132 : x59_2 < (x4_1.length : Int) := of_decide_eq_true (by first | (with_reducible assumption) | assumption)
            obtain ⟨ad132, e132, hx132_0⟩ := Kd.at_string (Kd.R_reads' HO_57.out).2.2 x59_2 p132 q132
            cases e132
            replace p132 := eq_true p132
            replace q132 := eq_true q132
            go_wp2
            go_ret2
            exact ⟨_, by first | rfl | (simp [errW_none, errW_some] <;> rfl) | (simp [*, errW_none, errW_some] <;> rfl), by first | exact Kd.R_nil _ _ _ _ _ | exact Kd.N_nil _ _ _ _ _ | exact Kd.V_nil _ _ _ _ _ | exact Kd.Q_nil _ _ _ _ _ | exact Kd.S_nil _ _ _ _ _, by repeat (first | (with_reducible first | exact HB.out | apply below_alloc | apply pw_below_drewN | apply below_drew1) | exact HB.out)⟩
           ·rw [if_neg c51] at H
            have c51b0 : ((rdOf ByteArray.empty x4_1 x59_2).toList == ([] : List UInt8)) = false := beq_eq_false_iff_ne.mpr c51
            have c51b1 : ((rdOf ByteArray.empty x4_1 x59_2).toList != ([] : List UInt8)) = true := bne_iff_ne.mpr c51
            have H' := Aside0.mk H
            clear H
            have p132 : 0 ≤ (x59_2 : Int) := of_decide_eq_true (by first | (with_reducible assumption) | assumption)
            have q132 : x59_2 < (x4_1.length : Int) := of_decide_eq_true (by first | (with_reducible assumption) | assumption)
            obtain ⟨ad132, e132, hx132_0⟩ := Kd.at_string (Kd.R_reads' HO_57.out).2.2 x59_2 p132 q132
            cases e132
            replace p132 := eq_true p132
            replace q132 := eq_true q132
            go_wp2
            go_roundg k2
            case measure => have := HK1.out; have := HK2.out; omega
            case rel => exact ⟨(wrap64 (x59_2 + 1)), (by first | rfl | (simp; done) | (rw [prx_ne]; first | done | rfl) | (simp [*]; done)), H', ⟨by have := HK1.out; have := HK2.out; omega⟩, ⟨by (with_reducible repeat (first | apply Kd.R_alloc | apply Kd.R_drewN | apply Kd.R_drew)); exact HO_4.out⟩, ⟨by (with_reducible repeat (first | apply Kd.R_alloc | apply Kd.R_drewN | apply Kd.R_drew)); exact HO_57.out⟩, ⟨by repeat (first | (with_reducible first | exact HB.out | apply below_alloc | apply pw_below_drewN | apply below_drew1) | exact HB.out)⟩⟩
          ·rw [if_neg c50] at H
           exact absurd H (by simp)
         ·rw [if_neg c49] at H
          exact absurd H (by simp)
        ·rw [if_neg c48] at H
         have c48b0 : decide (x59_2 < (x4_1.length : Int)) = false := decide_eq_false c48
         clear c48
         by_cases c52 : x5_1 = true
         ·subst c52
          have H1 : (some (([] : List ByteArray), 2)) = some (r1, r2) := by rw [if_pos rfl] at H; exact H
          clear H
          have H := H1
          clear H1
          simp only [Option.some.injEq, Prod.mk.injEq] at H
          obtain ⟨rfl, rfl⟩ := H
          go_wp2
          go_ret2
          exact ⟨_, by first | rfl | (simp [errW_none, errW_some] <;> rfl) | (simp [*, errW_none, errW_some] <;> rfl), by first | exact Kd.R_nil _ _ _ _ _ | exact Kd.N_nil _ _ _ _ _ | exact Kd.V_nil _ _ _ _ _ | exact Kd.Q_nil _ _ _ _ _ | exact Kd.S_nil _ _ _ _ _, by repeat (first | (with_reducible first | exact HB.out | apply below_alloc | apply pw_below_drewN | apply below_drew1) | exact HB.out)⟩
         ·replace c52 := Bool.eq_false_iff.mpr c52
          subst c52
          have H1 : (some (x4_1, 1)) = some (r1, r2) := by rw [if_neg (show ¬ (false = true) by decide)] at H; exact H
          clear H
          have H := H1
          clear H1
          simp only [Option.some.injEq, Prod.mk.injEq] at H
          obtain ⟨rfl, rfl⟩ := H
          go_wp2
          go_ret2
          exact ⟨_, by first | rfl | (simp [errW_none, errW_some] <;> rfl) | (simp [*, errW_none, errW_some] <;> rfl), by (with_reducible repeat (first | apply Kd.R_alloc | apply Kd.R_drewN | apply Kd.R_drew)); exact HO_4.out, by repeat (first | (with_reducible first | exact HB.out | apply below_alloc | apply pw_below_drewN | apply below_drew1) | exact HB.out)⟩
end Go.Proofs.Ytgmjaggkiifdjaa.QA
namespace Go.Proofs.Ytgmjaggkiifdjaa.QA
open Go.Proofs.Ytgmjaggkiifdjaa.Given
open Go.Proofs.Ytgmjaggkiifdjaa.PrX
open Go.RowKit Go.Proofs.YtgmjaggkiifdjaaW.PrintWords Go.Proofs.YtgmjaggkiifdjaaW.PrintLast Go.Proofs.YtgmjaggkiifdjaaW.PrintMore
def laws_sameTexts.l0 : Nat → List ByteArray → List ByteArray → Int → Int → Option (Bool)
  | 0, _, _, _, _ => none
  | k + 1, x0, x1, x12, x13 => if x13 < x12 then (if 0 ≤ x13 then (if x13 < (x0.length : Int) then (if x13 < (x1.length : Int) then (if (rdOf ByteArray.empty x0 x13).toList = (rdOf ByteArray.empty x1 x13).toList then (laws_sameTexts.l0 k x0 x1 x12 (wrap64 (x13 + 1))) else (some false)) else (none)) else (none)) else (none)) else (some true)
def laws_sameTexts.f (k : Nat) (l0 : List ByteArray) (l1 : List ByteArray) : Option (Bool) := if (l0.length : Int) = (l1.length : Int) then (laws_sameTexts.l0 k l0 l1 (l0.length : Int) 0) else (some false)
set_option maxHeartbeats 8000000 in
set_option maxRecDepth 100000 in
theorem laws_sameTexts.calls (k : Nat) (A0 : Option Addr) (c0 : Nat) (l0 : List ByteArray) (A1 : Option Addr) (c1 : Nat) (l1 : List ByteArray) (r : Bool) (w : World) (hr0 : Kd.C Kd.string w A0 l0.length l0) (hc0 : l0.length ≤ c0) (hr1 : Kd.C Kd.string w A1 l1.length l1) (hc1 : l1.length ≤ c1) (h : laws_sameTexts.f k l0 l1 = some r) :
    Calls Try.prog 10 #[.slice A0 l0.length c0, .slice A1 l1.length c1] w fun e w' => e = .returned (.bool r) ∧ Drawn0 w w' := by
  have HR0 := Aside0.mk hr0
  have HC0 := Aside0.mk hc0
  clear hr0 hc0
  have HR1 := Aside0.mk hr1
  have HC1 := Aside0.mk hc1
  clear hr1 hc1
  have H : (if (l0.length : Int) = (l1.length : Int) then (laws_sameTexts.l0 k l0 l1 (l0.length : Int) 0) else (some false)) = some r := h
  clear h
  by_cases c3 : (l0.length : Int) = (l1.length : Int)
  · rw [if_pos c3] at H
    have c3b0 : ((l0.length : Int) == (l1.length : Int)) = true := beq_iff_eq.mpr c3
    have c3b1 : ((l0.length : Int) != (l1.length : Int)) = false := bne_eq_false_iff_eq.mpr c3
    have c3b2 : (l0.length == l1.length) = true := by first | simpa using c3 | (simp at c3 ⊢; omega)
    clear c3
    have H' := Aside0.mk H
    clear H
    go_enter Try.func10, Try.ntmps10
    go_wp2
    repeat (go_quiet (fail); try go_wp2)
    go_loopg [13] k (fun kq v13 w' => ∃ (x13_1 : Int), v13 = .int .i64 x13_1 ∧ Aside0 (laws_sameTexts.l0 kq l0 l1 (l0.length : Int) x13_1 = some r) ∧ Aside0 (kq ≤ k) ∧ Drawn0 w w')
    case atStart => exact ⟨(0), (by first | rfl | (simp; done) | (rw [prx_ne]; first | done | rfl) | (simp [*]; done)), H', ⟨Nat.le_refl _⟩, by repeat (first | exact Drawn0.refl _ | apply Drawn0.step)⟩
    case round =>
      clear H'
      try clear c1
      try clear p2
      try clear c3
      try clear c3b0
      try clear c3b1
      try clear c3b2
      obtain ⟨x13_1, rfl, HA, HK1, ⟨m1, rfl⟩⟩ := hrel
      cases gk with
      | zero => exact absurd HA.out (by simp [laws_sameTexts.l0])
      | succ k1 =>
        have H := HA.out
        clear HA
        simp only [laws_sameTexts.l0] at H
        by_cases c4 : x13_1 < (l0.length : Int)
        · rw [if_pos c4] at H
          have c4b0 : decide (x13_1 < (l0.length : Int)) = true := decide_eq_true c4
          clear c4
          by_cases c5 : 0 ≤ x13_1
          · rw [if_pos c5] at H
            have c5b0 : decide (0 ≤ x13_1) = true := decide_eq_true c5
            clear c5
            by_cases c6 : x13_1 < (l0.length : Int)
            · rw [if_pos c6] at H
              have c6b0 : decide (x13_1 < (l0.length : Int)) = true := decide_eq_true c6
              clear c6
              by_cases c7 : x13_1 < (l1.length : Int)
              · rw [if_pos c7] at H
                have c7b0 : decide (x13_1 < (l1.length : Int)) = true := decide_eq_true c7
                clear c7
                by_cases c8 : (rdOf ByteArray.empty l0 x13_1).toList = (rdOf ByteArray.empty l1 x13_1).toList
                · rw [if_pos c8] at H
                  have c8b0 : ((rdOf ByteArray.empty l0 x13_1).toList == (rdOf ByteArray.empty l1 x13_1).toList) = true := beq_iff_eq.mpr c8
                  have c8b1 : ((rdOf ByteArray.empty l0 x13_1).toList != (rdOf ByteArray.empty l1 x13_1).toList) = false := bne_eq_false_iff_eq.mpr c8
                  clear c8
                  have H' := Aside0.mk H
                  clear H
                  have p133 : 0 ≤ (x13_1 : Int) := of_decide_eq_true (by first | (with_reducible assumption) | assumption)
                  have q133 : x13_1 < (l0.length : Int) := of_decide_eq_true (by first | (with_reducible assumption) | assumption)
                  obtain ⟨ad133, e133, hx133_0⟩ := Kd.at_string HR0.out x13_1 p133 q133
                  cases e133
                  replace p133 := eq_true p133
                  replace q133 := eq_true q133
                  have p134 : 0 ≤ (x13_1 : Int) := of_decide_eq_true (by first | (with_reducible assumption) | assumption)
                  have q134 : x13_1 < (l1.length : Int) := of_decide_eq_true (by first | (with_reducible assumption) | assumption)
                  obtain ⟨ad134, e134, hx134_0⟩ := Kd.at_string HR1.out x13_1 p134 q134
                  cases e134
                  replace p134 := eq_true p134
                  replace q134 := eq_true q134
                  go_wp2
                  repeat (go_quiet (fail); try go_wp2)
                  go_roundg k1
                  case measure => have := HK1.out; omega
                  case rel => exact ⟨(wrap64 (x13_1 + 1)), (by first | rfl | (simp; done) | (rw [prx_ne]; first | done | rfl) | (simp [*]; done)), H', ⟨by have := HK1.out; omega⟩, by repeat (first | exact Drawn0.refl _ | apply Drawn0.step)⟩
                · rw [if_neg c8] at H
                  have c8b0 : ((rdOf ByteArray.empty l0 x13_1).toList == (rdOf ByteArray.empty l1 x13_1).toList) = false := beq_eq_false_iff_ne.mpr c8
                  have c8b1 : ((rdOf ByteArray.empty l0 x13_1).toList != (rdOf ByteArray.empty l1 x13_1).toList) = true := bne_iff_ne.mpr c8
                  obtain rfl := Option.some.inj H
                  have p133 : 0 ≤ (x13_1 : Int) := of_decide_eq_true (by first | (with_reducible assumption) | assumption)
                  have q133 : x13_1 < (l0.length : Int) := of_decide_eq_true (by first | (with_reducible assumption) | assumption)
                  obtain ⟨ad133, e133, hx133_0⟩ := Kd.at_string HR0.out x13_1 p133 q133
                  cases e133
                  replace p133 := eq_true p133
                  replace q133 := eq_true q133
                  have p134 : 0 ≤ (x13_1 : Int) := of_decide_eq_true (by first | (with_reducible assumption) | assumption)
                  have q134 : x13_1 < (l1.length : Int) := of_decide_eq_true (by first | (with_reducible assumption) | assumption)
                  obtain ⟨ad134, e134, hx134_0⟩ := Kd.at_string HR1.out x13_1 p134 q134
                  cases e134
                  replace p134 := eq_true p134
                  replace q134 := eq_true q134
                  go_wp2
                  repeat (go_quiet (fail); try go_wp2)
                  go_ret
                  exact ⟨by first | rfl | (simp; done) | (rw [prx_ne]; first | done | rfl) | (simp [*]; done), by repeat (first | exact Drawn0.refl _ | apply Drawn0.step)⟩
              · rw [if_neg c7] at H
                exact absurd H (by simp)
            · rw [if_neg c6] at H
              exact absurd H (by simp)
          · rw [if_neg c5] at H
            exact absurd H (by simp)
        · rw [if_neg c4] at H
          have c4b0 : decide (x13_1 < (l0.length : Int)) = false := decide_eq_false c4
          clear c4
          obtain rfl := Option.some.inj H
          go_wp2
          repeat (go_quiet (fail); try go_wp2)
          go_ret
          exact ⟨by first | rfl | (simp; done) | (rw [prx_ne]; first | done | rfl) | (simp [*]; done), by repeat (first | exact Drawn0.refl _ | apply Drawn0.step)⟩
  · rw [if_neg c3] at H
    have c3b0 : ((l0.length : Int) == (l1.length : Int)) = false := beq_eq_false_iff_ne.mpr c3
    have c3b1 : ((l0.length : Int) != (l1.length : Int)) = true := bne_iff_ne.mpr c3
    have c3b2 : (l0.length == l1.length) = false := by first | simpa using c3 | (simp at c3 ⊢; omega)
    obtain rfl := Option.some.inj H
    go_enter Try.func10, Try.ntmps10
    go_wp2
    repeat (go_quiet (fail); try go_wp2)
    go_ret
    exact ⟨by first | rfl | (simp; done) | (rw [prx_ne]; first | done | rfl) | (simp [*]; done), by repeat (first | exact Drawn0.refl _ | apply Drawn0.step)⟩
def spec_gap.l0 : Nat → ByteArray → Option (ByteArray)
  | 0, _ => none
  | k + 1, x0 => if x0.toList = ([] : List UInt8) then (some x0) else (if 0 < (x0.size : Int) then (if (bt x0 0) = 32 then (if 1 ≤ (x0.size : Int) then (spec_gap.l0 k (x0.extract 1 x0.size)) else (none)) else (if (bt x0 0) = 9 then (if 1 ≤ (x0.size : Int) then (spec_gap.l0 k (x0.extract 1 x0.size)) else (none)) else (some x0))) else (none))
def spec_gap.f (k : Nat) (a0 : ByteArray) : Option (ByteArray) := spec_gap.l0 k a0
theorem spec_gap.mono_l : ∀ k, (∀ y0, LeO (spec_gap.l0 k y0) (spec_gap.l0 (k + 1) y0))
  | 0 => fun _ r h => by simp [spec_gap.l0] at h
  | k + 1 => by
    have ih0 := spec_gap.mono_l k
    · intro y0
      unfold spec_gap.l0
      repeat' first
      | (with_reducible exact ih0 _)
      | (with_reducible exact LeO.refl _)
      | (with_reducible exact LeO.none _)
      | (with_reducible refine LeO.ite ?_ ?_)
      | (with_reducible refine LeO.bind ?_ (fun _ => ?_))
      | exact ih0 _
      | exact LeO.none _
      | refine LeO.ite ?_ ?_
      | refine LeO.bind ?_ (fun _ => ?_)
theorem spec_gap.mono : ∀ a0 k, LeO (spec_gap.f k a0) (spec_gap.f (k + 1) a0) := by
  intro a0 k
  have ih0 := spec_gap.mono_l k
  unfold spec_gap.f
  repeat' first
      | (with_reducible exact ih0 _)
      | (with_reducible exact LeO.refl _)
      | (with_reducible exact LeO.none _)
      | (with_reducible refine LeO.ite ?_ ?_)
      | (with_reducible refine LeO.bind ?_ (fun _ => ?_))
      | exact ih0 _
      | exact LeO.none _
      | refine LeO.ite ?_ ?_
      | refine LeO.bind ?_ (fun _ => ?_)
set_option maxHeartbeats 8000000 in
set_option maxRecDepth 100000 in
theorem spec_gap.calls (k : Nat) (a0 : ByteArray) (r : ByteArray) (w : World) (h : spec_gap.f k a0 = some r) :
    Calls Try.prog 26 #[.string a0] w fun e w' => e = .returned (.string r) ∧ Drawn0 w w' := by
  have H : (spec_gap.l0 k a0) = some r := h
  clear h
  have H' := Aside0.mk H
  clear H
  go_enter Try.func26, Try.ntmps26
  go_wp2
  go_loopg [0] k (fun kq v0 w' => ∃ (x0_1 : ByteArray), v0 = .string x0_1 ∧ Aside0 (spec_gap.l0 kq x0_1 = some r) ∧ Aside0 (kq ≤ k) ∧ Drawn0 w w')
  case atStart => exact ⟨(a0), (by first | rfl | (simp; done) | (rw [prx_ne]; first | done | rfl) | (simp [*]; done)), H', ⟨Nat.le_refl _⟩, by repeat (first | exact Drawn0.refl _ | apply Drawn0.step)⟩
  case round =>
    clear H'
    obtain ⟨x0_1, rfl, HA, HK1, ⟨m1, rfl⟩⟩ := hrel
    cases gk with
    | zero => exact absurd HA.out (by simp [spec_gap.l0])
    | succ k1 =>
      have H := HA.out
      clear HA
      simp only [spec_gap.l0] at H
      by_cases c2 : x0_1.toList = ([] : List UInt8)
      · rw [if_pos c2] at H
        have c2b0 : (x0_1.toList == ([] : List UInt8)) = true := beq_iff_eq.mpr c2
        have c2b1 : (x0_1.toList != ([] : List UInt8)) = false := bne_eq_false_iff_eq.mpr c2
        clear c2
        obtain rfl := Option.some.inj H
        go_wp2
        go_ret
        exact ⟨by first | rfl | (simp; done) | (rw [prx_ne]; first | done | rfl) | (simp [*]; done), by repeat (first | exact Drawn0.refl _ | apply Drawn0.step)⟩
      · rw [if_neg c2] at H
        have c2b0 : (x0_1.toList == ([] : List UInt8)) = false := beq_eq_false_iff_ne.mpr c2
        have c2b1 : (x0_1.toList != ([] : List UInt8)) = true := bne_iff_ne.mpr c2
        by_cases c3 : 0 < (x0_1.size : Int)
        · rw [if_pos c3] at H
          have c3b0 : decide (0 < (x0_1.size : Int)) = true := decide_eq_true c3
          have c3b1 : decide (0 < x0_1.size) = true := decide_eq_true (by omega)
          clear c3
          by_cases c5 : (bt x0_1 0) = 32
          · rw [if_pos c5] at H
            have c5b0 : ((bt x0_1 0) == 32) = true := beq_iff_eq.mpr c5
            have c5b1 : ((bt x0_1 0) != 32) = false := bne_eq_false_iff_eq.mpr c5
            clear c5
            by_cases c6 : 1 ≤ (x0_1.size : Int)
            · rw [if_pos c6] at H
              have c6b0 := eq_true c6
              have c6b1 : decide (1 ≤ (x0_1.size : Int)) = true := decide_eq_true c6
              clear c6
              have H' := Aside0.mk H
              clear H
              have p4 : 0 ≤ (0 : Int) := (by omega)
              have q4 : 0 < x0_1.size := (by have : (0 : Int) < (x0_1.size : Int) := of_decide_eq_true (by first | (with_reducible assumption) | assumption); omega)
              have hx4 : ∀ h : 0 < x0_1.size, ((x0_1[0]'h).toNat : Int) = bt x0_1 0 := bt_at x0_1 0
              clear p4
              have qi4 : (0 < (x0_1.size : Int)) = True := eq_true (of_decide_eq_true (by first | (with_reducible assumption) | assumption))
              replace q4 := eq_true q4
              go_wp2
              go_roundg k1
              case measure => have := HK1.out; omega
              case rel => exact ⟨(x0_1.extract 1 x0_1.size), (by first | rfl | (simp; done) | (rw [prx_ne]; first | done | rfl) | (simp [*]; done)), H', ⟨by have := HK1.out; omega⟩, by repeat (first | exact Drawn0.refl _ | apply Drawn0.step)⟩
            · rw [if_neg c6] at H
              exact absurd H (by simp)
          · rw [if_neg c5] at H
            have c5b0 : ((bt x0_1 0) == 32) = false := beq_eq_false_iff_ne.mpr c5
            have c5b1 : ((bt x0_1 0) != 32) = true := bne_iff_ne.mpr c5
            by_cases c8 : (bt x0_1 0) = 9
            · rw [if_pos c8] at H
              have c8b0 : ((bt x0_1 0) == 9) = true := beq_iff_eq.mpr c8
              have c8b1 : ((bt x0_1 0) != 9) = false := bne_eq_false_iff_eq.mpr c8
              clear c8
              by_cases c9 : 1 ≤ (x0_1.size : Int)
              · rw [if_pos c9] at H
                have c9b0 := eq_true c9
                have c9b1 : decide (1 ≤ (x0_1.size : Int)) = true := decide_eq_true c9
                clear c9
                have H' := Aside0.mk H
                clear H
                have p4 : 0 ≤ (0 : Int) := (by omega)
                have q4 : 0 < x0_1.size := (by have : (0 : Int) < (x0_1.size : Int) := of_decide_eq_true (by first | (with_reducible assumption) | assumption); omega)
                have hx4 : ∀ h : 0 < x0_1.size, ((x0_1[0]'h).toNat : Int) = bt x0_1 0 := bt_at x0_1 0
                clear p4
                have qi4 : (0 < (x0_1.size : Int)) = True := eq_true (of_decide_eq_true (by first | (with_reducible assumption) | assumption))
                replace q4 := eq_true q4
                have p7 : 0 ≤ (0 : Int) := (by omega)
                have q7 : 0 < x0_1.size := (by have : (0 : Int) < (x0_1.size : Int) := of_decide_eq_true (by first | (with_reducible assumption) | assumption); omega)
                have hx7 : ∀ h : 0 < x0_1.size, ((x0_1[0]'h).toNat : Int) = bt x0_1 0 := bt_at x0_1 0
                clear p7
                have qi7 : (0 < (x0_1.size : Int)) = True := eq_true (of_decide_eq_true (by first | (with_reducible assumption) | assumption))
                replace q7 := eq_true q7
                go_wp2
                go_roundg k1
                case measure => have := HK1.out; omega
                case rel => exact ⟨(x0_1.extract 1 x0_1.size), (by first | rfl | (simp; done) | (rw [prx_ne]; first | done | rfl) | (simp [*]; done)), H', ⟨by have := HK1.out; omega⟩, by repeat (first | exact Drawn0.refl _ | apply Drawn0.step)⟩
              · rw [if_neg c9] at H
                exact absurd H (by simp)
            · rw [if_neg c8] at H
              have c8b0 : ((bt x0_1 0) == 9) = false := beq_eq_false_iff_ne.mpr c8
              have c8b1 : ((bt x0_1 0) != 9) = true := bne_iff_ne.mpr c8
              obtain rfl := Option.some.inj H
              have p4 : 0 ≤ (0 : Int) := (by omega)
              have q4 : 0 < x0_1.size := (by have : (0 : Int) < (x0_1.size : Int) := of_decide_eq_true (by first | (with_reducible assumption) | assumption); omega)
              have hx4 : ∀ h : 0 < x0_1.size, ((x0_1[0]'h).toNat : Int) = bt x0_1 0 := bt_at x0_1 0
              clear p4
              have qi4 : (0 < (x0_1.size : Int)) = True := eq_true (of_decide_eq_true (by first | (with_reducible assumption) | assumption))
              replace q4 := eq_true q4
              have p7 : 0 ≤ (0 : Int) := (by omega)
              have q7 : 0 < x0_1.size := (by have : (0 : Int) < (x0_1.size : Int) := of_decide_eq_true (by first | (with_reducible assumption) | assumption); omega)
              have hx7 : ∀ h : 0 < x0_1.size, ((x0_1[0]'h).toNat : Int) = bt x0_1 0 := bt_at x0_1 0
              clear p7
              have qi7 : (0 < (x0_1.size : Int)) = True := eq_true (of_decide_eq_true (by first | (with_reducible assumption) | assumption))
              replace q7 := eq_true q7
              go_wp2
              go_ret
              exact ⟨by first | rfl | (simp; done) | (rw [prx_ne]; first | done | rfl) | (simp [*]; done), by repeat (first | exact Drawn0.refl _ | apply Drawn0.step)⟩
        · rw [if_neg c3] at H
          exact absurd H (by simp)
def spec_fold.f (a0 : Int) : Option (Int) := if a0 ≥ 65 then (if a0 ≤ 90 then (some ((a0 + 32) % 256)) else (some a0)) else (some a0)
set_option maxHeartbeats 8000000 in
set_option maxRecDepth 100000 in
theorem spec_fold.calls (a0 : Int) (r : Int) (w : World) (h : spec_fold.f a0 = some r) :
    Calls Try.prog 42 #[.int .u8 a0] w fun e w' => e = .returned (.int .u8 r) ∧ Drawn0 w w' := by
  have H : (if a0 ≥ 65 then (if a0 ≤ 90 then (some ((a0 + 32) % 256)) else (some a0)) else (some a0)) = some r := h
  clear h
  by_cases c2 : a0 ≥ 65
  · rw [if_pos c2] at H
    have c2b0 : decide (65 ≤ a0) = true := decide_eq_true c2
    clear c2
    by_cases c3 : a0 ≤ 90
    · rw [if_pos c3] at H
      have c3b0 : decide (a0 ≤ 90) = true := decide_eq_true c3
      clear c3
      obtain rfl := Option.some.inj H
      go_enter Try.func42, Try.ntmps42
      go_wp2
      go_ret
      exact ⟨by first | rfl | (simp; done) | (rw [prx_ne]; first | done | rfl) | (simp [*]; done), by repeat (first | exact Drawn0.refl _ | apply Drawn0.step)⟩
    · rw [if_neg c3] at H
      have c3b0 : decide (a0 ≤ 90) = false := decide_eq_false c3
      clear c3
      obtain rfl := Option.some.inj H
      go_enter Try.func42, Try.ntmps42
      go_wp2
      go_ret
      exact ⟨by first | rfl | (simp; done) | (rw [prx_ne]; first | done | rfl) | (simp [*]; done), by repeat (first | exact Drawn0.refl _ | apply Drawn0.step)⟩
  · rw [if_neg c2] at H
    have c2b0 : decide (65 ≤ a0) = false := decide_eq_false c2
    clear c2
    obtain rfl := Option.some.inj H
    go_enter Try.func42, Try.ntmps42
    go_wp2
    go_ret
    exact ⟨by first | rfl | (simp; done) | (rw [prx_ne]; first | done | rfl) | (simp [*]; done), by repeat (first | exact Drawn0.refl _ | apply Drawn0.step)⟩
def spec_FieldByte.f (k : Nat) (a0 : Int) : Option (Bool) := if a0 ≥ 48 then (if a0 ≤ 57 then (some true) else ((spec_fold.f a0).bind fun t135 => (if t135 ≥ 97 then ((spec_fold.f a0).bind fun t136 => (if t136 ≤ 122 then (some true) else ((some (([96] : List Int) : List Int)).bind fun y137 => (if 12 + (strOfNums y137).size ≤ 9223372036854775807 then (if ((⟨#[33, 35, 36, 37, 38, 39, 42, 43, 45, 46, 94, 95]⟩ : ByteArray) ++ (strOfNums y137)).size + 2 ≤ 9223372036854775807 then ((spec_place.f k (((⟨#[33, 35, 36, 37, 38, 39, 42, 43, 45, 46, 94, 95]⟩ : ByteArray) ++ (strOfNums y137)) ++ (⟨#[124, 126]⟩ : ByteArray)) a0).bind fun t140 => (some (decide (t140 ≥ 0)))) else (none)) else (none))))) else ((some (([96] : List Int) : List Int)).bind fun y141 => (if 12 + (strOfNums y141).size ≤ 9223372036854775807 then (if ((⟨#[33, 35, 36, 37, 38, 39, 42, 43, 45, 46, 94, 95]⟩ : ByteArray) ++ (strOfNums y141)).size + 2 ≤ 9223372036854775807 then ((spec_place.f k (((⟨#[33, 35, 36, 37, 38, 39, 42, 43, 45, 46, 94, 95]⟩ : ByteArray) ++ (strOfNums y141)) ++ (⟨#[124, 126]⟩ : ByteArray)) a0).bind fun t144 => (some (decide (t144 ≥ 0)))) else (none)) else (none)))))) else ((spec_fold.f a0).bind fun t145 => (if t145 ≥ 97 then ((spec_fold.f a0).bind fun t146 => (if t146 ≤ 122 then (some true) else ((some (([96] : List Int) : List Int)).bind fun y147 => (if 12 + (strOfNums y147).size ≤ 9223372036854775807 then (if ((⟨#[33, 35, 36, 37, 38, 39, 42, 43, 45, 46, 94, 95]⟩ : ByteArray) ++ (strOfNums y147)).size + 2 ≤ 9223372036854775807 then ((spec_place.f k (((⟨#[33, 35, 36, 37, 38, 39, 42, 43, 45, 46, 94, 95]⟩ : ByteArray) ++ (strOfNums y147)) ++ (⟨#[124, 126]⟩ : ByteArray)) a0).bind fun t150 => (some (decide (t150 ≥ 0)))) else (none)) else (none))))) else ((some (([96] : List Int) : List Int)).bind fun y151 => (if 12 + (strOfNums y151).size ≤ 9223372036854775807 then (if ((⟨#[33, 35, 36, 37, 38, 39, 42, 43, 45, 46, 94, 95]⟩ : ByteArray) ++ (strOfNums y151)).size + 2 ≤ 9223372036854775807 then ((spec_place.f k (((⟨#[33, 35, 36, 37, 38, 39, 42, 43, 45, 46, 94, 95]⟩ : ByteArray) ++ (strOfNums y151)) ++ (⟨#[124, 126]⟩ : ByteArray)) a0).bind fun t154 => (some (decide (t154 ≥ 0)))) else (none)) else (none)))))
theorem spec_FieldByte.mono : ∀ a0 k, LeO (spec_FieldByte.f k a0) (spec_FieldByte.f (k + 1) a0) := by
  intro a0 k
  unfold spec_FieldByte.f
  repeat' first
      | (with_reducible exact spec_place.mono _ _ _)
      | (with_reducible exact LeO.refl _)
      | (with_reducible exact LeO.none _)
      | (with_reducible refine LeO.ite ?_ ?_)
      | (with_reducible refine LeO.bind ?_ (fun _ => ?_))
      | exact spec_place.mono _ _ _
      | exact LeO.none _
      | refine LeO.ite ?_ ?_
      | refine LeO.bind ?_ (fun _ => ?_)
set_option maxHeartbeats 8000000 in
set_option maxRecDepth 100000 in
theorem spec_FieldByte.calls (k : Nat) (a0 : Int) (r : Bool) (w : World) (h : spec_FieldByte.f k a0 = some r) :
  Calls Try.prog 27 #[.int .u8 a0] w fun e w' => e = .returned (.bool r) ∧ Below w.heap.size w w' := by
 have HB := Aside0.mk (Below.refl w.heap.size w)
 have H : (if a0 ≥ 48 then (if a0 ≤ 57 then (some true) else ((spec_fold.f a0).bind fun t135 => (if t135 ≥ 97 then ((spec_fold.f a0).bind fun t136 => (if t136 ≤ 122 then (some true) else ((some (([96] : List Int) : List Int)).bind fun y137 => (if 12 + (strOfNums y137).size ≤ 9223372036854775807 then (if ((⟨#[33, 35, 36, 37, 38, 39, 42, 43, 45, 46, 94, 95]⟩ : ByteArray) ++ (strOfNums y137)).size + 2 ≤ 9223372036854775807 then ((spec_place.f k (((⟨#[33, 35, 36, 37, 38, 39, 42, 43, 45, 46, 94, 95]⟩ : ByteArray) ++ (strOfNums y137)) ++ (⟨#[124, 126]⟩ : ByteArray)) a0).bind fun t140 => (some (decide (t140 ≥ 0)))) else (none)) else (none))))) else ((some (([96] : List Int) : List Int)).bind fun y141 => (if 12 + (strOfNums y141).size ≤ 9223372036854775807 then (if ((⟨#[33, 35, 36, 37, 38, 39, 42, 43, 45, 46, 94, 95]⟩ : ByteArray) ++ (strOfNums y141)).size + 2 ≤ 9223372036854775807 then ((spec_place.f k (((⟨#[33, 35, 36, 37, 38, 39, 42, 43, 45, 46, 94, 95]⟩ : ByteArray) ++ (strOfNums y141)) ++ (⟨#[124, 126]⟩ : ByteArray)) a0).bind fun t144 => (some (decide (t144 ≥ 0)))) else (none)) else (none)))))) else ((spec_fold.f a0).bind fun t145 => (if t145 ≥ 97 then ((spec_fold.f a0).bind fun t146 => (if t146 ≤ 122 then (some true) else ((some (([96] : List Int) : List Int)).bind fun y147 => (if 12 + (strOfNums y147).size ≤ 9223372036854775807 then (if ((⟨#[33, 35, 36, 37, 38, 39, 42, 43, 45, 46, 94, 95]⟩ : ByteArray) ++ (strOfNums y147)).size + 2 ≤ 9223372036854775807 then ((spec_place.f k (((⟨#[33, 35, 36, 37, 38, 39, 42, 43, 45, 46, 94, 95]⟩ : ByteArray) ++ (strOfNums y147)) ++ (⟨#[124, 126]⟩ : ByteArray)) a0).bind fun t150 => (some (decide (t150 ≥ 0)))) else (none)) else (none))))) else ((some (([96] : List Int) : List Int)).bind fun y151 => (if 12 + (strOfNums y151).size ≤ 9223372036854775807 then (if ((⟨#[33, 35, 36, 37, 38, 39, 42, 43, 45, 46, 94, 95]⟩ : ByteArray) ++ (strOfNums y151)).size + 2 ≤ 9223372036854775807 then ((spec_place.f k (((⟨#[33, 35, 36, 37, 38, 39, 42, 43, 45, 46, 94, 95]⟩ : ByteArray) ++ (strOfNums y151)) ++ (⟨#[124, 126]⟩ : ByteArray)) a0).bind fun t154 => (some (decide (t154 ≥ 0)))) else (none)) else (none)))))) = some r := h
 clear h
 by_cases c2 : a0 ≥ 48
 ·rw [if_pos c2] at H
  have c2b0 : decide (48 ≤ a0) = true := decide_eq_true c2
  clear c2
  by_cases c3 : a0 ≤ 57
  ·rw [if_pos c3] at H
   have c3b0 : decide (a0 ≤ 57) = true := decide_eq_true c3
   clear c3
   obtain rfl := Option.some.inj H
   go_enter Try.func27, Try.ntmps27
   go_wp2
   go_ret
   exact ⟨by first | rfl | (simp [errW_none, errW_some] <;> rfl) | (simp [*, errW_none, errW_some] <;> rfl), by repeat (first | (with_reducible first | exact HB.out | apply below_alloc | apply pw_below_drewN | apply below_drew1) | exact HB.out)⟩
  ·rw [if_neg c3] at H
   have c3b0 : decide (a0 ≤ 57) = false := decide_eq_false c3
   clear c3
   replace H := Option.bind_eq_some_iff.mp H
   obtain ⟨t135, A40, H⟩ := H
   replace H : (if t135 ≥ 97 then ((spec_fold.f a0).bind fun t136 => (if t136 ≤ 122 then (some true) else ((some (([96] : List Int) : List Int)).bind fun y137 => (if 12 + (strOfNums y137).size ≤ 9223372036854775807 then (if ((⟨#[33, 35, 36, 37, 38, 39, 42, 43, 45, 46, 94, 95]⟩ : ByteArray) ++ (strOfNums y137)).size + 2 ≤ 9223372036854775807 then ((spec_place.f k (((⟨#[33, 35, 36, 37, 38, 39, 42, 43, 45, 46, 94, 95]⟩ : ByteArray) ++ (strOfNums y137)) ++ (⟨#[124, 126]⟩ : ByteArray)) a0).bind fun t140 => (some (decide (t140 ≥ 0)))) else (none)) else (none))))) else ((some (([96] : List Int) : List Int)).bind fun y141 => (if 12 + (strOfNums y141).size ≤ 9223372036854775807 then (if ((⟨#[33, 35, 36, 37, 38, 39, 42, 43, 45, 46, 94, 95]⟩ : ByteArray) ++ (strOfNums y141)).size + 2 ≤ 9223372036854775807 then ((spec_place.f k (((⟨#[33, 35, 36, 37, 38, 39, 42, 43, 45, 46, 94, 95]⟩ : ByteArray) ++ (strOfNums y141)) ++ (⟨#[124, 126]⟩ : ByteArray)) a0).bind fun t144 => (some (decide (t144 ≥ 0)))) else (none)) else (none)))) = some r := H
   have A4 := Aside0.mk A40
   clear A40
   by_cases c5 : t135 ≥ 97
   ·rw [if_pos c5] at H
    have c5b0 : decide (97 ≤ t135) = true := decide_eq_true c5
    clear c5
    replace H := Option.bind_eq_some_iff.mp H
    obtain ⟨t136, A60, H⟩ := H
    replace H : (if t136 ≤ 122 then (some true) else ((some (([96] : List Int) : List Int)).bind fun y137 => (if 12 + (strOfNums y137).size ≤ 9223372036854775807 then (if ((⟨#[33, 35, 36, 37, 38, 39, 42, 43, 45, 46, 94, 95]⟩ : ByteArray) ++ (strOfNums y137)).size + 2 ≤ 9223372036854775807 then ((spec_place.f k (((⟨#[33, 35, 36, 37, 38, 39, 42, 43, 45, 46, 94, 95]⟩ : ByteArray) ++ (strOfNums y137)) ++ (⟨#[124, 126]⟩ : ByteArray)) a0).bind fun t140 => (some (decide (t140 ≥ 0)))) else (none)) else (none)))) = some r := H
    have A6 := Aside0.mk A60
    clear A60
    by_cases c7 : t136 ≤ 122
    ·rw [if_pos c7] at H
     have c7b0 : decide (t136 ≤ 122) = true := decide_eq_true c7
     clear c7
     try (obtain rfl : t136 = t135 := Option.some.inj (A6.out.symm.trans A4.out))
     obtain rfl := Option.some.inj H
     go_enter Try.func27, Try.ntmps27
     go_wp2_with (first | (go_at_call 42; (with_reducible refine (spec_fold.calls a0 t136 _ A4.out).mono ?_); rintro e w' ⟨rfl, ⟨nd, rfl⟩⟩) | (go_at_call 42; (with_reducible refine (spec_fold.calls a0 t136 _ A6.out).mono ?_); rintro e w' ⟨rfl, ⟨nd, rfl⟩⟩))
     go_ret
     exact ⟨by first | rfl | (simp [errW_none, errW_some] <;> rfl) | (simp [*, errW_none, errW_some] <;> rfl), by repeat (first | (with_reducible first | exact HB.out | apply below_alloc | apply pw_below_drewN | apply below_drew1) | exact HB.out)⟩
    ·rw [if_neg c7] at H
     have c7b0 : decide (t136 ≤ 122) = false := decide_eq_false c7
     clear c7
     obtain ⟨y137, hy137⟩ : ∃ y_ : List Int, y_ = (([96] : List Int)) := ⟨_, rfl⟩
     replace H : (if 12 + (strOfNums y137).size ≤ 9223372036854775807 then (if ((⟨#[33, 35, 36, 37, 38, 39, 42, 43, 45, 46, 94, 95]⟩ : ByteArray) ++ (strOfNums y137)).size + 2 ≤ 9223372036854775807 then ((spec_place.f k (((⟨#[33, 35, 36, 37, 38, 39, 42, 43, 45, 46, 94, 95]⟩ : ByteArray) ++ (strOfNums y137)) ++ (⟨#[124, 126]⟩ : ByteArray)) a0).bind fun t140 => (some (decide (t140 ≥ 0)))) else (none)) else (none)) = some r := by first | (rw [hy137]; with_reducible exact H) | (have H2_ := (Option.bind_some _ _).symm.trans H; rw [hy137]; with_reducible exact H2_) | (have H2_ := (Option.bind_some _ _).symm.trans H; with_reducible exact H2_) | with_reducible exact H | (rw [hy137]; exact H) | exact H
     have Ny137 := Aside0.mk hy137
     clear hy137
     by_cases c8 : 12 + (strOfNums y137).size ≤ 9223372036854775807
     ·rw [if_pos c8] at H
      have c8b0 := eq_true c8
      have c8b1 : decide (12 + (strOfNums y137).size ≤ 9223372036854775807) = true := decide_eq_true c8
      try have c8b2 : (9223372036854775807 < 12 + (strOfNums y137).size) = False := eq_false (Nat.not_lt.2 c8)
      try (have c8b3 := c8; simp only [ByteArray.size_append, prx_sz, List.length_cons, List.length_nil] at c8b3)
      by_cases c9 : ((⟨#[33, 35, 36, 37, 38, 39, 42, 43, 45, 46, 94, 95]⟩ : ByteArray) ++ (strOfNums y137)).size + 2 ≤ 9223372036854775807
      ·rw [if_pos c9] at H
       have c9b0 := eq_true c9
       have c9b1 : decide (((⟨#[33, 35, 36, 37, 38, 39, 42, 43, 45, 46, 94, 95]⟩ : ByteArray) ++ (strOfNums y137)).size + 2 ≤ 9223372036854775807) = true := decide_eq_true c9
       try have c9b2 : (9223372036854775807 < ((⟨#[33, 35, 36, 37, 38, 39, 42, 43, 45, 46, 94, 95]⟩ : ByteArray) ++ (strOfNums y137)).size + 2) = False := eq_false (Nat.not_lt.2 c9)
       try (have c9b3 := c9; simp only [ByteArray.size_append, prx_sz, List.length_cons, List.length_nil] at c9b3)
       replace H := Option.bind_eq_some_iff.mp H
       obtain ⟨t140, A100, H⟩ := H
       replace H : (some (decide (t140 ≥ 0))) = some r := H
       have A10 := Aside0.mk A100
       clear A100
       try (obtain rfl : t136 = t135 := Option.some.inj (A6.out.symm.trans A4.out))
       obtain rfl := Option.some.inj H
       go_enter Try.func27, Try.ntmps27
       go_wp2_with (first | (go_at_call 42; (with_reducible refine (spec_fold.calls a0 t136 _ A4.out).mono ?_); rintro e w' ⟨rfl, ⟨nd, rfl⟩⟩) | (go_at_call 42; (with_reducible refine (spec_fold.calls a0 t136 _ A6.out).mono ?_); rintro e w' ⟨rfl, ⟨nd, rfl⟩⟩) | ((with_reducible refine gate_dst (N := 19) rfl ?_); refine Kd.R_lit (Kd.int .u8) _ 5 ?hg (N := 19) ?hd (xs := ([96] : List Int)) (inner := [.int .u8 96]) (ok := fun _ => True) (okp := fun _ => True) ?hr ?hp (fun _ hk => hk) trivial (Below.refl _ _) (Nat.le_refl _) (by simp) ?_; (case hd => rfl); (case hg => rfl); (case hr => first | (go_simp; done) | (go_simp; rfl)); (case hp => exact (Reps.one (show Kd.M (Kd.int .u8) _ _ _ 96 [.int .u8 96] from rfl) (Reps.none _ _))); intro v138 w11 ho12 hb hg_ hnew_; clear hg_ hnew_; (first | rw [← Ny137.out] at ho12 | (simp only [Int.reduceToNat] at ho12; rw [← Ny137.out] at ho12)); have n0_ := Aside0.mk (Kd.R_lower ho12 (below_size (by repeat (first | (with_reducible first | exact HB.out | apply below_alloc | apply pw_below_drewN | apply below_drew1) | exact HB.out)))); have n1_ := Aside0.mk (below_step (by repeat (first | (with_reducible first | exact HB.out | apply below_alloc | apply pw_below_drewN | apply below_drew1) | exact HB.out)) hb); clear HB; have HO139 := n0_; have HB := n1_; clear n0_ n1_; clear hb ho12; have hcv13 := own_string (P := Try.prog) Try.underlying73 Try.underlying5 Try.underlying9 (Kd.own_of_R HO139.out)) | ((with_reducible refine gate_callee (f := 24) rfl ?_); refine goesL_ (some 24) rfl rfl Try.func24 (by kernel_rfl) rfl #[.string (((⟨#[33, 35, 36, 37, 38, 39, 42, 43, 45, 46, 94, 95]⟩ : ByteArray) ++ (strOfNums y137)) ++ (⟨#[124, 126]⟩ : ByteArray)), .int .u8 a0] rfl (by (try simp only [List.map_toArray, List.map_cons, List.map_nil]); first | done | rfl | (simp only [List.length_drop, List.length_take]; rfl)) ?_; (with_reducible refine (spec_place.calls k (((⟨#[33, 35, 36, 37, 38, 39, 42, 43, 45, 46, 94, 95]⟩ : ByteArray) ++ (strOfNums y137)) ++ (⟨#[124, 126]⟩ : ByteArray)) a0 t140 _ A10.out).mono ?_); rintro e w' ⟨rfl, ⟨nd, rfl⟩⟩; refine ⟨_, rfl, ?_⟩))
       go_ret
       exact ⟨by first | rfl | (simp [errW_none, errW_some] <;> rfl) | (simp [*, errW_none, errW_some] <;> rfl), by repeat (first | (with_reducible first | exact HB.out | apply below_alloc | apply pw_below_drewN | apply below_drew1) | exact HB.out)⟩
      ·rw [if_neg c9] at H
       exact absurd H (by simp)
     ·rw [if_neg c8] at H
      exact absurd H (by simp)
   ·rw [if_neg c5] at H
    have c5b0 : decide (97 ≤ t135) = false := decide_eq_false c5
    clear c5
    obtain ⟨y141, hy141⟩ : ∃ y_ : List Int, y_ = (([96] : List Int)) := ⟨_, rfl⟩
    replace H : (if 12 + (strOfNums y141).size ≤ 9223372036854775807 then (if ((⟨#[33, 35, 36, 37, 38, 39, 42, 43, 45, 46, 94, 95]⟩ : ByteArray) ++ (strOfNums y141)).size + 2 ≤ 9223372036854775807 then ((spec_place.f k (((⟨#[33, 35, 36, 37, 38, 39, 42, 43, 45, 46, 94, 95]⟩ : ByteArray) ++ (strOfNums y141)) ++ (⟨#[124, 126]⟩ : ByteArray)) a0).bind fun t144 => (some (decide (t144 ≥ 0)))) else (none)) else (none)) = some r := by first | (rw [hy141]; with_reducible exact H) | (have H2_ := (Option.bind_some _ _).symm.trans H; rw [hy141]; with_reducible exact H2_) | (have H2_ := (Option.bind_some _ _).symm.trans H; with_reducible exact H2_) | with_reducible exact H | (rw [hy141]; exact H) | exact H
    have Ny141 := Aside0.mk hy141
    clear hy141
    by_cases c14 : 12 + (strOfNums y141).size ≤ 9223372036854775807
    ·rw [if_pos c14] at H
     have c14b0 := eq_true c14
     have c14b1 : decide (12 + (strOfNums y141).size ≤ 9223372036854775807) = true := decide_eq_true c14
     try have c14b2 : (9223372036854775807 < 12 + (strOfNums y141).size) = False := eq_false (Nat.not_lt.2 c14)
     try (have c14b3 := c14; simp only [ByteArray.size_append, prx_sz, List.length_cons, List.length_nil] at c14b3)
     by_cases c15 : ((⟨#[33, 35, 36, 37, 38, 39, 42, 43, 45, 46, 94, 95]⟩ : ByteArray) ++ (strOfNums y141)).size + 2 ≤ 9223372036854775807
     ·rw [if_pos c15] at H
      have c15b0 := eq_true c15
      have c15b1 : decide (((⟨#[33, 35, 36, 37, 38, 39, 42, 43, 45, 46, 94, 95]⟩ : ByteArray) ++ (strOfNums y141)).size + 2 ≤ 9223372036854775807) = true := decide_eq_true c15
      try have c15b2 : (9223372036854775807 < ((⟨#[33, 35, 36, 37, 38, 39, 42, 43, 45, 46, 94, 95]⟩ : ByteArray) ++ (strOfNums y141)).size + 2) = False := eq_false (Nat.not_lt.2 c15)
      try (have c15b3 := c15; simp only [ByteArray.size_append, prx_sz, List.length_cons, List.length_nil] at c15b3)
      replace H := Option.bind_eq_some_iff.mp H
      obtain ⟨t144, A160, H⟩ := H
      replace H : (some (decide (t144 ≥ 0))) = some r := H
      have A16 := Aside0.mk A160
      clear A160
      obtain rfl := Option.some.inj H
      go_enter Try.func27, Try.ntmps27
      go_wp2_with (first | (go_at_call 42; (with_reducible refine (spec_fold.calls a0 t135 _ A4.out).mono ?_); rintro e w' ⟨rfl, ⟨nd, rfl⟩⟩) | ((with_reducible refine gate_dst (N := 19) rfl ?_); refine Kd.R_lit (Kd.int .u8) _ 5 ?hg (N := 19) ?hd (xs := ([96] : List Int)) (inner := [.int .u8 96]) (ok := fun _ => True) (okp := fun _ => True) ?hr ?hp (fun _ hk => hk) trivial (Below.refl _ _) (Nat.le_refl _) (by simp) ?_; (case hd => rfl); (case hg => rfl); (case hr => first | (go_simp; done) | (go_simp; rfl)); (case hp => exact (Reps.one (show Kd.M (Kd.int .u8) _ _ _ 96 [.int .u8 96] from rfl) (Reps.none _ _))); intro v142 w17 ho18 hb hg_ hnew_; clear hg_ hnew_; (first | rw [← Ny141.out] at ho18 | (simp only [Int.reduceToNat] at ho18; rw [← Ny141.out] at ho18)); have n0_ := Aside0.mk (Kd.R_lower ho18 (below_size (by repeat (first | (with_reducible first | exact HB.out | apply below_alloc | apply pw_below_drewN | apply below_drew1) | exact HB.out)))); have n1_ := Aside0.mk (below_step (by repeat (first | (with_reducible first | exact HB.out | apply below_alloc | apply pw_below_drewN | apply below_drew1) | exact HB.out)) hb); clear HB; have HO143 := n0_; have HB := n1_; clear n0_ n1_; clear hb ho18; have hcv19 := own_string (P := Try.prog) Try.underlying73 Try.underlying5 Try.underlying9 (Kd.own_of_R HO143.out)) | ((with_reducible refine gate_callee (f := 24) rfl ?_); refine goesL_ (some 24) rfl rfl Try.func24 (by kernel_rfl) rfl #[.string (((⟨#[33, 35, 36, 37, 38, 39, 42, 43, 45, 46, 94, 95]⟩ : ByteArray) ++ (strOfNums y141)) ++ (⟨#[124, 126]⟩ : ByteArray)), .int .u8 a0] rfl (by (try simp only [List.map_toArray, List.map_cons, List.map_nil]); first | done | rfl | (simp only [List.length_drop, List.length_take]; rfl)) ?_; (with_reducible refine (spec_place.calls k (((⟨#[33, 35, 36, 37, 38, 39, 42, 43, 45, 46, 94, 95]⟩ : ByteArray) ++ (strOfNums y141)) ++ (⟨#[124, 126]⟩ : ByteArray)) a0 t144 _ A16.out).mono ?_); rintro e w' ⟨rfl, ⟨nd, rfl⟩⟩; refine ⟨_, rfl, ?_⟩))
      go_ret
      exact ⟨by first | rfl | (simp [errW_none, errW_some] <;> rfl) | (simp [*, errW_none, errW_some] <;> rfl), by repeat (first | (with_reducible first | exact HB.out | apply below_alloc | apply pw_below_drewN | apply below_drew1) | exact HB.out)⟩
     ·rw [if_neg c15] at H
      exact absurd H (by simp)
    ·rw [if_neg c14] at H
     exact absurd H (by simp)
 ·rw [if_neg c2] at H
  have c2b0 : decide (48 ≤ a0) = false := decide_eq_false c2
  clear c2
  replace H := Option.bind_eq_some_iff.mp H
  obtain ⟨t145, A200, H⟩ := H
  replace H : (if t145 ≥ 97 then ((spec_fold.f a0).bind fun t146 => (if t146 ≤ 122 then (some true) else ((some (([96] : List Int) : List Int)).bind fun y147 => (if 12 + (strOfNums y147).size ≤ 9223372036854775807 then (if ((⟨#[33, 35, 36, 37, 38, 39, 42, 43, 45, 46, 94, 95]⟩ : ByteArray) ++ (strOfNums y147)).size + 2 ≤ 9223372036854775807 then ((spec_place.f k (((⟨#[33, 35, 36, 37, 38, 39, 42, 43, 45, 46, 94, 95]⟩ : ByteArray) ++ (strOfNums y147)) ++ (⟨#[124, 126]⟩ : ByteArray)) a0).bind fun t150 => (some (decide (t150 ≥ 0)))) else (none)) else (none))))) else ((some (([96] : List Int) : List Int)).bind fun y151 => (if 12 + (strOfNums y151).size ≤ 9223372036854775807 then (if ((⟨#[33, 35, 36, 37, 38, 39, 42, 43, 45, 46, 94, 95]⟩ : ByteArray) ++ (strOfNums y151)).size + 2 ≤ 9223372036854775807 then ((spec_place.f k (((⟨#[33, 35, 36, 37, 38, 39, 42, 43, 45, 46, 94, 95]⟩ : ByteArray) ++ (strOfNums y151)) ++ (⟨#[124, 126]⟩ : ByteArray)) a0).bind fun t154 => (some (decide (t154 ≥ 0)))) else (none)) else (none)))) = some r := H
  have A20 := Aside0.mk A200
  clear A200
  by_cases c21 : t145 ≥ 97
  ·rw [if_pos c21] at H
   have c21b0 : decide (97 ≤ t145) = true := decide_eq_true c21
   clear c21
   replace H := Option.bind_eq_some_iff.mp H
   obtain ⟨t146, A220, H⟩ := H
   replace H : (if t146 ≤ 122 then (some true) else ((some (([96] : List Int) : List Int)).bind fun y147 => (if 12 + (strOfNums y147).size ≤ 9223372036854775807 then (if ((⟨#[33, 35, 36, 37, 38, 39, 42, 43, 45, 46, 94, 95]⟩ : ByteArray) ++ (strOfNums y147)).size + 2 ≤ 9223372036854775807 then ((spec_place.f k (((⟨#[33, 35, 36, 37, 38, 39, 42, 43, 45, 46, 94, 95]⟩ : ByteArray) ++ (strOfNums y147)) ++ (⟨#[124, 126]⟩ : ByteArray)) a0).bind fun t150 => (some (decide (t150 ≥ 0)))) else (none)) else (none)))) = some r := H
   have A22 := Aside0.mk A220
   clear A220
   by_cases c23 : t146 ≤ 122
   ·rw [if_pos c23] at H
    have c23b0 : decide (t146 ≤ 122) = true := decide_eq_true c23
    clear c23
    try (obtain rfl : t146 = t145 := Option.some.inj (A22.out.symm.trans A20.out))
    obtain rfl := Option.some.inj H
    go_enter Try.func27, Try.ntmps27
    go_wp2_with (first | (go_at_call 42; (with_reducible refine (spec_fold.calls a0 t146 _ A20.out).mono ?_); rintro e w' ⟨rfl, ⟨nd, rfl⟩⟩) | (go_at_call 42; (with_reducible refine (spec_fold.calls a0 t146 _ A22.out).mono ?_); rintro e w' ⟨rfl, ⟨nd, rfl⟩⟩))
    go_ret
    exact ⟨by first | rfl | (simp [errW_none, errW_some] <;> rfl) | (simp [*, errW_none, errW_some] <;> rfl), by repeat (first | (with_reducible first | exact HB.out | apply below_alloc | apply pw_below_drewN | apply below_drew1) | exact HB.out)⟩
   ·rw [if_neg c23] at H
    have c23b0 : decide (t146 ≤ 122) = false := decide_eq_false c23
    clear c23
    obtain ⟨y147, hy147⟩ : ∃ y_ : List Int, y_ = (([96] : List Int)) := ⟨_, rfl⟩
    replace H : (if 12 + (strOfNums y147).size ≤ 9223372036854775807 then (if ((⟨#[33, 35, 36, 37, 38, 39, 42, 43, 45, 46, 94, 95]⟩ : ByteArray) ++ (strOfNums y147)).size + 2 ≤ 9223372036854775807 then ((spec_place.f k (((⟨#[33, 35, 36, 37, 38, 39, 42, 43, 45, 46, 94, 95]⟩ : ByteArray) ++ (strOfNums y147)) ++ (⟨#[124, 126]⟩ : ByteArray)) a0).bind fun t150 => (some (decide (t150 ≥ 0)))) else (none)) else (none)) = some r := by first | (rw [hy147]; with_reducible exact H) | (have H2_ := (Option.bind_some _ _).symm.trans H; rw [hy147]; with_reducible exact H2_) | (have H2_ := (Option.bind_some _ _).symm.trans H; with_reducible exact H2_) | with_reducible exact H | (rw [hy147]; exact H) | exact H
    have Ny147 := Aside0.mk hy147
    clear hy147
    by_cases c24 : 12 + (strOfNums y147).size ≤ 9223372036854775807
    ·rw [if_pos c24] at H
     have c24b0 := eq_true c24
     have c24b1 : decide (12 + (strOfNums y147).size ≤ 9223372036854775807) = true := decide_eq_true c24
     try have c24b2 : (9223372036854775807 < 12 + (strOfNums y147).size) = False := eq_false (Nat.not_lt.2 c24)
     try (have c24b3 := c24; simp only [ByteArray.size_append, prx_sz, List.length_cons, List.length_nil] at c24b3)
     by_cases c25 : ((⟨#[33, 35, 36, 37, 38, 39, 42, 43, 45, 46, 94, 95]⟩ : ByteArray) ++ (strOfNums y147)).size + 2 ≤ 9223372036854775807
     ·rw [if_pos c25] at H
      have c25b0 := eq_true c25
      have c25b1 : decide (((⟨#[33, 35, 36, 37, 38, 39, 42, 43, 45, 46, 94, 95]⟩ : ByteArray) ++ (strOfNums y147)).size + 2 ≤ 9223372036854775807) = true := decide_eq_true c25
      try have c25b2 : (9223372036854775807 < ((⟨#[33, 35, 36, 37, 38, 39, 42, 43, 45, 46, 94, 95]⟩ : ByteArray) ++ (strOfNums y147)).size + 2) = False := eq_false (Nat.not_lt.2 c25)
      try (have c25b3 := c25; simp only [ByteArray.size_append, prx_sz, List.length_cons, List.length_nil] at c25b3)
      replace H := Option.bind_eq_some_iff.mp H
      obtain ⟨t150, A260, H⟩ := H
      replace H : (some (decide (t150 ≥ 0))) = some r := H
      have A26 := Aside0.mk A260
      clear A260
      try (obtain rfl : t146 = t145 := Option.some.inj (A22.out.symm.trans A20.out))
      obtain rfl := Option.some.inj H
      go_enter Try.func27, Try.ntmps27
      go_wp2_with (first | (go_at_call 42; (with_reducible refine (spec_fold.calls a0 t146 _ A20.out).mono ?_); rintro e w' ⟨rfl, ⟨nd, rfl⟩⟩) | (go_at_call 42; (with_reducible refine (spec_fold.calls a0 t146 _ A22.out).mono ?_); rintro e w' ⟨rfl, ⟨nd, rfl⟩⟩) | ((with_reducible refine gate_dst (N := 19) rfl ?_); refine Kd.R_lit (Kd.int .u8) _ 5 ?hg (N := 19) ?hd (xs := ([96] : List Int)) (inner := [.int .u8 96]) (ok := fun _ => True) (okp := fun _ => True) ?hr ?hp (fun _ hk => hk) trivial (Below.refl _ _) (Nat.le_refl _) (by simp) ?_; (case hd => rfl); (case hg => rfl); (case hr => first | (go_simp; done) | (go_simp; rfl)); (case hp => exact (Reps.one (show Kd.M (Kd.int .u8) _ _ _ 96 [.int .u8 96] from rfl) (Reps.none _ _))); intro v148 w27 ho28 hb hg_ hnew_; clear hg_ hnew_; (first | rw [← Ny147.out] at ho28 | (simp only [Int.reduceToNat] at ho28; rw [← Ny147.out] at ho28)); have n0_ := Aside0.mk (Kd.R_lower ho28 (below_size (by repeat (first | (with_reducible first | exact HB.out | apply below_alloc | apply pw_below_drewN | apply below_drew1) | exact HB.out)))); have n1_ := Aside0.mk (below_step (by repeat (first | (with_reducible first | exact HB.out | apply below_alloc | apply pw_below_drewN | apply below_drew1) | exact HB.out)) hb); clear HB; have HO149 := n0_; have HB := n1_; clear n0_ n1_; clear hb ho28; have hcv29 := own_string (P := Try.prog) Try.underlying73 Try.underlying5 Try.underlying9 (Kd.own_of_R HO149.out)) | ((with_reducible refine gate_callee (f := 24) rfl ?_); refine goesL_ (some 24) rfl rfl Try.func24 (by kernel_rfl) rfl #[.string (((⟨#[33, 35, 36, 37, 38, 39, 42, 43, 45, 46, 94, 95]⟩ : ByteArray) ++ (strOfNums y147)) ++ (⟨#[124, 126]⟩ : ByteArray)), .int .u8 a0] rfl (by (try simp only [List.map_toArray, List.map_cons, List.map_nil]); first | done | rfl | (simp only [List.length_drop, List.length_take]; rfl)) ?_; (with_reducible refine (spec_place.calls k (((⟨#[33, 35, 36, 37, 38, 39, 42, 43, 45, 46, 94, 95]⟩ : ByteArray) ++ (strOfNums y147)) ++ (⟨#[124, 126]⟩ : ByteArray)) a0 t150 _ A26.out).mono ?_); rintro e w' ⟨rfl, ⟨nd, rfl⟩⟩; refine ⟨_, rfl, ?_⟩))
      go_ret
      exact ⟨by first | rfl | (simp [errW_none, errW_some] <;> rfl) | (simp [*, errW_none, errW_some] <;> rfl), by repeat (first | (with_reducible first | exact HB.out | apply below_alloc | apply pw_below_drewN | apply below_drew1) | exact HB.out)⟩
     ·rw [if_neg c25] at H
      exact absurd H (by simp)
    ·rw [if_neg c24] at H
     exact absurd H (by simp)
  ·rw [if_neg c21] at H
   have c21b0 : decide (97 ≤ t145) = false := decide_eq_false c21
   clear c21
   obtain ⟨y151, hy151⟩ : ∃ y_ : List Int, y_ = (([96] : List Int)) := ⟨_, rfl⟩
   replace H : (if 12 + (strOfNums y151).size ≤ 9223372036854775807 then (if ((⟨#[33, 35, 36, 37, 38, 39, 42, 43, 45, 46, 94, 95]⟩ : ByteArray) ++ (strOfNums y151)).size + 2 ≤ 9223372036854775807 then ((spec_place.f k (((⟨#[33, 35, 36, 37, 38, 39, 42, 43, 45, 46, 94, 95]⟩ : ByteArray) ++ (strOfNums y151)) ++ (⟨#[124, 126]⟩ : ByteArray)) a0).bind fun t154 => (some (decide (t154 ≥ 0)))) else (none)) else (none)) = some r := by first | (rw [hy151]; with_reducible exact H) | (have H2_ := (Option.bind_some _ _).symm.trans H; rw [hy151]; with_reducible exact H2_) | (have H2_ := (Option.bind_some _ _).symm.trans H; with_reducible exact H2_) | with_reducible exact H | (rw [hy151]; exact H) | exact H
   have Ny151 := Aside0.mk hy151
   clear hy151
   by_cases c30 : 12 + (strOfNums y151).size ≤ 9223372036854775807
   ·rw [if_pos c30] at H
    have c30b0 := eq_true c30
    have c30b1 : decide (12 + (strOfNums y151).size ≤ 9223372036854775807) = true := decide_eq_true c30
    try have c30b2 : (9223372036854775807 < 12 + (strOfNums y151).size) = False := eq_false (Nat.not_lt.2 c30)
    try (have c30b3 := c30; simp only [ByteArray.size_append, prx_sz, List.length_cons, List.length_nil] at c30b3)
    by_cases c31 : ((⟨#[33, 35, 36, 37, 38, 39, 42, 43, 45, 46, 94, 95]⟩ : ByteArray) ++ (strOfNums y151)).size + 2 ≤ 9223372036854775807
    ·rw [if_pos c31] at H
     have c31b0 := eq_true c31
     have c31b1 : decide (((⟨#[33, 35, 36, 37, 38, 39, 42, 43, 45, 46, 94, 95]⟩ : ByteArray) ++ (strOfNums y151)).size + 2 ≤ 9223372036854775807) = true := decide_eq_true c31
     try have c31b2 : (9223372036854775807 < ((⟨#[33, 35, 36, 37, 38, 39, 42, 43, 45, 46, 94, 95]⟩ : ByteArray) ++ (strOfNums y151)).size + 2) = False := eq_false (Nat.not_lt.2 c31)
     try (have c31b3 := c31; simp only [ByteArray.size_append, prx_sz, List.length_cons, List.length_nil] at c31b3)
     replace H := Option.bind_eq_some_iff.mp H
     obtain ⟨t154, A320, H⟩ := H
     replace H : (some (decide (t154 ≥ 0))) = some r := H
     have A32 := Aside0.mk A320
     clear A320
     obtain rfl := Option.some.inj H
     go_enter Try.func27, Try.ntmps27
     go_wp2_with (first | (go_at_call 42; (with_reducible refine (spec_fold.calls a0 t145 _ A20.out).mono ?_); rintro e w' ⟨rfl, ⟨nd, rfl⟩⟩) | ((with_reducible refine gate_dst (N := 19) rfl ?_); refine Kd.R_lit (Kd.int .u8) _ 5 ?hg (N := 19) ?hd (xs := ([96] : List Int)) (inner := [.int .u8 96]) (ok := fun _ => True) (okp := fun _ => True) ?hr ?hp (fun _ hk => hk) trivial (Below.refl _ _) (Nat.le_refl _) (by simp) ?_; (case hd => rfl); (case hg => rfl); (case hr => first | (go_simp; done) | (go_simp; rfl)); (case hp => exact (Reps.one (show Kd.M (Kd.int .u8) _ _ _ 96 [.int .u8 96] from rfl) (Reps.none _ _))); intro v152 w33 ho34 hb hg_ hnew_; clear hg_ hnew_; (first | rw [← Ny151.out] at ho34 | (simp only [Int.reduceToNat] at ho34; rw [← Ny151.out] at ho34)); have n0_ := Aside0.mk (Kd.R_lower ho34 (below_size (by repeat (first | (with_reducible first | exact HB.out | apply below_alloc | apply pw_below_drewN | apply below_drew1) | exact HB.out)))); have n1_ := Aside0.mk (below_step (by repeat (first | (with_reducible first | exact HB.out | apply below_alloc | apply pw_below_drewN | apply below_drew1) | exact HB.out)) hb); clear HB; have HO153 := n0_; have HB := n1_; clear n0_ n1_; clear hb ho34; have hcv35 := own_string (P := Try.prog) Try.underlying73 Try.underlying5 Try.underlying9 (Kd.own_of_R HO153.out)) | ((with_reducible refine gate_callee (f := 24) rfl ?_); refine goesL_ (some 24) rfl rfl Try.func24 (by kernel_rfl) rfl #[.string (((⟨#[33, 35, 36, 37, 38, 39, 42, 43, 45, 46, 94, 95]⟩ : ByteArray) ++ (strOfNums y151)) ++ (⟨#[124, 126]⟩ : ByteArray)), .int .u8 a0] rfl (by (try simp only [List.map_toArray, List.map_cons, List.map_nil]); first | done | rfl | (simp only [List.length_drop, List.length_take]; rfl)) ?_; (with_reducible refine (spec_place.calls k (((⟨#[33, 35, 36, 37, 38, 39, 42, 43, 45, 46, 94, 95]⟩ : ByteArray) ++ (strOfNums y151)) ++ (⟨#[124, 126]⟩ : ByteArray)) a0 t154 _ A32.out).mono ?_); rintro e w' ⟨rfl, ⟨nd, rfl⟩⟩; refine ⟨_, rfl, ?_⟩))
     go_ret
     exact ⟨by first | rfl | (simp [errW_none, errW_some] <;> rfl) | (simp [*, errW_none, errW_some] <;> rfl), by repeat (first | (with_reducible first | exact HB.out | apply below_alloc | apply pw_below_drewN | apply below_drew1) | exact HB.out)⟩
    ·rw [if_neg c31] at H
     exact absurd H (by simp)
   ·rw [if_neg c30] at H
    exact absurd H (by simp)
end Go.Proofs.Ytgmjaggkiifdjaa.QA
