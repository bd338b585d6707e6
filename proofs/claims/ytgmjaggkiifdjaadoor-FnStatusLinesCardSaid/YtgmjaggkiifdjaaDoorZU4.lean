/- Texts of this claim, one behind the other (merged by wip/prune.py of this repo, without what the proof does not use): QA0, QA39. -/
import Derived.Test.YtgmjaggkiifdjaaDoorZU1
import Derived.Test.YtgmjaggkiifdjaaDoorZU2
import Derived.ArgAppend
import Derived.Below
import Derived.BigQuiet
import Derived.Deep.AppendLies
import Derived.Deep.CutBlock
import Derived.Deep.DeepCutAuto
import Derived.Deep.Draws
import Derived.Deep.LoopGhost
import Derived.Deep.OwnRows
import Derived.Deep.QuietTactic
import Derived.Deep.RegionHeld3
import Derived.KernelRfl
import Derived.Laws.BitsLemmas
import Derived.Laws.BytesArg
import Derived.Laws.IdiomCopy
import Derived.Laws.MakeOwn
import Derived.Laws.OwnMore
import Derived.Laws.Rows
import Derived.Laws.Slices
import Derived.Laws.StructEq
import Derived.Lib.AppendStr
import Derived.Lib.ConvBytes
import Derived.Maps.AppendAt
import Derived.OrdersHeld
import Derived.OwnWalk
import Derived.RowKit
import Derived.RowKit3
import Derived.Tactics
import Derived.Test.YtgmjaggkiifdjaaDoorProg
import Derived.WalkKit
import Derived.WideLaws
set_option linter.unusedVariables false
set_option linter.unusedSimpArgs false
namespace Go.Proofs.YtgmjaggkiifdjaaDoor.QA
open Go.Proofs.YtgmjaggkiifdjaaDoor.Given
open Go.Proofs.YtgmjaggkiifdjaaDoor.PrX
open Go.RowKit Go.Proofs.YtgmjaggkiifdjaaDoorW.PrintWords Go.Proofs.YtgmjaggkiifdjaaDoorW.PrintLast Go.Proofs.YtgmjaggkiifdjaaDoorW.PrintMore
def errW : Option Int → Value
  | none => .nilIface
  | some c => .iface 0 (.int .i64 c)
theorem errW_none : errW none = .nilIface := rfl
theorem errW_some (c : Int) : errW (some c) = .iface 0 (.int .i64 c) := rfl
def laws_decimal.f : Nat → Int → Option (ByteArray)
  | 0, _ => none
  | k + 1, a0 => if a0 < 0 then ((laws_decimal.f k (wrap64 (-a0))).bind fun t264 => (if 1 + t264.size ≤ 9223372036854775807 then (some ((⟨#[45]⟩ : ByteArray) ++ t264)) else (none))) else (if a0 < 10 then (some (strOfNums (([(wrap64 (48 + a0)) % 256] : List Int)))) else ((laws_decimal.f k (wrap64 (Int.tdiv a0 10))).bind fun t268 => ((laws_decimal.f k (Int.tmod a0 10)).bind fun t269 => (if t268.size + t269.size ≤ 9223372036854775807 then (some (t268 ++ t269)) else (none)))))
set_option maxHeartbeats 8000000 in
set_option maxRecDepth 100000 in
theorem laws_decimal.calls (k : Nat) : ∀ (a0 : Int) (r : ByteArray) (w : World) (h : laws_decimal.f k a0 = some r),
    Calls Tryd.prog 8 #[.int .i64 a0] w fun e w' => e = .returned (.string r) ∧ Below w.heap.size w w' := by
  induction k using Nat.strongRecOn with
  | _ k ih =>
  intro a0 r w h
  cases k with
  | zero => exact absurd h (by simp [laws_decimal.f])
  | succ k =>
  simp only [laws_decimal.f] at h
  have HB := Aside0.mk (Below.refl w.heap.size w)
  have H : (if a0 < 0 then ((laws_decimal.f k (wrap64 (-a0))).bind fun t264 => (if 1 + t264.size ≤ 9223372036854775807 then (some ((⟨#[45]⟩ : ByteArray) ++ t264)) else (none))) else (if a0 < 10 then (some (strOfNums (([(wrap64 (48 + a0)) % 256] : List Int)))) else ((laws_decimal.f k (wrap64 (Int.tdiv a0 10))).bind fun t268 => ((laws_decimal.f k (Int.tmod a0 10)).bind fun t269 => (if t268.size + t269.size ≤ 9223372036854775807 then (some (t268 ++ t269)) else (none)))))) = some r := h
  clear h
  by_cases c2 : a0 < 0
  · rw [if_pos c2] at H
    have c2b0 : decide (a0 < 0) = true := decide_eq_true c2
    clear c2
    replace H := Option.bind_eq_some_iff.mp H
    obtain ⟨t264, A30, H⟩ := H
    replace H : (if 1 + t264.size ≤ 9223372036854775807 then (some ((⟨#[45]⟩ : ByteArray) ++ t264)) else (none)) = some r := H
    have A3 := Aside0.mk A30
    clear A30
    by_cases c4 : 1 + t264.size ≤ 9223372036854775807
    · rw [if_pos c4] at H
      have c4b0 := eq_true c4
      have c4b1 : decide (1 + t264.size ≤ 9223372036854775807) = true := decide_eq_true c4
      try have c4b2 : (9223372036854775807 < 1 + t264.size) = False := eq_false (Nat.not_lt.2 c4)
      try (have c4b3 := c4; simp only [ByteArray.size_append, prx_sz, List.length_cons, List.length_nil] at c4b3)
      obtain rfl := Option.some.inj H
      go_enter Tryd.func8, Tryd.ntmps8
      go_wp2_with (first | ((with_reducible refine gate_callee (f := 8) rfl ?_); refine goesL_ (some 7) rfl rfl Tryd.func8 (by kernel_rfl) rfl #[.int .i64 (wrap64 (-a0))] rfl (by (try simp only [List.map_toArray, List.map_cons, List.map_nil]); first | done | rfl | (simp only [List.length_drop, List.length_take]; rfl)) ?_; (with_reducible refine (ih k (by omega) (wrap64 (-a0)) t264 _ A3.out).mono ?_); rintro e w5 ⟨rfl, hb⟩; refine ⟨_, rfl, ?_⟩; have n0_ := Aside0.mk (below_step (by repeat (first | (with_reducible first | exact HB.out | apply below_alloc | apply pw_below_drewN | apply below_drew1) | exact HB.out)) hb); clear HB; have HB := n0_; clear n0_; (try clear hb); (try clear hb2); (try clear hk); (try clear hi)))
      go_ret
      exact ⟨by first | rfl | (simp [errW_none, errW_some] <;> rfl) | (simp [*, errW_none, errW_some] <;> rfl), by repeat (first | (with_reducible first | exact HB.out | apply below_alloc | apply pw_below_drewN | apply below_drew1) | exact HB.out)⟩
    · rw [if_neg c4] at H
      exact absurd H (by simp)
  · rw [if_neg c2] at H
    have c2b0 : decide (a0 < 0) = false := decide_eq_false c2
    clear c2
    by_cases c6 : a0 < 10
    · rw [if_pos c6] at H
      have c6b0 : decide (a0 < 10) = true := decide_eq_true c6
      clear c6
      obtain ⟨y265, hy265⟩ : ∃ y_ : List Int, y_ = (([(wrap64 (48 + a0)) % 256] : List Int)) := ⟨_, rfl⟩
      replace H : (some (strOfNums y265)) = some r := by first | (rw [hy265]; with_reducible exact H) | (have H2_ := (Option.bind_some _ _).symm.trans H; rw [hy265]; with_reducible exact H2_) | (have H2_ := (Option.bind_some _ _).symm.trans H; with_reducible exact H2_) | with_reducible exact H | (rw [hy265]; exact H) | exact H
      have Ny265 := Aside0.mk hy265
      clear hy265
      obtain rfl := Option.some.inj H
      go_enter Tryd.func8, Tryd.ntmps8
      go_wp2_with (first | ((with_reducible refine gate_dst (N := 14) rfl ?_); refine Kd.R_lit (Kd.int .u8) _ 5 ?hg (N := 14) ?hd (xs := ([(wrap64 (48 + a0)) % 256] : List Int)) (inner := [.int .u8 ((wrap64 (48 + a0)) % 256)]) (ok := fun _ => True) (okp := fun _ => True) ?hr ?hp (fun _ hk => hk) trivial (Below.refl _ _) (Nat.le_refl _) (by simp) ?_; (case hd => rfl); (case hg => rfl); (case hr => first | (go_simp; done) | (go_simp; rfl)); (case hp => exact (Reps.one (show Kd.M (Kd.int .u8) _ _ _ ((wrap64 (48 + a0)) % 256) [.int .u8 ((wrap64 (48 + a0)) % 256)] from rfl) (Reps.none _ _))); intro v266 w7 ho8 hb hg_ hnew_; clear hg_ hnew_; (first | rw [← Ny265.out] at ho8 | (simp only [Int.reduceToNat] at ho8; rw [← Ny265.out] at ho8)); have n0_ := Aside0.mk (Kd.R_lower ho8 (below_size (by repeat (first | (with_reducible first | exact HB.out | apply below_alloc | apply pw_below_drewN | apply below_drew1) | exact HB.out)))); have n1_ := Aside0.mk (below_step (by repeat (first | (with_reducible first | exact HB.out | apply below_alloc | apply pw_below_drewN | apply below_drew1) | exact HB.out)) hb); clear HB; have HO267 := n0_; have HB := n1_; clear n0_ n1_; clear hb ho8; have hcv9 := own_string (P := Tryd.prog) Tryd.underlying49 Tryd.underlying5 Tryd.underlying9 (Kd.own_of_R HO267.out)))
      go_ret
      exact ⟨by first | rfl | (simp [errW_none, errW_some] <;> rfl) | (simp [*, errW_none, errW_some] <;> rfl), by repeat (first | (with_reducible first | exact HB.out | apply below_alloc | apply pw_below_drewN | apply below_drew1) | exact HB.out)⟩
    · rw [if_neg c6] at H
      have c6b0 : decide (a0 < 10) = false := decide_eq_false c6
      clear c6
      replace H := Option.bind_eq_some_iff.mp H
      obtain ⟨t268, A100, H⟩ := H
      replace H : ((laws_decimal.f k (Int.tmod a0 10)).bind fun t269 => (if t268.size + t269.size ≤ 9223372036854775807 then (some (t268 ++ t269)) else (none))) = some r := H
      have A10 := Aside0.mk A100
      clear A100
      replace H := Option.bind_eq_some_iff.mp H
      obtain ⟨t269, A110, H⟩ := H
      replace H : (if t268.size + t269.size ≤ 9223372036854775807 then (some (t268 ++ t269)) else (none)) = some r := H
      have A11 := Aside0.mk A110
      clear A110
      by_cases c12 : t268.size + t269.size ≤ 9223372036854775807
      · rw [if_pos c12] at H
        have c12b0 := eq_true c12
        have c12b1 : decide (t268.size + t269.size ≤ 9223372036854775807) = true := decide_eq_true c12
        try have c12b2 : (9223372036854775807 < t268.size + t269.size) = False := eq_false (Nat.not_lt.2 c12)
        try (have c12b3 := c12; simp only [ByteArray.size_append, prx_sz, List.length_cons, List.length_nil] at c12b3)
        obtain rfl := Option.some.inj H
        go_enter Tryd.func8, Tryd.ntmps8
        go_wp2_with (first | ((with_reducible refine gate_callee (f := 8) rfl ?_); refine goesL_ (some 18) rfl rfl Tryd.func8 (by kernel_rfl) rfl #[.int .i64 (wrap64 (Int.tdiv a0 10))] rfl (by (try simp only [List.map_toArray, List.map_cons, List.map_nil]); first | done | rfl | (simp only [List.length_drop, List.length_take]; rfl)) ?_; (with_reducible refine (ih k (by omega) (wrap64 (Int.tdiv a0 10)) t268 _ A10.out).mono ?_); rintro e w13 ⟨rfl, hb⟩; refine ⟨_, rfl, ?_⟩; have n0_ := Aside0.mk (below_step (by repeat (first | (with_reducible first | exact HB.out | apply below_alloc | apply pw_below_drewN | apply below_drew1) | exact HB.out)) hb); clear HB; have HB := n0_; clear n0_; (try clear hb); (try clear hb2); (try clear hk); (try clear hi)) | ((with_reducible refine gate_callee (f := 8) rfl ?_); refine goesL_ (some 21) rfl rfl Tryd.func8 (by kernel_rfl) rfl #[.int .i64 (Int.tmod a0 10)] rfl (by (try simp only [List.map_toArray, List.map_cons, List.map_nil]); first | done | rfl | (simp only [List.length_drop, List.length_take]; rfl)) ?_; (with_reducible refine (ih k (by omega) (Int.tmod a0 10) t269 _ A11.out).mono ?_); rintro e w14 ⟨rfl, hb⟩; refine ⟨_, rfl, ?_⟩; have n0_ := Aside0.mk (below_step (by repeat (first | (with_reducible first | exact HB.out | apply below_alloc | apply pw_below_drewN | apply below_drew1) | exact HB.out)) hb); clear HB; have HB := n0_; clear n0_; (try clear hb); (try clear hb2); (try clear hk); (try clear hi)))
        go_ret
        exact ⟨by first | rfl | (simp [errW_none, errW_some] <;> rfl) | (simp [*, errW_none, errW_some] <;> rfl), by repeat (first | (with_reducible first | exact HB.out | apply below_alloc | apply pw_below_drewN | apply below_drew1) | exact HB.out)⟩
      · rw [if_neg c12] at H
        exact absurd H (by simp)
def spec_big.f (a0 : Int) : Option (Int) := if a0 ≥ 97 then (if a0 ≤ 122 then (some ((a0 - 32) % 256)) else (some a0)) else (some a0)
end Go.Proofs.YtgmjaggkiifdjaaDoor.QA
