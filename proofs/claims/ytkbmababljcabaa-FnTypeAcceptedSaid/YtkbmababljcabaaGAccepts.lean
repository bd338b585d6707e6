/- impl.AcceptsType: ZzType behind a recover that never has to. -/
import Derived.Test.YtkbmababljcabaaGvBase
import Derived.Test.YtkbmababljcabaaQA5
import Derived.Laws.OwnMore
import Derived.Defers
import Derived.Recover
set_option linter.unusedVariables false
namespace Go.Proofs.Ytkbmababljcabaa.Given
open Go.RowKit Go.Proofs.YtkbmababljcabaaW.PrintWords Go.Proofs.YtkbmababljcabaaW.PrintLast Go.Proofs.YtkbmababljcabaaW.PrintMore Go.Proofs.Ytkbmababljcabaa.Base Go.Proofs.Ytkbmababljcabaa.Gv Go.Proofs.Ytkbmababljcabaa.QA

def impl_AcceptsType.f (k : Nat) (a0 a1 a2 : ByteArray) : Option (Bool × Bool) := (fiberhelpers_ZzType.f k a0 a1 a2).bind fun t => some (t, true)
theorem impl_AcceptsType.mono : ∀ a0 a1 a2 k, LeO (impl_AcceptsType.f k a0 a1 a2) (impl_AcceptsType.f (k + 1) a0 a1 a2) := by
  intro a0 a1 a2 k
  unfold impl_AcceptsType.f
  exact LeO.bind (fiberhelpers_ZzType.mono _ _ _ _) (fun _ => LeO.refl _)
theorem below_weaken_a {B C : Nat} {a b : World} (h : B ≤ C) (k : Below C a b) : Below B a b := ⟨k.os, k.tape, k.output, k.size, fun i hi => k.block i (by omega)⟩
theorem two_cells_b {w w' : World} {n : Nat} {T1 T2 : TypeId} {v1 v2 : Value} (hn : w.heap.size = n) (hb : Below ((w.alloc (.cells #[v1] T1)).alloc (.cells #[v2] T2)).heap.size ((w.alloc (.cells #[v1] T1)).alloc (.cells #[v2] T2)) w') :
    ((w'.cell? ⟨n, 0, none⟩ = some v1 ∧ w'.frozen? ⟨n, 0, none⟩ = false) ∧ (w'.cell? ⟨n + 1, 0, none⟩ = some v2 ∧ w'.frozen? ⟨n + 1, 0, none⟩ = false)) ∧
    (∀ u1 u2, Below w.heap.size w ((w'.setCell ⟨n, 0, none⟩ u1).setCell ⟨n + 1, 0, none⟩ u2)) := by
  subst hn
  have hs : ((w.alloc (.cells #[v1] T1)).alloc (.cells #[v2] T2)).heap.size = w.heap.size + 2 := by simp
  rw [hs] at hb
  have h1 : w'.heap[w.heap.size]? = some (.cells #[v1] T1 (0, 0)) := by
    rw [hb.block _ (by omega)]
    exact blk_alloc (heap_alloc_new w _) _
  have h2 : w'.heap[w.heap.size + 1]? = some (.cells #[v2] T2 (0, 0)) := by
    rw [hb.block _ (by omega)]
    have := heap_alloc_new (w.alloc (.cells #[v1] T1)) (.cells #[v2] T2)
    simpa using this
  refine ⟨⟨⟨?_, frozen_of_row _ _ 0 _ _ h1⟩, ⟨?_, frozen_of_row _ _ 0 _ _ h2⟩⟩, fun u1 u2 => ?_⟩
  · rw [cell_of_row _ _ 0 _ _ (0, 0) h1]; rfl
  · rw [cell_of_row _ _ 0 _ _ (0, 0) h2]; rfl
  · refine Below.setCell (Below.setCell ?_ (show w.heap.size ≤ w.heap.size from Nat.le_refl _) _) (show w.heap.size ≤ w.heap.size + 1 by omega) _
    have h0 : Below w.heap.size w ((w.alloc (.cells #[v1] T1)).alloc (.cells #[v2] T2)) := ((Below.refl _ _).alloc (Nat.le_refl _) _).alloc (by simp) _
    exact h0.trans (below_weaken_a (by omega) hb)
theorem acc_idle (p q : Addr) (w : World) :
    CallsD Try.prog 54 #[.pointer (some p), .pointer (some q)] .returning w fun e u' w' => e = .returned (.tuple #[]) ∧ u' = .returning ∧ w' = w := by
  refine callsD_of_wpS Try.func54 rfl fun c₀ cs hu => ?_
  apply wpS_seq
  apply wpS_region
  simp [wpOpsS, go_sem, recoverD, hu, Try.ntmps54, Exit.thenS]
  refine wpS_cond (t := false) (by simp [Act.eval, Array.replicate]) ?_
  simp only [Bool.false_eq_true, if_false]
  refine wpS_of_wp (wp_skip ?_)
  cases c₀
  simp_all [bodyPostS, results, Try.results54]
set_option maxHeartbeats 4000000 in
theorem impl_AcceptsType.calls (k : Nat) (a0 a1 a2 : ByteArray) (r1 : Bool) (r2 : Bool) (w : World) (h : impl_AcceptsType.f k a0 a1 a2 = some (r1, r2)) :
    Calls Try.prog 34 #[.string a0, .string a1, .string a2] w fun e w' => e = .returned (.tuple #[.bool r1, .bool r2]) ∧ Below w.heap.size w w' := by
  unfold impl_AcceptsType.f at h
  cases hz : fiberhelpers_ZzType.f k a0 a1 a2 with
  | none => rw [hz] at h; cases h
  | some t =>
    rw [hz] at h
    obtain ⟨rfl, rfl⟩ := Prod.mk.inj (Option.some.inj h)
    have HZ := Lib.hid hz
    clear h hz
    have hmf : ∀ (fn : Fn) (first cap : Array Value) (w : World), (Instr.makeFunc fn first cap).run Try.prog w = .ok (.func fn first cap) w := fun _ _ _ _ => rfl
    go_enter_defers Try.func34, Try.ntmps34
    go_wp2_with (
      go_at_call 55
      refine (fiberhelpers_ZzType.calls k a0 a1 a2 t _ HZ.out).mono ?_
      rintro e w' ⟨rfl, hb⟩
      obtain ⟨⟨b1, b2⟩, hbl⟩ := two_cells_b (w := w) rfl hb
      have HBL := Lib.hid hbl
      obtain ⟨c1, z1⟩ := b1
      obtain ⟨c2, z2⟩ := b2
      clear hb hbl)
    refine leaves_cons (f := 54) (args := #[.pointer (some ⟨w.heap.size, 0, none⟩), .pointer (some ⟨w.heap.size + 1, 0, none⟩)]) (by simp) (by simp [go_sem]) ?_
    refine (acc_idle ⟨w.heap.size, 0, none⟩ ⟨w.heap.size + 1, 0, none⟩ _).mono ?_
    rintro e u' w'' ⟨rfl, rfl, rfl⟩
    have hfinb := HBL.out (.bool t) (.bool true)
    simp [Leaves, settle, results, Try.results34, go_sem, c1, c2]
    exact hfinb
end Go.Proofs.Ytkbmababljcabaa.Given
