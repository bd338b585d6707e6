/- impl.BadTrailer: whether a key may not be a trailer, behind a recover that never has to. -/
import Derived.Test.YtjnnadpecendpaaGvBase
import Derived.Test.YtjnnadpecendpaaGvRow
import Derived.Test.YtjnnadpecendpaaQA5
import Derived.Laws.OwnMore
import Derived.Defers
import Derived.Recover
set_option linter.unusedVariables false
namespace Go.Proofs.Ytjnnadpecendpaa.Given
open Go.RowKit Go.Proofs.YtjnnadpecendpaaW.PrintWords Go.Proofs.YtjnnadpecendpaaW.PrintLast Go.Proofs.YtjnnadpecendpaaW.PrintMore Go.Proofs.Ytjnnadpecendpaa.Base Go.Proofs.Ytjnnadpecendpaa.Gv Go.Proofs.Ytjnnadpecendpaa.QA

def impl_BadTrailer.f (k : Nat) (a0 : ByteArray) : Option (Bool × Bool) := if a0.size ≤ 4611686018427387904 then (hertzproto_IsBadTrailer.f k (ns a0)).bind fun t => some (t, true) else none
theorem impl_BadTrailer.mono : ∀ a0 k, LeO (impl_BadTrailer.f k a0) (impl_BadTrailer.f (k + 1) a0) := by
  intro a0 k
  unfold impl_BadTrailer.f
  exact LeO.ite (LeO.bind (hertzproto_IsBadTrailer.mono _ _) (fun _ => LeO.refl _)) (LeO.none _)
theorem below_weaken_a {B C : Nat} {a b : World} (h : B ≤ C) (k : Below C a b) : Below B a b := ⟨k.os, k.tape, k.output, k.size, fun i hi => k.block i (by omega)⟩
theorem two_cells_b {w w' : World} {n : Nat} {T1 T2 : TypeId} {v1 v2 : Value} (hn : w.heap.size = n) (hb : Below ((w.alloc (.cells #[v1] T1)).alloc (.cells #[v2] T2)).heap.size ((w.alloc (.cells #[v1] T1)).alloc (.cells #[v2] T2)) w') :
    ((w'.cell? ⟨n, 0, none⟩ = some v1 ∧ w'.frozen? ⟨n, 0, none⟩ = false) ∧ (w'.cell? ⟨n + 1, 0, none⟩ = some v2 ∧ w'.frozen? ⟨n + 1, 0, none⟩ = false)) ∧
    (∀ u1 u2, Below w.heap.size w ((w'.setCell ⟨n, 0, none⟩ u1).setCell ⟨n + 1, 0, none⟩ u2)) := by
  subst hn
  have hs : ((w.alloc (.cells #[v1] T1)).alloc (.cells #[v2] T2)).heap.size = w.heap.size + 2 := by simp
  rw [hs] at hb
  have h1 : w'.heap[w.heap.size]? = some (.cells #[v1] T1 (0, 0)) := by
    rw [hb.block _ (by omega)]
    exact blk_alloc (heap_alloc_new w _) _
  have h2 : w'.heap[w.heap.size + 1]? = some (.cells #[v2] T2 (0, 0)) := by
    rw [hb.block _ (by omega)]
    have := heap_alloc_new (w.alloc (.cells #[v1] T1)) (.cells #[v2] T2)
    simpa using this
  refine ⟨⟨⟨?_, frozen_of_row _ _ 0 _ _ h1⟩, ⟨?_, frozen_of_row _ _ 0 _ _ h2⟩⟩, fun u1 u2 => ?_⟩
  · rw [cell_of_row _ _ 0 _ _ (0, 0) h1]; rfl
  · rw [cell_of_row _ _ 0 _ _ (0, 0) h2]; rfl
  · refine Below.setCell (Below.setCell ?_ (show w.heap.size ≤ w.heap.size from Nat.le_refl _) _) (show w.heap.size ≤ w.heap.size + 1 by omega) _
    have h0 : Below w.heap.size w ((w.alloc (.cells #[v1] T1)).alloc (.cells #[v2] T2)) := ((Below.refl _ _).alloc (Nat.le_refl _) _).alloc (by simp) _
    exact h0.trans (below_weaken_a (by omega) hb)
theorem bad_idle (p q : Addr) (w : World) :
    CallsD Try.prog 32 #[.pointer (some p), .pointer (some q)] .returning w fun e u' w' => e = .returned (.tuple #[]) ∧ u' = .returning ∧ w' = w := by
  refine callsD_of_wpS Try.func32 rfl fun c₀ cs hu => ?_
  apply wpS_seq
  apply wpS_region
  simp [wpOpsS, go_sem, recoverD, hu, Try.ntmps32, Exit.thenS]
  refine wpS_cond (t := false) (by simp [Act.eval, Array.replicate]) ?_
  simp only [Bool.false_eq_true, if_false]
  refine wpS_of_wp (wp_skip ?_)
  cases c₀
  simp_all [bodyPostS, results, Try.results32]
set_option maxHeartbeats 4000000 in
theorem impl_BadTrailer.calls (k : Nat) (a0 : ByteArray) (r1 : Bool) (r2 : Bool) (w : World) (h : impl_BadTrailer.f k a0 = some (r1, r2)) :
    Calls Try.prog 10 #[.string a0] w fun e w' => e = .returned (.tuple #[.bool r1, .bool r2]) ∧ Below w.heap.size w w' := by
  unfold impl_BadTrailer.f at h
  by_cases hbd : a0.size ≤ 4611686018427387904
  · rw [if_pos hbd] at h
    cases hz : hertzproto_IsBadTrailer.f k (ns a0) with
    | none => rw [hz] at h; cases h
    | some t =>
      rw [hz] at h
      obtain ⟨rfl, rfl⟩ := Prod.mk.inj (Option.some.inj h)
      have hcv := Lib.run_convert_string_bytes (P := Try.prog) ((w.alloc (.cells #[.bool false] 4)).alloc (.cells #[.bool false] 4)) 9 56 5 a0 Try.underlying9 Try.underlying56 Try.underlying5
      have hcap := grownCap_ge ((w.alloc (.cells #[.bool false] 4)).alloc (.cells #[.bool false] 4)) a0.size 0 5
      have hbr := Br.conv ((w.alloc (.cells #[.bool false] 4)).alloc (.cells #[.bool false] 4)) 5 a0
      have hbl := conv_below ((w.alloc (.cells #[.bool false] 4)).alloc (.cells #[.bool false] 4)) 5 a0
      obtain ⟨c, hc⟩ : ∃ c, grownCap ((w.alloc (.cells #[.bool false] 4)).alloc (.cells #[.bool false] 4)) a0.size 0 5 = c := ⟨_, rfl⟩
      rw [hc] at hcv hcap
      obtain ⟨W, hW⟩ : ∃ W, Lib.bytesWorld ((w.alloc (.cells #[.bool false] 4)).alloc (.cells #[.bool false] 4)) 5 a0 = W := ⟨_, rfl⟩
      rw [hW] at hcv hbr hbl
      have hs2 : ((w.alloc (.cells #[.bool false] 4)).alloc (.cells #[.bool false] 4)).heap.size = w.heap.size + 1 + 1 := by simp
      have hC := hbr.C (by rw [ns_length]; omega : (ns a0).length ≤ 9223372036854775807)
      rw [hs2] at hC
      have hin := hertzproto_IsBadTrailer.calls k (some ⟨w.heap.size + 1 + 1, 0, none⟩) c (ns a0) t W hC (by rw [ns_length]; exact hcap) hz
      rw [ns_length] at hin
      have hin2 : Hid (Calls Try.prog 33 #[.slice (some ⟨w.heap.size + 1 + 1, 0, none⟩) a0.size c] W fun e w' => e = .returned (.bool t) ∧ Below ((w.alloc (.cells #[.bool false] 4)).alloc (.cells #[.bool false] 4)).heap.size ((w.alloc (.cells #[.bool false] 4)).alloc (.cells #[.bool false] 4)) w') := Lib.hid (hin.mono (by
        rintro e w' ⟨rfl, hb⟩
        exact ⟨rfl, below_then hbl hbl.size hb⟩))
      clear h hz hc hW hbr hbl hin hcap hs2 hC
      have hmf : ∀ (fn : Fn) (first cap : Array Value) (w : World), (Instr.makeFunc fn first cap).run Try.prog w = .ok (.func fn first cap) w := fun _ _ _ _ => rfl
      go_enter_defers Try.func10, Try.ntmps10
      go_wp2_with (
        go_at_call 33
        refine hin2.out.mono ?_
        rintro e w' ⟨rfl, hb⟩
        obtain ⟨⟨b1, b2⟩, hbl⟩ := two_cells_b (w := w) rfl hb
        have HBL := Lib.hid hbl
        obtain ⟨c1, z1⟩ := b1
        obtain ⟨c2, z2⟩ := b2
        clear hb hbl)
      refine leaves_cons (f := 32) (args := #[.pointer (some ⟨w.heap.size, 0, none⟩), .pointer (some ⟨w.heap.size + 1, 0, none⟩)]) (by simp) (by simp [go_sem]) ?_
      refine (bad_idle ⟨w.heap.size, 0, none⟩ ⟨w.heap.size + 1, 0, none⟩ _).mono ?_
      rintro e u' w'' ⟨rfl, rfl, rfl⟩
      have hfinb := HBL.out (.bool t) (.bool true)
      simp [Leaves, settle, results, Try.results10, go_sem, c1, c2]
      exact hfinb
  · rw [if_neg hbd] at h
    cases h
end Go.Proofs.Ytjnnadpecendpaa.Given
