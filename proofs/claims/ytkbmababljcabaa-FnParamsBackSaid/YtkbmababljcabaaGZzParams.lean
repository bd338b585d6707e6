/- ZzParams: the parameters of a list, names and values in turn, at most so many. -/
import Derived.Test.YtkbmababljcabaaGParams
import Derived.Laws.OwnMore
import Derived.WalkMore
set_option linter.unusedVariables false
namespace Go.Proofs.Ytkbmababljcabaa.Given
open Go.RowKit Go.Proofs.YtkbmababljcabaaW.PrintWords Go.Proofs.YtkbmababljcabaaW.PrintLast Go.Proofs.YtkbmababljcabaaW.PrintMore Go.Proofs.Ytkbmababljcabaa.Base Go.Proofs.Ytkbmababljcabaa.Gv Go.Proofs.Ytkbmababljcabaa.QA

def zzStep (most : Int) (outs : List ByteArray) (p v : ByteArray) : Bool × List ByteArray := (decide (most < 0) || decide (((outs.length + 2 : Nat) : Int) < wrap64 (2 * most)), outs ++ [p, v])
/-- Block b holds the bound, block o a slice of texts of the call's own. -/
def ZzRow (w : World) (b o : Nat) (most : Int) (outs : List ByteArray) : Prop :=
  b < o ∧ o < w.heap.size ∧ w.heap[b]? = some (.cells #[.int .i64 most] 3 (0, 0)) ∧ ∃ v, w.heap[o]? = some (.cells #[v] 29 (0, 0)) ∧ w.ownsRow (o + 1) 9 1 v outs.length (encs Value.string outs)
set_option maxHeartbeats 2000000 in
set_option maxRecDepth 100000 in
theorem zzPush_calls (w : World) (b o : Nat) (most : Int) (outs : List ByteArray) (s t : ByteArray) (h : ZzRow w b o most outs) (hlen : (outs.length + 2) * 16 ≤ 140737488355328) :
    Calls Try.prog 72 #[.string s, .string t, .pointer (some ⟨o, 0, none⟩), .pointer (some ⟨b, 0, none⟩)] w fun e w' => e = .returned (.bool (zzStep most outs s t).1) ∧ ZzRow w' b o most (zzStep most outs s t).2 ∧ Below o w w' := by
  obtain ⟨hbo, h1, hb0, v, hh, ho⟩ := h
  have hinfo : (Try.prog.info? 9).map (fun i => (i.zero, i.size, i.bytes)) = some (some (.string ByteArray.empty), 1, 16) := by kernel_rfl
  obtain ⟨i0, hi, hz0, hz1, hz2⟩ := info_parts hinfo
  have c0 : w.cell? ⟨o, 0, none⟩ = some v := by rw [cell_of_row w o 0 _ _ (0, 0) hh]; rfl
  have HO := Lib.hid ho
  have HH := Lib.hid hh
  have HB0 := Lib.hid hb0
  obtain ⟨R, hR⟩ : ∃ R, zzStep most outs s t = R := ⟨_, rfl⟩
  rw [hR]
  have HRS := Lib.hid hR
  clear ho hh hb0 hR
  go_enter Try.func72, Try.ntmps72
  go_upto_region 2 with (at_builtin; refine wpList_append_own _ rfl _ _ 29 rfl (o + 1) 9 i0 (.string ByteArray.empty) 1 16 Try.underlying29 hi hz0 hz1 hz2 rfl (by decide) _ _ _ rfl (HO.out.alloc _) ⟨w.heap.size, 0, none⟩ 2 2 [.string s, .string t] rfl rfl ?c1 ?c2 ?c3 ?c4 ?c5 ?_)
  case c1 =>
    intro j u hj
    match j, hj with
    | 0, hj => simp at hj; subst hj; simp [Addr.add]
    | 1, hj => simp at hj; subst hj; simp [Addr.add]
  case c2 =>
    intro u hu
    simp only [List.mem_cons, List.not_mem_nil, or_false] at hu
    rcases hu with rfl | rfl <;> rfl
  case c3 => unfold maxLen; omega
  case c4 => exact hlen
  case c5 => simp; omega
  intro v' w2 hown' hgrow _
  have hvb : ∀ k, k ≤ o → some k ≠ v.ownBlock := fun k hk e => by have := own_base HO.out k e.symm; omega
  have hold : ∀ k, k ≤ o → w2.heap[k]? = w.heap[k]? := fun k hk => by
    rw [hgrow.block k (by simp; omega) (hvb k hk)]
    exact Below.heap_alloc _ _ _ (by omega)
  have hb2 : w2.heap[o]? = some (.cells #[v] 29 (0, 0)) := by rw [hold o (Nat.le_refl _)]; exact HH.out
  have d0 : w2.cell? ⟨o, 0, none⟩ = some v := by rw [cell_of_row w2 o 0 _ _ (0, 0) hb2]; rfl
  have f0 : w2.frozen? ⟨o, 0, none⟩ = false := frozen_of_row _ _ 0 _ _ hb2
  obtain ⟨g, cap, rfl⟩ : ∃ g cap, v' = .slice (some ⟨g, 0, none⟩) (outs.length + 2) cap := by
    rcases hown'.2 with ⟨_, h0⟩ | ⟨g, cap, cur, hv, _⟩
    · omega
    · exact ⟨g, cap, hv⟩
  have hbw2 : Below o w w2 := by
    refine ⟨hgrow.os, hgrow.tape, hgrow.output, ?_, fun k hk => hold k (by omega)⟩
    have := hgrow.size
    simp at this
    omega
  have hbb : w2.heap[b]? = some (.cells #[.int .i64 most] 3 (0, 0)) := by rw [hold b (by omega)]; exact HB0.out
  have HOW := Lib.hid hown'
  have HB2 := Lib.hid hb2
  have HW2 := Lib.hid hbw2
  have HBB := Lib.hid hbb
  obtain ⟨W3, hW3⟩ : ∃ W, w2.setCell ⟨o, 0, none⟩ (.slice (some ⟨g, 0, none⟩) (outs.length + 2) cap) = W := ⟨_, rfl⟩
  have HFIN : Hid (ZzRow W3 b o most (outs ++ [s, t]) ∧ Below o w W3 ∧ W3.cell? ⟨o, 0, none⟩ = some (.slice (some ⟨g, 0, none⟩) (outs.length + 2) cap) ∧ W3.cell? ⟨b, 0, none⟩ = some (.int .i64 most)) := Lib.hid (by
    rw [← hW3]
    have hsame := heap_setCell_same w2 o 0 _ 29 (.slice (some ⟨g, 0, none⟩) (outs.length + 2) cap) HB2.out
    have hsb : (w2.setCell ⟨o, 0, none⟩ (.slice (some ⟨g, 0, none⟩) (outs.length + 2) cap)).heap[b]? = some (.cells #[.int .i64 most] 3 (0, 0)) := by
      rw [Below.heap_setCell _ _ _ _ (show b ≠ o by omega)]; exact HBB.out
    have hso : (w2.setCell ⟨o, 0, none⟩ (.slice (some ⟨g, 0, none⟩) (outs.length + 2) cap)).heap[o]? = some (.cells #[.slice (some ⟨g, 0, none⟩) (outs.length + 2) cap] 29 (0, 0)) := by simpa using hsame
    refine ⟨⟨hbo, by rw [World.size_setCell]; have := HW2.out.size; omega, hsb, .slice (some ⟨g, 0, none⟩) (outs.length + 2) cap, hso, ?_⟩, HW2.out.setCell (p := ⟨o, 0, none⟩) (Nat.le_refl _) _, ?_, ?_⟩
    · have hm := own_move (w1 := w2.setCell ⟨o, 0, none⟩ (.slice (some ⟨g, 0, none⟩) (outs.length + 2) cap)) HOW.out (fun k hk => Below.heap_setCell _ _ _ _ (by have := own_base HOW.out k hk; show k ≠ o; omega))
      rw [encs_append, List.length_append]
      exact hm
    · rw [cell_of_row _ o 0 _ _ (0, 0) hso]; rfl
    · rw [cell_of_row _ b 0 _ _ (0, 0) hsb]; rfl)
  clear hown' hb2 hbw2 hgrow hold hvb hi hz0 hz1 hz2 hinfo hbb
  go_upto_region 2 with fail
  try rw [hW3]
  obtain ⟨r1, r2, r3, r4⟩ := HFIN.out
  have R1 := Lib.hid r1
  have R2 := Lib.hid r2
  clear r1 r2 hW3 d0 f0 HFIN c0
  by_cases hm : most < 0
  · have hz : R = (true, outs ++ [s, t]) := by rw [← HRS.out]; unfold zzStep; rw [decide_eq_true hm]; rfl
    subst hz
    go_wp2
    go_ret
    exact ⟨rfl, R1.out, R2.out⟩
  · by_cases hl : ((outs.length + 2 : Nat) : Int) < wrap64 (2 * most)
    · have hz : R = (true, outs ++ [s, t]) := by rw [← HRS.out]; unfold zzStep; rw [decide_eq_false hm, decide_eq_true hl]; rfl
      have hl2 : (outs.length : Int) + 2 < wrap64 (2 * most) := by omega
      subst hz
      go_wp2
      go_ret
      exact ⟨by first | rfl | simp [hl2], R1.out, R2.out⟩
    · have hz : R = (false, outs ++ [s, t]) := by rw [← HRS.out]; unfold zzStep; rw [decide_eq_false hm, decide_eq_false hl]; rfl
      have hl2 : ¬ ((outs.length : Int) + 2 < wrap64 (2 * most)) := by omega
      subst hz
      go_wp2
      go_ret
      exact ⟨by first | rfl | simp [hl2], R1.out, R2.out⟩
theorem ZzRow.drewN {w : World} {b o : Nat} {most : Int} {outs : List ByteArray} (h : ZzRow w b o most outs) (k : Nat) : ZzRow (w.drewN k) b o most outs := h
def zzOf (a0 : ByteArray) (most : Int) : List ByteArray := if most = 0 then [] else foldP (zzStep most) a0.size [] (ns a0)
def fiberhelpers_ZzParams.f (a0 : ByteArray) (most : Int) : Option (List ByteArray) := if a0.size ≤ 1099511627776 then some (zzOf a0 most) else none
set_option maxHeartbeats 2000000 in
set_option maxRecDepth 100000 in
theorem zzParams_calls (a0 : ByteArray) (most : Int) (w : World) (h0 : a0.size ≤ 1099511627776) :
    Calls Try.prog 50 #[.string a0, .int .i64 most] w fun e w' => ∃ v, e = .returned v ∧ Kd.R Kd.string 9 w' w.heap.size (fun _ => True) v (zzOf a0 most) ∧ Below w.heap.size w w' := by
  have hmf : ∀ (fn : Fn) (first cap : Array Value) (w : World), (Instr.makeFunc fn first cap).run Try.prog w = .ok (.func fn first cap) w := fun _ _ _ _ => rfl
  obtain ⟨W, hW⟩ : ∃ W, (w.alloc (.cells #[.int .i64 most] 3)).alloc (.cells #[.slice none 0 0] 29) = W := ⟨_, rfl⟩
  have hsz : W.heap.size = w.heap.size + 2 := by rw [← hW]; simp
  have hb : Hid (W.heap[w.heap.size]? = some (.cells #[.int .i64 most] 3 (0, 0))) := Lib.hid (by rw [← hW]; exact blk_alloc (heap_alloc_new w _) _)
  have ho : Hid (W.heap[w.heap.size + 1]? = some (.cells #[.slice none 0 0] 29 (0, 0))) := Lib.hid (by
    rw [← hW]
    have := heap_alloc_new (w.alloc (.cells #[.int .i64 most] 3)) (.cells #[.slice none 0 0] 29)
    simpa using this)
  have hbl : Hid (Below w.heap.size w W) := Lib.hid (by rw [← hW]; exact ((Below.refl _ _).alloc (Nat.le_refl _) _).alloc (by simp) _)
  by_cases hm : most = 0
  · subst hm
    have hz : zzOf a0 0 = [] := by unfold zzOf; rw [if_pos rfl]
    rw [hz]
    have cb : W.cell? ⟨w.heap.size, 0, none⟩ = some (.int .i64 0) := by rw [cell_of_row W _ 0 _ _ (0, 0) hb.out]; rfl
    clear hz
    go_enter Try.func50, Try.ntmps50
    go_wp2
    go_ret
    exact ⟨_, rfl, Kd.R_nil _ _ _ _ _, hbl.out⟩
  · have hz : zzOf a0 most = foldP (zzStep most) a0.size [] (ns a0) := by unfold zzOf; rw [if_neg hm]
    rw [hz]
    have cb : W.cell? ⟨w.heap.size, 0, none⟩ = some (.int .i64 most) := by rw [cell_of_row W _ 0 _ _ (0, 0) hb.out]; rfl
    have hmb : (most == 0) = false := beq_eq_false_iff_ne.2 hm
    have hfe := forEach_calls 72 #[.pointer (some ⟨w.heap.size + 1, 0, none⟩), .pointer (some ⟨w.heap.size, 0, none⟩)] (zzStep most) (fun W i outs => ZzRow W w.heap.size (w.heap.size + 1) most outs ∧ outs.length = 2 * i) (w.heap.size + 1) a0 h0
      (fun W i s n hI => ⟨hI.1.drewN n, hI.2⟩)
      (fun W i s p v hI hi hp hv => by
        refine (zzPush_calls W w.heap.size (w.heap.size + 1) most s p v hI.1 (by have := hI.2; omega)).mono ?_
        rintro e w' ⟨rfl, g1, g2⟩
        refine ⟨rfl, ⟨g1, ?_⟩, g2⟩
        have := hI.2
        unfold zzStep
        simp
        omega)
      (fun args W => by first | rfl | kernel_rfl) [] W ⟨⟨by omega, by omega, hb.out, .slice none 0 0, ho.out, own_nil _ _ _ _⟩, rfl⟩
    obtain ⟨R, hR⟩ : ∃ R, foldP (zzStep most) a0.size [] (ns a0) = R := ⟨_, rfl⟩
    rw [hR] at hfe ⊢
    have HFE := Lib.hid hfe
    clear hz hR hfe hm
    go_enter Try.func50, Try.ntmps50
    go_wp2_with (
      go_at_call 71
      refine HFE.out.mono ?_
      rintro e w' ⟨rfl, ⟨i, hr, _⟩, hb2⟩
      obtain ⟨_, hlt, _, v, hh, hown⟩ := hr
      have c0 : w'.cell? ⟨w.heap.size + 1, 0, none⟩ = some v := by rw [cell_of_row w' _ 0 _ _ (0, 0) hh]; rfl
      have HR := Lib.hid (Kd.R_of_own (h1 := fun _ => rfl) (ok := fun _ => True) (own_weaken hown (show w.heap.size ≤ w.heap.size + 1 + 1 by omega)) (fun _ _ => trivial))
      have HB := Lib.hid hb2
      clear hh hown hb2 hlt)
    go_ret
    exact ⟨_, rfl, HR.out, hbl.out.trans ⟨HB.out.os, HB.out.tape, HB.out.output, HB.out.size, fun i hi => HB.out.block i (by omega)⟩⟩
theorem fiberhelpers_ZzParams.calls (a0 : ByteArray) (a1 : Int) (r1 : List ByteArray) (w : World) (h : fiberhelpers_ZzParams.f a0 a1 = some r1) :
    Calls Try.prog 50 #[.string a0, .int .i64 a1] w fun e w' => ∃ v0_ : Value, e = .returned v0_ ∧ Kd.R Kd.string 9 w' w.heap.size (fun _ => True) v0_ r1 ∧ Below w.heap.size w w' := by
  unfold fiberhelpers_ZzParams.f at h
  by_cases hb : a0.size ≤ 1099511627776
  · rw [if_pos hb] at h
    obtain rfl := Option.some.inj h
    exact zzParams_calls a0 a1 w hb
  · rw [if_neg hb] at h
    cases h
end Go.Proofs.Ytkbmababljcabaa.Given
