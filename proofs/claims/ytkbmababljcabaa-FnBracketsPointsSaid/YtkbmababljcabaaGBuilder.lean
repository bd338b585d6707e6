/- strings.Builder, with one row of bytes of the caller's own beside it: WriteByte, String. -/
import Derived.Test.YtkbmababljcabaaGvRow
import Derived.Lib.Builder
import Derived.Lib.UnsafeStr
import Derived.Lib.FrozenHead
import Derived.Deep.QuietTactic
import Derived.BigQuiet
import Derived.Laws.Externs
import Derived.Shelf.RegionOpenPlain
set_option linter.unusedVariables false
namespace Go.Proofs.Ytkbmababljcabaa.Given
open Go.RowKit Go.Proofs.YtkbmababljcabaaW.PrintWords Go.Proofs.YtkbmababljcabaaW.PrintLast Go.Proofs.YtkbmababljcabaaW.PrintMore Go.Proofs.Ytkbmababljcabaa.Base Go.Proofs.Ytkbmababljcabaa.Gv

/-- A builder in block b that holds xs; its bytes lie at or above kb + 1. -/
def Bld (w : World) (b kb : Nat) (xs : List Int) : Prop :=
  b < kb ∧ kb < w.heap.size ∧ ∃ p v, w.heap[b]? = some (.cells #[p, v] 107 (0, 0)) ∧ (p = .pointer none ∨ p = .pointer (some ⟨b, 0, none⟩)) ∧ w.ownsRow (kb + 1) 5 1 v xs.length (nums .u8 xs) ∧ (xs = [] → v = .slice none 0 0)
theorem Bld.below {w w' : World} {b kb : Nat} {xs : List Int} (h : Bld w b kb xs) (hb : Below w.heap.size w w') : Bld w' b kb xs := by
  obtain ⟨h1, h2, p, v, hh, hp, ho, he⟩ := h
  exact ⟨h1, Nat.lt_of_lt_of_le h2 hb.size, p, v, by rw [hb.block b (by omega)]; exact hh, hp, pw_own_below ho hb, he⟩
set_option maxHeartbeats 1000000 in
set_option maxRecDepth 100000 in
theorem copyCheck_used (b : Nat) (w : World) (h0 : w.cell? ⟨b, 0, none⟩ = some (.pointer (some ⟨b, 0, none⟩))) :
    Calls Try.prog 92 #[.pointer (some ⟨b, 0, none⟩)] w fun e w' => e = .returned (.tuple #[]) ∧ w' = w := by
  obtain ⟨j, hj, _⟩ := Option.map_eq_some_iff.1 (show (Try.prog.info? 107).map (·.size) = some 2 by kernel_rfl)
  go_enter Try.func92, Try.ntmps92
  go_wp2
  rw [Lib.run_neq_ptr_same w _ Try.underlying105 hj]
  go_wp2
  go_end0
  exact ⟨rfl, rfl⟩
set_option maxHeartbeats 1000000 in
set_option maxRecDepth 100000 in
theorem copyCheck_fresh (b : Nat) (w : World) (h0 : w.cell? ⟨b, 0, none⟩ = some (.pointer none)) (hsh : w.shape? b = some (107, 2)) (hfz : w.frozen? ⟨b, 0, none⟩ = false) :
    Calls Try.prog 92 #[.pointer (some ⟨b, 0, none⟩)] w fun e w' => e = .returned (.tuple #[]) ∧ w' = w.setCell ⟨b, 0, none⟩ (.pointer (some ⟨b, 0, none⟩)) := by
  obtain ⟨j, hj, hjs⟩ := Option.map_eq_some_iff.1 (show (Try.prog.info? 107).map (·.size) = some 2 by kernel_rfl)
  go_enter Try.func92, Try.ntmps92
  go_wp2
  rw [Lib.run_to_unsafe w ⟨b, 0, none⟩ Try.underlying105 Try.underlying121 hj (by rw [hjs]; decide) hsh (Nat.zero_lt_succ 1)]
  simp only [Result.andThen]
  rw [Oper.upon_value]
  go_wp2
  rw [run_callFunc_extern Try.func96 (by kernel_rfl) (by kernel_rfl) (by kernel_rfl) (e := Extern.AbiNoEscape.same) (by kernel_rfl)]
  rw [Lib.run_noEscape]
  simp only [Result.andThen]
  rw [Oper.upon_value]
  go_wp2
  rw [Lib.run_from_unsafe w ⟨b, 0, none⟩ Try.underlying121 Try.underlying105 hj hsh (by kernel_rfl)]
  simp only [Result.andThen]
  rw [Oper.upon_value]
  go_wp2
  go_end0
  exact ⟨rfl, rfl⟩
/-- copyCheck: behind it the builder is in use; only its own block has been written. -/
theorem copyCheck_calls (w : World) (b kb : Nat) (xs : List Int) (h : Bld w b kb xs) :
    Calls Try.prog 92 #[.pointer (some ⟨b, 0, none⟩)] w fun e w' => e = .returned (.tuple #[]) ∧ (∃ v, w'.heap[b]? = some (.cells #[.pointer (some ⟨b, 0, none⟩), v] 107 (0, 0)) ∧ w'.ownsRow (kb + 1) 5 1 v xs.length (nums .u8 xs)) ∧ Below b w w' ∧ w'.heap.size = w.heap.size ∧ ∀ k, k ≠ b → w'.heap[k]? = w.heap[k]? := by
  obtain ⟨h1, h2, p, v, hh, hp, ho, _⟩ := h
  rcases hp with rfl | rfl
  · refine (copyCheck_fresh b w (by rw [Lib.cell_of_heap hh]; rfl) (by simp [World.shape?, hh]) (Lib.frozen_of_heap hh 0)).mono ?_
    rintro e w' ⟨rfl, rfl⟩
    refine ⟨rfl, ⟨v, ?_, ?_⟩, (Below.refl b w).setCell (p := ⟨b, 0, none⟩) (Nat.le_refl _) _, by simp, fun k hk => Below.heap_setCell _ _ _ _ hk⟩
    · have := heap_setCell_same w b 0 #[.pointer none, v] 107 (.pointer (some ⟨b, 0, none⟩)) hh
      simpa using this
    · exact own_move ho (fun k hk => Below.heap_setCell _ _ _ _ (by have := own_base ho k hk; show k ≠ b; omega))
  · refine (copyCheck_used b w (by rw [Lib.cell_of_heap hh]; rfl)).mono ?_
    rintro e w' ⟨rfl, rfl⟩
    exact ⟨rfl, ⟨v, hh, ho⟩, Below.refl _ _, rfl, fun _ _ => rfl⟩
set_option maxHeartbeats 2000000 in
set_option maxRecDepth 100000 in
theorem writeByte_calls (w : World) (b kb : Nat) (xs : List Int) (c : Int) (h : Bld w b kb xs) (hlen : xs.length + 1 ≤ 140737488355328) :
    Calls Try.prog 81 #[.pointer (some ⟨b, 0, none⟩), .int .u8 c] w fun e w' => e = .returned .nilIface ∧ Bld w' b kb (xs ++ [c]) ∧ Below b w w' ∧ w'.heap[kb]? = w.heap[kb]? := by
  have hcc := Lib.hid (copyCheck_calls w b kb xs h)
  obtain ⟨h1, h2, _⟩ := h
  have hinfo : (Try.prog.info? 5).map (fun i => (i.zero, i.size, i.bytes)) = some (some (.int .u8 0), 1, 1) := by kernel_rfl
  obtain ⟨i0, hi, hz0, hz1, hz2⟩ := info_parts hinfo
  go_enter Try.func81, Try.ntmps81
  go_wp2_with (go_at_call 92; refine hcc.out.mono ?_)
  rintro e w1 ⟨rfl, ⟨v, hbk, hown⟩, hb1, hsz1, hoth⟩
  have c0 : w1.cell? ⟨b, 0, none⟩ = some (.pointer (some ⟨b, 0, none⟩)) := by rw [Lib.cell_of_heap hbk]; rfl
  have c1 : w1.cell? ⟨b, 1, none⟩ = some v := by rw [Lib.cell_of_heap hbk]; rfl
  have HSZ := Lib.hid hsz1
  have HOTH := Lib.hid hoth
  have HOWN := Lib.hid hown
  have HBK := Lib.hid hbk
  have HB1 := Lib.hid hb1
  clear hsz1 hoth hown hbk hb1 hcc
  go_wp2_with (at_builtin; refine wpList_append_own _ rfl _ _ 30 rfl (kb + 1) 5 i0 (.int .u8 0) 1 1 Try.underlying30 hi hz0 hz1 hz2 rfl (by decide) _ _ _ rfl (HOWN.out.alloc _) ⟨w1.heap.size, 0, none⟩ 1 1 [.int .u8 c] rfl rfl ?c1 ?c2 ?c3 ?c4 ?c5 ?_)
  case c1 =>
    intro j u hj
    match j, hj with
    | 0, hj => simp at hj; subst hj; simp [Addr.add]
  case c2 => intro u hu; simp at hu; subst hu; rfl
  case c3 => unfold maxLen; omega
  case c4 => omega
  case c5 => have := HSZ.out; simp; omega
  intro v' w2 hown' hgrow _
  have hvb : ∀ k, k ≤ kb → some k ≠ v.ownBlock := fun k hk e => by have := own_base HOWN.out k e.symm; omega
  have hlt : kb < w1.heap.size := by rw [HSZ.out]; exact h2
  have hold : ∀ k, k ≤ kb → w2.heap[k]? = w1.heap[k]? := fun k hk => by
    rw [hgrow.block k (by simp; omega) (hvb k hk)]
    exact Below.heap_alloc _ _ _ (by omega)
  have hb2 : w2.heap[b]? = some (.cells #[.pointer (some ⟨b, 0, none⟩), v] 107 (0, 0)) := by rw [hold b (by omega)]; exact HBK.out
  have hkb2 : w2.heap[kb]? = w.heap[kb]? := by rw [hold kb (Nat.le_refl _)]; exact HOTH.out kb (by omega)
  have d0 : w2.cell? ⟨b, 0, none⟩ = some (.pointer (some ⟨b, 0, none⟩)) := by rw [Lib.cell_of_heap hb2]; rfl
  have d1 : w2.cell? ⟨b, 1, none⟩ = some v := by rw [Lib.cell_of_heap hb2]; rfl
  have f1 : w2.frozen? ⟨b, 1, none⟩ = false := Lib.frozen_of_heap hb2 1
  obtain ⟨g, cap, rfl⟩ : ∃ g cap, v' = .slice (some ⟨g, 0, none⟩) (xs.length + 1) cap := by
    rcases hown'.2 with ⟨_, h0⟩ | ⟨g, cap, cur, hv, _⟩
    · omega
    · exact ⟨g, cap, hv⟩
  have hbw2 : Below b w w2 := by
    refine HB1.out.trans ⟨hgrow.os, hgrow.tape, hgrow.output, ?_, fun k hk => hold k (by omega)⟩
    have := hgrow.size
    simp at this
    omega
  have HO := Lib.hid hown'
  have HB2 := Lib.hid hb2
  have HK2 := Lib.hid hkb2
  have HW2 := Lib.hid hbw2
  have HSZ2 : Hid (kb < w2.heap.size) := Lib.hid (by have := hgrow.size; simp at this; omega)
  clear hown' hb2 hkb2 hbw2 hgrow hold hlt hvb hi hz0 hz1 hz2 hinfo
  go_wp2
  go_ret
  refine ⟨rfl, ⟨h1, ?_, .pointer (some ⟨b, 0, none⟩), .slice (some ⟨g, 0, none⟩) (xs.length + 1) cap, ?_, .inr rfl, ?_, fun h => by simp at h⟩, ?_, ?_⟩
  · simp; exact HSZ2.out
  · have := heap_setCell_same w2 b 1 _ 107 (.slice (some ⟨g, 0, none⟩) (xs.length + 1) cap) HB2.out
    simpa using this
  · have hm := own_move (w1 := w2.setCell ⟨b, 1, none⟩ (.slice (some ⟨g, 0, none⟩) (xs.length + 1) cap)) HO.out (fun k hk => Below.heap_setCell _ _ _ _ (by have := own_base HO.out k hk; show k ≠ b; omega))
    have e1 : nums .u8 (xs ++ [c]) = nums .u8 xs ++ [.int .u8 c] := by simp [nums]
    rw [e1, List.length_append]
    exact hm
  · exact HW2.out.setCell (p := ⟨b, 1, none⟩) (Nat.le_refl _) _
  · rw [Below.heap_setCell _ _ _ _ (show kb ≠ b by omega)]; exact HK2.out
set_option maxHeartbeats 2000000 in
set_option maxRecDepth 100000 in
theorem string_calls (w : World) (b kb : Nat) (xs : List Int) (hr : ∀ x ∈ xs, 0 ≤ x ∧ x ≤ 255) (h : Bld w b kb xs) :
    Calls Try.prog 83 #[.pointer (some ⟨b, 0, none⟩)] w fun e w' => e = .returned (.string (strOfNums xs)) ∧ Below b w w' := by
  have mixed : Try.prog.follows Departure.mixedOrders = true := by kernel_rfl
  obtain ⟨h1, h2, p, v, hbk, hp, hown, hnil⟩ := h
  rcases List.eq_nil_or_concat xs with h0 | ⟨ys, y, h0⟩
  · have hv := hnil h0
    subst hv
    subst h0
    have hUS : ∀ W q, (Builtin.unsafeString_ #[116, 3] 9 #[.pointer q, .int .i64 0]).run Try.prog W = .ok (.string .empty) W := fun W q => Lib.run_unsafeString_none W _ _ _ q
    have c1 : w.drew.cell? ⟨b, 1, none⟩ = some (.slice none 0 0) := by
      have : w.drew.heap[b]? = some (.cells #[p, .slice none 0 0] 107 (0, 0)) := hbk
      rw [Lib.cell_of_heap this]; rfl
    have hSD : (Builtin.unsafeSliceData_ #[30] 116 #[.slice none 0 0]).run Try.prog w.drew = .ok (.pointer none) w.drew := rfl
    clear hown hp hnil hr
    go_enter Try.func83, Try.ntmps83
    go_wp2
    go_region_o
    all_goals (go_wp2; go_ret; exact ⟨rfl, Below.drew (Below.refl _ w)⟩)
  · have hne : xs ≠ [] := by rw [h0]; simp
    obtain ⟨l, hl⟩ : ∃ l : List UInt8, l = xs.map fun x => UInt8.ofNat x.toNat := ⟨_, rfl⟩
    have hlx : l.map (fun u => (u.toNat : Int)) = xs := by
      rw [hl, List.map_map]
      conv => rhs; rw [← List.map_id xs]
      apply List.map_congr_left
      intro x hx
      have := hr x hx
      simp only [Function.comp, id_eq]
      have e : (UInt8.ofNat x.toNat).toNat = x.toNat % 256 := UInt8.toNat_ofNat'
      rw [e]; omega
    have hll : l.length = xs.length := by rw [hl, List.length_map]
    have hl0 : l ≠ [] := by rw [hl]; simpa using hne
    have hstr : (⟨l.toArray⟩ : ByteArray) = strOfNums xs := by
      apply ns_inj
      rw [ns_strOfNums hr]
      unfold ns
      exact hlx
    have hn0 : l.length ≠ 0 := by simpa using hl0
    obtain ⟨g, cap, cur, rfl, hbg, hg, hnc, hcm, hcs, htake⟩ : ∃ g cap cur, v = .slice (some ⟨g, 0, none⟩) l.length cap ∧ kb + 1 ≤ g ∧ w.heap[g]? = some (.cells cur 5 (0, 0)) ∧ l.length ≤ cap ∧ cap ≤ maxLen ∧ cur.size = cap * 1 ∧ cur.toList.take (l.length * 1) = nums .u8 xs := by
      rw [hll]
      rcases hown.2 with ⟨_, hz⟩ | ⟨g, cap, cur, hv, r⟩
      · exact absurd hz (by simpa using hne)
      · exact ⟨g, cap, cur, hv, r⟩
    have c1 : w.drew.cell? ⟨b, 1, none⟩ = some (.slice (some ⟨g, 0, none⟩) l.length cap) := by
      have : w.drew.heap[b]? = some (.cells #[p, .slice (some ⟨g, 0, none⟩) l.length cap] 107 (0, 0)) := hbk
      rw [Lib.cell_of_heap this]; rfl
    have hSD : (Builtin.unsafeSliceData_ #[30] 116 #[.slice (some ⟨g, 0, none⟩) l.length cap]).run Try.prog w.drew = .ok (.pointer (some ⟨g, 0, none⟩)) w.drew :=
      Lib.run_unsafeSliceData_row _ _ _ _ _ _ (by omega)
    have hUS : (Builtin.unsafeString_ #[116, 3] 9 #[.pointer (some ⟨g, 0, none⟩), .int .i64 l.length]).run Try.prog w.drew = .ok (.string ⟨l.toArray⟩) (w.drew.freeze ⟨g, 0, none⟩ l.length) := by
      refine Lib.run_unsafeString_row w.drew 116 3 9 5 Try.underlying116 (by kernel_rfl) g cur.size (by have hg' : w.drew.heap[g]? = some (.cells cur 5 (0, 0)) := hg; simp [World.shape?, hg']) l hl0 (by omega) (by unfold maxLen at hcm; omega) ?_
      intro j x hx
      have hj : (nums .u8 xs)[j]? = some (.int .u8 x.toNat) := by
        rw [← hlx]
        simp [nums, hx]
      exact hown.cells (g := g) rfl j (.int .u8 x.toNat) hj
    rw [hstr] at hUS
    have hbl : Below b w (w.drew.freeze ⟨g, 0, none⟩ l.length) := Lib.below_freeze (Below.drew (Below.refl b w)) (p := ⟨g, 0, none⟩) (show b ≤ g by omega) _
    obtain ⟨n, hn⟩ : ∃ n, l.length = n := ⟨_, rfl⟩
    obtain ⟨S, hS⟩ : ∃ S, strOfNums xs = S := ⟨_, rfl⟩
    rw [hn] at hUS hSD c1 hbl
    rw [hS] at hUS ⊢
    have HBL := Lib.hid hbl
    clear hl hlx hll hl0 hstr hn0 hbg hg hnc hcm hcs htake hown hnil hne h0 hbk hbl hn hS hp hr
    go_enter Try.func83, Try.ntmps83
    go_wp2
    go_region_o
    all_goals (go_wp2; go_ret; exact ⟨rfl, HBL.out⟩)
end Go.Proofs.Ytkbmababljcabaa.Given
