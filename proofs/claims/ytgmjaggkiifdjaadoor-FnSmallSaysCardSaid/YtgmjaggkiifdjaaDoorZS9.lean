/- Texts of this claim, one behind the other (merged by wip/prune.py of this repo, without what the proof does not use): GBuilder, GBrackets, LSmallA. -/
import Derived.Test.YtgmjaggkiifdjaaDoorZS4
import Derived.Test.YtgmjaggkiifdjaaDoorZS7
import Derived.BigQuiet
import Derived.Deep.QuietTactic
import Derived.Laws.Externs
import Derived.Lib.Builder
import Derived.Lib.FrozenHead
import Derived.Lib.UnsafeStr
import Derived.Shelf.RegionOpenPlain
set_option linter.unusedVariables false
set_option linter.unusedSimpArgs false
namespace Go.Proofs.YtgmjaggkiifdjaaDoor.Given
open Go.RowKit Go.Proofs.YtgmjaggkiifdjaaDoorW.PrintWords Go.Proofs.YtgmjaggkiifdjaaDoorW.PrintLast Go.Proofs.YtgmjaggkiifdjaaDoorW.PrintMore Go.Proofs.YtgmjaggkiifdjaaDoor.Base Go.Proofs.YtgmjaggkiifdjaaDoor.Gv
def Bld (w : World) (b kb : Nat) (xs : List Int) : Prop :=
  b < kb ∧ kb < w.heap.size ∧ ∃ p v, w.heap[b]? = some (.cells #[p, v] 72 (0, 0)) ∧ (p = .pointer none ∨ p = .pointer (some ⟨b, 0, none⟩)) ∧ w.ownsRow (kb + 1) 5 1 v xs.length (nums .u8 xs) ∧ (xs = [] → v = .slice none 0 0)
set_option maxHeartbeats 1000000 in
set_option maxRecDepth 100000 in
theorem copyCheck_used (b : Nat) (w : World) (h0 : w.cell? ⟨b, 0, none⟩ = some (.pointer (some ⟨b, 0, none⟩))) :
    Calls Tryd.prog 106 #[.pointer (some ⟨b, 0, none⟩)] w fun e w' => e = .returned (.tuple #[]) ∧ w' = w := by
  obtain ⟨j, hj, _⟩ := Option.map_eq_some_iff.1 (show (Tryd.prog.info? 72).map (·.size) = some 2 by kernel_rfl)
  go_enter Tryd.func106, Tryd.ntmps106
  go_wp2
  rw [Lib.run_neq_ptr_same w _ Tryd.underlying70 hj]
  go_wp2
  go_end0
  exact ⟨rfl, rfl⟩
set_option maxHeartbeats 1000000 in
set_option maxRecDepth 100000 in
theorem copyCheck_fresh (b : Nat) (w : World) (h0 : w.cell? ⟨b, 0, none⟩ = some (.pointer none)) (hsh : w.shape? b = some (72, 2)) (hfz : w.frozen? ⟨b, 0, none⟩ = false) :
    Calls Tryd.prog 106 #[.pointer (some ⟨b, 0, none⟩)] w fun e w' => e = .returned (.tuple #[]) ∧ w' = w.setCell ⟨b, 0, none⟩ (.pointer (some ⟨b, 0, none⟩)) := by
  obtain ⟨j, hj, hjs⟩ := Option.map_eq_some_iff.1 (show (Tryd.prog.info? 72).map (·.size) = some 2 by kernel_rfl)
  go_enter Tryd.func106, Tryd.ntmps106
  go_wp2
  rw [Lib.run_to_unsafe w ⟨b, 0, none⟩ Tryd.underlying70 Tryd.underlying100 hj (by rw [hjs]; decide) hsh (Nat.zero_lt_succ 1)]
  simp only [Result.andThen]
  rw [Oper.upon_value]
  go_wp2
  rw [run_callFunc_extern Tryd.func120 (by kernel_rfl) (by kernel_rfl) (by kernel_rfl) (e := Extern.AbiNoEscape.same) (by kernel_rfl)]
  rw [Lib.run_noEscape]
  simp only [Result.andThen]
  rw [Oper.upon_value]
  go_wp2
  rw [Lib.run_from_unsafe w ⟨b, 0, none⟩ Tryd.underlying100 Tryd.underlying70 hj hsh (by kernel_rfl)]
  simp only [Result.andThen]
  rw [Oper.upon_value]
  go_wp2
  go_end0
  exact ⟨rfl, rfl⟩
theorem copyCheck_calls (w : World) (b kb : Nat) (xs : List Int) (h : Bld w b kb xs) :
    Calls Tryd.prog 106 #[.pointer (some ⟨b, 0, none⟩)] w fun e w' => e = .returned (.tuple #[]) ∧ (∃ v, w'.heap[b]? = some (.cells #[.pointer (some ⟨b, 0, none⟩), v] 72 (0, 0)) ∧ w'.ownsRow (kb + 1) 5 1 v xs.length (nums .u8 xs)) ∧ Below b w w' ∧ w'.heap.size = w.heap.size ∧ ∀ k, k ≠ b → w'.heap[k]? = w.heap[k]? := by
  obtain ⟨h1, h2, p, v, hh, hp, ho, _⟩ := h
  rcases hp with rfl | rfl
  · refine (copyCheck_fresh b w (by rw [Lib.cell_of_heap hh]; rfl) (by simp [World.shape?, hh]) (Lib.frozen_of_heap hh 0)).mono ?_
    rintro e w' ⟨rfl, rfl⟩
    refine ⟨rfl, ⟨v, ?_, ?_⟩, (Below.refl b w).setCell (p := ⟨b, 0, none⟩) (Nat.le_refl _) _, by simp, fun k hk => Below.heap_setCell _ _ _ _ hk⟩
    · have := heap_setCell_same w b 0 #[.pointer none, v] 72 (.pointer (some ⟨b, 0, none⟩)) hh
      simpa using this
    · exact own_move ho (fun k hk => Below.heap_setCell _ _ _ _ (by have := own_base ho k hk; show k ≠ b; omega))
  · refine (copyCheck_used b w (by rw [Lib.cell_of_heap hh]; rfl)).mono ?_
    rintro e w' ⟨rfl, rfl⟩
    exact ⟨rfl, ⟨v, hh, ho⟩, Below.refl _ _, rfl, fun _ _ => rfl⟩
set_option maxHeartbeats 2000000 in
set_option maxRecDepth 100000 in
theorem writeByte_calls (w : World) (b kb : Nat) (xs : List Int) (c : Int) (h : Bld w b kb xs) (hlen : xs.length + 1 ≤ 140737488355328) :
    Calls Tryd.prog 94 #[.pointer (some ⟨b, 0, none⟩), .int .u8 c] w fun e w' => e = .returned .nilIface ∧ Bld w' b kb (xs ++ [c]) ∧ Below b w w' ∧ w'.heap[kb]? = w.heap[kb]? := by
  have hcc := Lib.hid (copyCheck_calls w b kb xs h)
  obtain ⟨h1, h2, _⟩ := h
  have hinfo : (Tryd.prog.info? 5).map (fun i => (i.zero, i.size, i.bytes)) = some (some (.int .u8 0), 1, 1) := by kernel_rfl
  obtain ⟨i0, hi, hz0, hz1, hz2⟩ := info_parts hinfo
  go_enter Tryd.func94, Tryd.ntmps94
  go_wp2_with (go_at_call 106; refine hcc.out.mono ?_)
  rintro e w1 ⟨rfl, ⟨v, hbk, hown⟩, hb1, hsz1, hoth⟩
  have c0 : w1.cell? ⟨b, 0, none⟩ = some (.pointer (some ⟨b, 0, none⟩)) := by rw [Lib.cell_of_heap hbk]; rfl
  have c1 : w1.cell? ⟨b, 1, none⟩ = some v := by rw [Lib.cell_of_heap hbk]; rfl
  have HSZ := Lib.hid hsz1
  have HOTH := Lib.hid hoth
  have HOWN := Lib.hid hown
  have HBK := Lib.hid hbk
  have HB1 := Lib.hid hb1
  clear hsz1 hoth hown hbk hb1 hcc
  go_wp2_with (at_builtin; refine wpList_append_own _ rfl _ _ 49 rfl (kb + 1) 5 i0 (.int .u8 0) 1 1 Tryd.underlying49 hi hz0 hz1 hz2 rfl (by decide) _ _ _ rfl (HOWN.out.alloc _) ⟨w1.heap.size, 0, none⟩ 1 1 [.int .u8 c] rfl rfl ?c1 ?c2 ?c3 ?c4 ?c5 ?_)
  case c1 =>
    intro j u hj
    match j, hj with
    | 0, hj => simp at hj; subst hj; simp [Addr.add]
  case c2 => intro u hu; simp at hu; subst hu; rfl
  case c3 => unfold maxLen; omega
  case c4 => omega
  case c5 => have := HSZ.out; simp; omega
  intro v' w2 hown' hgrow _
  have hvb : ∀ k, k ≤ kb → some k ≠ v.ownBlock := fun k hk e => by have := own_base HOWN.out k e.symm; omega
  have hlt : kb < w1.heap.size := by rw [HSZ.out]; exact h2
  have hold : ∀ k, k ≤ kb → w2.heap[k]? = w1.heap[k]? := fun k hk => by
    rw [hgrow.block k (by simp; omega) (hvb k hk)]
    exact Below.heap_alloc _ _ _ (by omega)
  have hb2 : w2.heap[b]? = some (.cells #[.pointer (some ⟨b, 0, none⟩), v] 72 (0, 0)) := by rw [hold b (by omega)]; exact HBK.out
  have hkb2 : w2.heap[kb]? = w.heap[kb]? := by rw [hold kb (Nat.le_refl _)]; exact HOTH.out kb (by omega)
  have d0 : w2.cell? ⟨b, 0, none⟩ = some (.pointer (some ⟨b, 0, none⟩)) := by rw [Lib.cell_of_heap hb2]; rfl
  have d1 : w2.cell? ⟨b, 1, none⟩ = some v := by rw [Lib.cell_of_heap hb2]; rfl
  have f1 : w2.frozen? ⟨b, 1, none⟩ = false := Lib.frozen_of_heap hb2 1
  obtain ⟨g, cap, rfl⟩ : ∃ g cap, v' = .slice (some ⟨g, 0, none⟩) (xs.length + 1) cap := by
    rcases hown'.2 with ⟨_, h0⟩ | ⟨g, cap, cur, hv, _⟩
    · omega
    · exact ⟨g, cap, hv⟩
  have hbw2 : Below b w w2 := by
    refine HB1.out.trans ⟨hgrow.os, hgrow.tape, hgrow.output, ?_, fun k hk => hold k (by omega)⟩
    have := hgrow.size
    simp at this
    omega
  have HO := Lib.hid hown'
  have HB2 := Lib.hid hb2
  have HK2 := Lib.hid hkb2
  have HW2 := Lib.hid hbw2
  have HSZ2 : Hid (kb < w2.heap.size) := Lib.hid (by have := hgrow.size; simp at this; omega)
  clear hown' hb2 hkb2 hbw2 hgrow hold hlt hvb hi hz0 hz1 hz2 hinfo
  go_wp2
  go_ret
  refine ⟨rfl, ⟨h1, ?_, .pointer (some ⟨b, 0, none⟩), .slice (some ⟨g, 0, none⟩) (xs.length + 1) cap, ?_, .inr rfl, ?_, fun h => by simp at h⟩, ?_, ?_⟩
  · simp; exact HSZ2.out
  · have := heap_setCell_same w2 b 1 _ 72 (.slice (some ⟨g, 0, none⟩) (xs.length + 1) cap) HB2.out
    simpa using this
  · have hm := own_move (w1 := w2.setCell ⟨b, 1, none⟩ (.slice (some ⟨g, 0, none⟩) (xs.length + 1) cap)) HO.out (fun k hk => Below.heap_setCell _ _ _ _ (by have := own_base HO.out k hk; show k ≠ b; omega))
    have e1 : nums .u8 (xs ++ [c]) = nums .u8 xs ++ [.int .u8 c] := by simp [nums]
    rw [e1, List.length_append]
    exact hm
  · exact HW2.out.setCell (p := ⟨b, 1, none⟩) (Nat.le_refl _) _
  · rw [Below.heap_setCell _ _ _ _ (show kb ≠ b by omega)]; exact HK2.out
set_option maxHeartbeats 2000000 in
set_option maxRecDepth 100000 in
theorem string_calls (w : World) (b kb : Nat) (xs : List Int) (hr : ∀ x ∈ xs, 0 ≤ x ∧ x ≤ 255) (h : Bld w b kb xs) :
    Calls Tryd.prog 95 #[.pointer (some ⟨b, 0, none⟩)] w fun e w' => e = .returned (.string (strOfNums xs)) ∧ Below b w w' := by
  have mixed : Tryd.prog.follows Departure.mixedOrders = true := by kernel_rfl
  obtain ⟨h1, h2, p, v, hbk, hp, hown, hnil⟩ := h
  rcases List.eq_nil_or_concat xs with h0 | ⟨ys, y, h0⟩
  · have hv := hnil h0
    subst hv
    subst h0
    have hUS : ∀ W q, (Builtin.unsafeString_ #[67, 3] 9 #[.pointer q, .int .i64 0]).run Tryd.prog W = .ok (.string .empty) W := fun W q => Lib.run_unsafeString_none W _ _ _ q
    have c1 : w.drew.cell? ⟨b, 1, none⟩ = some (.slice none 0 0) := by
      have : w.drew.heap[b]? = some (.cells #[p, .slice none 0 0] 72 (0, 0)) := hbk
      rw [Lib.cell_of_heap this]; rfl
    have hSD : (Builtin.unsafeSliceData_ #[49] 67 #[.slice none 0 0]).run Tryd.prog w.drew = .ok (.pointer none) w.drew := rfl
    clear hown hp hnil hr
    go_enter Tryd.func95, Tryd.ntmps95
    go_wp2
    go_region_o
    all_goals (go_wp2; go_ret; exact ⟨rfl, Below.drew (Below.refl _ w)⟩)
  · have hne : xs ≠ [] := by rw [h0]; simp
    obtain ⟨l, hl⟩ : ∃ l : List UInt8, l = xs.map fun x => UInt8.ofNat x.toNat := ⟨_, rfl⟩
    have hlx : l.map (fun u => (u.toNat : Int)) = xs := by
      rw [hl, List.map_map]
      conv => rhs; rw [← List.map_id xs]
      apply List.map_congr_left
      intro x hx
      have := hr x hx
      simp only [Function.comp, id_eq]
      have e : (UInt8.ofNat x.toNat).toNat = x.toNat % 256 := UInt8.toNat_ofNat'
      rw [e]; omega
    have hll : l.length = xs.length := by rw [hl, List.length_map]
    have hl0 : l ≠ [] := by rw [hl]; simpa using hne
    have hstr : (⟨l.toArray⟩ : ByteArray) = strOfNums xs := by
      apply ns_inj
      rw [ns_strOfNums hr]
      unfold ns
      exact hlx
    have hn0 : l.length ≠ 0 := by simpa using hl0
    obtain ⟨g, cap, cur, rfl, hbg, hg, hnc, hcm, hcs, htake⟩ : ∃ g cap cur, v = .slice (some ⟨g, 0, none⟩) l.length cap ∧ kb + 1 ≤ g ∧ w.heap[g]? = some (.cells cur 5 (0, 0)) ∧ l.length ≤ cap ∧ cap ≤ maxLen ∧ cur.size = cap * 1 ∧ cur.toList.take (l.length * 1) = nums .u8 xs := by
      rw [hll]
      rcases hown.2 with ⟨_, hz⟩ | ⟨g, cap, cur, hv, r⟩
      · exact absurd hz (by simpa using hne)
      · exact ⟨g, cap, cur, hv, r⟩
    have c1 : w.drew.cell? ⟨b, 1, none⟩ = some (.slice (some ⟨g, 0, none⟩) l.length cap) := by
      have : w.drew.heap[b]? = some (.cells #[p, .slice (some ⟨g, 0, none⟩) l.length cap] 72 (0, 0)) := hbk
      rw [Lib.cell_of_heap this]; rfl
    have hSD : (Builtin.unsafeSliceData_ #[49] 67 #[.slice (some ⟨g, 0, none⟩) l.length cap]).run Tryd.prog w.drew = .ok (.pointer (some ⟨g, 0, none⟩)) w.drew :=
      Lib.run_unsafeSliceData_row _ _ _ _ _ _ (by omega)
    have hUS : (Builtin.unsafeString_ #[67, 3] 9 #[.pointer (some ⟨g, 0, none⟩), .int .i64 l.length]).run Tryd.prog w.drew = .ok (.string ⟨l.toArray⟩) (w.drew.freeze ⟨g, 0, none⟩ l.length) := by
      refine Lib.run_unsafeString_row w.drew 67 3 9 5 Tryd.underlying67 (by kernel_rfl) g cur.size (by have hg' : w.drew.heap[g]? = some (.cells cur 5 (0, 0)) := hg; simp [World.shape?, hg']) l hl0 (by omega) (by unfold maxLen at hcm; omega) ?_
      intro j x hx
      have hj : (nums .u8 xs)[j]? = some (.int .u8 x.toNat) := by
        rw [← hlx]
        simp [nums, hx]
      exact hown.cells (g := g) rfl j (.int .u8 x.toNat) hj
    rw [hstr] at hUS
    have hbl : Below b w (w.drew.freeze ⟨g, 0, none⟩ l.length) := Lib.below_freeze (Below.drew (Below.refl b w)) (p := ⟨g, 0, none⟩) (show b ≤ g by omega) _
    obtain ⟨n, hn⟩ : ∃ n, l.length = n := ⟨_, rfl⟩
    obtain ⟨S, hS⟩ : ∃ S, strOfNums xs = S := ⟨_, rfl⟩
    rw [hn] at hUS hSD c1 hbl
    rw [hS] at hUS ⊢
    have HBL := Lib.hid hbl
    clear hl hlx hll hl0 hstr hn0 hbg hg hnc hcm hcs htake hown hnil hne h0 hbk hbl hn hS hp hr
    go_enter Tryd.func95, Tryd.ntmps95
    go_wp2
    go_region_o
    all_goals (go_wp2; go_ret; exact ⟨rfl, HBL.out⟩)
def pointOf (r : List Int) : List Int := if 0 < r.length ∧ r.getD 0 0 ≠ 93 then [46] else []
def brGo : Int → List Int → List Int → Option (List Int)
  | n, acc, [] => if n > 0 then none else some acc
  | n, acc, c :: r => if c = 91 then brGo (n + 1) (acc ++ pointOf r) r else if c = 93 then (if n - 1 < 0 then none else brGo (n - 1) acc r) else brGo n (acc ++ [c]) r
def brOf (xs : List Int) : Option (List Int) := brGo 0 [] xs
def BrSays (R : Option (List Int)) (e : Ending) : Prop :=
  match R with
  | some l => e = .returned (.tuple #[.string (strOfNums l), .nilIface])
  | none => ∃ s u x, e = .returned (.tuple #[.string s, .iface u x])
set_option maxHeartbeats 8000000 in
set_option maxRecDepth 100000 in
theorem parseBrackets_calls (a0 : ByteArray) (w : World) (hbd : a0.size ≤ 70368744177664) :
    Calls Tryd.prog 83 #[.string a0] w fun e w' => BrSays (brOf (ns a0)) e ∧ Below w.heap.size w w' := by
  obtain ⟨W0, hW0⟩ : ∃ W0, w.alloc (.cells #[.pointer none, .slice none 0 0] 72) = W0 := ⟨_, rfl⟩
  have hsz0 : W0.heap.size = w.heap.size + 1 := by rw [← hW0]; simp
  have hcv := Lib.run_convert_string_bytes (P := Tryd.prog) W0 9 49 5 a0 Tryd.underlying9 Tryd.underlying49 Tryd.underlying5
  have hbr := Br.conv W0 5 a0
  have hbl := conv_below W0 5 a0
  have hszW := Lib.bytesWorld_size W0 5 a0
  obtain ⟨c, hc⟩ : ∃ c, grownCap W0 a0.size 0 5 = c := ⟨_, rfl⟩
  rw [hc] at hcv
  clear hc
  obtain ⟨W, hW⟩ : ∃ W, Lib.bytesWorld W0 5 a0 = W := ⟨_, rfl⟩
  rw [hW] at hcv hbr hbl hszW
  rw [hsz0] at hcv hbr hbl hszW
  have hb0 : W0.heap[w.heap.size]? = some (.cells #[.pointer none, .slice none 0 0] 72 (0, 0)) := by rw [← hW0]; exact heap_alloc_new w _
  have hbld : Hid (Bld W w.heap.size (w.heap.size + 1) []) := Lib.hid ⟨by omega, by rw [hszW]; omega, .pointer none, .slice none 0 0, by rw [hbl.block _ (by omega)]; exact hb0, .inl rfl, own_nil _ _ _ _, fun _ => rfl⟩
  have hbw : Hid (Below w.heap.size w W) := Lib.hid (by
    have h1 : Below w.heap.size w W0 := by rw [← hW0]; exact (Below.refl _ _).alloc (Nat.le_refl _) _
    exact h1.trans ⟨hbl.os, hbl.tape, hbl.output, hbl.size, fun k hk => hbl.block k (by omega)⟩)
  have HBR := Lib.hid hbr
  rw [← hW0] at hcv
  obtain ⟨RES, hR⟩ : ∃ R, brOf (ns a0) = R := ⟨_, rfl⟩
  have HR := Lib.hid hR
  rw [hR]
  clear hW hW0 hsz0 hbl hbr hszW hb0 hR
  go_enter Tryd.func83, Tryd.ntmps83
  go_wp2
  go_loopw [6, 7, 8, 9, 10, 15] (fun cn _ _ _ _ i wr => ∃ (k : Nat) (n : Int) (acc : List Int), cn = .int .i64 n ∧ i = .int .i64 k ∧ k ≤ a0.size ∧ 0 ≤ n ∧ n ≤ k ∧ Hid (acc.length ≤ k) ∧ Hid (∀ x ∈ acc, 0 ≤ x ∧ x ≤ 255) ∧ Hid (Bld wr w.heap.size (w.heap.size + 1) acc) ∧ Hid (Br wr 5 (w.heap.size + 1) (ns a0)) ∧ Hid (Below w.heap.size w wr) ∧ Hid (brGo n acc ((ns a0).drop k) = RES)) (fun _ _ _ _ _ i _ => a0.size - (intOf i).toNat)
  case atStart => exact ⟨0, 0, [], rfl, rfl, by omega, by omega, by omega, Lib.hid (by simp), Lib.hid (fun x hx => by cases hx), hbld, HBR, hbw, Lib.hid (by rw [List.drop_zero]; exact HR.out)⟩
  case round =>
    obtain ⟨k, n, acc, rfl, rfl, hk, hn0, hnk, HA, HX, HBD, HB, HBL, HE⟩ := hrel
    by_cases hlt : k < a0.size
    · have hl : k < (ns a0).length := by rw [ns_length]; exact hlt
      have hck := HB.out.cell k hl
      have hdr : (ns a0).drop k = (ns a0).getD k 0 :: (ns a0).drop (k + 1) := by
        rw [List.drop_eq_getElem_cons hl, List.getD_eq_getElem?_getD, List.getElem?_eq_getElem hl]; rfl
      have hcr := ns_range a0 ((ns a0).getD k 0) (by rw [List.getD_eq_getElem?_getD, List.getElem?_eq_getElem hl]; exact List.getElem_mem _)
      obtain ⟨ch, hch⟩ : ∃ ch, (ns a0).getD k 0 = ch := ⟨_, rfl⟩
      rw [hch] at hck hdr hcr
      have HD : Hid (brGo n acc (ch :: (ns a0).drop (k + 1)) = RES) := Lib.hid (by rw [← hdr]; exact HE.out)
      have hwr := writeByte_calls wr w.heap.size (w.heap.size + 1) acc
      have hlen : acc.length + 1 ≤ 140737488355328 := by have := HA.out; omega
      have HW : Hid (∀ c : Int, Calls Tryd.prog 94 #[.pointer (some ⟨w.heap.size, 0, none⟩), .int .u8 c] wr fun e w' => e = .returned .nilIface ∧ Bld w' w.heap.size (w.heap.size + 1) (acc ++ [c]) ∧ Below w.heap.size wr w' ∧ w'.heap[w.heap.size + 1]? = wr.heap[w.heap.size + 1]?) := Lib.hid (fun c => hwr c HBD.out hlen)
      clear hwr hlen hch hdr HE
      by_cases h91 : ch = 91
      · subst h91
        have HD2 : Hid (brGo (n + 1) (acc ++ pointOf ((ns a0).drop (k + 1))) ((ns a0).drop (k + 1)) = RES) := Lib.hid (by have := HD.out; unfold brGo at this; rw [if_pos rfl] at this; exact this)
        clear HD
        by_cases hlt2 : k + 1 < a0.size
        · have hl2 : k + 1 < (ns a0).length := by rw [ns_length]; exact hlt2
          have hck2 := HB.out.cell (k + 1) hl2
          have hpt : pointOf ((ns a0).drop (k + 1)) = if (ns a0).getD (k + 1) 0 = 93 then [] else [46] := by
            unfold pointOf
            have e1 : ((ns a0).drop (k + 1)).getD 0 0 = (ns a0).getD (k + 1) 0 := by
              rw [List.getD_eq_getElem?_getD, List.getElem?_drop, List.getD_eq_getElem?_getD]
            rw [e1, List.length_drop]
            by_cases h93 : (ns a0).getD (k + 1) 0 = 93
            · rw [if_pos h93, if_neg (fun h => h.2 h93)]
            · rw [if_neg h93, if_pos ⟨by omega, h93⟩]
          obtain ⟨d, hd⟩ : ∃ d, (ns a0).getD (k + 1) 0 = d := ⟨_, rfl⟩
          rw [hd] at hck2 hpt
          clear hd
          by_cases h93 : d = 93
          · subst h93
            have HD3 : Hid (brGo (n + 1) acc ((ns a0).drop (k + 1)) = RES) := Lib.hid (by have := HD2.out; rw [hpt, if_pos rfl, List.append_nil] at this; exact this)
            clear hpt HD2
            go_wp2
            go_roundw
            case rel => exact ⟨k + 1, n + 1, acc, rfl, by go_num, by omega, by omega, by omega, Lib.hid (by have := HA.out; omega), HX, HBD, HB, HBL, HD3⟩
            case measure => simp [intOf]; omega
          · have HD3 : Hid (brGo (n + 1) (acc ++ [46]) ((ns a0).drop (k + 1)) = RES) := Lib.hid (by have := HD2.out; rw [hpt, if_neg h93] at this; exact this)
            have hne : (d != 93) = true := bne_iff_ne.2 h93
            clear hpt HD2 h93
            go_wp2_with (go_at_call 94; refine (HW.out 46).mono ?_; rintro e w2 ⟨rfl, g1, g2, g3⟩)
            go_roundw
            case rel => exact ⟨k + 1, n + 1, acc ++ [46], rfl, by go_num, by omega, by omega, by omega, Lib.hid (by have := HA.out; simp; omega), Lib.hid (fun x hx => by
              rcases List.mem_append.1 hx with h | h
              · exact HX.out x h
              · rw [List.mem_singleton.1 h]; decide), Lib.hid g1, Lib.hid (HB.out.same g3), Lib.hid (HBL.out.trans g2), HD3⟩
            case measure => simp [intOf]; omega
        · have HD3 : Hid (brGo (n + 1) acc ((ns a0).drop (k + 1)) = RES) := Lib.hid (by
            have := HD2.out
            rw [show pointOf ((ns a0).drop (k + 1)) = [] by unfold pointOf; rw [if_neg]; rw [List.length_drop, ns_length]; omega, List.append_nil] at this
            exact this)
          clear HD2
          go_wp2
          go_roundw
          case rel => exact ⟨k + 1, n + 1, acc, rfl, by go_num, by omega, by omega, by omega, Lib.hid (by have := HA.out; omega), HX, HBD, HB, HBL, HD3⟩
          case measure => simp [intOf]; omega
      · by_cases h93 : ch = 93
        · subst h93
          by_cases hn1 : n - 1 < 0
          · have hnone : Hid (RES = none) := Lib.hid (by have := HD.out; unfold brGo at this; rw [if_neg (by decide), if_pos rfl, if_pos hn1] at this; exact this.symm)
            clear HD h91
            go_wp2_with (go_at_call 100; refine (errNew_calls _ _).mono ?_; rintro e w2 ⟨g1, u, x, rfl⟩)
            go_ret2
            exact ⟨by rw [hnone.out]; exact ⟨_, _, _, rfl⟩, below_step HBL.out g1⟩
          · have HD3 : Hid (brGo (n - 1) acc ((ns a0).drop (k + 1)) = RES) := Lib.hid (by have := HD.out; unfold brGo at this; rw [if_neg (by decide), if_pos rfl, if_neg hn1] at this; exact this)
            clear HD h91
            go_wp2
            go_roundw
            case rel => exact ⟨k + 1, n - 1, acc, rfl, by go_num, by omega, by omega, by omega, Lib.hid (by have := HA.out; omega), HX, HBD, HB, HBL, HD3⟩
            case measure => simp [intOf]; omega
        · have HD3 : Hid (brGo n (acc ++ [ch]) ((ns a0).drop (k + 1)) = RES) := Lib.hid (by have := HD.out; unfold brGo at this; rw [if_neg h91, if_neg h93] at this; exact this)
          have HCR := Lib.hid hcr
          have e91 : (ch == 91) = false := beq_eq_false_iff_ne.2 h91
          have e93 : (ch == 93) = false := beq_eq_false_iff_ne.2 h93
          clear HD h91 h93 hcr
          go_wp2_with (go_at_call 94; refine (HW.out ch).mono ?_; rintro e w2 ⟨rfl, g1, g2, g3⟩)
          go_roundw
          case rel => exact ⟨k + 1, n, acc ++ [ch], rfl, by go_num, by omega, by omega, by omega, Lib.hid (by have := HA.out; simp; omega), Lib.hid (fun x hx => by
              rcases List.mem_append.1 hx with h | h
              · exact HX.out x h
              · rw [List.mem_singleton.1 h]; exact HCR.out), Lib.hid g1, Lib.hid (HB.out.same g3), Lib.hid (HBL.out.trans g2), HD3⟩
          case measure => simp [intOf]; omega
    · obtain rfl : k = a0.size := by omega
      have HD : Hid ((if n > 0 then none else some acc) = RES) := Lib.hid (by have := HE.out; rw [List.drop_eq_nil_of_le (by rw [ns_length]; exact Nat.le_refl _), brGo] at this; exact this)
      clear HE
      by_cases hnp : n > 0
      · have hnone : Hid (RES = none) := Lib.hid (by have := HD.out; rw [if_pos hnp] at this; exact this.symm)
        go_wp2_with (go_at_call 100; refine (errNew_calls _ _).mono ?_; rintro e w2 ⟨g1, u, x, rfl⟩)
        go_ret2
        exact ⟨by rw [hnone.out]; exact ⟨_, _, _, rfl⟩, below_step HBL.out g1⟩
      · have hsome : Hid (RES = some acc) := Lib.hid (by have := HD.out; rw [if_neg hnp] at this; exact this.symm)
        have HS := Lib.hid (string_calls wr w.heap.size (w.heap.size + 1) acc HX.out HBD.out)
        go_wp2_with (go_at_call 95; refine HS.out.mono ?_; rintro e w2 ⟨rfl, g1⟩)
        go_ret2
        exact ⟨by rw [hsome.out]; rfl, HBL.out.trans g1⟩
def impl_Brackets.f (a0 : ByteArray) : Option (ByteArray × Bool) :=
  if a0.size ≤ 70368744177664 then some (match brOf (ns a0) with | some l => (strOfNums l, true) | none => (⟨#[]⟩, false)) else none
set_option maxHeartbeats 1000000 in
theorem zzBrackets_calls (a0 : ByteArray) (w : World) (hbd : a0.size ≤ 70368744177664) :
    Calls Tryd.prog 55 #[.string a0] w fun e w' => BrSays (brOf (ns a0)) e ∧ Below w.heap.size w w' := by
  have hc := parseBrackets_calls a0 w hbd
  cases hb : brOf (ns a0) with
  | none =>
    rw [hb] at hc
    have HC := Lib.hid hc
    clear hc hb
    go_enter Tryd.func55, Tryd.ntmps55
    go_wp2_with (go_at_call 83; refine HC.out.mono ?_; rintro e w2 ⟨⟨s, u, x, rfl⟩, g⟩)
    go_ret2
    exact ⟨⟨_, _, _, rfl⟩, g⟩
  | some l =>
    rw [hb] at hc
    have HC : Hid (Calls Tryd.prog 83 #[.string a0] w fun e w' => e = .returned (.tuple #[.string (strOfNums l), .nilIface]) ∧ Below w.heap.size w w') := Lib.hid hc
    clear hc hb
    go_enter Tryd.func55, Tryd.ntmps55
    go_wp2_with (go_at_call 83; refine HC.out.mono ?_; rintro e w2 ⟨rfl, g⟩)
    go_ret2
    exact ⟨rfl, g⟩
set_option maxHeartbeats 1000000 in
theorem impl_Brackets.calls (a0 : ByteArray) (r1 : ByteArray) (r2 : Bool) (w : World) (h : impl_Brackets.f a0 = some (r1, r2)) :
    Calls Tryd.prog 17 #[.string a0] w fun e w' => e = .returned (.tuple #[.string r1, .bool r2]) ∧ Below w.heap.size w w' := by
  unfold impl_Brackets.f at h
  by_cases hbd : a0.size ≤ 70368744177664
  · rw [if_pos hbd] at h
    have hres := Option.some.inj h
    clear h
    have hc := zzBrackets_calls a0 w hbd
    cases hb : brOf (ns a0) with
    | none =>
      rw [hb] at hc hres
      obtain ⟨rfl, rfl⟩ := Prod.mk.inj hres
      have HC := Lib.hid hc
      clear hc hb hres
      go_enter Tryd.func17, Tryd.ntmps17
      go_wp2_with (go_at_call 55; refine HC.out.mono ?_; rintro e w2 ⟨⟨s, u, x, rfl⟩, g⟩)
      go_ret2
      exact ⟨rfl, g⟩
    | some l =>
      rw [hb] at hc hres
      obtain ⟨rfl, rfl⟩ := Prod.mk.inj hres
      have HC : Hid (Calls Tryd.prog 55 #[.string a0] w fun e w' => e = .returned (.tuple #[.string (strOfNums l), .nilIface]) ∧ Below w.heap.size w w') := Lib.hid hc
      clear hc hb hres
      go_enter Tryd.func17, Tryd.ntmps17
      go_wp2_with (go_at_call 55; refine HC.out.mono ?_; rintro e w2 ⟨rfl, g⟩)
      go_ret2
      exact ⟨rfl, g⟩
  · rw [if_neg hbd] at h
    cases h
open Go.Proofs.YtgmjaggkiifdjaaDoor.QA
theorem tl_nil (s : ByteArray) : s.toList = ([] : List UInt8) ↔ s.size = 0 := by
  rw [Lib.toList_data, Lib.size_eq]
  exact List.length_eq_zero_iff.symm
theorem sof_ns (s : ByteArray) : strOfNums (ns s) = s := ns_inj (ns_strOfNums (fun x hx => ns_range s x hx))
theorem bt_get (s : ByteArray) (i : Nat) (h : i < (ns s).length) : bt s (i : Int) = (ns s)[i] := by rw [bt_ns, List.getD_eq_getElem?_getD, List.getElem?_eq_getElem h]; rfl
theorem head_ns {s : ByteArray} (h : s.size ≠ 0) : ∃ c r, ns s = c :: r ∧ bt s 0 = c ∧ ns (s.extract 1 s.size) = r := by
  cases e : ns s with
  | nil => have := ns_length s; rw [e] at this; simp at this; omega
  | cons c r =>
    refine ⟨c, r, rfl, by rw [show (0 : Int) = ((0 : Nat) : Int) from rfl, bt_ns, e]; rfl, ?_⟩
    rw [ns_extract, e]
    have hl := ns_length s
    rw [e, List.length_cons] at hl
    rw [List.drop_succ_cons, List.drop_zero, List.take_of_length_le (by omega)]
def addrAt (s : ByteArray) (i : Int) : ByteArray × ByteArray := if i = -1 then (s, ⟨#[]⟩) else (s.extract 0 i.toNat, s.extract (i.toNat + 1) s.size)
theorem specAddr_ends (s : ByteArray) (hs : s.size ≤ 1099511627776) : Ev (fun k => spec_Addr.f k s) (addrOf s) := by
  have key : ∀ j : Nat, j ≤ s.size → Ev (fun k => spec_Addr.l0 k s ((j : Int) - 1)) (addrAt s (lastTo (ns s) 58 j)) := by
    intro j
    induction j with
    | zero =>
      intro _
      exact Ev.step (f := fun _ => some (s, (⟨#[]⟩ : ByteArray))) (fun k => by rw [spec_Addr.l0, if_neg (by omega)]) (Ev.now _)
    | succ j ih =>
      intro hj
      rw [show (((j + 1 : Nat) : Int) - 1) = (j : Int) by omega]
      have hw : wrap64 ((j : Int) + 1) = (j : Int) + 1 := wrap_add (by omega) (by omega)
      have hw2 : wrap64 ((j : Int) - 1) = (j : Int) - 1 := by unfold wrap64; omega
      unfold lastTo
      by_cases hc : (ns s).getD j 0 = 58
      · rw [if_pos hc]
        refine Ev.step (f := fun _ => some (s.extract 0 j, s.extract (j + 1) s.size)) (fun k => ?_) (Ev.val ?_)
        · rw [spec_Addr.l0, if_pos (by omega), if_pos (by omega), if_pos (by omega), if_pos (by rw [bt_ns]; exact hc), hw, if_pos (by omega), if_pos (by omega), if_pos (by omega), Int.toNat_natCast, show ((j : Int) + 1).toNat = j + 1 by omega]
        · unfold addrAt; rw [if_neg (by omega), Int.toNat_natCast]
      · rw [if_neg hc]
        refine Ev.step (f := fun k => spec_Addr.l0 k s ((j : Int) - 1)) (fun k => ?_) (ih (by omega))
        rw [spec_Addr.l0, if_pos (by omega), if_pos (by omega), if_pos (by omega), if_neg (by rw [bt_ns]; exact hc), hw2]
  have h := key s.size (Nat.le_refl _)
  have hw : wrap64 ((s.size : Int) - 1) = (s.size : Int) - 1 := by unfold wrap64; omega
  simp only [spec_Addr.f, hw]
  exact h
def brAns (R : Option (List Int)) : ByteArray × Bool := match R with | some l => (strOfNums l, true) | none => (⟨#[]⟩, false)
theorem sof_app (a b : List Int) (ha : ∀ x ∈ a, 0 ≤ x ∧ x ≤ 255) (hb : ∀ x ∈ b, 0 ≤ x ∧ x ≤ 255) : strOfNums a ++ strOfNums b = strOfNums (a ++ b) := by
  refine ns_inj ?_
  rw [ns_append, ns_strOfNums ha, ns_strOfNums hb, ns_strOfNums]
  intro x hx
  rcases List.mem_append.1 hx with h | h
  · exact ha x h
  · exact hb x h
theorem sof_size (a : List Int) (ha : ∀ x ∈ a, 0 ≤ x ∧ x ≤ 255) : (strOfNums a).size = a.length := by rw [← ns_length, ns_strOfNums ha]
theorem specBr_from (s : ByteArray) (hs : s.size ≤ 1099511627776) (d : Nat) : ∀ (i : Nat) (n : Int) (acc : List Int), i + d = s.size → 0 ≤ n → n ≤ i → acc.length ≤ 2 * i → (∀ x ∈ acc, 0 ≤ x ∧ x ≤ 255) →
    Ev (fun k => spec_Brackets.l0 k s (strOfNums acc) n (s.size : Int) (i : Int)) (brAns (brGo n acc ((ns s).drop i))) := by
  induction d with
  | zero =>
    intro i n acc hi h0 h1 ha hr
    rw [List.drop_eq_nil_of_le (by rw [ns_length]; omega), brGo]
    refine Ev.step (f := fun _ => if n > 0 then some ((⟨#[]⟩ : ByteArray), false) else some (strOfNums acc, true)) (fun k => by rw [spec_Brackets.l0, if_neg (by omega)]) ?_
    refine Ev.ite (fun h => Ev.val ?_) (fun h => Ev.val ?_)
    · rw [if_pos h]; rfl
    · rw [if_neg h]; rfl
  | succ d ih =>
    intro i n acc hi h0 h1 ha hr
    have hlt : i < (ns s).length := by rw [ns_length]; omega
    have hb := bt_get s i hlt
    have hcr := ns_range s _ (List.getElem_mem hlt)
    obtain ⟨c, hc⟩ : ∃ c, (ns s)[i] = c := ⟨_, rfl⟩
    have hex : s.extract i (i + 1) = strOfNums [c] := by
      rw [← sof_ns (s.extract i (i + 1)), ns_extract, show i + 1 - i = 1 by omega, List.drop_eq_getElem_cons hlt, hc]; rfl
    rw [hc] at hb hcr
    rw [List.drop_eq_getElem_cons hlt, hc, brGo]
    have hw := Lib.hid (show wrap64 ((i : Int) + 1) = ((i + 1 : Nat) : Int) by rw [wrap_add (by omega) (by omega)]; rfl)
    have hw1 := Lib.hid (show wrap64 (n + 1) = n + 1 from wrap_add (by omega) (by omega))
    have hw2 := Lib.hid (show wrap64 (n - 1) = n - 1 by unfold wrap64; omega)
    have z1 : (i : Int) < (s.size : Int) := by omega
    have z2 : (0 : Int) ≤ (i : Int) := by omega
    have hsz := sof_size acc hr
    have z3 : (0 : Int) ≤ ((i + 1 : Nat) : Int) := by omega
    have z4 : ((i + 1 : Nat) : Int) ≤ (s.size : Int) := by omega
    have z5 : (i : Int) ≤ ((i + 1 : Nat) : Int) := by omega
    by_cases h91 : c = 91
    · rw [if_pos h91]
      have hp : ∀ x ∈ pointOf ((ns s).drop (i + 1)), 0 ≤ x ∧ x ≤ 255 := by
        intro x hx; unfold pointOf at hx; split at hx
        · simp at hx; omega
        · simp at hx
      have hpl : (pointOf ((ns s).drop (i + 1))).length ≤ 1 := by unfold pointOf; split <;> simp
      have h2 := ih (i + 1) (n + 1) (acc ++ pointOf ((ns s).drop (i + 1))) (by omega) (by omega) (by omega) (by rw [List.length_append]; omega) (fun x hx => by
        rcases List.mem_append.1 hx with h | h
        · exact hr x h
        · exact hp x h)
      by_cases hn : i + 1 < s.size
      · have hlt' : i + 1 < (ns s).length := by rw [ns_length]; omega
        have hb' := bt_get s (i + 1) hlt'
        have z6 : ((i + 1 : Nat) : Int) < (s.size : Int) := by omega
        have hd0 : ((ns s).drop (i + 1)).getD 0 0 = (ns s)[i + 1] := by rw [List.drop_eq_getElem_cons hlt']; rfl
        by_cases h93 : (ns s)[i + 1] = 93
        · have hpo : pointOf ((ns s).drop (i + 1)) = [] := by unfold pointOf; rw [if_neg (fun g => g.2 (by rw [hd0]; exact h93))]
          rw [hpo, List.append_nil] at h2 ⊢
          refine Ev.step (fun k => ?_) h2
          rw [spec_Brackets.l0, if_pos z1, if_pos z2, if_pos z1, hb, if_pos h91, hw.out, if_pos z6, if_pos z3, hb', if_pos h93, hw1.out]
        · have hpo : pointOf ((ns s).drop (i + 1)) = [46] := by unfold pointOf; rw [if_pos ⟨by rw [List.length_drop]; omega, by rw [hd0]; exact h93⟩]
          rw [hpo] at h2 ⊢
          rw [← sof_app acc [46] hr (by simp)] at h2
          refine Ev.step (fun k => ?_) h2
          rw [spec_Brackets.l0, if_pos z1, if_pos z2, if_pos z1, hb, if_pos h91, hw.out, if_pos z6, if_pos z3, hb', if_neg h93, if_pos (by omega), hw1.out]
          rfl
      · have hpo : pointOf ((ns s).drop (i + 1)) = [] := by unfold pointOf; rw [if_neg (fun g => by have := g.1; rw [List.length_drop, ns_length] at this; omega)]
        rw [hpo, List.append_nil] at h2 ⊢
        refine Ev.step (fun k => ?_) h2
        rw [spec_Brackets.l0, if_pos z1, if_pos z2, if_pos z1, hb, if_pos h91, hw.out, if_neg (by omega), hw1.out]
    · rw [if_neg h91]
      by_cases h93 : c = 93
      · rw [if_pos h93]
        by_cases hn : n - 1 < 0
        · rw [if_pos hn]
          refine Ev.step (f := fun _ => some ((⟨#[]⟩ : ByteArray), false)) (fun k => ?_) (Ev.val rfl)
          rw [spec_Brackets.l0, if_pos z1, if_pos z2, if_pos z1, hb, if_neg h91, if_pos h93, hw2.out, if_pos hn]
        · rw [if_neg hn]
          have h2 := ih (i + 1) (n - 1) acc (by omega) (by omega) (by omega) (by omega) hr
          refine Ev.step (fun k => ?_) h2
          rw [spec_Brackets.l0, if_pos z1, if_pos z2, if_pos z1, hb, if_neg h91, if_pos h93, hw2.out, if_neg hn, hw.out]
      · rw [if_neg h93]
        have hr1 : ∀ x ∈ [c], 0 ≤ x ∧ x ≤ 255 := by simpa using hcr
        have h2 := ih (i + 1) n (acc ++ [c]) (by omega) (by omega) (by omega) (by rw [List.length_append, List.length_singleton]; omega) (fun x hx => by
          rcases List.mem_append.1 hx with h | h
          · exact hr x h
          · exact hr1 x h)
        rw [← sof_app acc [c] hr hr1] at h2
        refine Ev.step (fun k => ?_) h2
        rw [spec_Brackets.l0, if_pos z1, if_pos z2, if_pos z1, hb, if_neg h91, if_neg h93, hw.out, if_pos z5, if_pos z4, Int.toNat_natCast, Int.toNat_natCast, hex, if_pos (by rw [hsz, sof_size [c] hr1, List.length_singleton]; omega)]
theorem specBr_ends (s : ByteArray) (hs : s.size ≤ 1099511627776) : Ev (fun k => spec_Brackets.f k s) (brAns (brOf (ns s))) := by
  have h := specBr_from s hs s.size 0 0 [] (by omega) (by omega) (by omega) (by simp) (by simp)
  rw [List.drop_zero] at h
  exact h
theorem em_is (s t : ByteArray) (hs : s.size ≤ 4611686018427387904) (ht : t.size ≤ 4611686018427387904) : impl_EtagMatch.f s t = some (etagM (ns s) (ns t)) := by
  unfold impl_EtagMatch.f fiberhelpers_ZzEtag.f
  rw [matchEtag_is s t hs ht]; rfl
theorem es_is (s t : ByteArray) (hs : s.size ≤ 4611686018427387904) (ht : t.size ≤ 4611686018427387904) : impl_EtagStale.f s t = some (staleGo (ns s) [] [] (ns t)) := by
  unfold impl_EtagStale.f fiberhelpers_ZzStale.f
  rw [if_pos ⟨hs, ht⟩]; rfl
theorem specEm_is (s t : ByteArray) (hs : s.size ≤ 4611686018427387904) (ht : t.size ≤ 4611686018427387904) : spec_EtagMatch.f s t = some (etagM (ns s) (ns t)) := by
  rw [← matchEtag_is s t hs ht]
  unfold spec_EtagMatch.f fiberhelpers_matchEtag.f
  split
  · rfl
  · split
    · split
      · rfl
      · split
        · split
          · rename_i h; rw [h]; simp
          · rename_i h; simp [h]
        · rfl
    · rfl
def blank (x : Int) : Bool := decide (x = 32)
def ltr (xs : List Int) : List Int := xs.dropWhile blank
def rtr (xs : List Int) : List Int := (xs.reverse.dropWhile blank).reverse
theorem ahead_ends : ∀ (n : Nat) (s : ByteArray), s.size ≤ n → ∃ t, Ev (fun k => spec_ahead.f k s) t ∧ ns t = ltr (ns s)
  | 0, s, hn => ⟨s, by
      simp only [spec_ahead.f]
      refine Ev.step (f := fun _ => some s) (fun k => ?_) (Ev.now _)
      rw [spec_ahead.l0, if_pos ((tl_nil s).2 (by omega))], by
      have : ns s = [] := List.length_eq_zero_iff.1 (by rw [ns_length]; omega)
      rw [this]; rfl⟩
  | n + 1, s, hn => by
    by_cases h0 : s.size = 0
    · refine ⟨s, ?_, ?_⟩
      · simp only [spec_ahead.f]
        refine Ev.step (f := fun _ => some s) (fun k => ?_) (Ev.now _)
        rw [spec_ahead.l0, if_pos ((tl_nil s).2 h0)]
      · have : ns s = [] := List.length_eq_zero_iff.1 (by rw [ns_length]; omega)
        rw [this]; rfl
    · obtain ⟨c, r, e, hb, hx⟩ := head_ns h0
      by_cases h32 : c = 32
      · obtain ⟨t, ht, hn2⟩ := ahead_ends n (s.extract 1 s.size) (by rw [ByteArray.size_extract]; omega)
        refine ⟨t, ?_, ?_⟩
        · simp only [spec_ahead.f] at ht ⊢
          refine Ev.step (fun k => ?_) ht
          rw [spec_ahead.l0, if_neg (fun g => h0 ((tl_nil s).1 g)), if_pos (by omega), hb, if_pos h32, if_pos (by omega)]
        · rw [hn2, hx, e, h32]; unfold ltr; rw [List.dropWhile_cons_of_pos (by simp [blank])]
      · refine ⟨s, ?_, ?_⟩
        · simp only [spec_ahead.f]
          refine Ev.step (f := fun _ => some s) (fun k => ?_) (Ev.now _)
          rw [spec_ahead.l0, if_neg (fun g => h0 ((tl_nil s).1 g)), if_pos (by omega), hb, if_neg h32]
        · rw [e]; unfold ltr; rw [List.dropWhile_cons_of_neg (by simp [blank, h32])]
theorem rtr_snoc (xs : List Int) (c : Int) : rtr (xs ++ [c]) = if c = 32 then rtr xs else xs ++ [c] := by
  unfold rtr
  rw [List.reverse_append, List.reverse_singleton, List.singleton_append]
  by_cases h : c = 32
  · rw [if_pos h, List.dropWhile_cons_of_pos (by simp [blank, h])]
  · rw [if_neg h, List.dropWhile_cons_of_neg (by simp [blank, h]), List.reverse_cons, List.reverse_reverse]
theorem tail_ends : ∀ (n : Nat) (s : ByteArray), s.size ≤ n → n ≤ 1099511627776 → ∃ t, Ev (fun k => spec_around.l0 k s) t ∧ ns t = rtr (ns s)
  | 0, s, hn, hm => ⟨s, by
      refine Ev.step (f := fun _ => some s) (fun k => ?_) (Ev.now _)
      rw [spec_around.l0, if_pos ((tl_nil s).2 (by omega))], by
      have : ns s = [] := List.length_eq_zero_iff.1 (by rw [ns_length]; omega)
      rw [this]; rfl⟩
  | n + 1, s, hn, hm => by
    by_cases h0 : s.size = 0
    · refine ⟨s, ?_, ?_⟩
      · refine Ev.step (f := fun _ => some s) (fun k => ?_) (Ev.now _)
        rw [spec_around.l0, if_pos ((tl_nil s).2 h0)]
      · have : ns s = [] := List.length_eq_zero_iff.1 (by rw [ns_length]; omega)
        rw [this]; rfl
    · have hlt : s.size - 1 < (ns s).length := by rw [ns_length]; omega
      have hw : wrap64 ((s.size : Int) - 1) = ((s.size - 1 : Nat) : Int) := by unfold wrap64; omega
      have hb := bt_get s (s.size - 1) hlt
      have hx : ns (s.extract 0 (s.size - 1)) = (ns s).take (s.size - 1) := by rw [ns_extract, List.drop_zero, Nat.sub_zero]
      obtain ⟨c, hc⟩ : ∃ c, (ns s)[s.size - 1] = c := ⟨_, rfl⟩
      have he : ns s = (ns s).take (s.size - 1) ++ [c] := by
        conv => lhs; rw [← List.take_append_drop (s.size - 1) (ns s)]
        rw [List.drop_eq_getElem_cons hlt, hc, List.drop_eq_nil_of_le (by rw [ns_length]; omega)]
      rw [hc] at hb
      by_cases h32 : c = 32
      · obtain ⟨t, ht, hn2⟩ := tail_ends n (s.extract 0 (s.size - 1)) (by rw [ByteArray.size_extract]; omega) (by omega)
        refine ⟨t, Ev.step (fun k => ?_) ht, ?_⟩
        · rw [spec_around.l0, if_neg (fun g => h0 ((tl_nil s).1 g)), hw, if_pos (by omega), if_pos (by omega), hb, if_pos h32, if_pos (by omega), Int.toNat_natCast]
        · rw [hn2, hx, he, rtr_snoc, if_pos h32, ← he]
      · refine ⟨s, Ev.step (f := fun _ => some s) (fun k => ?_) (Ev.now _), ?_⟩
        · rw [spec_around.l0, if_neg (fun g => h0 ((tl_nil s).1 g)), hw, if_pos (by omega), if_pos (by omega), hb, if_neg h32]
        · rw [he, rtr_snoc, if_neg h32]
theorem around_ends (s : ByteArray) (hs : s.size ≤ 1099511627776) : ∃ t, Ev (fun k => spec_around.f k s) t ∧ ns t = rtr (ltr (ns s)) := by
  obtain ⟨t, h, hn⟩ := ahead_ends s.size s (Nat.le_refl _)
  have hl : t.size ≤ s.size := by
    rw [← ns_length, hn, ← ns_length]
    exact (List.dropWhile_sublist _).length_le
  obtain ⟨u, g, gn⟩ := tail_ends t.size t (Nat.le_refl _) (by omega)
  exact ⟨u, by simp only [spec_around.f]; exact Ev.bind h g, by rw [gn, hn]⟩
theorem ltr_all {g : List Int} (h : ∀ x ∈ g, x = 32) (r : List Int) : ltr (g ++ r) = ltr r := by
  induction g with
  | nil => rfl
  | cons c g ih =>
    unfold ltr at ih ⊢
    rw [List.cons_append, List.dropWhile_cons_of_pos (by simp [blank, h c (List.mem_cons_self ..)])]
    exact ih (fun x hx => h x (List.mem_cons_of_mem _ hx))
theorem rtr_all : ∀ (g : List Int), (∀ x ∈ g, x = 32) → ∀ r : List Int, rtr (r ++ g) = rtr r := by
  intro g
  induction g with
  | nil => intro _ r; rw [List.append_nil]
  | cons c g ih =>
    intro h r
    rw [show r ++ c :: g = (r ++ [c]) ++ g by simp, ih (fun x hx => h x (List.mem_cons_of_mem _ hx)), rtr_snoc, if_pos (h c (List.mem_cons_self ..))]
def Core (seg : List Int) : Prop := ltr seg = seg ∧ rtr seg = seg
theorem core_is {p seg g : List Int} (hp : ∀ x ∈ p, x = 32) (hg : ∀ x ∈ g, x = 32) (hc : Core seg) (h0 : seg = [] → g = []) : rtr (ltr (p ++ (seg ++ g))) = seg := by
  rw [ltr_all hp]
  cases hs : seg with
  | nil => rw [h0 hs]; rfl
  | cons c r =>
    have h1 := hc.1
    rw [hs] at h1
    have hne : ¬ (blank c = true) := by
      intro hb
      unfold ltr at h1
      rw [List.dropWhile_cons_of_pos hb] at h1
      have := (List.dropWhile_sublist blank (l := r)).length_le
      rw [h1, List.length_cons] at this
      omega
    have : ltr ((c :: r) ++ g) = (c :: r) ++ g := by unfold ltr; rw [List.cons_append, List.dropWhile_cons_of_neg hne]
    rw [this, rtr_all g hg, ← hs, hc.2]
theorem core_snoc {seg g : List Int} {c : Int} (hc : Core seg) (h0 : seg = [] → g = []) (h32 : c ≠ 32) : Core (seg ++ g ++ [c]) := by
  refine ⟨?_, by rw [rtr_snoc, if_neg h32]⟩
  cases hs : seg with
  | nil => rw [h0 hs, List.nil_append, List.nil_append]; unfold ltr; rw [List.dropWhile_cons_of_neg (by simp [blank, h32])]
  | cons x r =>
    have h1 := hc.1
    rw [hs] at h1
    have hne : ¬ (blank x = true) := by
      intro hb
      unfold ltr at h1
      rw [List.dropWhile_cons_of_pos hb] at h1
      have := (List.dropWhile_sublist blank (l := r)).length_le
      rw [h1, List.length_cons] at this
      omega
    unfold ltr
    rw [List.cons_append, List.cons_append, List.dropWhile_cons_of_neg hne]
theorem core_nil : Core [] := ⟨rfl, rfl⟩
theorem cur_next (xs : List Int) (b i : Nat) (hb : b ≤ i) (hi : i < xs.length) : (xs.drop b).take (i + 1 - b) = (xs.drop b).take (i - b) ++ [xs[i]] := by
  rw [show i + 1 - b = (i - b) + 1 by omega, List.take_add_one, List.getElem?_drop, show b + (i - b) = i by omega, List.getElem?_eq_getElem hi]
  rfl
theorem specStale_from (e t : ByteArray) (he : e.size ≤ 1099511627776) (hs : t.size ≤ 1099511627776) (d : Nat) : ∀ (i b : Nat) (p seg g : List Int), i + d = t.size → b ≤ i → ((ns t).drop b).take (i - b) = p ++ (seg ++ g) → (∀ x ∈ p, x = 32) → (∀ x ∈ g, x = 32) → Core seg → (seg = [] → g = []) →
    Ev (fun k => spec_EtagStale.l0 k e t (b : Int) (i : Int)) (staleGo (ns e) seg g ((ns t).drop i)) := by
  have fin : ∀ (i b : Nat) (p seg g : List Int), i ≤ t.size → b ≤ i → ((ns t).drop b).take (i - b) = p ++ (seg ++ g) → (∀ x ∈ p, x = 32) → (∀ x ∈ g, x = 32) → Core seg → (seg = [] → g = []) → ∀ r : Bool, (etagM seg (ns e) = true → r = false) → (etagM seg (ns e) = false → Ev (fun k => spec_EtagStale.l0 k e t ((i + 1 : Nat) : Int) ((i + 1 : Nat) : Int)) r) → Ev (fun k => spec_EtagStale.j1 k e t (b : Int) (i : Int) true) r := by
    intro i b p seg g hi hb hcur hp hg hc h0 r r1 r2
    obtain ⟨u, hu, hun⟩ := around_ends (t.extract b i) (by rw [ByteArray.size_extract]; omega)
    rw [ns_extract, hcur, core_is hp hg hc h0] at hun
    have hus : u.size ≤ 1099511627776 := by
      have h1 := congrArg List.length hun
      have h2 := congrArg List.length hcur
      rw [ns_length] at h1
      rw [List.length_take, List.length_append, List.length_append] at h2
      omega
    have hw := Lib.hid (show wrap64 ((i : Int) + 1) = ((i + 1 : Nat) : Int) by rw [wrap_add (by omega) (by omega)]; rfl)
    refine Ev.step (f := fun k => (spec_around.f k (t.extract b i)).bind fun t123 => ((spec_EtagMatch.f t123 e).bind fun t124 => (if t124 = true then (some false) else (spec_EtagStale.l0 k e t ((i + 1 : Nat) : Int) ((i + 1 : Nat) : Int))))) (fun k => ?_) (Ev.bind hu (Ev.call (specEm_is u e (by omega) (by omega)) ?_))
    · rw [spec_EtagStale.j1, if_pos rfl, if_pos (by omega), if_pos (by omega), if_pos (by omega), Int.toNat_natCast, Int.toNat_natCast, hw.out]
    · rw [hun]
      refine Ev.ite (fun h => Ev.val (r1 h).symm) (fun h => r2 (by simpa using h))
  induction d with
  | zero =>
    intro i b p seg g hi hb hcur hp hg hc h0
    rw [List.drop_eq_nil_of_le (by rw [ns_length]; omega), staleGo]
    refine Ev.step (f := fun k => spec_EtagStale.j1 k e t (b : Int) (i : Int) true) (fun k => by rw [spec_EtagStale.l0, if_pos (by omega), if_pos (by omega)]) (fin i b p seg g (by omega) hb hcur hp hg hc h0 _ (fun h => by rw [h]; rfl) (fun h => ?_))
    rw [h]
    exact Ev.step (f := fun _ => some true) (fun k => by rw [spec_EtagStale.l0, if_neg (by omega)]) (Ev.val rfl)
  | succ d ih =>
    intro i b p seg g hi hb hcur hp hg hc h0
    have hlt : i < (ns t).length := by rw [ns_length]; omega
    have hbt := bt_get t i hlt
    have hnx := cur_next (ns t) b i hb hlt
    obtain ⟨c, hcc⟩ : ∃ c, (ns t)[i] = c := ⟨_, rfl⟩
    rw [hcc] at hbt hnx
    rw [List.drop_eq_getElem_cons hlt, hcc, staleGo]
    have hw := Lib.hid (show wrap64 ((i : Int) + 1) = ((i + 1 : Nat) : Int) by rw [wrap_add (by omega) (by omega)]; rfl)
    have l0 : ∀ r : Bool, Ev (fun k => spec_EtagStale.j1 k e t (b : Int) (i : Int) (c == 44)) r → Ev (fun k => spec_EtagStale.l0 k e t (b : Int) (i : Int)) r := fun r hr =>
      Ev.step (fun k => by rw [spec_EtagStale.l0, if_pos (by omega), if_neg (by omega), if_pos (by omega), if_pos (by omega), hbt]) hr
    have nx : ∀ r : Bool, c ≠ 44 → Ev (fun k => spec_EtagStale.l0 k e t (b : Int) ((i + 1 : Nat) : Int)) r → Ev (fun k => spec_EtagStale.l0 k e t (b : Int) (i : Int)) r := fun r h44 hr =>
      l0 r (Ev.step (fun k => by rw [show (c == 44) = false from beq_eq_false_iff_ne.2 h44, spec_EtagStale.j1, if_neg (by simp), hw.out]) hr)
    rw [hcur] at hnx
    by_cases h32 : c = 32
    · rw [if_pos h32]
      by_cases hse : seg = []
      · rw [if_pos hse]
        have hg0 := h0 hse
        refine nx _ (by omega) ?_
        refine ih (i + 1) b (p ++ [32]) [] [] (by omega) (by omega) ?_ (fun x hx => ?_) (by simp) core_nil (fun _ => rfl)
        · rw [hnx, hse, hg0, h32]; simp
        · rcases List.mem_append.1 hx with h | h
          · exact hp x h
          · simpa using h
      · rw [if_neg hse]
        refine nx _ (by omega) (ih (i + 1) b p seg (g ++ [32]) (by omega) (by omega) ?_ hp (fun x hx => ?_) hc (fun h => absurd h hse))
        · rw [hnx, h32]; simp
        · rcases List.mem_append.1 hx with h | h
          · exact hg x h
          · simpa using h
    · rw [if_neg h32]
      by_cases h44 : c = 44
      · rw [if_pos h44]
        refine l0 _ ?_
        rw [h44]
        have h2 := ih (i + 1) (i + 1) [] [] [] (by omega) (by omega) (by rw [Nat.sub_self]; rfl) (by simp) (by simp) core_nil (fun _ => rfl)
        refine fin i b p seg g (by omega) hb hcur hp hg hc h0 _ (fun h => by rw [if_pos h]) (fun h => ?_)
        rw [if_neg (by simp [h])]
        exact h2
      · rw [if_neg h44]
        refine nx _ h44 (ih (i + 1) b p (seg ++ g ++ [c]) [] (by omega) (by omega) (by rw [hnx]; simp) hp (by simp) (core_snoc hc h0 h32) (fun _ => rfl))
theorem specStale_ends (e t : ByteArray) (he : e.size ≤ 1099511627776) (hs : t.size ≤ 1099511627776) : Ev (fun k => spec_EtagStale.f k e t) (staleGo (ns e) [] [] (ns t)) := by
  have h := specStale_from e t he hs t.size 0 0 [] [] [] (by omega) (by omega) (by simp) (by simp) (by simp) core_nil (fun _ => rfl)
  rw [List.drop_zero] at h
  exact h
end Go.Proofs.YtgmjaggkiifdjaaDoor.Given
