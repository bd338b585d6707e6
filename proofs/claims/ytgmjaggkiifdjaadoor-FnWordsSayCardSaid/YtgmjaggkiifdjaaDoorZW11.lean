/- Texts of this claim, one behind the other (merged by wip/prune.py of this repo, without what the proof does not use): GBuf, GBufA, GCleanA, GCleanJ. -/
import Derived.Test.YtgmjaggkiifdjaaDoorZW3
import Derived.Test.YtgmjaggkiifdjaaDoorZW7
import Derived.Deep.OwnRows
import Derived.Defers
import Derived.Laws.OwnMore
import Derived.Lib.BufferWrite
import Derived.Lib.SlBuf
import Derived.Recover
import Derived.WalkMore
set_option linter.unusedVariables false
set_option linter.unusedSimpArgs false
namespace Go.Proofs.YtgmjaggkiifdjaaDoor.Given
open Go.RowKit Go.Proofs.YtgmjaggkiifdjaaDoorW.PrintWords Go.Proofs.YtgmjaggkiifdjaaDoorW.PrintLast Go.Proofs.YtgmjaggkiifdjaaDoorW.PrintMore Go.Proofs.YtgmjaggkiifdjaaDoor.Base Go.Proofs.YtgmjaggkiifdjaaDoor.Gv
def BufAt (w : World) (b g len cap : Nat) : Prop := w.heap[b]? = some (.cells #[.slice (some ⟨g, 0, none⟩) len cap] 49 (0, 0))
theorem BufAt.cell {w : World} {b g len cap : Nat} (h : BufAt w b g len cap) : w.cell? ⟨b, 0, none⟩ = some (.slice (some ⟨g, 0, none⟩) len cap) := by rw [cell_of_row w b 0 _ _ (0, 0) h]; rfl
set_option maxHeartbeats 1000000 in
set_option maxRecDepth 100000 in
theorem buf_same (w : World) (b g cap k : Nat) (p : ByteArray) (c : Int) (h : BufAt w b g 0 cap) (hk : k < p.size) (hp : p.size ≤ 70368744177664) (hc : bt p (k : Int) = c) :
    Calls Tryd.prog 89 #[.pointer (some ⟨b, 0, none⟩), .string p, .int .i64 k, .int .u8 c] w fun e w' => e = .returned (.tuple #[]) ∧ w' = w := by
  have c0 := h.cell
  have hbt := Lib.hid hc
  clear h hc
  go_enter Tryd.func89, Tryd.ntmps89
  go_wp2_with ((with_reducible refine gate_dst (N := 18) rfl ?_); refine wpList_index_tab rfl 9 (.tmp 16) (.tmp 17) rfl p (k : Int) .i64 rfl rfl Tryd.underlying9 (by omega) (by omega) c hbt.out ?_)
  (try simp only [Exit.inBlock, Exit.then])
  refine bodyPost_ret (results_none rfl _ _ _) rfl ?_
  exact ⟨rfl, rfl⟩
set_option maxHeartbeats 1000000 in
set_option maxRecDepth 100000 in
theorem buf_store (w : World) (b g len cap k : Nat) (p : ByteArray) (c : Int) (v : Value) (h : BufAt w b g len cap) (hk : k < len) (hl : len ≤ 70368744177664) (hv : w.cell? ⟨g, k, none⟩ = some v) (hf : w.frozen? ⟨g, k, none⟩ = false) :
    Calls Tryd.prog 89 #[.pointer (some ⟨b, 0, none⟩), .string p, .int .i64 k, .int .u8 c] w fun e w' => e = .returned (.tuple #[]) ∧ w' = w.setCell ⟨g, k, none⟩ (.int .u8 c) := by
  have c0 := h.cell
  have q1 : ((len : Int) == 0) = false := beq_eq_false_iff_ne.2 (by omega)
  have q2 : (k : Int) < (len : Int) := by omega
  clear h
  go_enter Tryd.func89, Tryd.ntmps89
  go_wp2
  go_end0
  exact ⟨rfl, rfl⟩
set_option maxHeartbeats 1000000 in
set_option maxRecDepth 100000 in
theorem buf_room (w : World) (B b g cap k : Nat) (hBb : B ≤ b) (hBg : B ≤ g) (p : ByteArray) (c : Int) (cur : Array Value) (h : BufAt w b g 0 cap) (hbg : b ≠ g) (hg : w.heap[g]? = some (.cells cur 5 (0, 0))) (hcs : cur.size = cap) (hk : k < p.size) (hp : p.size ≤ cap) (hcap : cap ≤ 70368744177664) (hc : bt p (k : Int) ≠ c) :
    Calls Tryd.prog 89 #[.pointer (some ⟨b, 0, none⟩), .string p, .int .i64 k, .int .u8 c] w fun e w' => e = .returned (.tuple #[]) ∧ BufAt w' b g p.size cap ∧ ∃ NEW, w'.heap[g]? = some (.cells (NEW.setIfInBounds k (.int .u8 c)) 5 (0, 0)) ∧ NEW.size = cap ∧ (cur.toList.take 0 ++ Lib.byteCells (p.extract 0 k).data.toList ++ cur.toList.drop (0 + (p.extract 0 k).size)).toArray = NEW ∧ Below B w w' := by
  have c0 := h.cell
  have f0 : w.frozen? ⟨b, 0, none⟩ = false := frozen_of_row _ _ 0 _ _ h
  have hbt : (bt p (k : Int) == c) = false := beq_eq_false_iff_ne.2 hc
  have q1 : (p.size : Int) ≤ (cap : Int) := by omega
  have q2 : decide ((cap : Int) < (p.size : Int)) = false := decide_eq_false (by omega)
  obtain ⟨W1, hW1⟩ : ∃ W, w.setCell ⟨b, 0, none⟩ (.slice (some ⟨g, 0, none⟩) p.size cap) = W := ⟨_, rfl⟩
  have hg1 : W1.heap[g]? = some (.cells cur 5 (0, 0)) := by rw [← hW1, Below.heap_setCell _ _ _ _ (by show g ≠ b; omega)]; exact hg
  have hb1 : W1.heap[b]? = some (.cells #[.slice (some ⟨g, 0, none⟩) p.size cap] 49 (0, 0)) := by
    rw [← hW1]
    have := heap_setCell_same w b 0 _ 49 (.slice (some ⟨g, 0, none⟩) p.size cap) h
    simpa using this
  have hks : (p.extract 0 k).size = k := by rw [ByteArray.size_extract]; omega
  have hr := Lib.run_copy_row_string (P := Tryd.prog) W1 49 9 3 5 g 0 p.size cap (p.extract 0 k) cur 5 Tryd.underlying49 (by kernel_rfl) hg1 (by omega) (by omega)
  obtain ⟨W2, hW2⟩ : ∃ W, W1.setRow g (cur.toList.take 0 ++ Lib.byteCells (p.extract 0 k).data.toList ++ cur.toList.drop (0 + (p.extract 0 k).size)).toArray = W := ⟨_, rfl⟩
  rw [hW2] at hr
  have HRC := Lib.hid hr
  have cb1 : W1.cell? ⟨b, 0, none⟩ = some (.slice (some ⟨g, 0, none⟩) p.size cap) := by rw [cell_of_row W1 b 0 _ _ (0, 0) hb1]; rfl
  obtain ⟨NEW, hNEW⟩ : ∃ X, (cur.toList.take 0 ++ Lib.byteCells (p.extract 0 k).data.toList ++ cur.toList.drop (0 + (p.extract 0 k).size)).toArray = X := ⟨_, rfl⟩
  rw [hNEW] at hW2
  have hns : NEW.size = cap := by
    rw [← hNEW]
    simp only [List.size_toArray, List.length_append, List.length_take, List.length_drop, Lib.byteCells_length, Array.length_toList]
    have e : (p.extract 0 k).data.size = k := hks
    rw [e, hks, hcs]
    omega
  have hg2 : W2.heap[g]? = some (.cells NEW 5 (0, 0)) := by rw [← hW2]; exact setRow_heap W1 g cur NEW _ _ hg1
  have hb2 : W2.heap[b]? = some (.cells #[.slice (some ⟨g, 0, none⟩) p.size cap] 49 (0, 0)) := by rw [← hW2, setRow_other W1 g b NEW (by omega)]; exact hb1
  obtain ⟨vk, hvk⟩ : ∃ v, NEW[k]? = some v := ⟨NEW[k]'(by omega), by simp [hns]⟩
  have ck2 : W2.cell? ⟨g, k, none⟩ = some vk := by rw [cell_of_row W2 g k _ _ (0, 0) hg2]; exact hvk
  have fk2 : W2.frozen? ⟨g, k, none⟩ = false := frozen_of_row _ _ k _ _ hg2
  have hbf : BufAt (W2.setCell ⟨g, k, none⟩ (.int .u8 c)) b g p.size cap := by
    unfold BufAt
    rw [Below.heap_setCell _ _ _ _ (by show b ≠ g; omega)]
    exact hb2
  have hgf := heap_setCell_same W2 g k NEW 5 (.int .u8 c) hg2
  have hbel : Below B w (W2.setCell ⟨g, k, none⟩ (.int .u8 c)) := by
    have h1 : Below B w W1 := by rw [← hW1]; exact Below.setCell (p := ⟨b, 0, none⟩) (Below.refl _ _) hBb _
    have h2 : Below B w W2 := by rw [← hW2]; exact h1.trans ⟨rfl, rfl, rfl, by simp [World.setRow], fun i hi => setRow_other W1 g i NEW (by omega)⟩
    exact Below.setCell (p := ⟨g, k, none⟩) h2 hBg _
  have HBEL := Lib.hid hbel
  have HBF := Lib.hid hbf
  have HGF := Lib.hid hgf
  have HNEW := Lib.hid hNEW
  have HNS := Lib.hid hns
  obtain ⟨c1, hc1⟩ : ∃ x, bt p (k : Int) = x := ⟨_, rfl⟩
  rw [hc1] at hbt
  have HBT := Lib.hid hc1
  have q3 : (k : Int) < (p.size : Int) := by omega
  clear hc hc1 hr hW2 hks hg1 hb1 h hg hNEW hns hg2 hb2 hvk hbf hgf hcs hbel
  go_enter Tryd.func89, Tryd.ntmps89
  go_wp2_with (first
    | ((with_reducible refine gate_dst (N := 18) rfl ?_); refine wpList_index_tab rfl 9 (.tmp 16) (.tmp 17) rfl p (k : Int) .i64 rfl rfl Tryd.underlying9 (by omega) (by omega) c1 HBT.out ?_))
  rw [HRC.out]
  simp only [Result.andThen]
  rw [Oper.upon_value]
  go_wp2
  go_end0
  exact ⟨rfl, HBF.out, NEW, HGF.out, HNS.out, HNEW.out, HBEL.out⟩
set_option maxHeartbeats 1000000 in
set_option maxRecDepth 100000 in
theorem buf_make (w : World) (b g0 cap0 k : Nat) (p : ByteArray) (c : Int) (h : BufAt w b g0 0 cap0) (hbg : b < w.heap.size) (hk : k < p.size) (hp : cap0 < p.size) (hcap : p.size ≤ 70368744177664) (hc : bt p (k : Int) ≠ c) :
    Calls Tryd.prog 89 #[.pointer (some ⟨b, 0, none⟩), .string p, .int .i64 k, .int .u8 c] w fun e w' => e = .returned (.tuple #[]) ∧ BufAt w' b w.heap.size p.size p.size ∧ ∃ NEW cur : Array Value, w'.heap[w.heap.size]? = some (.cells (NEW.setIfInBounds k (.int .u8 c)) 5 (0, 0)) ∧ NEW.size = p.size ∧ (cur.toList.take 0 ++ Lib.byteCells (p.extract 0 k).data.toList ++ cur.toList.drop (0 + (p.extract 0 k).size)).toArray = NEW ∧ Below b w w' := by
  have hinfo : (Tryd.prog.info? 5).map (fun i => (i.zero, i.size, i.bytes)) = some (some (.int .u8 0), 1, 1) := by kernel_rfl
  have hmk := run_make_row' (P := Tryd.prog) 49 5 (.int .u8 0) 1 Tryd.underlying49 hinfo rfl .i64 .i64 p.size (by omega) (by omega) w
  obtain ⟨cur, hcur⟩ : ∃ X, madeCells #[Value.int .u8 0] p.size = X := ⟨_, rfl⟩
  rw [hcur] at hmk
  obtain ⟨g, hgz⟩ : ∃ g, w.heap.size = g := ⟨_, rfl⟩
  obtain ⟨cap, hcz⟩ : ∃ n, p.size = n := ⟨_, rfl⟩
  have hcs : cur.size = cap := by rw [← hcur, size_madeCells]; exact hcz
  obtain ⟨W0, hW0⟩ : ∃ W, w.alloc (.cells cur 5) = W := ⟨_, rfl⟩
  have hg : W0.heap[g]? = some (.cells cur 5 (0, 0)) := by rw [← hW0, ← hgz]; exact heap_alloc_new w _
  have h00 : BufAt W0 b g0 0 cap0 := by
    unfold BufAt
    rw [← hW0, Below.heap_alloc _ _ _ (by omega)]
    exact h
  rw [hgz, hW0] at hmk
  rw [hgz]
  have c00 := h00.cell
  have f00 : W0.frozen? ⟨b, 0, none⟩ = false := frozen_of_row _ _ 0 _ _ h00
  have c0 := h.cell
  have f0 : w.frozen? ⟨b, 0, none⟩ = false := frozen_of_row _ _ 0 _ _ h
  have hbt : (bt p (k : Int) == c) = false := beq_eq_false_iff_ne.2 hc
  have q1 : (cap0 : Int) < (p.size : Int) := by omega
  obtain ⟨W1, hW1⟩ : ∃ W, W0.setCell ⟨b, 0, none⟩ (.slice (some ⟨g, 0, none⟩) p.size p.size) = W := ⟨_, rfl⟩
  have hg1 : W1.heap[g]? = some (.cells cur 5 (0, 0)) := by rw [← hW1, Below.heap_setCell _ _ _ _ (by show g ≠ b; omega)]; exact hg
  have hb1 : W1.heap[b]? = some (.cells #[.slice (some ⟨g, 0, none⟩) p.size p.size] 49 (0, 0)) := by
    rw [← hW1]
    have := heap_setCell_same W0 b 0 _ 49 (.slice (some ⟨g, 0, none⟩) p.size p.size) h00
    simpa using this
  have hks : (p.extract 0 k).size = k := by rw [ByteArray.size_extract]; omega
  have hr := Lib.run_copy_row_string (P := Tryd.prog) W1 49 9 3 5 g 0 p.size p.size (p.extract 0 k) cur 5 Tryd.underlying49 (by kernel_rfl) hg1 (by omega) (by omega)
  obtain ⟨W2, hW2⟩ : ∃ W, W1.setRow g (cur.toList.take 0 ++ Lib.byteCells (p.extract 0 k).data.toList ++ cur.toList.drop (0 + (p.extract 0 k).size)).toArray = W := ⟨_, rfl⟩
  rw [hW2] at hr
  have HRC := Lib.hid hr
  have cb1 : W1.cell? ⟨b, 0, none⟩ = some (.slice (some ⟨g, 0, none⟩) p.size p.size) := by rw [cell_of_row W1 b 0 _ _ (0, 0) hb1]; rfl
  obtain ⟨NEW, hNEW⟩ : ∃ X, (cur.toList.take 0 ++ Lib.byteCells (p.extract 0 k).data.toList ++ cur.toList.drop (0 + (p.extract 0 k).size)).toArray = X := ⟨_, rfl⟩
  rw [hNEW] at hW2
  have hns : NEW.size = cap := by
    rw [← hNEW]
    simp only [List.size_toArray, List.length_append, List.length_take, List.length_drop, Lib.byteCells_length, Array.length_toList]
    have e : (p.extract 0 k).data.size = k := hks
    rw [e, hks, hcs]
    omega
  have hg2 : W2.heap[g]? = some (.cells NEW 5 (0, 0)) := by rw [← hW2]; exact setRow_heap W1 g cur NEW _ _ hg1
  have hb2 : W2.heap[b]? = some (.cells #[.slice (some ⟨g, 0, none⟩) p.size p.size] 49 (0, 0)) := by rw [← hW2, setRow_other W1 g b NEW (by omega)]; exact hb1
  obtain ⟨vk, hvk⟩ : ∃ v, NEW[k]? = some v := ⟨NEW[k]'(by omega), by simp [hns]⟩
  have ck2 : W2.cell? ⟨g, k, none⟩ = some vk := by rw [cell_of_row W2 g k _ _ (0, 0) hg2]; exact hvk
  have fk2 : W2.frozen? ⟨g, k, none⟩ = false := frozen_of_row _ _ k _ _ hg2
  have hbf : BufAt (W2.setCell ⟨g, k, none⟩ (.int .u8 c)) b g p.size p.size := by
    unfold BufAt
    rw [Below.heap_setCell _ _ _ _ (by show b ≠ g; omega)]
    exact hb2
  have hgf := heap_setCell_same W2 g k NEW 5 (.int .u8 c) hg2
  have hgs : g = w.heap.size := hgz.symm
  have hbel : Below b w (W2.setCell ⟨g, k, none⟩ (.int .u8 c)) := by
    have h0 : Below b w W0 := by rw [← hW0]; exact (Below.refl _ _).alloc (by omega) _
    have h1 : Below b w W1 := by rw [← hW1]; exact Below.setCell (p := ⟨b, 0, none⟩) h0 (Nat.le_refl b) _
    have h2 : Below b w W2 := by rw [← hW2]; exact h1.trans ⟨rfl, rfl, rfl, by simp [World.setRow], fun i hi => setRow_other W1 g i NEW (by omega)⟩
    exact Below.setCell (p := ⟨g, k, none⟩) h2 (show b ≤ g by omega) _
  have HBEL := Lib.hid hbel
  have HBF := Lib.hid hbf
  have HGF := Lib.hid hgf
  have HNEW := Lib.hid hNEW
  have HNS := Lib.hid hns
  obtain ⟨c1, hc1⟩ : ∃ x, bt p (k : Int) = x := ⟨_, rfl⟩
  rw [hc1] at hbt
  have HBT := Lib.hid hc1
  have q3 : (k : Int) < (p.size : Int) := by omega
  have HCZ := Lib.hid hcz
  clear hcz hc hc1 hr hW2 hks hg1 hb1 h hg hNEW hns hg2 hb2 hvk hbf hgf hcs hcur hinfo h00 hgz hW0 hbel hgs
  go_enter Tryd.func89, Tryd.ntmps89
  go_wp2_with (first
    | ((with_reducible refine gate_dst (N := 18) rfl ?_); refine wpList_index_tab rfl 9 (.tmp 16) (.tmp 17) rfl p (k : Int) .i64 rfl rfl Tryd.underlying9 (by omega) (by omega) c1 HBT.out ?_))
  rw [HRC.out]
  simp only [Result.andThen]
  rw [Oper.upon_value]
  go_wp2
  go_end0
  exact ⟨rfl, HBF.out, NEW, cur, HGF.out, HNS.out.trans HCZ.out.symm, HNEW.out, HBEL.out⟩
def BufNo (w : World) (b n L B : Nat) (p R : List Int) : Prop := L = n ∧ R = p.take R.length ∧ ∃ g cap cur, b ≠ g ∧ B ≤ g ∧ BufAt w b g 0 cap ∧ w.heap[g]? = some (.cells cur 5 (0, 0)) ∧ cur.size = cap ∧ cap ≤ 70368744177664
def BufIs (w : World) (b L B : Nat) (R : List Int) : Prop := ∃ g cap cur, b ≠ g ∧ B ≤ g ∧ BufAt w b g L cap ∧ w.heap[g]? = some (.cells cur 5 (0, 0)) ∧ L ≤ cur.size ∧ L ≤ cap ∧ ∀ i, i < R.length → cur[i]? = some (.int .u8 (R.getD i 0))
def BufSt (w : World) (b n L B : Nat) (p R : List Int) : Prop := B ≤ b ∧ (BufNo w b n L B p R ∨ (0 < L ∧ BufIs w b L B R))
theorem getD_snoc (R : List Int) (c : Int) (i : Nat) : (R ++ [c]).getD i 0 = if i < R.length then R.getD i 0 else if i = R.length then c else 0 := by
  rw [List.getD_eq_getElem?_getD, List.getD_eq_getElem?_getD]
  split
  · rename_i h
    rw [List.getElem?_append_left h]
  · rename_i h
    rw [List.getElem?_append_right (by omega)]
    split
    · rename_i h2
      rw [h2, Nat.sub_self]; rfl
    · rw [List.getElem?_eq_none (by simp; omega)]; rfl
theorem new_cells (cur NEW : Array Value) (s : ByteArray) (R : List Int) (c : Int) (hR : R = (ns s).take R.length) (hk : R.length < s.size) (hs : s.size ≤ NEW.size) (hN : (cur.toList.take 0 ++ Lib.byteCells (s.extract 0 R.length).data.toList ++ cur.toList.drop (0 + (s.extract 0 R.length).size)).toArray = NEW) :
    ∀ i, i < (R ++ [c]).length → (NEW.setIfInBounds R.length (.int .u8 c))[i]? = some (.int .u8 ((R ++ [c]).getD i 0)) := by
  intro i hi
  rw [List.length_append, List.length_singleton] at hi
  rw [getD_snoc, Array.getElem?_setIfInBounds]
  by_cases e : R.length = i
  · subst e
    rw [if_pos rfl, if_pos (by omega), if_neg (by omega), if_pos rfl]
  · have hlt : i < R.length := by omega
    rw [if_neg e, if_pos hlt, ← hN, List.getElem?_toArray, List.take_zero, List.nil_append]
    have hl : (Lib.byteCells (s.extract 0 R.length).data.toList).length = R.length := by
      rw [Lib.byteCells_length, ← Lib.size_eq, ByteArray.size_extract]; omega
    rw [List.getElem?_append_left (by omega)]
    have e1 : Lib.byteCells (s.extract 0 R.length).data.toList = (ns (s.extract 0 R.length)).map (Value.int .u8) := by
      unfold Lib.byteCells ns
      rw [List.map_map]; rfl
    have e2 : ns (s.extract 0 R.length) = R := by rw [ns_extract, List.drop_zero, Nat.sub_zero]; exact hR.symm
    rw [e1, e2, List.getElem?_map, List.getD_eq_getElem?_getD, List.getElem?_eq_getElem hlt]
    rfl
theorem take_snoc (p R : List Int) (c : Int) (hR : R = p.take R.length) (hk : R.length < p.length) (hc : p.getD R.length 0 = c) : R ++ [c] = p.take (R ++ [c]).length := by
  rw [List.length_append, List.length_singleton, List.take_add_one, ← hR]
  rw [List.getD_eq_getElem?_getD, List.getElem?_eq_getElem hk] at hc
  rw [List.getElem?_eq_getElem hk, ← hc]
  rfl
theorem below_less {B C : Nat} {a b : World} (h : B ≤ C) (k : Below C a b) : Below B a b := ⟨k.os, k.tape, k.output, k.size, fun i hi => k.block i (by omega)⟩
theorem buf_app (w : World) (b L B : Nat) (s : ByteArray) (R : List Int) (c : Int) (h : BufSt w b s.size L B (ns s) R) (hR0 : 0 < R.length) (hB : B ≤ w.heap.size) (hl : R.length < L) (hL : L ≤ 70368744177664) (hs : s.size ≤ 70368744177664) :
    Calls Tryd.prog 89 #[.pointer (some ⟨b, 0, none⟩), .string s, .int .i64 R.length, .int .u8 c] w fun e w' => e = .returned (.tuple #[]) ∧ BufSt w' b s.size L B (ns s) (R ++ [c]) ∧ Below B w w' := by
  obtain ⟨hb, ⟨rfl, hR, g, cap, cur, hbg, hBg, hat, hg, hcs, hcap⟩ | ⟨h0, g, cap, cur, hbg, hBg, hat, hg, hLc, hLcap, hcell⟩⟩ := h
  · have hbt := bt_ns s R.length
    by_cases hc : bt s (R.length : Int) = c
    · refine (buf_same w b g cap R.length s c hat hl hs hc).mono ?_
      rintro e w' ⟨rfl, rfl⟩
      refine ⟨rfl, ⟨hb, Or.inl ⟨rfl, take_snoc _ _ _ hR (by rw [ns_length]; exact hl) (hbt.symm.trans hc), g, cap, cur, hbg, hBg, hat, hg, hcs, hcap⟩⟩, Below.refl _ _⟩
    · by_cases hp : s.size ≤ cap
      · refine (buf_room w B b g cap R.length hb hBg s c cur hat hbg hg hcs hl hp hcap hc).mono ?_
        rintro e w' ⟨rfl, hat', NEW, hg', hns, hN, hbl⟩
        refine ⟨rfl, ⟨hb, Or.inr ⟨by omega, g, cap, _, hbg, hBg, hat', hg', by simp; omega, by omega, new_cells cur NEW s R c hR hl (by omega) hN⟩⟩, hbl⟩
      · have hbs : b < w.heap.size := (Array.getElem?_eq_some_iff.1 hat).1
        refine (buf_make w b g cap R.length s c hat hbs hl (by omega) hs hc).mono ?_
        rintro e w' ⟨rfl, hat', NEW, cur', hg', hns, hN, hbl⟩
        refine ⟨rfl, ⟨hb, Or.inr ⟨by omega, w.heap.size, s.size, _, by omega, hB, hat', hg', by simp; omega, by omega, new_cells cur' NEW s R c hR hl (by omega) hN⟩⟩, below_less hb hbl⟩
  · have hk : R.length < cur.size := by omega
    refine (buf_store w b g L cap R.length s c (cur[R.length]'hk) hat hl hL (by rw [cell_of_row w g _ _ _ (0, 0) hg]; simp [hk]) (frozen_of_row _ _ _ _ _ hg)).mono ?_
    rintro e w' ⟨rfl, rfl⟩
    have hg' := heap_setCell_same w g R.length cur 5 (.int .u8 c) hg
    have hat' : BufAt (w.setCell ⟨g, R.length, none⟩ (.int .u8 c)) b g L cap := by
      unfold BufAt
      rw [Below.heap_setCell _ _ _ _ (by show b ≠ g; omega)]
      exact hat
    refine ⟨rfl, ⟨hb, Or.inr ⟨h0, g, cap, _, hbg, hBg, hat', hg', by simp; omega, hLcap, fun i hi => ?_⟩⟩, Below.setCell (p := ⟨g, R.length, none⟩) (Below.refl _ _) hBg _⟩
    rw [List.length_append, List.length_singleton] at hi
    rw [getD_snoc, Array.getElem?_setIfInBounds]
    by_cases e : R.length = i
    · subst e
      rw [if_pos rfl, if_pos (by omega), if_neg (by omega), if_pos rfl]
    · rw [if_neg e, if_pos (by omega)]
      exact hcell i (by omega)
theorem BufSt.cut {w : World} {b n L B : Nat} {p R : List Int} (h : BufSt w b n L B p R) (k : Nat) (hk : k ≤ R.length) : BufSt w b n L B p (R.take k) := by
  have hl : (R.take k).length = k := by rw [List.length_take]; omega
  obtain ⟨hb, ⟨e, hR, rest⟩ | ⟨h0, g, cap, cur, hbg, hBg, hat, hg, hLc, hLcap, hcell⟩⟩ := h
  · refine ⟨hb, .inl ⟨e, ?_, rest⟩⟩
    rw [hl]
    conv => lhs; rw [hR]
    rw [List.take_take, Nat.min_eq_left hk]
  · refine ⟨hb, .inr ⟨h0, g, cap, cur, hbg, hBg, hat, hg, hLc, hLcap, fun i hi => ?_⟩⟩
    rw [hl] at hi
    rw [hcell i (by omega)]
    rw [List.getD_eq_getElem?_getD, List.getD_eq_getElem?_getD, List.getElem?_take, if_pos hi]
theorem BufSt.fin {w : World} {b L B : Nat} {s : ByteArray} {R : List Int} (h : BufSt w b s.size L B (ns s) R) (hr : R.length ≤ L) :
    (∃ g cap, w.cell? ⟨b, 0, none⟩ = some (.slice (some ⟨g, 0, none⟩) 0 cap) ∧ R.length ≤ s.size ∧ s.extract 0 R.length = strOfNums R) ∨
    (0 < L ∧ ∃ g cap, w.cell? ⟨b, 0, none⟩ = some (.slice (some ⟨g, 0, none⟩) L cap) ∧ R.length ≤ cap ∧ (convert 49 9 (.slice (some ⟨g, 0, none⟩) R.length cap)).run Tryd.prog w = .ok (.string (strOfNums R)) w) := by
  obtain ⟨hb, ⟨e, hR, g, cap, cur, _, _, hat, _⟩ | ⟨h0, g, cap, cur, hbg, hBg, hat, hg, hLc, hLcap, hcell⟩⟩ := h
  · refine .inl ⟨g, cap, hat.cell, by omega, ns_inj ?_⟩
    rw [ns_extract, List.drop_zero, Nat.sub_zero, ← hR, ns_strOfNums]
    intro x hx
    rw [hR] at hx
    exact ns_range s x (List.mem_of_mem_take hx)
  · exact .inr ⟨h0, g, cap, hat.cell, by omega, run_convert_bytes_arg w 49 5 Tryd.underlying49 Tryd.underlying5 g 0 R.length cap R rfl (fun i hi => by rw [Nat.zero_add, cell_of_row w g i _ _ (0, 0) hg]; exact hcell i hi) 9 Tryd.underlying9⟩
open Go.Proofs.YtgmjaggkiifdjaaDoor.Cln
set_option maxHeartbeats 1000000 in
set_option maxRecDepth 100000 in
theorem cleanA_empty (s : ByteArray) (w : World) (h0 : s.size = 0) :
    Calls Tryd.prog 74 #[.string s] w fun e w' => e = .returned (.string (strOfNums (cleanG (ns s)))) ∧ Below w.heap.size w w' := by
  have hne : s.toList = [] := by rw [Lib.toList_data]; have h2 := Lib.size_eq s; exact List.length_eq_zero_iff.1 (by omega)
  have hns : ns s = [] := List.length_eq_zero_iff.1 (by rw [ns_length]; exact h0)
  have e1 : (s.toList == ([] : List UInt8)) = true := beq_iff_eq.2 hne
  have e2 : s.toList.isEmpty = true := by rw [hne]; rfl
  rw [hns]
  clear hne hns
  go_enter Tryd.func74, Tryd.ntmps74
  go_wp2
  go_ret
  exact ⟨rfl, Below.refl _ _⟩
set_option maxHeartbeats 4000000 in
set_option maxRecDepth 100000 in
theorem clean_calls_any (s : ByteArray) (w : World) (hs : s.size ≤ 35184372088832) (h0s : 0 < s.size) :
  Calls Tryd.prog 74 #[.string s] w fun e w' => e = .returned (.string (strOfNums (cleanG (ns s)))) ∧ Below w.heap.size w w' := by
 have hn := ns_length s
 have hp : ns s ≠ [] := fun e => by rw [e] at hn; simp at hn; omega
 have hne : s.toList.isEmpty = false := by
  rw [Lib.toList_data]
  cases hh : s.data.toList with
  | nil => have h2 := Lib.size_eq s; rw [hh] at h2; simp only [List.length_nil] at h2; omega
  | cons a l => rfl
 obtain ⟨c0, hc0⟩ : ∃ c, (ns s).headD 0 = c := ⟨_, rfl⟩
 have hb0 : bt s 0 = c0 := by have := bt_ns s 0; rw [show ((0 : Nat) : Int) = 0 from rfl] at this; rw [this, ← hc0]; cases ns s <;> rfl
 have e0 : ((s[0]'h0s).toNat : Int) = c0 := (bt_at s 0 h0s).trans hb0
 obtain ⟨TR, hTR⟩ : ∃ x, (decide (1 < (ns s).length) && decide ((ns s).getD ((ns s).length - 1) 0 = 47)) = x := ⟨_, rfl⟩
 obtain ⟨RES, hRES⟩ : ∃ X, cl (ns s).length (if c0 = 47 then (ns s).drop 1 else ns s) [47] TR = X := ⟨_, rfl⟩
 have hfin : cleanG (ns s) = if RES.2 = true ∧ 1 < RES.1.length then RES.1 ++ [47] else RES.1 := by
  unfold cleanG
  rw [if_neg hp, hc0, hTR, hRES]
 have HS1 := Lib.hid (fun h : c0 = 47 => show CInv (ns s) 0 1 [47] TR RES from by
  have := CInv.start (ns s) hp (hc0.trans h)
  rw [hTR] at this
  rw [if_pos h] at hRES
  rwa [hRES] at this)
 have HS2 := Lib.hid (fun h : ¬ c0 = 47 => show CInv (ns s) 1 0 [47] TR RES from by
  have := CInv.start' (ns s) hp
  rw [hTR] at this
  rw [if_neg h] at hRES
  rwa [hRES] at this)
 have HTR := Lib.hid hTR
 have hinfo : (Tryd.prog.info? 5).map (fun i => (i.zero, i.size, i.bytes)) = some (some (.int .u8 0), 1, 1) := by kernel_rfl
 obtain ⟨i0, hi, hz0, hsz0, hby0⟩ := info_parts hinfo
 have hmk := run_make (P := Tryd.prog) w 49 5 i0 _ Tryd.underlying49 hi hz0 .i64 .i64 0 128 (by omega) (by omega) (by rw [hby0]; decide) (by decide)
 obtain ⟨cur, hcur⟩ : ∃ X, madeCells (Value.int .u8 0).cells ((128 : Int).toNat * i0.size) = X := ⟨_, rfl⟩
 have hcs : cur.size = 128 := by rw [← hcur, size_madeCells, hsz0]; rfl
 have hcz : cur[0]? = some (.int .u8 0) := by
  rw [← hcur, ← Array.getElem?_toList, show (Value.int .u8 0).cells = #[.int .u8 0] from rfl, toList_madeCells_one, hsz0]
  rfl
 have HCZ := Lib.hid hcz
 rw [hcur, show (0 : Int).toNat = 0 from rfl, show (128 : Int).toNat = 128 from rfl] at hmk
 have hbst : c0 = 47 → BufSt ((w.alloc (.cells cur 5)).alloc (.cells #[.slice (some ⟨w.heap.size, 0, none⟩) 0 128] 49)) (w.heap.size + 1) s.size (s.size + 0) w.heap.size (ns s) [47] := by
  intro h47
  refine ⟨by omega, .inl ⟨rfl, ?_, w.heap.size, 128, cur, by omega, Nat.le_refl _, ?_, blk_alloc (heap_alloc_new w _) _, hcs, by omega⟩⟩
  ·cases hh : ns s with
   | nil => exact absurd hh hp
   | cons c l => rw [hh] at hc0; have : c = 47 := hc0.trans h47; subst this; rfl
  ·have := heap_alloc_new (w.alloc (.cells cur 5)) (.cells #[.slice (some ⟨w.heap.size, 0, none⟩) 0 128] 49)
   simpa [BufAt] using this
 have hbel : Below w.heap.size w ((w.alloc (.cells cur 5)).alloc (.cells #[.slice (some ⟨w.heap.size, 0, none⟩) 0 128] 49)) := ((Below.refl _ _).alloc (Nat.le_refl _) _).alloc (by simp) _
 have HFIN := Lib.hid hfin
 have HBST := Lib.hid hbst
 have HBEL := Lib.hid hbel
 have HN := Lib.hid hn
 have HCS := Lib.hid hcs
 rw [hfin]
 obtain ⟨OUT, hOUT⟩ : ∃ X, (if RES.2 = true ∧ 1 < RES.1.length then RES.1 ++ [47] else RES.1) = X := ⟨_, rfl⟩
 rw [hOUT]
 have HOUT := Lib.hid hOUT
 have HI0 := Lib.hid (show Tryd.prog.info? 5 = some i0 ∧ i0.zero = some (.int .u8 0) ∧ i0.size = 1 ∧ i0.bytes = 1 from ⟨hi, hz0, hsz0, hby0⟩)
 clear hcz hi hz0 hsz0 hby0 hinfo hcur hfin hbst hbel hcs hRES hTR hb0 hp hc0 hOUT hn
 go_enter Tryd.func74, Tryd.ntmps74
 go_upto_if 15 with (fail)
 go_cut [5, 6] (fun rv wv wc => ∃ (d r0 : Nat), d ≤ 1 ∧ rv = .int .i64 r0 ∧ wv = .int .i64 1 ∧ Hid (CInv (ns s) d r0 [47] TR RES) ∧ Hid (BufSt wc (w.heap.size + 1) s.size (s.size + d) w.heap.size (ns s) [47]) ∧ Hid (Below w.heap.size w wc))
 case first =>
  by_cases h47 : c0 = 47
  ·have HC := Lib.hid (HS1.out h47)
   have HB := Lib.hid (HBST.out h47)
   subst h47
   have q0 : ((47 : Int) != 47) = false := by decide
   go_wp2
   go_meet
   case rel => exact ⟨0, 1, by omega, rfl, rfl, HC, HB, HBEL⟩
  ·have HC := Lib.hid (HS2.out h47)
   have q0 : (c0 == 47) = false := beq_eq_false_iff_ne.2 h47
   have q00 : (c0 != 47) = true := bne_iff_ne.2 h47
   by_cases hbig : 128 < s.size + 1
   ·have q1 : decide ((128 : Int) < (s.size : Int) + 1) = true := decide_eq_true (by omega)
    have hmk2 := run_make (P := Tryd.prog) ((w.alloc (.cells cur 5)).alloc (.cells #[.slice (some ⟨w.heap.size, 0, none⟩) 0 128] 49)) 49 5 i0 _ Tryd.underlying49 HI0.out.1 HI0.out.2.1 .i64 .i64 ((s.size : Int) + 1) ((s.size : Int) + 1) (by omega) (by omega) (by rw [HI0.out.2.2.2]; omega) (by omega)
    obtain ⟨cur2, hcur2⟩ : ∃ X, madeCells (Value.int .u8 0).cells (((s.size : Int) + 1).toNat * i0.size) = X := ⟨_, rfl⟩
    have hcs2 : cur2.size = s.size + 1 := by rw [← hcur2, size_madeCells, HI0.out.2.2.1]; omega
    have hc2 : cur2[0]? = some (.int .u8 0) := by
     rw [← hcur2, ← Array.getElem?_toList, show (Value.int .u8 0).cells = #[.int .u8 0] from rfl, toList_madeCells_one, HI0.out.2.2.1]
     simp
    have hsz2 : ((w.alloc (.cells cur 5)).alloc (.cells #[.slice (some ⟨w.heap.size, 0, none⟩) 0 128] 49)).heap.size = w.heap.size + 1 + 1 := by simp
    rw [hcur2, show ((s.size : Int) + 1).toNat = s.size + 1 by omega, hsz2] at hmk2
    have q3 : (0 : Int) < (s.size : Int) + 1 := by omega
    have HC2 := Lib.hid hcs2
    clear hcur2 hcs2 hsz2
    go_wp2
    go_meet
    case rel =>
     refine ⟨1, 0, by omega, rfl, rfl, HC, Lib.hid ⟨by omega, .inr ⟨by omega, w.heap.size + 1 + 1, s.size + 1, cur2.setIfInBounds 0 (.int .u8 47), by omega, by omega, ?_, ?_, by rw [Array.size_setIfInBounds, HC2.out]; omega, Nat.le_refl _, fun i hi => ?_⟩⟩, ?_⟩
     ·have := blk_alloc (heap_alloc_new (w.alloc (.cells cur 5)) (.cells #[.slice (some ⟨w.heap.size + 1 + 1, 0, none⟩) (s.size + 1) (s.size + 1)] 49)) (.cells (cur2.setIfInBounds 0 (.int .u8 47)) 5)
      simpa [BufAt] using this
     ·have := heap_alloc_new ((w.alloc (.cells cur 5)).alloc (.cells #[.slice (some ⟨w.heap.size + 1 + 1, 0, none⟩) (s.size + 1) (s.size + 1)] 49)) (.cells (cur2.setIfInBounds 0 (.int .u8 47)) 5)
      simpa using this
     ·obtain rfl : i = 0 := by simpa using hi
      rw [Array.getElem?_setIfInBounds, if_pos rfl, if_pos (by rw [HC2.out]; omega)]; rfl
     ·exact Lib.hid ((((Below.refl _ _).alloc (Nat.le_refl _) _).alloc (by simp) _).alloc (by simp; omega) _)
   ·have q1 : decide ((128 : Int) < (s.size : Int) + 1) = false := decide_eq_false (by omega)
    have q2 : (s.size : Int) + 1 ≤ 128 := by omega
    have q3 : (0 : Int) < (s.size : Int) + 1 := by omega
    have hcz := HCZ.out
    go_wp2
    go_meet
    case rel =>
     refine ⟨1, 0, by omega, rfl, rfl, HC, Lib.hid ⟨by omega, .inr ⟨by omega, w.heap.size, 128, cur.setIfInBounds 0 (.int .u8 47), by omega, Nat.le_refl _, ?_, ?_, by rw [Array.size_setIfInBounds, HCS.out]; omega, by omega, fun i hi => ?_⟩⟩, ?_⟩
     ·have := heap_alloc_new (w.alloc (.cells (cur.setIfInBounds 0 (.int .u8 47)) 5)) (.cells #[.slice (some ⟨w.heap.size, 0, none⟩) (s.size + 1) 128] 49)
      simpa [BufAt] using this
     ·exact blk_alloc (heap_alloc_new w _) _
     ·obtain rfl : i = 0 := by simpa using hi
      rw [Array.getElem?_setIfInBounds, if_pos rfl, if_pos (by rw [HCS.out]; omega)]; rfl
     ·exact Lib.hid (((Below.refl _ _).alloc (Nat.le_refl _) _).alloc (by simp) _)
 case rest =>
  obtain ⟨d, r0, hd1, rfl, rfl, HST, HBST2, HBEL2⟩ := hcut
  clear HBST HBEL HS1 HS2 e0
  obtain ⟨L, hL⟩ : ∃ L, s.size + d = L := ⟨_, rfl⟩
  rw [hL] at HBST2
  have hLd1 : L ≤ s.size + d := by omega
  have hLd2 : s.size + d ≤ L := by omega
  clear hL
  go_upto_region 13 with (fail)
  go_cut [7] (fun tv wx => tv = .bool TR ∧ wx = wc)
  case first =>
   by_cases h1s : 1 < s.size
   ·have q1 : (1 : Int) < (s.size : Int) := by omega
    have h9 : s.size - 1 < s.size := by omega
    have e9 : (((s[s.size - 1]'h9).toNat : Int) == 47) = TR := by
     have a : ((s[s.size - 1]'h9).toNat : Int) = (ns s).getD (s.size - 1) 0 := (bt_at s ((s.size - 1 : Nat) : Int) h9).trans (bt_ns s (s.size - 1))
     rw [a, ← HTR.out, HN.out, decide_eq_true h1s, Bool.true_and]; rfl
    go_wp2
    go_meet
    case rel => exact ⟨by first | rfl | exact congrArg _ e9, by first | rfl | trivial⟩
   ·have q1 : ¬ ((1 : Int) < (s.size : Int)) := by omega
    have hTR : TR = false := by rw [← HTR.out, HN.out, decide_eq_false h1s, Bool.false_and]
    subst hTR
    go_wp2
    go_meet
    case rel => exact ⟨by first | rfl | simp [q1], by first | rfl | trivial⟩
  case rest =>
   obtain ⟨rfl, rfl⟩ := hcut
   go_wp2
   go_loopw [5, 6, 7] (fun rv wv tv wr => ∃ (r : Nat) (R : List Int) (tr : Bool), rv = .int .i64 r ∧ wv = .int .i64 R.length ∧ tv = .bool tr ∧ Hid (CInv (ns s) d r R tr RES) ∧ Hid (BufSt wr (w.heap.size + 1) s.size L w.heap.size (ns s) R) ∧ Hid (Below w.heap.size w wr)) (fun rv _ _ _ => s.size + 1 - (intOf rv).toNat)
   case atStart => exact ⟨r0, [47], TR, rfl, rfl, rfl, HST, HBST2, HBEL2⟩
   case round =>
    obtain ⟨r, R, tr, rfl, rfl, rfl, HI, HB, HBL⟩ := hrel
    by_cases hlt : r < s.size
    ·have hrl : (r : Int) < (s.size : Int) := by omega
     obtain ⟨c, hc⟩ : ∃ c, (ns s).getD r 0 = c := ⟨_, rfl⟩
     have ec : ((s[r]'hlt).toNat : Int) = c := (bt_at s (r : Int) hlt).trans ((bt_ns s r).trans hc)
     have HC := Lib.hid hc
     clear hc
     by_cases h47 : c = 47
     ·subst h47
      have HI2 := Lib.hid (HI.out.slash (by rw [HN.out]; exact hlt) HC.out)
      go_wp2
      go_roundw
      case rel => exact ⟨r + 1, R, tr, by go_num, rfl, rfl, HI2, HB, HBL⟩
      case measure => simp [intOf]; omega
     ·have b47 : (c == 47) = false := beq_eq_false_iff_ne.2 h47
      obtain ⟨E1, hE1⟩ : ∃ b, decide (c = 46 ∧ r + 1 = s.size) = b := ⟨_, rfl⟩
      have HE1 := Lib.hid hE1
      clear hE1
      go_upto_region 24 with (fail)
      go_cut [73] from 74 to 83 (fun v wx => v = .bool E1 ∧ wx = wr)
      case first =>
       by_cases h46 : c = 46
       ·subst h46
        by_cases he : r + 1 = s.size
        ·have q2 : ((r : Int) + 1 == (s.size : Int)) = true := by rw [← he]; simp
         have e1 : E1 = true := by rw [← HE1.out]; exact decide_eq_true ⟨rfl, he⟩
         subst e1
         go_wp2
         go_meet
         case rel => exact ⟨rfl, by first | rfl | trivial⟩
        ·have q2 : ((r : Int) + 1 == (s.size : Int)) = false := beq_eq_false_iff_ne.2 (by omega)
         have e1 : E1 = false := by rw [← HE1.out]; exact decide_eq_false (fun h => he h.2)
         subst e1
         go_wp2
         go_meet
         case rel => exact ⟨rfl, by first | rfl | trivial⟩
       ·have b46 : (c == 46) = false := beq_eq_false_iff_ne.2 h46
        have e1 : E1 = false := by rw [← HE1.out]; exact decide_eq_false (fun h => h46 h.1)
        subst e1
        go_wp2
        go_meet
        case rel => exact ⟨rfl, by first | rfl | trivial⟩
      case rest =>
       obtain ⟨rfl, hwx⟩ := hcut
       subst hwx
       cases E1 with
       | true =>
        have h1 := of_decide_eq_true HE1.out
        have HI2 := Lib.hid (HI.out.dotEnd (by rw [HN.out]; exact h1.2) (HC.out.trans h1.1))
        clear h1
        go_wp2
        go_roundw
        case rel => exact ⟨r + 1, R, true, by go_num, rfl, rfl, HI2, HB, HBL⟩
        case measure => simp [intOf]; omega
       | false =>
        obtain ⟨c1, hc1⟩ : ∃ c, (ns s).getD (r + 1) 0 = c := ⟨_, rfl⟩
        have HC1 := Lib.hid hc1
        obtain ⟨E2, hE2⟩ : ∃ b, decide (c = 46 ∧ c1 = 47) = b := ⟨_, rfl⟩
        have HE2 := Lib.hid hE2
        have HLT1 := Lib.hid (fun h46 : c = 46 => show r + 1 < s.size from by
         have := of_decide_eq_false HE1.out
         rcases Nat.lt_or_ge (r + 1) s.size with h | h
         ·exact h
         ·exact absurd ⟨h46, by omega⟩ this)
        have HEC1 := Lib.hid (fun h : r + 1 < s.size => show ((s[r + 1]'h).toNat : Int) = c1 from (bt_at s ((r + 1 : Nat) : Int) h).trans ((bt_ns s (r + 1)).trans HC1.out))
        clear hc1 hE2
        go_upto_region 27 with (fail)
        go_cut [86] from 87 to 97 (fun v wx => v = .bool E2 ∧ wx = wc)
        case first =>
         by_cases h46 : c = 46
         ·have hl1 := HLT1.out h46
          have ec1 := HEC1.out hl1
          have hl1' : (r : Int) + 1 < (s.size : Int) := by omega
          subst h46
          have e2 : E2 = (c1 == 47) := by rw [← HE2.out, Bool.eq_iff_iff, decide_eq_true_eq, beq_iff_eq]; exact ⟨fun h => h.2, fun h => ⟨rfl, h⟩⟩
          subst e2
          go_wp2
          go_meet
          case rel => exact ⟨rfl, by first | rfl | trivial⟩
         ·have b46 : (c == 46) = false := beq_eq_false_iff_ne.2 h46
          have e2 : E2 = false := by rw [← HE2.out]; exact decide_eq_false (fun h => h46 h.1)
          subst e2
          go_wp2
          go_meet
          case rel => exact ⟨rfl, by first | rfl | trivial⟩
        case rest =>
         obtain ⟨rfl, hwx⟩ := hcut
         subst hwx
         cases E2 with
         | true =>
          have h2 := of_decide_eq_true HE2.out
          have HI2 := Lib.hid (HI.out.dot (by rw [HN.out]; exact HLT1.out h2.1) (HC.out.trans h2.1) (HC1.out.trans h2.2))
          have hl1 := HLT1.out h2.1
          clear h2
          go_wp2
          go_roundw
          case rel => exact ⟨r + 2, R, tr, by go_num, rfl, rfl, HI2, HB, HBL⟩
          case measure => simp [intOf]; omega
         | false =>
          obtain ⟨c3, hc3⟩ : ∃ c, (ns s).getD (r + 2) 0 = c := ⟨_, rfl⟩
          have HC3 := Lib.hid hc3
          obtain ⟨E3, hE3⟩ : ∃ b, decide (c = 46 ∧ c1 = 46 ∧ (r + 2 = s.size ∨ c3 = 47)) = b := ⟨_, rfl⟩
          have HE3 := Lib.hid hE3
          have HEC3 := Lib.hid (fun h : r + 2 < s.size => show ((s[r + 2]'h).toNat : Int) = c3 from (bt_at s ((r + 2 : Nat) : Int) h).trans ((bt_ns s (r + 2)).trans HC3.out))
          clear hc3 hE3
          go_upto_region 29 with (fail)
          go_cut [100] from 101 to 124 (fun v wx => v = .bool E3 ∧ wx = wc)
          case first =>
           by_cases h46 : c = 46
           ·have hl1 := HLT1.out h46
            have ec1 := HEC1.out hl1
            have hl1' : (r : Int) + 1 < (s.size : Int) := by omega
            subst h46
            by_cases k46 : c1 = 46
            ·subst k46
             by_cases he2 : r + 2 = s.size
             ·have q3 : ((r : Int) + 2 == (s.size : Int)) = true := by rw [← he2]; simp
              have e3 : E3 = true := by rw [← HE3.out]; exact decide_eq_true ⟨rfl, rfl, .inl he2⟩
              subst e3
              go_wp2
              go_meet
              case rel => exact ⟨rfl, by first | rfl | trivial⟩
             ·have q3 : ((r : Int) + 2 == (s.size : Int)) = false := beq_eq_false_iff_ne.2 (by omega)
              have hlt2 : r + 2 < s.size := by omega
              have hl2' : (r : Int) + 2 < (s.size : Int) := by omega
              have ec3 := HEC3.out hlt2
              have e3 : E3 = (c3 == 47) := by rw [← HE3.out, Bool.eq_iff_iff, decide_eq_true_eq, beq_iff_eq]; exact ⟨fun h => h.2.2.resolve_left he2, fun h => ⟨rfl, rfl, .inr h⟩⟩
              subst e3
              go_wp2
              go_meet
              case rel => exact ⟨rfl, by first | rfl | trivial⟩
            ·have b46 : (c1 == 46) = false := beq_eq_false_iff_ne.2 k46
             have e3 : E3 = false := by rw [← HE3.out]; exact decide_eq_false (fun h => k46 h.2.1)
             subst e3
             go_wp2
             go_meet
             case rel => exact ⟨rfl, by first | rfl | trivial⟩
           ·have b46 : (c == 46) = false := beq_eq_false_iff_ne.2 h46
            have e3 : E3 = false := by rw [← HE3.out]; exact decide_eq_false (fun h => h46 h.1)
            subst e3
            go_wp2
            go_meet
            case rel => exact ⟨rfl, by first | rfl | trivial⟩
          case rest =>
           obtain ⟨rfl, hwx⟩ := hcut
           subst hwx
           cases E3 with
           | true =>
            have h3 := of_decide_eq_true HE3.out
            have HI2 := Lib.hid (HI.out.back (by rw [HN.out]; exact HLT1.out h3.1) (HC.out.trans h3.1) (HC1.out.trans h3.2.1) (by rcases h3.2.2 with h | h; exact .inl (by rw [HN.out]; exact h); exact .inr (HC3.out.trans h)))
            clear h3
            by_cases hR1 : 1 < R.length
            ·have hbr : backR R = R.take (backFrom R (R.length - 1)) := by unfold backR; rw [if_pos hR1]
             rw [hbr] at HI2
             have hw0 : ((R.length : Int) - 1) = ((R.length - 1 : Nat) : Int) := by omega
             rcases HB.out with ⟨hbB, ⟨hLn, hRp, g, cap, cur2, hbg, hBg, hat, hg, hcs2, hcap2⟩ | ⟨hL0, g, cap, cur2, hbg, hBg, hat, hg, hLc, hLcap, hcell⟩⟩
             ·have cb := hat.cell
              have hpk : ∀ k, k < R.length → ∀ hk : k < s.size, ((s[k]'hk).toNat : Int) = R.getD k 0 := fun k hk hk2 => (bt_at s (k : Int) hk2).trans (by rw [bt_ns, hRp, List.getD_eq_getElem?_getD, List.getD_eq_getElem?_getD, List.getElem?_take, if_pos hk])
              have HPK := Lib.hid hpk
              have hRs : R.length ≤ s.size := by
               have := congrArg List.length hRp
               rw [List.length_take, ns_length] at this
               omega
              clear hbB hLn hRp hbg hBg hat hg hcs2 hcap2 hpk hbr
              go_wp2
              go_loopw [6] (fun wv wi => ∃ k : Nat, wv = .int .i64 k ∧ 1 ≤ k ∧ k < R.length ∧ wi = wc ∧ Hid (backFrom R k = backFrom R (R.length - 1))) (fun wv _ => (intOf wv).toNat)
              case atStart => exact ⟨R.length - 1, by first | rfl | go_num, by omega, by omega, rfl, Lib.hid rfl⟩
              case round =>
               obtain ⟨k, rfl, hk1, hk2, rfl, HK⟩ := hrel
               have hks : k < s.size := by omega
               obtain ⟨c5, hc5⟩ : ∃ c, R.getD k 0 = c := ⟨_, rfl⟩
               have ec5 : ((s[k]'hks).toNat : Int) = c5 := (HPK.out k hk2 hks).trans hc5
               by_cases hst : k ≤ 1 ∨ c5 = 47
               ·have HI3 := Lib.hid (show CInv (ns s) d (r + 3) (R.take k) tr RES by have := HI2.out; rwa [← HK.out, backFrom_stop R k (hst.imp id (fun e => hc5.trans e))] at this)
                have HB4 := Lib.hid (HB.out.cut k (by omega))
                have hkl : (R.take k).length = k := by rw [List.length_take]; omega
                have HKL := Lib.hid hkl
                clear hkl hc5
                by_cases hk1' : k ≤ 1
                ·have hnk : ¬ (1 < (k : Int)) := by omega
                 go_wp2
                 go_roundw
                 case rel => exact ⟨r + 3, R.take k, tr, by go_num, by rw [HKL.out], rfl, HI3, HB4, HBL⟩
                 case measure => simp [intOf]; omega
                ·have h5 := hst.resolve_left hk1'
                 subst h5
                 have hnk : (1 < (k : Int)) := by omega
                 go_wp2
                 go_roundw
                 case rel => exact ⟨r + 3, R.take k, tr, by go_num, by rw [HKL.out], rfl, HI3, HB4, HBL⟩
                 case measure => simp [intOf]; omega
               ·have hst1 : 1 < k := by omega
                have hst2 : c5 ≠ 47 := fun e => hst (.inr e)
                have HK2 := Lib.hid (show backFrom R (k - 1) = backFrom R (R.length - 1) by rw [← backFrom_step R k hst1 (by rw [hc5]; exact hst2)]; exact HK.out)
                have hnk : (1 < (k : Int)) := by omega
                have ek : ((k : Int) - 1) = ((k - 1 : Nat) : Int) := by omega
                clear hst hc5
                go_wp2
                go_roundw
                case rel => exact ⟨k - 1, by first | rfl | go_num, by omega, by omega, by first | rfl | trivial, HK2⟩
                case measure => simp [intOf]; omega
             ·have cb := hat.cell
              have hLi : ((L : Int) == 0) = false := beq_eq_false_iff_ne.2 (by omega)
              have HCE := Lib.hid (fun (k : Nat) (hk : k < R.length) => (cell_of_row wc g k _ _ (0, 0) hg).trans (hcell k hk))
              have hRs : R.length ≤ L := by have := HI.out.2.2.2.1; have := HN.out; omega
              clear hbB hL0 hbg hBg hat hg hLc hcell hbr
              go_wp2
              go_loopw [6] (fun wv wi => ∃ k : Nat, wv = .int .i64 k ∧ 1 ≤ k ∧ k < R.length ∧ wi = wc ∧ Hid (backFrom R k = backFrom R (R.length - 1))) (fun wv _ => (intOf wv).toNat)
              case atStart => exact ⟨R.length - 1, by first | rfl | go_num, by omega, by omega, rfl, Lib.hid rfl⟩
              case round =>
               obtain ⟨k, rfl, hk1, hk2, rfl, HK⟩ := hrel
               have hks : (k : Int) < (L : Int) := by omega
               obtain ⟨c5, hc5⟩ : ∃ c, R.getD k 0 = c := ⟨_, rfl⟩
               have ec5 := HCE.out k hk2
               rw [hc5] at ec5
               by_cases hst : k ≤ 1 ∨ c5 = 47
               ·have HI3 := Lib.hid (show CInv (ns s) d (r + 3) (R.take k) tr RES by have := HI2.out; rwa [← HK.out, backFrom_stop R k (hst.imp id (fun e => hc5.trans e))] at this)
                have HB4 := Lib.hid (HB.out.cut k (by omega))
                have hkl : (R.take k).length = k := by rw [List.length_take]; omega
                have HKL := Lib.hid hkl
                clear hkl hc5
                by_cases hk1' : k ≤ 1
                ·have hnk : ¬ (1 < (k : Int)) := by omega
                 go_wp2
                 go_roundw
                 case rel => exact ⟨r + 3, R.take k, tr, by go_num, by rw [HKL.out], rfl, HI3, HB4, HBL⟩
                 case measure => simp [intOf]; omega
                ·have h5 := hst.resolve_left hk1'
                 subst h5
                 have hnk : (1 < (k : Int)) := by omega
                 go_wp2
                 go_roundw
                 case rel => exact ⟨r + 3, R.take k, tr, by go_num, by rw [HKL.out], rfl, HI3, HB4, HBL⟩
                 case measure => simp [intOf]; omega
               ·have hst1 : 1 < k := by omega
                have hst2 : c5 ≠ 47 := fun e => hst (.inr e)
                have HK2 := Lib.hid (show backFrom R (k - 1) = backFrom R (R.length - 1) by rw [← backFrom_step R k hst1 (by rw [hc5]; exact hst2)]; exact HK.out)
                have hnk : (1 < (k : Int)) := by omega
                have ek : ((k : Int) - 1) = ((k - 1 : Nat) : Int) := by omega
                clear hst hc5
                go_wp2
                go_roundw
                case rel => exact ⟨k - 1, by first | rfl | go_num, by omega, by omega, by first | rfl | trivial, HK2⟩
                case measure => simp [intOf]; omega
            ·have hbr : backR R = R := by unfold backR; rw [if_neg hR1]
             rw [hbr] at HI2
             clear hbr
             go_wp2
             go_roundw
             case rel => exact ⟨r + 3, R, tr, by go_num, rfl, rfl, HI2, HB, HBL⟩
             case measure => simp [intOf]; omega
           | false =>
            have hw : wordCase (ns s) r := ⟨by rw [HC.out]; exact h47, fun q => by
             have q1 : c = 46 := HC.out.symm.trans q.1
             rcases q.2 with e | e | ⟨e, e'⟩
             ·exact of_decide_eq_false HE1.out ⟨q1, by rw [← HN.out]; exact e⟩
             ·exact of_decide_eq_false HE2.out ⟨q1, HC1.out.symm.trans e⟩
             ·exact of_decide_eq_false HE3.out ⟨q1, HC1.out.symm.trans e, by rcases e' with e' | e'; exact .inl (by rw [← HN.out]; exact e'); exact .inr (HC3.out.symm.trans e')⟩⟩
            have hrl2 : r < (ns s).length := by have := HN.out; omega
            have r1 := HI.out
            have HC47 := Lib.hid (show (ns s).getD r 0 ≠ 47 by rw [HC.out]; exact h47)
            by_cases hR1 : 1 < R.length
            ·have HR1 := Lib.hid (r1.room hrl2 HC47.out hR1)
             have hRb : R.length < 4611686018427387904 := by have := HR1.out; omega
             have HW : Hid (WInv (ns s) d r r (R ++ [47]) (addE R (((ns s).drop r).takeWhile nosl))) := Lib.hid (by have := r1.word hrl2 hw; rwa [if_pos hR1] at this)
             have HRES := Lib.hid (fun (r2 : Nat) (R2 : List Int) (k : WInv (ns s) d r r2 R2 (addE R (((ns s).drop r).takeWhile nosl))) (he : r2 = (ns s).length ∨ (ns s).getD r2 0 = 47) => WInv.done r1 hrl2 hw k he)
             clear r1 hw
             go_wp2_with (go_at_call 89; refine (buf_app _ _ _ _ s R 47 HB.out (by omega) HBL.out.size (by have := HR1.out; omega) (by omega) (by omega)).mono ?_; rintro e w2 ⟨rfl, g1, g2⟩)
             have HB2 := Lib.hid g1
             have HBL2 := Lib.hid (HBL.out.trans g2)
             clear g1 g2
             go_loopw [5, 6] (fun rv wv wi => ∃ (r2 : Nat) (R2 : List Int), rv = .int .i64 r2 ∧ wv = .int .i64 R2.length ∧ Hid (WInv (ns s) d r r2 R2 (addE R (((ns s).drop r).takeWhile nosl))) ∧ Hid (BufSt wi (w.heap.size + 1) s.size L w.heap.size (ns s) R2) ∧ Hid (Below w.heap.size w wi)) (fun rv _ _ => s.size - (intOf rv).toNat)
             case atStart => exact ⟨r, R ++ [47], rfl, by first | rfl | (simp; done) | go_num, HW, HB2, HBL2⟩
             case round =>
              obtain ⟨r2, R2, rfl, rfl, HW2, HB3, HBL3⟩ := hrel
              have hw2 := HW2.out
              by_cases hlt2 : r2 < s.size
              ·have hrl3 : r2 < (ns s).length := by have := HN.out; omega
               obtain ⟨c2, hc2⟩ : ∃ c, (ns s).getD r2 0 = c := ⟨_, rfl⟩
               have ec2 : ((s[r2]'hlt2).toNat : Int) = c2 := (bt_at s (r2 : Int) hlt2).trans ((bt_ns s r2).trans hc2)
               have hrl4 : (r2 : Int) < (s.size : Int) := by omega
               by_cases g47 : c2 = 47
               ·subst g47
                have HI2 := Lib.hid (HRES.out r2 R2 hw2 (.inr hc2))
                have hlr : r < r2 := by
                 rcases Nat.lt_or_ge r r2 with k | k
                 ·exact k
                 ·have e : r2 = r := by have := hw2.1; omega
                  rw [e] at hc2
                  exact absurd hc2 HC47.out
                clear hw2 hc2
                go_wp2
                go_roundw
                case rel => exact ⟨r2, R2, tr, rfl, rfl, rfl, HI2, HB3, HBL3⟩
                case measure => simp [intOf]; omega
               ·have HW3 := Lib.hid (hw2.step hrl3 (by rw [hc2]; exact g47))
                rw [hc2] at HW3
                have hl1 := hw2.2.2.1
                have hl2 := hw2.2.2.2.1
                clear hw2 hc2
                go_wp2_with (go_at_call 89; refine (buf_app _ _ _ _ s R2 c2 HB3.out (by omega) HBL3.out.size (by omega) (by omega) (by omega)).mono ?_; rintro e w3 ⟨rfl, g1, g2⟩)
                go_roundw
                case rel => exact ⟨r2 + 1, R2 ++ [c2], by go_num, by simp, HW3, Lib.hid g1, Lib.hid (HBL3.out.trans g2)⟩
                case measure => simp [intOf]; omega
              ·have hr2 : r2 = (ns s).length := by have := hw2.2.1; have := HN.out; omega
               have HI2 := Lib.hid (HRES.out r2 R2 hw2 (.inl hr2))
               have hlr : r < r2 := by have := HN.out; omega
               have hge : ¬ ((r2 : Int) < (s.size : Int)) := by omega
               clear hw2 hr2
               go_wp2
               go_roundw
               case rel => exact ⟨r2, R2, tr, rfl, rfl, rfl, HI2, HB3, HBL3⟩
               case measure => simp [intOf]; omega
            ·have HW : Hid (WInv (ns s) d r r R (addE R (((ns s).drop r).takeWhile nosl))) := Lib.hid (by have := r1.word hrl2 hw; rwa [if_neg hR1] at this)
             have HRES := Lib.hid (fun (r2 : Nat) (R2 : List Int) (k : WInv (ns s) d r r2 R2 (addE R (((ns s).drop r).takeWhile nosl))) (he : r2 = (ns s).length ∨ (ns s).getD r2 0 = 47) => WInv.done r1 hrl2 hw k he)
             clear r1 hw
             go_wp2
             have HB2 := HB
             have HBL2 := HBL
             go_loopw [5, 6] (fun rv wv wi => ∃ (r2 : Nat) (R2 : List Int), rv = .int .i64 r2 ∧ wv = .int .i64 R2.length ∧ Hid (WInv (ns s) d r r2 R2 (addE R (((ns s).drop r).takeWhile nosl))) ∧ Hid (BufSt wi (w.heap.size + 1) s.size L w.heap.size (ns s) R2) ∧ Hid (Below w.heap.size w wi)) (fun rv _ _ => s.size - (intOf rv).toNat)
             case atStart => exact ⟨r, R, rfl, by first | rfl | (simp; done) | go_num, HW, HB2, HBL2⟩
             case round =>
              obtain ⟨r2, R2, rfl, rfl, HW2, HB3, HBL3⟩ := hrel
              have hw2 := HW2.out
              by_cases hlt2 : r2 < s.size
              ·have hrl3 : r2 < (ns s).length := by have := HN.out; omega
               obtain ⟨c2, hc2⟩ : ∃ c, (ns s).getD r2 0 = c := ⟨_, rfl⟩
               have ec2 : ((s[r2]'hlt2).toNat : Int) = c2 := (bt_at s (r2 : Int) hlt2).trans ((bt_ns s r2).trans hc2)
               have hrl4 : (r2 : Int) < (s.size : Int) := by omega
               by_cases g47 : c2 = 47
               ·subst g47
                have HI2 := Lib.hid (HRES.out r2 R2 hw2 (.inr hc2))
                have hlr : r < r2 := by
                 rcases Nat.lt_or_ge r r2 with k | k
                 ·exact k
                 ·have e : r2 = r := by have := hw2.1; omega
                  rw [e] at hc2
                  exact absurd hc2 HC47.out
                clear hw2 hc2
                go_wp2
                go_roundw
                case rel => exact ⟨r2, R2, tr, rfl, rfl, rfl, HI2, HB3, HBL3⟩
                case measure => simp [intOf]; omega
               ·have HW3 := Lib.hid (hw2.step hrl3 (by rw [hc2]; exact g47))
                rw [hc2] at HW3
                have hl1 := hw2.2.2.1
                have hl2 := hw2.2.2.2.1
                clear hw2 hc2
                go_wp2_with (go_at_call 89; refine (buf_app _ _ _ _ s R2 c2 HB3.out (by omega) HBL3.out.size (by omega) (by omega) (by omega)).mono ?_; rintro e w3 ⟨rfl, g1, g2⟩)
                go_roundw
                case rel => exact ⟨r2 + 1, R2 ++ [c2], by go_num, by simp, HW3, Lib.hid g1, Lib.hid (HBL3.out.trans g2)⟩
                case measure => simp [intOf]; omega
              ·have hr2 : r2 = (ns s).length := by have := hw2.2.1; have := HN.out; omega
               have HI2 := Lib.hid (HRES.out r2 R2 hw2 (.inl hr2))
               have hlr : r < r2 := by have := HN.out; omega
               have hge : ¬ ((r2 : Int) < (s.size : Int)) := by omega
               clear hw2 hr2
               go_wp2
               go_roundw
               case rel => exact ⟨r2, R2, tr, rfl, rfl, rfl, HI2, HB3, HBL3⟩
               case measure => simp [intOf]; omega
    ·have HX := Lib.hid (HI.out.exit (by have := HN.out; omega))
     have hge : ¬ ((r : Int) < (s.size : Int)) := by omega
     have hx1 := HX.out.1
     have hl0 := HI.out.2.2.2.1
     have hl1 := HI.out.1
     have hnl := HN.out
     by_cases hT : tr = true ∧ 1 < R.length
     ·have hRl : R.length < L := by have := HX.out.2 hT.1 hT.2; omega
      have HO : Hid (R ++ [47] = OUT) := Lib.hid (by have := HOUT.out; rw [hx1] at this; rwa [if_pos hT] at this)
      obtain ⟨rfl, hR1⟩ := hT
      clear hx1 hnl hl0
      go_upto_region 41 with (go_at_call 89; refine (buf_app wr _ _ _ s R 47 HB.out (by omega) HBL.out.size (by omega) (by omega) (by omega)).mono ?_; rintro e w2 ⟨rfl, g1, g2⟩)
      have hlen : (R ++ [47]).length = R.length + 1 := by simp
      have HB5 := Lib.hid (HBL.out.trans g2)
      have hfw := BufSt.fin g1 (by omega)
      rw [hlen, HO.out] at hfw
      clear g1 g2 hlen
      rcases hfw with ⟨g, cap, cb, hle, hex⟩ | ⟨hL0, g, cap, cb, hle, hcv⟩
      ·have hRp : (R.length : Int) + 1 ≤ s.size := by omega
       go_wp2
       go_ret
       exact ⟨by first | rfl | (rw [hex]; rfl), HB5.out⟩
      ·have hLn : ((L : Int) == 0) = false := beq_eq_false_iff_ne.2 (by omega)
       have hRp : (R.length : Int) + 1 ≤ L := by omega
       go_wp2
       go_ret
       exact ⟨rfl, HB5.out⟩
     ·have HO : Hid (R = OUT) := Lib.hid (by have := HOUT.out; rw [hx1] at this; rwa [if_neg hT] at this)
      have hRL : R.length ≤ L := by omega
      have hfw := BufSt.fin HB.out hRL
      rw [show strOfNums R = strOfNums OUT by rw [HO.out]] at hfw
      clear hx1 hnl hl0
      have HT := Lib.hid hT
      clear hT
      rcases hfw with ⟨g, cap, cb, hle, hex⟩ | ⟨hL0, g, cap, cb, hle, hcv⟩
      ·have hRp : (R.length : Int) ≤ s.size := by omega
       cases tr with
       | false =>
        go_wp2
        go_ret
        exact ⟨by first | rfl | (rw [hex]; rfl), HBL.out⟩
       | true =>
        have hnR : ¬ (1 < (R.length : Int)) := fun h => HT.out ⟨rfl, by omega⟩
        go_wp2
        go_ret
        exact ⟨by first | rfl | (rw [hex]; rfl), HBL.out⟩
      ·have hLn : ((L : Int) == 0) = false := beq_eq_false_iff_ne.2 (by omega)
       have hRp : (R.length : Int) ≤ L := by omega
       cases tr with
       | false =>
        go_wp2
        go_ret
        exact ⟨rfl, HBL.out⟩
       | true =>
        have hnR : ¬ (1 < (R.length : Int)) := fun h => HT.out ⟨rfl, by omega⟩
        go_wp2
        go_ret
        exact ⟨rfl, HBL.out⟩
theorem clean_two_cells {w w' : World} {n : Nat} {T1 T2 : TypeId} {v1 v2 : Value} (hn : w.heap.size = n) (hb : Below ((w.alloc (.cells #[v1] T1)).alloc (.cells #[v2] T2)).heap.size ((w.alloc (.cells #[v1] T1)).alloc (.cells #[v2] T2)) w') :
    ((w'.cell? ⟨n, 0, none⟩ = some v1 ∧ w'.frozen? ⟨n, 0, none⟩ = false) ∧ (w'.cell? ⟨n + 1, 0, none⟩ = some v2 ∧ w'.frozen? ⟨n + 1, 0, none⟩ = false)) ∧
    (∀ u1 u2, Below w.heap.size w ((w'.setCell ⟨n, 0, none⟩ u1).setCell ⟨n + 1, 0, none⟩ u2)) := by
  subst hn
  have hs : ((w.alloc (.cells #[v1] T1)).alloc (.cells #[v2] T2)).heap.size = w.heap.size + 2 := by simp
  rw [hs] at hb
  have h1 : w'.heap[w.heap.size]? = some (.cells #[v1] T1 (0, 0)) := by
    rw [hb.block _ (by omega)]
    exact blk_alloc (heap_alloc_new w _) _
  have h2 : w'.heap[w.heap.size + 1]? = some (.cells #[v2] T2 (0, 0)) := by
    rw [hb.block _ (by omega)]
    have := heap_alloc_new (w.alloc (.cells #[v1] T1)) (.cells #[v2] T2)
    simpa using this
  refine ⟨⟨⟨?_, frozen_of_row _ _ 0 _ _ h1⟩, ⟨?_, frozen_of_row _ _ 0 _ _ h2⟩⟩, fun u1 u2 => ?_⟩
  · rw [cell_of_row _ _ 0 _ _ (0, 0) h1]; rfl
  · rw [cell_of_row _ _ 0 _ _ (0, 0) h2]; rfl
  · refine Below.setCell (Below.setCell ?_ (show w.heap.size ≤ w.heap.size from Nat.le_refl _) _) (show w.heap.size ≤ w.heap.size + 1 by omega) _
    have h0 : Below w.heap.size w ((w.alloc (.cells #[v1] T1)).alloc (.cells #[v2] T2)) := ((Below.refl _ _).alloc (Nat.le_refl _) _).alloc (by simp) _
    exact h0.trans (below_less (by omega) hb)
theorem clean_idle (p q : Addr) (w : World) :
    CallsD Tryd.prog 73 #[.pointer (some p), .pointer (some q)] .returning w fun e u' w' => e = .returned (.tuple #[]) ∧ u' = .returning ∧ w' = w := by
  refine callsD_of_wpS Tryd.func73 rfl fun c₀ cs hu => ?_
  apply wpS_seq
  apply wpS_region
  simp [wpOpsS, go_sem, recoverD, hu, Tryd.ntmps73, Exit.thenS]
  refine wpS_cond (t := false) (by simp [Act.eval, Array.replicate]) ?_
  simp only [Bool.false_eq_true, if_false]
  refine wpS_of_wp (wp_skip ?_)
  cases c₀
  simp_all [bodyPostS, results, Tryd.results73]
theorem clean_any (s : ByteArray) (w : World) (hs : s.size ≤ 35184372088832) :
    Calls Tryd.prog 74 #[.string s] w fun e w' => e = .returned (.string (strOfNums (cleanG (ns s)))) ∧ Below w.heap.size w w' := by
  by_cases h0 : s.size = 0
  · exact cleanA_empty s w h0
  · exact clean_calls_any s w hs (by omega)
set_option maxHeartbeats 4000000 in
theorem implClean_calls (a0 : ByteArray) (w : World) (hbd : a0.size ≤ 35184372088832) :
    Calls Tryd.prog 44 #[.string a0] w fun e w' => e = .returned (.tuple #[.string (strOfNums (cleanG (ns a0))), .bool true]) ∧ Below w.heap.size w w' := by
  have hin2 := Lib.hid (clean_any a0 ((w.alloc (.cells #[.string ⟨#[]⟩] 9)).alloc (.cells #[.bool false] 4)) hbd)
  obtain ⟨R, hR⟩ : ∃ R, strOfNums (cleanG (ns a0)) = R := ⟨_, rfl⟩
  rw [hR] at hin2 ⊢
  clear hR
  have hmf : ∀ (fn : Fn) (first cap : Array Value) (w : World), (Instr.makeFunc fn first cap).run Tryd.prog w = .ok (.func fn first cap) w := fun _ _ _ _ => rfl
  go_enter_defers Tryd.func44, Tryd.ntmps44
  go_wp2_with (
    go_at_call 74
    refine hin2.out.mono ?_
    rintro e w' ⟨rfl, hb⟩
    obtain ⟨⟨b1, b2⟩, hbl⟩ := clean_two_cells (w := w) rfl hb
    have HBL := Lib.hid hbl
    obtain ⟨c1, z1⟩ := b1
    obtain ⟨c2, z2⟩ := b2
    clear hb hbl)
  refine leaves_cons (f := 73) (args := #[.pointer (some ⟨w.heap.size, 0, none⟩), .pointer (some ⟨w.heap.size + 1, 0, none⟩)]) (by simp) (by simp [go_sem]) ?_
  refine (clean_idle ⟨w.heap.size, 0, none⟩ ⟨w.heap.size + 1, 0, none⟩ _).mono ?_
  rintro e u' w'' ⟨rfl, rfl, rfl⟩
  have hfinb := HBL.out (.string R) (.bool true)
  simp [Leaves, settle, results, Tryd.results44, go_sem, c1, c2]
  exact hfinb
end Go.Proofs.YtgmjaggkiifdjaaDoor.Given
