/- bufApp: a byte laid behind a path's clean beginning, the buffer made when it is wanted. (In work: two of its three ways.) -/
import Derived.Test.YtkbmababljcabaaGvRow
import Derived.Laws.OwnMore
import Derived.WalkMore
import Derived.Lib.BufferWrite
import Derived.Lib.SlBuf
import Derived.Deep.OwnRows
set_option linter.unusedVariables false
set_option linter.unusedSimpArgs false
namespace Go.Proofs.Ytkbmababljcabaa.Given
open Go.RowKit Go.Proofs.YtkbmababljcabaaW.PrintWords Go.Proofs.YtkbmababljcabaaW.PrintLast Go.Proofs.YtkbmababljcabaaW.PrintMore Go.Proofs.Ytkbmababljcabaa.Base Go.Proofs.Ytkbmababljcabaa.Gv

/-- The buffer's slice lies in block b. -/
def BufAt (w : World) (b g len cap : Nat) : Prop := w.heap[b]? = some (.cells #[.slice (some ⟨g, 0, none⟩) len cap] 30 (0, 0))
theorem BufAt.cell {w : World} {b g len cap : Nat} (h : BufAt w b g len cap) : w.cell? ⟨b, 0, none⟩ = some (.slice (some ⟨g, 0, none⟩) len cap) := by rw [cell_of_row w b 0 _ _ (0, 0) h]; rfl
set_option maxHeartbeats 1000000 in
set_option maxRecDepth 100000 in
/-- Nothing is turned so far, and the byte is the path's own: nothing is done. -/
theorem buf_same (w : World) (b g cap k : Nat) (p : ByteArray) (c : Int) (h : BufAt w b g 0 cap) (hk : k < p.size) (hp : p.size ≤ 70368744177664) (hc : bt p (k : Int) = c) :
    Calls Try.prog 73 #[.pointer (some ⟨b, 0, none⟩), .string p, .int .i64 k, .int .u8 c] w fun e w' => e = .returned (.tuple #[]) ∧ w' = w := by
  have c0 := h.cell
  have hbt := Lib.hid hc
  clear h hc
  go_enter Try.func73, Try.ntmps73
  go_wp2_with ((with_reducible refine gate_dst (N := 18) rfl ?_); refine wpList_index_tab rfl 9 (.tmp 16) (.tmp 17) rfl p (k : Int) .i64 rfl rfl Try.underlying9 (by omega) (by omega) c hbt.out ?_)
  (try simp only [Exit.inBlock, Exit.then])
  refine bodyPost_ret (results_none rfl _ _ _) rfl ?_
  exact ⟨rfl, rfl⟩
set_option maxHeartbeats 1000000 in
set_option maxRecDepth 100000 in
/-- The buffer is there: the byte is stored. -/
theorem buf_store (w : World) (b g len cap k : Nat) (p : ByteArray) (c : Int) (v : Value) (h : BufAt w b g len cap) (hk : k < len) (hl : len ≤ 70368744177664) (hv : w.cell? ⟨g, k, none⟩ = some v) (hf : w.frozen? ⟨g, k, none⟩ = false) :
    Calls Try.prog 73 #[.pointer (some ⟨b, 0, none⟩), .string p, .int .i64 k, .int .u8 c] w fun e w' => e = .returned (.tuple #[]) ∧ w' = w.setCell ⟨g, k, none⟩ (.int .u8 c) := by
  have c0 := h.cell
  have q1 : ((len : Int) == 0) = false := beq_eq_false_iff_ne.2 (by omega)
  have q2 : (k : Int) < (len : Int) := by omega
  clear h
  go_enter Try.func73, Try.ntmps73
  go_wp2
  go_end0
  exact ⟨rfl, rfl⟩
set_option maxHeartbeats 1000000 in
set_option maxRecDepth 100000 in
/-- The buffer is made within its room: the clean beginning is copied, the byte stored. -/
theorem buf_room (w : World) (B b g cap k : Nat) (hBb : B ≤ b) (hBg : B ≤ g) (p : ByteArray) (c : Int) (cur : Array Value) (h : BufAt w b g 0 cap) (hbg : b ≠ g) (hg : w.heap[g]? = some (.cells cur 5 (0, 0))) (hcs : cur.size = cap) (hk : k < p.size) (hp : p.size ≤ cap) (hcap : cap ≤ 70368744177664) (hc : bt p (k : Int) ≠ c) :
    Calls Try.prog 73 #[.pointer (some ⟨b, 0, none⟩), .string p, .int .i64 k, .int .u8 c] w fun e w' => e = .returned (.tuple #[]) ∧ BufAt w' b g p.size cap ∧ ∃ NEW, w'.heap[g]? = some (.cells (NEW.setIfInBounds k (.int .u8 c)) 5 (0, 0)) ∧ NEW.size = cap ∧ (cur.toList.take 0 ++ Lib.byteCells (p.extract 0 k).data.toList ++ cur.toList.drop (0 + (p.extract 0 k).size)).toArray = NEW ∧ Below B w w' := by
  have c0 := h.cell
  have f0 : w.frozen? ⟨b, 0, none⟩ = false := frozen_of_row _ _ 0 _ _ h
  have hbt : (bt p (k : Int) == c) = false := beq_eq_false_iff_ne.2 hc
  have q1 : (p.size : Int) ≤ (cap : Int) := by omega
  have q2 : decide ((cap : Int) < (p.size : Int)) = false := decide_eq_false (by omega)
  obtain ⟨W1, hW1⟩ : ∃ W, w.setCell ⟨b, 0, none⟩ (.slice (some ⟨g, 0, none⟩) p.size cap) = W := ⟨_, rfl⟩
  have hg1 : W1.heap[g]? = some (.cells cur 5 (0, 0)) := by rw [← hW1, Below.heap_setCell _ _ _ _ (by show g ≠ b; omega)]; exact hg
  have hb1 : W1.heap[b]? = some (.cells #[.slice (some ⟨g, 0, none⟩) p.size cap] 30 (0, 0)) := by
    rw [← hW1]
    have := heap_setCell_same w b 0 _ 30 (.slice (some ⟨g, 0, none⟩) p.size cap) h
    simpa using this
  have hks : (p.extract 0 k).size = k := by rw [ByteArray.size_extract]; omega
  have hr := Lib.run_copy_row_string (P := Try.prog) W1 30 9 3 5 g 0 p.size cap (p.extract 0 k) cur 5 Try.underlying30 (by kernel_rfl) hg1 (by omega) (by omega)
  obtain ⟨W2, hW2⟩ : ∃ W, W1.setRow g (cur.toList.take 0 ++ Lib.byteCells (p.extract 0 k).data.toList ++ cur.toList.drop (0 + (p.extract 0 k).size)).toArray = W := ⟨_, rfl⟩
  rw [hW2] at hr
  have HRC := Lib.hid hr
  have cb1 : W1.cell? ⟨b, 0, none⟩ = some (.slice (some ⟨g, 0, none⟩) p.size cap) := by rw [cell_of_row W1 b 0 _ _ (0, 0) hb1]; rfl
  obtain ⟨NEW, hNEW⟩ : ∃ X, (cur.toList.take 0 ++ Lib.byteCells (p.extract 0 k).data.toList ++ cur.toList.drop (0 + (p.extract 0 k).size)).toArray = X := ⟨_, rfl⟩
  rw [hNEW] at hW2
  have hns : NEW.size = cap := by
    rw [← hNEW]
    simp only [List.size_toArray, List.length_append, List.length_take, List.length_drop, Lib.byteCells_length, Array.length_toList]
    have e : (p.extract 0 k).data.size = k := hks
    rw [e, hks, hcs]
    omega
  have hg2 : W2.heap[g]? = some (.cells NEW 5 (0, 0)) := by rw [← hW2]; exact setRow_heap W1 g cur NEW _ _ hg1
  have hb2 : W2.heap[b]? = some (.cells #[.slice (some ⟨g, 0, none⟩) p.size cap] 30 (0, 0)) := by rw [← hW2, setRow_other W1 g b NEW (by omega)]; exact hb1
  obtain ⟨vk, hvk⟩ : ∃ v, NEW[k]? = some v := ⟨NEW[k]'(by omega), by simp [hns]⟩
  have ck2 : W2.cell? ⟨g, k, none⟩ = some vk := by rw [cell_of_row W2 g k _ _ (0, 0) hg2]; exact hvk
  have fk2 : W2.frozen? ⟨g, k, none⟩ = false := frozen_of_row _ _ k _ _ hg2
  have hbf : BufAt (W2.setCell ⟨g, k, none⟩ (.int .u8 c)) b g p.size cap := by
    unfold BufAt
    rw [Below.heap_setCell _ _ _ _ (by show b ≠ g; omega)]
    exact hb2
  have hgf := heap_setCell_same W2 g k NEW 5 (.int .u8 c) hg2
  have hbel : Below B w (W2.setCell ⟨g, k, none⟩ (.int .u8 c)) := by
    have h1 : Below B w W1 := by rw [← hW1]; exact Below.setCell (p := ⟨b, 0, none⟩) (Below.refl _ _) hBb _
    have h2 : Below B w W2 := by rw [← hW2]; exact h1.trans ⟨rfl, rfl, rfl, by simp [World.setRow], fun i hi => setRow_other W1 g i NEW (by omega)⟩
    exact Below.setCell (p := ⟨g, k, none⟩) h2 hBg _
  have HBEL := Lib.hid hbel
  have HBF := Lib.hid hbf
  have HGF := Lib.hid hgf
  have HNEW := Lib.hid hNEW
  have HNS := Lib.hid hns
  obtain ⟨c1, hc1⟩ : ∃ x, bt p (k : Int) = x := ⟨_, rfl⟩
  rw [hc1] at hbt
  have HBT := Lib.hid hc1
  have q3 : (k : Int) < (p.size : Int) := by omega
  clear hc hc1 hr hW2 hks hg1 hb1 h hg hNEW hns hg2 hb2 hvk hbf hgf hcs hbel
  go_enter Try.func73, Try.ntmps73
  go_wp2_with (first
    | ((with_reducible refine gate_dst (N := 18) rfl ?_); refine wpList_index_tab rfl 9 (.tmp 16) (.tmp 17) rfl p (k : Int) .i64 rfl rfl Try.underlying9 (by omega) (by omega) c1 HBT.out ?_))
  rw [HRC.out]
  simp only [Result.andThen]
  rw [Oper.upon_value]
  go_wp2
  go_end0
  exact ⟨rfl, HBF.out, NEW, HGF.out, HNS.out, HNEW.out, HBEL.out⟩
set_option maxHeartbeats 1000000 in
set_option maxRecDepth 100000 in
/-- The buffer is made anew: the clean beginning is copied, the byte stored. -/
theorem buf_make (w : World) (b g0 cap0 k : Nat) (p : ByteArray) (c : Int) (h : BufAt w b g0 0 cap0) (hbg : b < w.heap.size) (hk : k < p.size) (hp : cap0 < p.size) (hcap : p.size ≤ 70368744177664) (hc : bt p (k : Int) ≠ c) :
    Calls Try.prog 73 #[.pointer (some ⟨b, 0, none⟩), .string p, .int .i64 k, .int .u8 c] w fun e w' => e = .returned (.tuple #[]) ∧ BufAt w' b w.heap.size p.size p.size ∧ ∃ NEW cur : Array Value, w'.heap[w.heap.size]? = some (.cells (NEW.setIfInBounds k (.int .u8 c)) 5 (0, 0)) ∧ NEW.size = p.size ∧ (cur.toList.take 0 ++ Lib.byteCells (p.extract 0 k).data.toList ++ cur.toList.drop (0 + (p.extract 0 k).size)).toArray = NEW ∧ Below b w w' := by
  have hinfo : (Try.prog.info? 5).map (fun i => (i.zero, i.size, i.bytes)) = some (some (.int .u8 0), 1, 1) := by kernel_rfl
  have hmk := run_make_row' (P := Try.prog) 30 5 (.int .u8 0) 1 Try.underlying30 hinfo rfl .i64 .i64 p.size (by omega) (by omega) w
  obtain ⟨cur, hcur⟩ : ∃ X, madeCells #[Value.int .u8 0] p.size = X := ⟨_, rfl⟩
  rw [hcur] at hmk
  obtain ⟨g, hgz⟩ : ∃ g, w.heap.size = g := ⟨_, rfl⟩
  obtain ⟨cap, hcz⟩ : ∃ n, p.size = n := ⟨_, rfl⟩
  have hcs : cur.size = cap := by rw [← hcur, size_madeCells]; exact hcz
  obtain ⟨W0, hW0⟩ : ∃ W, w.alloc (.cells cur 5) = W := ⟨_, rfl⟩
  have hg : W0.heap[g]? = some (.cells cur 5 (0, 0)) := by rw [← hW0, ← hgz]; exact heap_alloc_new w _
  have h00 : BufAt W0 b g0 0 cap0 := by
    unfold BufAt
    rw [← hW0, Below.heap_alloc _ _ _ (by omega)]
    exact h
  rw [hgz, hW0] at hmk
  rw [hgz]
  have c00 := h00.cell
  have f00 : W0.frozen? ⟨b, 0, none⟩ = false := frozen_of_row _ _ 0 _ _ h00
  have c0 := h.cell
  have f0 : w.frozen? ⟨b, 0, none⟩ = false := frozen_of_row _ _ 0 _ _ h
  have hbt : (bt p (k : Int) == c) = false := beq_eq_false_iff_ne.2 hc
  have q1 : (cap0 : Int) < (p.size : Int) := by omega
  obtain ⟨W1, hW1⟩ : ∃ W, W0.setCell ⟨b, 0, none⟩ (.slice (some ⟨g, 0, none⟩) p.size p.size) = W := ⟨_, rfl⟩
  have hg1 : W1.heap[g]? = some (.cells cur 5 (0, 0)) := by rw [← hW1, Below.heap_setCell _ _ _ _ (by show g ≠ b; omega)]; exact hg
  have hb1 : W1.heap[b]? = some (.cells #[.slice (some ⟨g, 0, none⟩) p.size p.size] 30 (0, 0)) := by
    rw [← hW1]
    have := heap_setCell_same W0 b 0 _ 30 (.slice (some ⟨g, 0, none⟩) p.size p.size) h00
    simpa using this
  have hks : (p.extract 0 k).size = k := by rw [ByteArray.size_extract]; omega
  have hr := Lib.run_copy_row_string (P := Try.prog) W1 30 9 3 5 g 0 p.size p.size (p.extract 0 k) cur 5 Try.underlying30 (by kernel_rfl) hg1 (by omega) (by omega)
  obtain ⟨W2, hW2⟩ : ∃ W, W1.setRow g (cur.toList.take 0 ++ Lib.byteCells (p.extract 0 k).data.toList ++ cur.toList.drop (0 + (p.extract 0 k).size)).toArray = W := ⟨_, rfl⟩
  rw [hW2] at hr
  have HRC := Lib.hid hr
  have cb1 : W1.cell? ⟨b, 0, none⟩ = some (.slice (some ⟨g, 0, none⟩) p.size p.size) := by rw [cell_of_row W1 b 0 _ _ (0, 0) hb1]; rfl
  obtain ⟨NEW, hNEW⟩ : ∃ X, (cur.toList.take 0 ++ Lib.byteCells (p.extract 0 k).data.toList ++ cur.toList.drop (0 + (p.extract 0 k).size)).toArray = X := ⟨_, rfl⟩
  rw [hNEW] at hW2
  have hns : NEW.size = cap := by
    rw [← hNEW]
    simp only [List.size_toArray, List.length_append, List.length_take, List.length_drop, Lib.byteCells_length, Array.length_toList]
    have e : (p.extract 0 k).data.size = k := hks
    rw [e, hks, hcs]
    omega
  have hg2 : W2.heap[g]? = some (.cells NEW 5 (0, 0)) := by rw [← hW2]; exact setRow_heap W1 g cur NEW _ _ hg1
  have hb2 : W2.heap[b]? = some (.cells #[.slice (some ⟨g, 0, none⟩) p.size p.size] 30 (0, 0)) := by rw [← hW2, setRow_other W1 g b NEW (by omega)]; exact hb1
  obtain ⟨vk, hvk⟩ : ∃ v, NEW[k]? = some v := ⟨NEW[k]'(by omega), by simp [hns]⟩
  have ck2 : W2.cell? ⟨g, k, none⟩ = some vk := by rw [cell_of_row W2 g k _ _ (0, 0) hg2]; exact hvk
  have fk2 : W2.frozen? ⟨g, k, none⟩ = false := frozen_of_row _ _ k _ _ hg2
  have hbf : BufAt (W2.setCell ⟨g, k, none⟩ (.int .u8 c)) b g p.size p.size := by
    unfold BufAt
    rw [Below.heap_setCell _ _ _ _ (by show b ≠ g; omega)]
    exact hb2
  have hgf := heap_setCell_same W2 g k NEW 5 (.int .u8 c) hg2
  have hgs : g = w.heap.size := hgz.symm
  have hbel : Below b w (W2.setCell ⟨g, k, none⟩ (.int .u8 c)) := by
    have h0 : Below b w W0 := by rw [← hW0]; exact (Below.refl _ _).alloc (by omega) _
    have h1 : Below b w W1 := by rw [← hW1]; exact Below.setCell (p := ⟨b, 0, none⟩) h0 (Nat.le_refl b) _
    have h2 : Below b w W2 := by rw [← hW2]; exact h1.trans ⟨rfl, rfl, rfl, by simp [World.setRow], fun i hi => setRow_other W1 g i NEW (by omega)⟩
    exact Below.setCell (p := ⟨g, k, none⟩) h2 (show b ≤ g by omega) _
  have HBEL := Lib.hid hbel
  have HBF := Lib.hid hbf
  have HGF := Lib.hid hgf
  have HNEW := Lib.hid hNEW
  have HNS := Lib.hid hns
  obtain ⟨c1, hc1⟩ : ∃ x, bt p (k : Int) = x := ⟨_, rfl⟩
  rw [hc1] at hbt
  have HBT := Lib.hid hc1
  have q3 : (k : Int) < (p.size : Int) := by omega
  have HCZ := Lib.hid hcz
  clear hcz hc hc1 hr hW2 hks hg1 hb1 h hg hNEW hns hg2 hb2 hvk hbf hgf hcs hcur hinfo h00 hgz hW0 hbel hgs
  go_enter Try.func73, Try.ntmps73
  go_wp2_with (first
    | ((with_reducible refine gate_dst (N := 18) rfl ?_); refine wpList_index_tab rfl 9 (.tmp 16) (.tmp 17) rfl p (k : Int) .i64 rfl rfl Try.underlying9 (by omega) (by omega) c1 HBT.out ?_))
  rw [HRC.out]
  simp only [Result.andThen]
  rw [Oper.upon_value]
  go_wp2
  go_end0
  exact ⟨rfl, HBF.out, NEW, cur, HGF.out, HNS.out.trans HCZ.out.symm, HNEW.out, HBEL.out⟩
end Go.Proofs.Ytkbmababljcabaa.Given
