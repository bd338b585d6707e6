/- bufApp told once for all its ways: the buffer's state behind it is the one ahead with a byte more. -/
import Derived.Test.YtkbmababljcabaaGBuf
set_option linter.unusedVariables false
set_option linter.unusedSimpArgs false
namespace Go.Proofs.Ytkbmababljcabaa.Given
open Go.RowKit Go.Proofs.YtkbmababljcabaaW.PrintWords Go.Proofs.YtkbmababljcabaaW.PrintLast Go.Proofs.YtkbmababljcabaaW.PrintMore Go.Proofs.Ytkbmababljcabaa.Base Go.Proofs.Ytkbmababljcabaa.Gv

/-- The buffer is not wanted so far: what is written is the path's own beginning. -/
def BufNo (w : World) (b n L B : Nat) (p R : List Int) : Prop := L = n ∧ R = p.take R.length ∧ ∃ g cap cur, b ≠ g ∧ B ≤ g ∧ BufAt w b g 0 cap ∧ w.heap[g]? = some (.cells cur 5 (0, 0)) ∧ cur.size = cap ∧ cap ≤ 70368744177664
/-- The buffer is there, and begins with what is written. -/
def BufIs (w : World) (b L B : Nat) (R : List Int) : Prop := ∃ g cap cur, b ≠ g ∧ B ≤ g ∧ BufAt w b g L cap ∧ w.heap[g]? = some (.cells cur 5 (0, 0)) ∧ L ≤ cur.size ∧ L ≤ cap ∧ ∀ i, i < R.length → cur[i]? = some (.int .u8 (R.getD i 0))
def BufSt (w : World) (b n L B : Nat) (p R : List Int) : Prop := B ≤ b ∧ (BufNo w b n L B p R ∨ (0 < L ∧ BufIs w b L B R))
theorem getD_snoc (R : List Int) (c : Int) (i : Nat) : (R ++ [c]).getD i 0 = if i < R.length then R.getD i 0 else if i = R.length then c else 0 := by
  rw [List.getD_eq_getElem?_getD, List.getD_eq_getElem?_getD]
  split
  · rename_i h
    rw [List.getElem?_append_left h]
  · rename_i h
    rw [List.getElem?_append_right (by omega)]
    split
    · rename_i h2
      rw [h2, Nat.sub_self]; rfl
    · rw [List.getElem?_eq_none (by simp; omega)]; rfl
/-- The copied beginning's cells. -/
theorem new_cells (cur NEW : Array Value) (s : ByteArray) (R : List Int) (c : Int) (hR : R = (ns s).take R.length) (hk : R.length < s.size) (hs : s.size ≤ NEW.size) (hN : (cur.toList.take 0 ++ Lib.byteCells (s.extract 0 R.length).data.toList ++ cur.toList.drop (0 + (s.extract 0 R.length).size)).toArray = NEW) :
    ∀ i, i < (R ++ [c]).length → (NEW.setIfInBounds R.length (.int .u8 c))[i]? = some (.int .u8 ((R ++ [c]).getD i 0)) := by
  intro i hi
  rw [List.length_append, List.length_singleton] at hi
  rw [getD_snoc, Array.getElem?_setIfInBounds]
  by_cases e : R.length = i
  · subst e
    rw [if_pos rfl, if_pos (by omega), if_neg (by omega), if_pos rfl]
  · have hlt : i < R.length := by omega
    rw [if_neg e, if_pos hlt, ← hN, List.getElem?_toArray, List.take_zero, List.nil_append]
    have hl : (Lib.byteCells (s.extract 0 R.length).data.toList).length = R.length := by
      rw [Lib.byteCells_length, ← Lib.size_eq, ByteArray.size_extract]; omega
    rw [List.getElem?_append_left (by omega)]
    have e1 : Lib.byteCells (s.extract 0 R.length).data.toList = (ns (s.extract 0 R.length)).map (Value.int .u8) := by
      unfold Lib.byteCells ns
      rw [List.map_map]; rfl
    have e2 : ns (s.extract 0 R.length) = R := by rw [ns_extract, List.drop_zero, Nat.sub_zero]; exact hR.symm
    rw [e1, e2, List.getElem?_map, List.getD_eq_getElem?_getD, List.getElem?_eq_getElem hlt]
    rfl
theorem take_snoc (p R : List Int) (c : Int) (hR : R = p.take R.length) (hk : R.length < p.length) (hc : p.getD R.length 0 = c) : R ++ [c] = p.take (R ++ [c]).length := by
  rw [List.length_append, List.length_singleton, List.take_add_one, ← hR]
  rw [List.getD_eq_getElem?_getD, List.getElem?_eq_getElem hk] at hc
  rw [List.getElem?_eq_getElem hk, ← hc]
  rfl
theorem below_less {B C : Nat} {a b : World} (h : B ≤ C) (k : Below C a b) : Below B a b := ⟨k.os, k.tape, k.output, k.size, fun i hi => k.block i (by omega)⟩
/-- A byte is laid behind what is written. -/
theorem buf_app (w : World) (b L B : Nat) (s : ByteArray) (R : List Int) (c : Int) (h : BufSt w b s.size L B (ns s) R) (hR0 : 0 < R.length) (hB : B ≤ w.heap.size) (hl : R.length < L) (hL : L ≤ 70368744177664) (hs : s.size ≤ 70368744177664) :
    Calls Try.prog 73 #[.pointer (some ⟨b, 0, none⟩), .string s, .int .i64 R.length, .int .u8 c] w fun e w' => e = .returned (.tuple #[]) ∧ BufSt w' b s.size L B (ns s) (R ++ [c]) ∧ Below B w w' := by
  obtain ⟨hb, ⟨rfl, hR, g, cap, cur, hbg, hBg, hat, hg, hcs, hcap⟩ | ⟨h0, g, cap, cur, hbg, hBg, hat, hg, hLc, hLcap, hcell⟩⟩ := h
  · have hbt := bt_ns s R.length
    by_cases hc : bt s (R.length : Int) = c
    · refine (buf_same w b g cap R.length s c hat hl hs hc).mono ?_
      rintro e w' ⟨rfl, rfl⟩
      refine ⟨rfl, ⟨hb, Or.inl ⟨rfl, take_snoc _ _ _ hR (by rw [ns_length]; exact hl) (hbt.symm.trans hc), g, cap, cur, hbg, hBg, hat, hg, hcs, hcap⟩⟩, Below.refl _ _⟩
    · by_cases hp : s.size ≤ cap
      · refine (buf_room w B b g cap R.length hb hBg s c cur hat hbg hg hcs hl hp hcap hc).mono ?_
        rintro e w' ⟨rfl, hat', NEW, hg', hns, hN, hbl⟩
        refine ⟨rfl, ⟨hb, Or.inr ⟨by omega, g, cap, _, hbg, hBg, hat', hg', by simp; omega, by omega, new_cells cur NEW s R c hR hl (by omega) hN⟩⟩, hbl⟩
      · have hbs : b < w.heap.size := (Array.getElem?_eq_some_iff.1 hat).1
        refine (buf_make w b g cap R.length s c hat hbs hl (by omega) hs hc).mono ?_
        rintro e w' ⟨rfl, hat', NEW, cur', hg', hns, hN, hbl⟩
        refine ⟨rfl, ⟨hb, Or.inr ⟨by omega, w.heap.size, s.size, _, by omega, hB, hat', hg', by simp; omega, by omega, new_cells cur' NEW s R c hR hl (by omega) hN⟩⟩, below_less hb hbl⟩
  · have hk : R.length < cur.size := by omega
    refine (buf_store w b g L cap R.length s c (cur[R.length]'hk) hat hl hL (by rw [cell_of_row w g _ _ _ (0, 0) hg]; simp [hk]) (frozen_of_row _ _ _ _ _ hg)).mono ?_
    rintro e w' ⟨rfl, rfl⟩
    have hg' := heap_setCell_same w g R.length cur 5 (.int .u8 c) hg
    have hat' : BufAt (w.setCell ⟨g, R.length, none⟩ (.int .u8 c)) b g L cap := by
      unfold BufAt
      rw [Below.heap_setCell _ _ _ _ (by show b ≠ g; omega)]
      exact hat
    refine ⟨rfl, ⟨hb, Or.inr ⟨h0, g, cap, _, hbg, hBg, hat', hg', by simp; omega, hLcap, fun i hi => ?_⟩⟩, Below.setCell (p := ⟨g, R.length, none⟩) (Below.refl _ _) hBg _⟩
    rw [List.length_append, List.length_singleton] at hi
    rw [getD_snoc, Array.getElem?_setIfInBounds]
    by_cases e : R.length = i
    · subst e
      rw [if_pos rfl, if_pos (by omega), if_neg (by omega), if_pos rfl]
    · rw [if_neg e, if_pos (by omega)]
      exact hcell i (by omega)
/-- Back to less of what is written. -/
theorem BufSt.cut {w : World} {b n L B : Nat} {p R : List Int} (h : BufSt w b n L B p R) (k : Nat) (hk : k ≤ R.length) : BufSt w b n L B p (R.take k) := by
  have hl : (R.take k).length = k := by rw [List.length_take]; omega
  obtain ⟨hb, ⟨e, hR, rest⟩ | ⟨h0, g, cap, cur, hbg, hBg, hat, hg, hLc, hLcap, hcell⟩⟩ := h
  · refine ⟨hb, .inl ⟨e, ?_, rest⟩⟩
    rw [hl]
    conv => lhs; rw [hR]
    rw [List.take_take, Nat.min_eq_left hk]
  · refine ⟨hb, .inr ⟨h0, g, cap, cur, hbg, hBg, hat, hg, hLc, hLcap, fun i hi => ?_⟩⟩
    rw [hl] at hi
    rw [hcell i (by omega)]
    rw [List.getD_eq_getElem?_getD, List.getD_eq_getElem?_getD, List.getElem?_take, if_pos hi]
/-- What is told in the end: the path's own beginning, or the buffer's. -/
theorem BufSt.fin {w : World} {b L B : Nat} {s : ByteArray} {R : List Int} (h : BufSt w b s.size L B (ns s) R) (hr : R.length ≤ L) :
    (∃ g cap, w.cell? ⟨b, 0, none⟩ = some (.slice (some ⟨g, 0, none⟩) 0 cap) ∧ R.length ≤ s.size ∧ s.extract 0 R.length = strOfNums R) ∨
    (0 < L ∧ ∃ g cap, w.cell? ⟨b, 0, none⟩ = some (.slice (some ⟨g, 0, none⟩) L cap) ∧ R.length ≤ cap ∧ (convert 30 9 (.slice (some ⟨g, 0, none⟩) R.length cap)).run Try.prog w = .ok (.string (strOfNums R)) w) := by
  obtain ⟨hb, ⟨e, hR, g, cap, cur, _, _, hat, _⟩ | ⟨h0, g, cap, cur, hbg, hBg, hat, hg, hLc, hLcap, hcell⟩⟩ := h
  · refine .inl ⟨g, cap, hat.cell, by omega, ns_inj ?_⟩
    rw [ns_extract, List.drop_zero, Nat.sub_zero, ← hR, ns_strOfNums]
    intro x hx
    rw [hR] at hx
    exact ns_range s x (List.mem_of_mem_take hx)
  · exact .inr ⟨h0, g, cap, hat.cell, by omega, run_convert_bytes_arg w 30 5 Try.underlying30 Try.underlying5 g 0 R.length cap R rfl (fun i hi => by rw [Nat.zero_add, cell_of_row w g i _ _ (0, 0) hg]; exact hcell i hi) 9 Try.underlying9⟩
end Go.Proofs.Ytkbmababljcabaa.Given
