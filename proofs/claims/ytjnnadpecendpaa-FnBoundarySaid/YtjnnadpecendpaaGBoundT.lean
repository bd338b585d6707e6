/- impl.BoundaryType: the content type of a boundary. -/
import Derived.Test.YtjnnadpecendpaaGvRow
import Derived.Test.YtjnnadpecendpaaGStr2
import Derived.Laws.OwnMore
import Derived.WalkMore
set_option linter.unusedVariables false
set_option linter.unusedSimpArgs false
namespace Go.Proofs.Ytjnnadpecendpaa.Given
open Go.RowKit Go.Proofs.YtjnnadpecendpaaW.PrintWords Go.Proofs.YtjnnadpecendpaaW.PrintLast Go.Proofs.YtjnnadpecendpaaW.PrintMore Go.Proofs.Ytjnnadpecendpaa.Base Go.Proofs.Ytjnnadpecendpaa.Gv

/-- A request's head in block p, as new but for its content type and the buffer's value. -/
def HRow (w : World) (p : Nat) (v9 v15 : Value) : Prop :=
  w.heap[p]? = some (.cells #[.bool false, .bool false, .bool false, .bool false, .int .i64 0, .slice none 0 0, .slice none 0 0, .slice none 0 0, .slice none 0 0, v9, .slice none 0 0, .slice none 0 0, .string ⟨#[]⟩, .slice none 0 0, .slice none 0 0, v15, .bool false, .pointer none, .slice none 0 0, .slice none 0 0] 64 (0, 0))
theorem HRow.c9 {w : World} {p : Nat} {v9 v15 : Value} (h : HRow w p v9 v15) : w.cell? ⟨p, 9, none⟩ = some v9 := by rw [cell_of_row w p 9 _ _ (0, 0) h]; rfl
theorem HRow.c15 {w : World} {p : Nat} {v9 v15 : Value} (h : HRow w p v9 v15) : w.cell? ⟨p, 15, none⟩ = some v15 := by rw [cell_of_row w p 15 _ _ (0, 0) h]; rfl
theorem HRow.fr {w : World} {p o : Nat} {v9 v15 : Value} (h : HRow w p v9 v15) : w.frozen? ⟨p, o, none⟩ = false := frozen_of_row _ _ o _ _ h
theorem HRow.set9 {w : World} {p : Nat} {v9 v15 : Value} (h : HRow w p v9 v15) (v : Value) : HRow (w.setCell ⟨p, 9, none⟩ v) p v v15 := by
  have := heap_setCell_same w p 9 _ 64 v h
  unfold HRow
  rw [this]
  rfl
theorem HRow.set15 {w : World} {p : Nat} {v9 v15 : Value} (h : HRow w p v9 v15) (v : Value) : HRow (w.setCell ⟨p, 15, none⟩ v) p v9 v := by
  have := heap_setCell_same w p 15 _ 64 v h
  unfold HRow
  rw [this]
  rfl
theorem HRow.below {w w' : World} {p : Nat} {v9 v15 : Value} (h : HRow w p v9 v15) (hb : Below (p + 1) w w') : HRow w' p v9 v15 := by
  unfold HRow
  rw [hb.block p (by omega)]
  exact h
theorem below_weaken_a {B C : Nat} {a b : World} (h : B ≤ C) (k : Below C a b) : Below B a b := ⟨k.os, k.tape, k.output, k.size, fun i hi => k.block i (by omega)⟩
theorem mr_reads {w : World} {base n c e : Nat} {ok : Nat → Prop} {A : Option Addr} {xs : List Int} (h : MR.R (Kd.int .u8) e w base ok (.slice A n c) xs) : ReadsInt w .u8 A n xs := by
  obtain ⟨rfl, _, h3⟩ := MR.R_reads' h
  exact Kd.reads_of_C h3
theorem own_len {w : World} {b e n : Nat} {v : Value} {xs : List Int} (h : w.ownsRow b e 1 v n (nums .u8 xs)) : n = xs.length := by
  have := h.1
  simp [nums] at this
  exact this.symm
theorem lit_two (w : World) (a b : Int) (t : TypeId) : ReadsInt (w.alloc (.cells #[.int .u8 a, .int .u8 b] t)) .u8 (some ⟨w.heap.size, 0, none⟩) 2 [a, b] := by
  refine ⟨rfl, by decide, fun _ => ⟨_, rfl, fun j hj => ?_⟩⟩
  match j, hj with
  | 0, _ => simp [Addr.add]
  | 1, _ => simp [Addr.add]
theorem lit_one (w : World) (a : Int) (t : TypeId) : ReadsInt (w.alloc (.cells #[.int .u8 a] t)) .u8 (some ⟨w.heap.size, 0, none⟩) 1 [a] := by
  refine ⟨rfl, by decide, fun _ => ⟨_, rfl, fun j hj => ?_⟩⟩
  match j, hj with
  | 0, _ => simp [Addr.add]
/-- What stands ahead of a boundary. -/
def preB : List Int := [109, 117, 108, 116, 105, 112, 97, 114, 116, 47, 102, 111, 114, 109, 45, 100, 97, 116, 97]
def preC : List Int := [98, 111, 117, 110, 100, 97, 114, 121]
set_option maxHeartbeats 2000000 in
set_option maxRecDepth 100000 in
theorem setType_calls (w : World) (p : Nat) (v15 : Value) (A : Option Addr) (n c : Nat) (xs : List Int) (hn : n ≤ 140737488355328) (hH : HRow w p (.slice none 0 0) v15) (hr : ReadsInt w .u8 A n xs) (hp : p < w.heap.size) :
    Calls Try.prog 34 #[.pointer (some ⟨p, 0, none⟩), .slice A n c] w fun e w' => e = .returned (.tuple #[]) ∧ Below p w w' ∧ ∃ v, HRow w' p v v15 ∧ w'.ownsRow (p + 1) 5 1 v xs.length (nums .u8 xs) := by
  have hinfo : (Try.prog.info? 5).map (fun i => (i.zero, i.size, i.bytes)) = some (some (.int .u8 0), 1, 1) := by kernel_rfl
  have c9 := hH.c9
  have HH := Lib.hid hH
  have HR := Lib.hid hr
  clear hH hr
  go_enter Try.func34, Try.ntmps34
  go_wp2_with (at_builtin; refine print_append_row (w0 := w) (p + 1) rfl (.tmp 9) (.tmp 10) 56 5 .u8 1 rfl Try.underlying56 hinfo (by decide) (.slice none 0 0) [] xs A n c rfl rfl (own_nil _ _ _ _) HR.out (Below.refl _ _) (by omega) (by simp; omega) ?_)
  intro v1 w1 hown hB hg hat
  have hH1 := HH.out.below hB
  have c9' := hH1.c9
  have f9 : w1.frozen? ⟨p, 9, none⟩ = false := hH1.fr
  have hH2 := hH1.set9 v1
  have hfin : (w1.setCell ⟨p, 9, none⟩ v1).ownsRow (p + 1) 5 1 v1 xs.length (nums .u8 xs) := own_move hown (fun k hk => Below.heap_setCell _ _ _ _ (by have := own_base hown k hk; show k ≠ p; omega))
  have hB2 : Below p w (w1.setCell ⟨p, 9, none⟩ v1) := (below_weaken_a (by omega : p ≤ p + 1) hB).setCell (p := ⟨p, 9, none⟩) (Nat.le_refl _) v1
  obtain ⟨A1, c1, rfl⟩ := own_slice hown
  have H2 := Lib.hid hH2
  have F2 := Lib.hid hfin
  have B2 := Lib.hid hB2
  clear hown hB hg hat hH1 hH2 hfin hB2
  go_wp2
  go_end0
  exact ⟨rfl, B2.out, _, H2.out, F2.out⟩
set_option maxHeartbeats 1000000 in
set_option maxRecDepth 100000 in
theorem setForm_calls (w : World) (p : Nat) (s : ByteArray) (hs : s.size ≤ 140737488355) (hH : HRow w p (.slice none 0 0) (.slice none 0 0)) (hp : p < w.heap.size) :
    Calls Try.prog 36 #[.pointer (some ⟨p, 0, none⟩), .string s] w fun e w' => e = .returned (.tuple #[]) ∧ Below p w w' ∧ ∃ v v15, HRow w' p v v15 ∧ w'.ownsRow (p + 1) 5 1 v (preB ++ [59, 32] ++ preC ++ [61] ++ bytesOf s).length (nums .u8 (preB ++ [59, 32] ++ preC ++ [61] ++ bytesOf s)) := by
  have hinfo : (Try.prog.info? 5).map (fun i => (i.zero, i.size, i.bytes)) = some (some (.int .u8 0), 1, 1) := by kernel_rfl
  have c15 := hH.c15
  have HH := Lib.hid hH
  clear hH
  obtain ⟨L, hL⟩ : ∃ L, preB ++ [59, 32] ++ preC ++ [61] ++ bytesOf s = L := ⟨_, rfl⟩
  rw [hL]
  have hLs : L.length = 30 + s.size := by rw [← hL, List.length_append, bytesOf_length]; rfl
  have HL := Lib.hid hL
  have HLS := Lib.hid hLs
  clear hL hLs
  go_enter Try.func36, Try.ntmps36
  go_upto_region 2 with (first
    | (go_at_call 72; refine (hertzstr_MIMEFormData.calls preB _ rfl).mono ?_; rintro e w1 ⟨v1, rfl, ho1, hb1⟩; obtain ⟨A1, k1, rfl⟩ := MR.R_slice ho1; have R1 := Lib.hid (mr_reads ho1); have B1 := Lib.hid (below_weaken_a (by omega : p + 1 ≤ w.heap.size) hb1); have Z1 := Lib.hid hb1.size; clear ho1 hb1)
    | (at_builtin; refine print_append_row (w0 := w) (p + 1) rfl (.tmp 11) (.tmp 12) 56 5 .u8 1 rfl Try.underlying56 hinfo (by decide) (.slice none 0 0) [] preB A1 _ k1 rfl rfl (own_nil _ _ _ _) R1.out B1.out (by have := Z1.out; omega) (by decide) ?_))
  intro v2 w2 hown2 hB2 hg2 hat2
  obtain ⟨L2, hL2⟩ : ∃ L, preB = L := ⟨_, rfl⟩
  have N2 : L2.length = 19 := by rw [← hL2]; rfl
  have M2 := Lib.hid N2
  clear N2
  rw [hL2] at hown2
  rw [own_len hown2] at hown2
  obtain ⟨A2, k2, rfl⟩ := own_slice hown2
  have O2 := Lib.hid hown2
  have B2 := Lib.hid hB2
  have Z2 := Lib.hid (show w.heap.size ≤ w2.heap.size from hB2.size)
  have HL2 := Lib.hid hL2
  clear hown2 hB2 hg2 hat2 R1 B1 Z1 hL2
  go_upto_region 3 with (at_builtin; refine print_append_row (w0 := w) (p + 1) rfl (.tmp 14) (.tmp 15) 56 5 .u8 1 rfl Try.underlying56 hinfo (by decide) _ L2 [59, 32] (some ⟨w2.heap.size, 0, none⟩) 2 2 rfl rfl (O2.out.alloc _) (lit_two w2 59 32 _) (B2.out.alloc (by have := Z2.out; omega) _) (by have := Z2.out; simp; omega) (by have := M2.out; have hc : preC.length = 8 := rfl; omega) ?_)
  intro v3 w3 hown3 hB3 hg3 hat3
  obtain ⟨L3, hL3⟩ : ∃ L, L2 ++ [59, 32] = L := ⟨_, rfl⟩
  have N3 : L3.length = 21 := by rw [← hL3]; rw [List.length_append, M2.out]; rfl
  have M3 := Lib.hid N3
  clear N3
  rw [hL3] at hown3
  rw [own_len hown3] at hown3
  obtain ⟨A3, k3, rfl⟩ := own_slice hown3
  have O3 := Lib.hid hown3
  have B3 := Lib.hid hB3
  have Z3 := Lib.hid (show w.heap.size ≤ w3.heap.size from hB3.size)
  have HL3 := Lib.hid hL3
  clear hown3 hB3 hg3 hat3 O2 B2 Z2 hL3 M2
  go_upto_region 4 with (first
    | (go_at_call 73; refine (hertzstr_StrBoundary.calls preC _ rfl).mono ?_; rintro e w4 ⟨v4, rfl, ho4, hb4⟩; obtain ⟨A4, k4, rfl⟩ := MR.R_slice ho4; have R4 := Lib.hid (mr_reads ho4); have O4 := Lib.hid (pw_own_below O3.out hb4); have B4 := Lib.hid (B3.out.trans (below_weaken_a (by have := Z3.out; omega : p + 1 ≤ w3.heap.size) hb4)); have Z4 := Lib.hid (Nat.le_trans Z3.out hb4.size); clear ho4 hb4)
    | (at_builtin; refine print_append_row (w0 := w) (p + 1) rfl (.tmp 17) (.tmp 18) 56 5 .u8 1 rfl Try.underlying56 hinfo (by decide) _ L3 preC A4 _ k4 rfl rfl O4.out R4.out B4.out (by have := Z4.out; omega) (by have := M3.out; have hc : preC.length = 8 := rfl; omega) ?_))
  intro v5 w5 hown5 hB5 hg5 hat5
  obtain ⟨L5, hL5⟩ : ∃ L, L3 ++ preC = L := ⟨_, rfl⟩
  have N5 : L5.length = 29 := by rw [← hL5]; rw [List.length_append, M3.out]; rfl
  have M5 := Lib.hid N5
  clear N5
  rw [hL5] at hown5
  rw [own_len hown5] at hown5
  obtain ⟨A5, k5, rfl⟩ := own_slice hown5
  have O5 := Lib.hid hown5
  have B5 := Lib.hid hB5
  have Z5 := Lib.hid (show w.heap.size ≤ w5.heap.size from hB5.size)
  have HL5 := Lib.hid hL5
  clear hown5 hB5 hg5 hat5 O3 B3 Z3 O4 B4 Z4 R4 hL5 M3
  go_upto_region 5 with (at_builtin; refine print_append_row (w0 := w) (p + 1) rfl (.tmp 20) (.tmp 21) 56 5 .u8 1 rfl Try.underlying56 hinfo (by decide) _ L5 [61] (some ⟨w5.heap.size, 0, none⟩) 1 1 rfl rfl (O5.out.alloc _) (lit_one w5 61 _) (B5.out.alloc (by have := Z5.out; omega) _) (by have := Z5.out; simp; omega) (by have := M5.out; have hc : preC.length = 8 := rfl; omega) ?_)
  intro v6 w6 hown6 hB6 hg6 hat6
  obtain ⟨L6, hL6⟩ : ∃ L, L5 ++ [61] = L := ⟨_, rfl⟩
  have N6 : L6.length = 30 := by rw [← hL6]; rw [List.length_append, M5.out]; rfl
  have M6 := Lib.hid N6
  clear N6
  rw [hL6] at hown6
  rw [own_len hown6] at hown6
  obtain ⟨A6, k6, rfl⟩ := own_slice hown6
  have O6 := Lib.hid hown6
  have B6 := Lib.hid hB6
  have Z6 := Lib.hid (show w.heap.size ≤ w6.heap.size from hB6.size)
  have HL6 := Lib.hid hL6
  clear hown6 hB6 hg6 hat6 O5 B5 Z5 hL6 M5
  go_upto_region 6 with (at_builtin; refine print_append_str (w0 := w) (p + 1) rfl (.tmp 23) (.tmp 24) 56 9 5 rfl Try.underlying56 Try.underlying9 hinfo _ L6 s rfl rfl O6.out B6.out (by have := Z6.out; omega) (by have := M6.out; omega) ?_)
  intro v7 w7 hown7 hB7 hg7
  have e7 : L6 ++ bytesOf s = L := by rw [← HL.out, ← HL6.out, ← HL5.out, ← HL3.out, ← HL2.out]
  rw [e7] at hown7
  rw [own_len hown7] at hown7
  obtain ⟨A7, k7, rfl⟩ := own_slice hown7
  have O7 := Lib.hid hown7
  have H7 := HH.out.below hB7
  have c15' := H7.c15
  have f15 : w7.frozen? ⟨p, 15, none⟩ = false := H7.fr
  have H8 := H7.set15 (.slice A7 L.length k7)
  have O8 := Lib.hid (own_move (w1 := w7.setCell ⟨p, 15, none⟩ (.slice A7 L.length k7)) hown7 (fun k hk => Below.heap_setCell _ _ _ _ (by have := own_base hown7 k hk; show k ≠ p; omega)))
  have B8 := Lib.hid ((below_weaken_a (by omega : p ≤ p + 1) hB7).setCell (p := ⟨p, 15, none⟩) (Nat.le_refl _) (.slice A7 L.length k7))
  have Z8 : p < (w7.setCell ⟨p, 15, none⟩ (.slice A7 L.length k7)).heap.size := by have := B8.out.size; omega
  have HST := Lib.hid (setType_calls (w7.setCell ⟨p, 15, none⟩ (.slice A7 L.length k7)) p (.slice A7 L.length k7) A7 L.length k7 L (by have := HLS.out; omega) H8 (own_reads' O8.out) Z8)
  clear hown7 hB7 hg7 H7 H8 O6 B6 Z6 Z8 e7 M6
  have hBB := Lib.hid (fun (W' : World) (h : Below p (w7.setCell ⟨p, 15, none⟩ (.slice A7 L.length k7)) W') => B8.out.trans h)
  go_wp2_with (
    go_at_call 34
    refine HST.out.mono ?_
    rintro e w9 ⟨rfl, hb9, v9, hv9, ho9⟩
    have HB9 := Lib.hid (hBB.out _ hb9)
    have HV9 := Lib.hid hv9
    have HO9 := Lib.hid ho9
    clear hb9 hv9 ho9)
  go_end0
  exact ⟨rfl, HB9.out, _, _, HV9.out, HO9.out⟩
set_option maxHeartbeats 2000000 in
set_option maxRecDepth 100000 in
theorem ctype_calls (w : World) (p : Nat) (v9 v15 : Value) (hH : HRow w p v9 v15) :
    Calls Try.prog 37 #[.pointer (some ⟨p, 0, none⟩)] w fun e w' => e = .returned v9 ∧ w' = w := by
  have c9 := hH.c9
  clear hH
  go_enter Try.func37, Try.ntmps37
  go_wp2
  go_ret
  exact ⟨rfl, rfl⟩
theorem hrow_new (w : World) : HRow (w.alloc (.cells #[.bool false, .bool false, .bool false, .bool false, .int .i64 0, .slice none 0 0, .slice none 0 0, .slice none 0 0, .slice none 0 0, .slice none 0 0, .slice none 0 0, .slice none 0 0, .string ⟨#[]⟩, .slice none 0 0, .slice none 0 0, .slice none 0 0, .bool false, .pointer none, .slice none 0 0, .slice none 0 0] 64)) w.heap.size (.slice none 0 0) (.slice none 0 0) := heap_alloc_new w _
/-- The bytes of a boundary's content type. -/
def typeB (xs : List Int) : List Int := preB ++ [59, 32] ++ preC ++ [61] ++ xs
set_option maxHeartbeats 2000000 in
set_option maxRecDepth 100000 in
theorem boundT_calls (w : World) (s : ByteArray) (hs : s.size ≤ 140737488355) :
    Calls Try.prog 16 #[.string s] w fun e w' => e = .returned (.string (strOfNums (typeB (bytesOf s)))) ∧ Below w.heap.size w w' := by
  obtain ⟨T, hT⟩ : ∃ T, strOfNums (typeB (bytesOf s)) = T := ⟨_, rfl⟩
  rw [hT]
  have HSF := Lib.hid (setForm_calls _ w.heap.size s hs (hrow_new w) (by simp))
  have HT := Lib.hid hT
  clear hT
  go_enter Try.func16, Try.ntmps16
  go_wp2_with (first
    | (go_at_call 36
       refine HSF.out.mono ?_
       rintro e w9 ⟨rfl, hb9, v9, v15, hv9, ho9⟩
       have HB9 := Lib.hid ((((Below.refl _ _).alloc (Nat.le_refl _) _).trans hb9 : Below w.heap.size w w9))
       have HCT := Lib.hid (ctype_calls w9 w.heap.size v9 v15 hv9)
       have hcv := own_string (P := Try.prog) (src := 56) (dst := 9) Try.underlying56 Try.underlying5 Try.underlying9 ho9
       rw [show strOfNums (preB ++ [59, 32] ++ preC ++ [61] ++ bytesOf s) = T from HT.out] at hcv
       clear hb9 hv9 ho9)
    | (go_at_call 37; refine HCT.out.mono ?_; rintro e w10 ⟨rfl, rfl⟩))
  go_ret
  exact ⟨rfl, HB9.out⟩
def impl_BoundaryType.f (s : ByteArray) : Option ByteArray := if s.size ≤ 140737488355 then some (strOfNums (typeB (bytesOf s))) else none
theorem impl_BoundaryType.calls (a0 : ByteArray) (r : ByteArray) (w : World) (h : impl_BoundaryType.f a0 = some r) :
    Calls Try.prog 16 #[.string a0] w fun e w' => e = .returned (.string r) ∧ Below w.heap.size w w' := by
  unfold impl_BoundaryType.f at h
  by_cases hbd : a0.size ≤ 140737488355
  · rw [if_pos hbd] at h
    obtain rfl := Option.some.inj h
    exact boundT_calls w a0 hbd
  · rw [if_neg hbd] at h
    cases h
end Go.Proofs.Ytjnnadpecendpaa.Given
