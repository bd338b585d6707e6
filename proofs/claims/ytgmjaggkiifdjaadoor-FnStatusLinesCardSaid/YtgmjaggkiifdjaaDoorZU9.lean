/- Texts of this claim, one behind the other (merged by wip/prune.py of this repo, without what the proof does not use): GStat3, StatW. -/
import Derived.Test.YtgmjaggkiifdjaaDoorZU5
import Derived.Test.YtgmjaggkiifdjaaDoorZU7
import Derived.Test.YtgmjaggkiifdjaaDoorZU8
import Derived.Lib.ItoaLen
set_option linter.unusedVariables false
set_option linter.unusedSimpArgs false
namespace Go.Proofs.YtgmjaggkiifdjaaDoor.Given
open Go.RowKit Go.Proofs.YtgmjaggkiifdjaaDoorW.PrintWords Go.Proofs.YtgmjaggkiifdjaaDoorW.PrintLast Go.Proofs.YtgmjaggkiifdjaaDoorW.PrintMore Go.Proofs.YtgmjaggkiifdjaaDoor.Base Go.Proofs.YtgmjaggkiifdjaaDoor.Gv
theorem Below.mk_le {B C : Nat} {a b : World} (h : B ≤ C) (k : Below C a b) : Below B a b := ⟨k.os, k.tape, k.output, k.size, fun i hi => k.block i (by omega)⟩
theorem grow_below (w : World) (k : Nat) (os : Array Obj) : Below w.heap.size w (Go.Sort.grow (w.drewN k) os) :=
  ⟨rfl, rfl, rfl, by rw [Go.Sort.size_grow]; exact Nat.le_add_right _ _, fun i hi => by show (w.heap ++ os)[i]? = _; rw [Array.getElem?_append_left hi]⟩
theorem statL_size : ∀ p ∈ statL, p.2.size ≤ 40 := by decide
theorem statMsg_size (n : Int) : (statMsg n).size ≤ 40 := by
  have hu : unkB.size ≤ 40 := by decide
  unfold statMsg
  split
  · exact hu
  · split
    · exact hu
    · unfold stFind
      cases hf : statL.find? (fun p => decide (p.1 = n)) with
      | none => decide
      | some p => exact statL_size p (List.mem_of_find?_eq_some hf)
def itoaB (n : Int) : ByteArray := ⟨(Go.Lib.itoa n).toArray⟩
theorem itoaB_size (n : Int) (h0 : -9223372036854775808 ≤ n) (h1 : n ≤ 9223372036854775807) : (itoaB n).size ≤ 21 := by
  have := Go.Lib.itoa_length_le n h0 h1
  rw [Lib.size_eq]
  exact this
def statLine (n : Int) : ByteArray := (⟨#[72, 84, 84, 80, 47, 49, 46, 49, 32]⟩ : ByteArray) ++ itoaB n ++ (⟨#[32]⟩ : ByteArray) ++ statMsg n ++ (⟨#[13, 10]⟩ : ByteArray)
def TabP (w : World) : Prop := Go.Lib.TabIs Tryd.prog w "internal/strconv.uint64pow10" .u64 Go.Lib.pow10Tab
theorem TabP.below {w w' : World} (h : TabP w) (hb : Below w.heap.size w w') : TabP w' := by
  have hg : Tryd.prog.globalNamed "internal/strconv.uint64pow10" = some 3 := by kernel_rfl
  unfold TabP Go.Lib.TabIs World.var? at h ⊢
  rw [hg] at h ⊢
  simp only [Option.bind_some] at h ⊢
  cases hh : w.heap[3]? with
  | none => simp only [hh] at h; exact absurd h (by simp)
  | some o =>
    have hlt : 3 < w.heap.size := (Array.getElem?_eq_some_iff.1 hh).1
    rw [hb.block _ hlt]
    exact h
set_option maxHeartbeats 1000000 in
set_option maxRecDepth 100000 in
theorem statLine_calls (n : Int) (w : World) (h0 : -9223372036854775808 ≤ n) (h1 : n ≤ 9223372036854775807) (htab : TabP w) :
    Calls Tryd.prog 49 #[.int .i64 n] w fun e w' => ∃ c, e = .returned (.slice (some ⟨w'.heap.size - 1, 0, none⟩) (statLine n).size c) ∧ w.heap.size + 1 ≤ w'.heap.size ∧ Br w' 5 (w'.heap.size - 1) (ns (statLine n)) ∧ Below w.heap.size w w' := by
  have hs1 := itoaB_size n h0 h1
  have hs2 := statMsg_size n
  have c1 := fun W => statMsg_calls n W
  have c2 := fun W (h : TabP W) => sh_strconv_Itoa n h0 h1 W h
  have hl : (⟨(Go.Lib.itoa n).toArray⟩ : ByteArray) = itoaB n := rfl
  rw [hl] at c2
  unfold statLine
  obtain ⟨I, hI⟩ : ∃ I, itoaB n = I := ⟨_, rfl⟩
  obtain ⟨M, hM⟩ : ∃ M, statMsg n = M := ⟨_, rfl⟩
  rw [hI] at hs1 c2 ⊢
  rw [hM] at hs2 c1 ⊢
  have C1 := Lib.hid c1
  have C2 := Lib.hid c2
  have HT := Lib.hid htab
  clear c1 c2 hl hI hM htab
  have f1 : (9223372036854775807 < 9 + I.size) = False := eq_false (by omega)
  have f2 : (9223372036854775807 < 9 + I.size + 1) = False := eq_false (by omega)
  have f3 : (9223372036854775807 < 9 + I.size + 1 + M.size) = False := eq_false (by omega)
  have f4 : (9223372036854775807 < 9 + I.size + 1 + M.size + 2) = False := eq_false (by omega)
  obtain ⟨X, hX⟩ : ∃ X, (⟨#[72, 84, 84, 80, 47, 49, 46, 49, 32]⟩ : ByteArray) ++ I ++ (⟨#[32]⟩ : ByteArray) ++ M ++ (⟨#[13, 10]⟩ : ByteArray) = X := ⟨_, rfl⟩
  rw [hX]
  have HX := Lib.hid hX
  clear hX
  go_enter Tryd.func49, Tryd.ntmps49
  go_wp2_with (first
    | (go_at_call 50; refine (C1.out _).mono ?_; rintro e w1 ⟨rfl, hb⟩; have HB1 := Lib.hid hb; clear hb)
    | (go_at_call 77; refine (C2.out _ (HT.out.below HB1.out)).mono ?_; rintro e w2 ⟨rfl, k, os, rfl⟩
       have hb2 := HB1.out.trans (Below.mk_le HB1.out.size (grow_below w1 k os))
       obtain ⟨W2, hW2⟩ : ∃ W2, Go.Sort.grow (w1.drewN k) os = W2 := ⟨_, rfl⟩
       rw [hW2] at hb2 ⊢
       have hcv := Lib.run_convert_string_bytes (P := Tryd.prog) W2 9 49 5 X Tryd.underlying9 Tryd.underlying49 Tryd.underlying5
       rw [← HX.out] at hcv
       have HB2 := Lib.hid hb2
       clear hb2 hW2))
  go_ret
  rw [HX.out]
  have hsz : 9 + I.size + 1 + M.size + 2 = X.size := by
    rw [← HX.out]
    simp only [ByteArray.size_append]
    rfl
  rw [hsz]
  have hz := Lib.bytesWorld_size W2 5 X
  refine ⟨_, by rw [hz, Nat.add_sub_cancel]; rfl, by rw [hz]; have := HB2.out.size; omega, by rw [hz, Nat.add_sub_cancel]; exact Br.conv W2 5 X, HB2.out.trans (Below.mk_le HB2.out.size (conv_below W2 5 X))⟩
set_option maxHeartbeats 1000000 in
set_option maxRecDepth 100000 in
theorem implLine_calls (n : Int) (w : World) (h0 : -9223372036854775808 ≤ n) (h1 : n ≤ 9223372036854775807) (htab : TabP w) :
    Calls Tryd.prog 7 #[.int .i64 n] w fun e w' => e = .returned (.string (statLine n)) ∧ Below w.heap.size w w' := by
  have c := statLine_calls n w h0 h1 htab
  obtain ⟨X, hX⟩ : ∃ X, statLine n = X := ⟨_, rfl⟩
  rw [hX] at c ⊢
  have C := Lib.hid c
  clear c hX htab
  go_enter Tryd.func7, Tryd.ntmps7
  go_wp2_with (go_at_call 49; refine C.out.mono ?_; rintro e w1 ⟨c, rfl, hs, hbr, hb⟩
               have htx := hbr.text (P := Tryd.prog) (src := 49) (dst := 9) Tryd.underlying49 Tryd.underlying5 Tryd.underlying9 c
               rw [ns_length, show strOfNums (ns X) = X from ns_inj (ns_strOfNums (fun x hx => ns_range X x hx))] at htx
               have HB := Lib.hid hb
               clear hbr hb hs)
  go_ret
  exact ⟨rfl, HB.out⟩
set_option maxHeartbeats 1000000 in
theorem implMsg_calls (n : Int) (w : World) : Calls Tryd.prog 9 #[.int .i64 n] w fun e w' => e = .returned (.string (statMsg n)) ∧ Below w.heap.size w w' := by
  have C := Lib.hid (statMsg_calls n w)
  go_enter Tryd.func9, Tryd.ntmps9
  go_wp2_with (go_at_call 50; refine C.out.mono ?_; rintro e w1 ⟨rfl, hb⟩; have HB := Lib.hid hb; clear hb)
  go_ret
  exact ⟨rfl, HB.out⟩
end Go.Proofs.YtgmjaggkiifdjaaDoor.Given
namespace Go.Proofs.YtgmjaggkiifdjaaDoor.Pure
open Go.RowKit Go.Proofs.YtgmjaggkiifdjaaDoorW.PrintWords Go.Proofs.YtgmjaggkiifdjaaDoorW.PrintLast Go.Proofs.YtgmjaggkiifdjaaDoorW.PrintMore Go.Proofs.YtgmjaggkiifdjaaDoor.Base Go.Proofs.YtgmjaggkiifdjaaDoor.Gv Go.Proofs.YtgmjaggkiifdjaaDoor.Given Go.Proofs.YtgmjaggkiifdjaaDoor.QA Go.Proofs.YtgmjaggkiifdjaaDoor.Hlp
theorem digits_dec (n : Nat) : (Go.Lib.decDigits n).map (fun b => (b.toNat : Int)) = decN n := by
  induction n using Nat.strongRecOn with
  | _ n ih =>
    rw [Go.Lib.decDigits]
    by_cases h : n < 10
    · rw [dif_pos h, decN_lt n h]
      simp only [List.map_cons, List.map_nil, UInt8.toNat_ofNat']
      congr 1
      omega
    · rw [dif_neg h, decN_ge n (by omega), List.map_append, ih (n / 10) (by omega)]
      simp only [List.map_cons, List.map_nil, UInt8.toNat_ofNat']
      congr 2
      omega
theorem itoaB_dec (n : Nat) : itoaB (n : Int) = strOfNums (decN n) := by
  refine ns_inj ?_
  rw [ns_strOfNums (decN_range n), ← digits_dec]
  unfold ns itoaB Go.Lib.itoa
  rw [if_neg (by omega)]
  rfl
theorem line_200 : ((statLine 200).toList == (⟨#[72, 84, 84, 80, 47, 49, 46, 49, 32, 50, 48, 48, 32, 79, 75, 13, 10]⟩ : ByteArray).toList) = true := by
  unfold statLine
  rw [show (200 : Int) = ((200 : Nat) : Int) from rfl, itoaB_dec]
  decide +kernel
set_option maxHeartbeats 1000000 in
set_option maxRecDepth 100000 in
theorem lines_all (n : Int) (w : World) (hn : (Lit.int .i64 n).wf = true) (hT : TabP w) : Calls Tryd.prog 3 #[.int .i64 n] w fun e w' => e = .returned (.bool true) ∧ Below w.heap.size w w' := by
  have hr := wf_i64 hn
  have c1 := fun W (h : TabP W) => implLine_calls 200 W (by decide) (by decide) h
  have e1 := line_200
  obtain ⟨L1, hL1⟩ : ∃ L, statLine 200 = L := ⟨_, rfl⟩
  rw [hL1] at c1 e1
  have e1' : (L1.toList == ([72, 84, 84, 80, 47, 49, 46, 49, 32, 50, 48, 48, 32, 79, 75, 13, 10] : List UInt8)) = true := by
    rw [Lib.toList_data (⟨#[72, 84, 84, 80, 47, 49, 46, 49, 32, 50, 48, 48, 32, 79, 75, 13, 10]⟩ : ByteArray)] at e1; exact e1
  have C1 := Lib.hid c1
  have HT := Lib.hid hT
  clear c1 hT hL1 e1
  by_cases h1 : n < 100
  · have b : decide (n < 100) = true := decide_eq_true h1
    go_enter Tryd.func3, Tryd.ntmps3
    go_wp2_with (go_at_call 7; refine (C1.out _ HT.out).mono ?_; rintro e w1 ⟨rfl, hb⟩; have HB1 := Lib.hid hb; clear hb)
    go_ret
    exact ⟨rfl, HB1.out⟩
  have b : decide (n < 100) = false := decide_eq_false h1
  by_cases h2 : n > 999
  · have b2 : decide (999 < n) = true := decide_eq_true h2
    go_enter Tryd.func3, Tryd.ntmps3
    go_wp2_with (go_at_call 7; refine (C1.out _ HT.out).mono ?_; rintro e w1 ⟨rfl, hb⟩; have HB1 := Lib.hid hb; clear hb)
    go_ret
    exact ⟨rfl, HB1.out⟩
  have b2 : decide (999 < n) = false := decide_eq_false h2
  obtain ⟨m, rfl⟩ := Int.eq_ofNat_of_zero_le (show 0 ≤ n by omega)
  have c2 := fun W (h : TabP W) => implLine_calls (m : Int) W (by omega) (by omega) h
  have hsz := itoaB_size (m : Int) (by omega) (by omega)
  have hsm := statMsg_size (m : Int)
  obtain ⟨kd, hkd⟩ := (dec_ends m (by omega)).rounds
  rw [itoaB_dec] at hsz
  have c3 := fun W => laws_decimal.calls kd (m : Int) _ W hkd
  have c4 := fun W => implMsg_calls (m : Int) W
  have e2 : statLine (m : Int) = (⟨#[72, 84, 84, 80, 47, 49, 46, 49, 32]⟩ : ByteArray) ++ strOfNums (decN m) ++ (⟨#[32]⟩ : ByteArray) ++ statMsg (m : Int) ++ (⟨#[13, 10]⟩ : ByteArray) := by unfold statLine; rw [itoaB_dec]
  obtain ⟨D, hD⟩ : ∃ D, strOfNums (decN m) = D := ⟨_, rfl⟩
  obtain ⟨M, hM⟩ : ∃ M, statMsg (m : Int) = M := ⟨_, rfl⟩
  obtain ⟨L, hL⟩ : ∃ L, statLine (m : Int) = L := ⟨_, rfl⟩
  rw [hD] at hsz c3 e2
  rw [hM] at hsm c4 e2
  rw [hL] at c2 e2
  have e3 : (L.toList == ((⟨#[72, 84, 84, 80, 47, 49, 46, 49, 32]⟩ : ByteArray) ++ D ++ (⟨#[32]⟩ : ByteArray) ++ M ++ (⟨#[13, 10]⟩ : ByteArray)).toList) = true := by rw [e2]; exact beq_self_eq_true _
  have C2 := Lib.hid c2
  have C3 := Lib.hid c3
  have C4 := Lib.hid c4
  clear c2 c3 c4 e2 hD hM hL hkd
  have f1 : (9223372036854775807 < 9 + D.size) = False := eq_false (by omega)
  have f2 : (9223372036854775807 < 9 + D.size + 1) = False := eq_false (by omega)
  have f3 : (9223372036854775807 < 9 + D.size + 1 + M.size) = False := eq_false (by omega)
  have f4 : (9223372036854775807 < 9 + D.size + 1 + M.size + 2) = False := eq_false (by omega)
  go_enter Tryd.func3, Tryd.ntmps3
  go_upto_region 3 with (go_at_call 7; refine (C1.out _ HT.out).mono ?_; rintro e w1 ⟨rfl, hb⟩; have HB1 := Lib.hid hb; clear hb)
  go_wp2_with (first
    | (go_at_call 7; refine (C2.out _ (HT.out.below HB1.out)).mono ?_; rintro e w2 ⟨rfl, hb⟩; have HB2 := Lib.hid (HB1.out.trans (bwk HB1.out.size hb)); clear hb)
    | (go_at_call 8; refine (C3.out _).mono ?_; rintro e w3 ⟨rfl, hb⟩; have HB3 := Lib.hid (HB2.out.trans (bwk HB2.out.size hb)); clear hb)
    | (go_at_call 9; refine (C4.out _).mono ?_; rintro e w4 ⟨rfl, hb⟩; have HB4 := Lib.hid (HB3.out.trans (bwk HB3.out.size hb)); clear hb))
  go_ret
  exact ⟨rfl, HB4.out⟩
end Go.Proofs.YtgmjaggkiifdjaaDoor.Pure
