/- Texts of this claim, one behind the other (merged by wip/prune.py of this repo, without what the proof does not use): TStepAll, TStepUpd, TStepOther. -/
import Derived.Test.YtoimkmoalmmooaaZY5
import Derived.Test.YtoimkmoalmmooaaZY16
set_option linter.unusedVariables false
set_option linter.unusedSimpArgs false
namespace Go.Proofs.Ytoimkmoalmmooaa.Own
open Go.RowKit Go.Proofs.YtoimkmoalmmooaaW.PrintWords Go.Proofs.YtoimkmoalmmooaaW.PrintLast Go.Proofs.YtoimkmoalmmooaaW.PrintMore Go.Proofs.Ytoimkmoalmmooaa.Base Go.Proofs.Ytoimkmoalmmooaa.Gv Go.Proofs.Ytoimkmoalmmooaa.Given Go.Proofs.Ytoimkmoalmmooaa.QA Go.Proofs.Ytoimkmoalmmooaa.PrX
theorem below_weaken_t {B C : Nat} {a b : World} (h : B ≤ C) (k : Below C a b) : Below B a b := ⟨k.os, k.tape, k.output, k.size, fun i hi => k.block i (by omega)⟩
theorem R_setHigh {α : Type} {d : Kd α} {e base : Nat} {W : World} {v : Value} {xs : List α} (h : d.R e W base (fun k => True ∧ base ≤ k) v xs) {p : Addr} (hp : p.block < base) (u : Value) : d.R e (W.setCell p u) base (fun k => True ∧ base ≤ k) v xs := Kd.R_far h (fun k hk e => by have := hk.2; omega) u
set_option maxHeartbeats 4000000 in
set_option maxRecDepth 100000 in
theorem trailer_all (l : Nat → Nat) (w : World) (q p n : Nat) (V kv vv : Value) (S : List Slot) (kx vx : List Int) (dn : Bool) (h : TrC l w q p V n S kv kx vv vx dn) (hn : n ≤ 1099511627775) (s : S28) (k0 : Nat) (P : List S34) (hP : impl_pairs.f k0 ((kvs S n).map toZ) = some P) (hdo : s.f0 = 7) :
    Calls Try.prog 26 #[.pointer (some ⟨p, 0, none⟩), .agg #[.int .i64 s.f0, .string s.f1, .string s.f2, .int .i64 s.f3, .int .i64 s.f4]] w fun e w' => StepT l w q p n (dn) (⟨#[]⟩) (false) (P) (kvs S n) e w' := by
  have st0 := Stp.of_below (W3_below w s) (fun _ => False) l 0
  have hT := h.keep st0 (fun _ k => k.elim)
  have y0 := W3_0 w s
  have y1 := W3_1 w s
  have y2 := W3_2 w s
  have hsz := W3_size w s
  obtain ⟨W, hW⟩ : ∃ W, W3 w s = W := ⟨_, rfl⟩
  have hW' := hW
  rw [hW] at hT st0 y0 y1 y2 hsz
  unfold W3 at hW'
  have hg := tZz_calls _ W q p n V kv vv S kx vx dn hT hn
  obtain ⟨ZL, hZL⟩ : ∃ Z, (kvs S n).map toZ = Z := ⟨_, rfl⟩
  rw [hZL] at hg hP
  have HG := Lib.hid hg
  have HP := Lib.hid hP
  clear hg hP hZL
  have HT := Lib.hid hT
  have HS0 := Lib.hid st0
  have Y1 := Lib.hid y1
  have Y2 := Lib.hid y2
  have c0 : W.cell? ⟨w.heap.size, 0, none⟩ = some (.int .i64 s.f0) := by rw [cell_of_row W _ 0 _ _ (0, 0) y0]; rfl
  have c1 : W.cell? ⟨w.heap.size, 1, none⟩ = some (.string s.f1) := by rw [cell_of_row W _ 1 _ _ (0, 0) y0]; rfl
  have c2 : W.cell? ⟨w.heap.size, 2, none⟩ = some (.string s.f2) := by rw [cell_of_row W _ 2 _ _ (0, 0) y0]; rfl
  rw [hdo] at c0
  have HW := Lib.hid hW'
  have HSZ := Lib.hid hsz
  rw [← hW'] at c0 c1 c2
  have hmf : ∀ (fn : Fn) (first cap : Array Value) (w : World), (Instr.makeFunc fn first cap).run Try.prog w = .ok (.func fn first cap) w := fun _ _ _ _ => rfl
  have HDO := Lib.hid hdo
  clear h hT y0 y1 y2 st0 hW hW' hsz hdo
  go_enter_defers Try.func26, Try.ntmps26
  go_wp2_with (first
    | (go_at_call 48
       rw [HW.out]
       refine HG.out.mono ?_
       rintro e w3 ⟨v3, rfl, hz, hb3⟩
       obtain ⟨ZA, zc, rfl⟩ := Kd.R_slice hz
       have HZ := Lib.hid hz
       have H3 := Lib.hid hb3
       have HB3 := Lib.hid (show w.heap.size + 3 ≤ w3.heap.size by have := hb3.size; have := HSZ.out; omega)
       obtain ⟨ZN, hZN⟩ : ∃ Z, ZL.length = Z := ⟨_, rfl⟩
       have HZN := Lib.hid hZN
       rw [hZN]
       clear hz hb3 hZN)
    | (go_at_call 47
       have hq := impl_pairs.calls k0 ZA zc ZL P w3 (Kd.R_reads' HZ.out).2.2 (Kd.R_reads' HZ.out).2.1 HP.out
       rw [HZN.out] at hq
       refine hq.mono ?_
       rintro e w4 ⟨v4, rfl, hp4, hb4⟩
       clear hq
       obtain ⟨PA, pc, rfl⟩ := Kd.R_slice hp4
       obtain ⟨PN, hPN⟩ : ∃ Z, P.length = Z := ⟨_, rfl⟩
       rw [hPN] at hp4
       rw [hPN]
       have HP4 := Lib.hid hp4
       have hb : Below W.heap.size W w4 := H3.out.trans (below_weaken_t H3.out.size hb4)
       have st4 : Stp (Tz q) (ext l w.heap.size 0) (ext l w.heap.size 0) W w4 := Stp.of_below_same hb _ _
       have hT4 := HT.out.keep (Stp.of_below_same hb (fun _ => False) (ext l w.heap.size 0)) (fun _ k => k.elim)
       clear hb hb4 hp4 hPN
       
       have lt1 : w.heap.size + 1 < W.heap.size := by rw [HSZ.out]; omega
       have lt2 : w.heap.size + 2 < W.heap.size := by rw [HSZ.out]; omega
       have lb0 : ¬ Tz q 0 := by have := HT.out.1; have := HT.out.2.1; unfold Tz; omega
       have r1 := (st4.block (w.heap.size + 1) lt1 (by rw [ext_new l (by omega)]; exact lb0)).trans Y1.out
       have r2 := (st4.block (w.heap.size + 2) lt2 (by rw [ext_new l (by omega)]; exact lb0)).trans Y2.out
       have lb1 := (st4.lab (w.heap.size + 1) lt1).trans (ext_new l (by omega))
       have lb2 := (st4.lab (w.heap.size + 2) lt2).trans (ext_new l (by omega))
       have a0 : w4.cell? ⟨w.heap.size + 1, 0, none⟩ = some (.string ⟨#[]⟩) := by rw [cell_of_row w4 _ 0 _ _ (0, 0) r1]; rfl
       have a1 : w4.cell? ⟨w.heap.size + 1, 1, none⟩ = some (.bool false) := by rw [cell_of_row w4 _ 1 _ _ (0, 0) r1]; rfl
       have a2 : w4.cell? ⟨w.heap.size + 1, 2, none⟩ = some (.int .i64 0) := by rw [cell_of_row w4 _ 2 _ _ (0, 0) r1]; rfl
       have a3 : w4.cell? ⟨w.heap.size + 1, 3, none⟩ = some (.slice none 0 0) := by rw [cell_of_row w4 _ 3 _ _ (0, 0) r1]; rfl
       have a4 : w4.cell? ⟨w.heap.size + 1, 4, none⟩ = some (.slice none 0 0) := by rw [cell_of_row w4 _ 4 _ _ (0, 0) r1]; rfl
       have b0 : w4.cell? ⟨w.heap.size + 2, 0, none⟩ = some (.bool false) := by rw [cell_of_row w4 _ 0 _ _ (0, 0) r2]; rfl
       have e0 := frozen_of_row w4 (w.heap.size + 1) 0 _ _ r1
       have e1 := frozen_of_row w4 (w.heap.size + 1) 1 _ _ r1
       have e2 := frozen_of_row w4 (w.heap.size + 1) 2 _ _ r1
       have e3 := frozen_of_row w4 (w.heap.size + 1) 3 _ _ r1
       have e4 := frozen_of_row w4 (w.heap.size + 1) 4 _ _ r1
       have e5 := frozen_of_row w4 (w.heap.size + 2) 0 _ _ r2
       have R1 := Lib.hid r1
       have R2 := Lib.hid r2
       have HT4 := Lib.hid hT4
       have ST4 := Lib.hid st4
       have LB1 := Lib.hid lb1
       have LB2 := Lib.hid lb2
       clear lt1 lt2 lb0 r1 r2 hT4 st4 lb1 lb2))
  refine leaves_cons (f := 40) (args := #[.pointer (some ⟨w.heap.size + 1, 0, none⟩), .pointer (some ⟨w.heap.size + 1 + 1, 0, none⟩)]) (by simp) (by simp [go_sem]) ?_
  refine (trailer_idle ⟨w.heap.size + 1, 0, none⟩ ⟨w.heap.size + 1 + 1, 0, none⟩ _).mono ?_
  rintro e u' w'' ⟨rfl, rfl, rfl⟩
  have r1' := heap_setCell_same w4 (w.heap.size + 1) 4 _ 32 (.slice PA PN pc) R1.out
  have r2' : (w4.setCell ⟨w.heap.size + 1, 4, none⟩ (.slice PA PN pc)).heap[w.heap.size + 1 + 1]? = some (.cells #[.bool false] 4 (0, 0)) := by
    rw [Below.heap_setCell _ _ _ _ (show w.heap.size + 1 + 1 ≠ w.heap.size + 1 by omega)]; exact R2.out
  obtain ⟨f1, f2⟩ := after5 (a0 := .string ⟨#[]⟩) (a1 := .bool false) (a2 := .int .i64 0) (a3 := .slice none 0 0) (a4 := .slice PA PN pc) r1' r2' (by omega)
  have HT5 := Lib.hid (((((((HT4.out.setFar (a := ⟨w.heap.size + 1, 4, none⟩) LB1.out (.slice PA PN pc)).setFar (a := ⟨w.heap.size + 1, 0, none⟩) LB1.out (.string ⟨#[]⟩)).setFar (a := ⟨w.heap.size + 1, 1, none⟩) LB1.out (.bool false)).setFar (a := ⟨w.heap.size + 1, 2, none⟩) LB1.out (.int .i64 0)).setFar (a := ⟨w.heap.size + 1, 3, none⟩) LB1.out (.slice none 0 0)).setFar (a := ⟨w.heap.size + 1, 4, none⟩) LB1.out (.slice PA PN pc)).setFar (a := ⟨w.heap.size + 1 + 1, 0, none⟩) LB2.out (.bool true))
  have HS5 := Lib.hid (((((((((HS0.out.mono (fun _ k => k.elim) : Stp (Tz q) _ _ _ _).trans ST4.out).setNew (a := ⟨w.heap.size + 1, 4, none⟩) (by show _ ≤ w.heap.size + 1; omega) (.slice PA PN pc)).setNew (a := ⟨w.heap.size + 1, 0, none⟩) (by show _ ≤ w.heap.size + 1; omega) (.string ⟨#[]⟩)).setNew (a := ⟨w.heap.size + 1, 1, none⟩) (by show _ ≤ w.heap.size + 1; omega) (.bool false)).setNew (a := ⟨w.heap.size + 1, 2, none⟩) (by show _ ≤ w.heap.size + 1; omega) (.int .i64 0)).setNew (a := ⟨w.heap.size + 1, 3, none⟩) (by show _ ≤ w.heap.size + 1; omega) (.slice none 0 0)).setNew (a := ⟨w.heap.size + 1, 4, none⟩) (by show _ ≤ w.heap.size + 1; omega) (.slice PA PN pc)).setNew (a := ⟨w.heap.size + 1 + 1, 0, none⟩) (by show _ ≤ w.heap.size + 1 + 1; omega) (.bool true))
  have hp0 := Kd.R_mono (Kd.R_bound HP4.out) (fun k hk => (⟨trivial, hk.2.1⟩ : True ∧ w3.heap.size ≤ k))
  have hp5 := (R_setHigh (p := ⟨w.heap.size + 1 + 1, 0, none⟩) (R_setHigh (p := ⟨w.heap.size + 1, 4, none⟩) (R_setHigh (p := ⟨w.heap.size + 1, 3, none⟩) (R_setHigh (p := ⟨w.heap.size + 1, 2, none⟩) (R_setHigh (p := ⟨w.heap.size + 1, 1, none⟩) (R_setHigh (p := ⟨w.heap.size + 1, 0, none⟩) (R_setHigh (p := ⟨w.heap.size + 1, 4, none⟩) hp0 (by show w.heap.size + 1 < w3.heap.size; have := HB3.out; omega) (.slice PA PN pc)) (by show w.heap.size + 1 < w3.heap.size; have := HB3.out; omega) (.string ⟨#[]⟩)) (by show w.heap.size + 1 < w3.heap.size; have := HB3.out; omega) (.bool false)) (by show w.heap.size + 1 < w3.heap.size; have := HB3.out; omega) (.int .i64 0)) (by show w.heap.size + 1 < w3.heap.size; have := HB3.out; omega) (.slice none 0 0)) (by show w.heap.size + 1 < w3.heap.size; have := HB3.out; omega) (.slice PA PN pc)) (by show w.heap.size + 1 + 1 < w3.heap.size; have := HB3.out; omega) (.bool true))
  have HP5 := Lib.hid (Kd.R_lower (base' := w.heap.size) (Kd.R_mono hp5 (fun k hk => (ext_new l (by have := hk.2; have := HB3.out; omega) : ext l w.heap.size 0 k = 0))) (by have := HB3.out; omega))
  clear hp0 hp5
  clear r1' r2' a0 a1 a2 a3 a4 b0 e0 e1 e2 e3 e4 e5
  generalize (((((((w4.setCell ⟨w.heap.size + 1, 4, none⟩ (.slice PA PN pc)).setCell ⟨w.heap.size + 1, 0, none⟩ (.string ⟨#[]⟩)).setCell ⟨w.heap.size + 1, 1, none⟩ (.bool false)).setCell ⟨w.heap.size + 1, 2, none⟩ (.int .i64 0)).setCell ⟨w.heap.size + 1, 3, none⟩ (.slice none 0 0)).setCell ⟨w.heap.size + 1, 4, none⟩ (.slice PA PN pc)).setCell ⟨w.heap.size + 1 + 1, 0, none⟩ (.bool true)) = w5 at *
  have g0 : w5.cell? ⟨w.heap.size + 1, 0, none⟩ = some (.string ⟨#[]⟩) := by rw [cell_of_row w5 _ 0 _ _ (0, 0) f1]; rfl
  have g1 : w5.cell? ⟨w.heap.size + 1, 1, none⟩ = some (.bool false) := by rw [cell_of_row w5 _ 1 _ _ (0, 0) f1]; rfl
  have g2 : w5.cell? ⟨w.heap.size + 1, 2, none⟩ = some (.int .i64 0) := by rw [cell_of_row w5 _ 2 _ _ (0, 0) f1]; rfl
  have g3 : w5.cell? ⟨w.heap.size + 1, 3, none⟩ = some (.slice none 0 0) := by rw [cell_of_row w5 _ 3 _ _ (0, 0) f1]; rfl
  have g4 : w5.cell? ⟨w.heap.size + 1, 4, none⟩ = some (.slice PA PN pc) := by rw [cell_of_row w5 _ 4 _ _ (0, 0) f1]; rfl
  have g5 : w5.cell? ⟨w.heap.size + 1 + 1, 0, none⟩ = some (.bool true) := by rw [cell_of_row w5 _ 0 _ _ (0, 0) f2]; rfl
  simp [Leaves, settle, results, Try.results26, go_sem, g0, g1, g2, g3, g4, g5]
  exact ⟨_, _, _, _, _, _, _, _, _, rfl, HT5.out, by omega, rfl, HP5.out, HS5.out⟩
theorem br_read {w : World} {e : TypeId} {g : Nat} {xs : List Int} (h : Br w e g xs) (hl : xs.length ≤ 9223372036854775807) : ReadsInt w .u8 (some ⟨g, 0, none⟩) xs.length xs := h.reads hl
set_option maxHeartbeats 4000000 in
set_option maxRecDepth 100000 in
theorem trailer_upd_true (l : Nat → Nat) (w : World) (q p n : Nat) (V kv vv : Value) (S : List Slot) (kx vx : List Int) (dn : Bool) (h : TrC l w q p V n S kv kx vv vx dn) (hn : n ≤ 1099511627775) (s : S28) (hk0 : 0 < s.f1.size) (hks : s.f1.size ≤ 140737488351232) (hvs : s.f2.size ≤ 140737488351232) (hbad : badK (ns s.f1) = true) (hdo : s.f0 = 9) :
    Calls Try.prog 26 #[.pointer (some ⟨p, 0, none⟩), .agg #[.int .i64 s.f0, .string s.f1, .string s.f2, .int .i64 s.f3, .int .i64 s.f4]] w fun e w' => StepT l w q p n (dn) (⟨#[]⟩) (false) ([]) (kvs S n) e w' := by
  have st0 := Stp.of_below (W3_below w s) (fun _ => False) l 0
  have hT := h.keep st0 (fun _ k => k.elim)
  have y0 := W3_0 w s
  have y1 := W3_1 w s
  have y2 := W3_2 w s
  have hsz := W3_size w s
  obtain ⟨W, hW⟩ : ∃ W, W3 w s = W := ⟨_, rfl⟩
  have hW' := hW
  rw [hW] at hT st0 y0 y1 y2 hsz
  unfold W3 at hW'
  have hcv1 := Lib.run_convert_string_bytes (P := Try.prog) W 9 54 5 s.f1 Try.underlying9 Try.underlying54 Try.underlying5
  have hbl1 := conv_below W 5 s.f1
  have br1 := Br.conv W 5 s.f1
  have sz1 := Lib.bytesWorld_size W 5 s.f1
  have cap1 := grownCap_ge W s.f1.size 0 5
  obtain ⟨cc1, hcc1⟩ : ∃ c, grownCap W s.f1.size 0 5 = c := ⟨_, rfl⟩
  rw [hcc1] at hcv1 cap1
  obtain ⟨U1, hU1⟩ : ∃ X, Lib.bytesWorld W 5 s.f1 = X := ⟨_, rfl⟩
  rw [hU1] at hcv1 hbl1 br1 sz1
  obtain ⟨g1, hg1⟩ : ∃ g, W.heap.size = g := ⟨_, rfl⟩
  rw [hg1] at hcv1 br1 sz1
  have hT1 := hT.keep (Stp.of_below_same hbl1 (fun _ => False) (ext l w.heap.size 0)) (fun _ k => k.elim)
  have st1 := Stp.of_below_same hbl1 (Tz q) (ext l w.heap.size 0)
  have rd1 := br_read br1 (by rw [ns_length]; omega)
  have hcv2 := Lib.run_convert_string_bytes (P := Try.prog) U1 9 54 5 s.f2 Try.underlying9 Try.underlying54 Try.underlying5
  have hbl2 := conv_below U1 5 s.f2
  have br2 := Br.conv U1 5 s.f2
  have sz2 := Lib.bytesWorld_size U1 5 s.f2
  have cap2 := grownCap_ge U1 s.f2.size 0 5
  obtain ⟨cc2, hcc2⟩ : ∃ c, grownCap U1 s.f2.size 0 5 = c := ⟨_, rfl⟩
  rw [hcc2] at hcv2 cap2
  obtain ⟨U2, hU2⟩ : ∃ X, Lib.bytesWorld U1 5 s.f2 = X := ⟨_, rfl⟩
  rw [hU2] at hcv2 hbl2 br2 sz2
  obtain ⟨g2, hg2⟩ : ∃ g, U1.heap.size = g := ⟨_, rfl⟩
  rw [hg2] at hcv2 br2 sz2
  have hT2 := hT1.keep (Stp.of_below_same hbl2 (fun _ => False) (ext l w.heap.size 0)) (fun _ k => k.elim)
  have st2 := Stp.of_below_same hbl2 (Tz q) (ext l w.heap.size 0)
  have rd2 := br_read br2 (by rw [ns_length]; omega)
  have hsrc1 : Src (Zn (q + 3)) (ext l w.heap.size 0) U2 (some ⟨g1, 0, none⟩) (ns s.f1).length (ns s.f1) := Src.of_read (br_read (br1.below hbl2) (by rw [ns_length]; omega)) (fun a ha => by
    injection ha with ha; subst ha
    refine ⟨by show g1 < U2.heap.size; have := hbl2.size; omega, ?_⟩
    rw [ext_new l (by show w.heap.size ≤ g1; omega)]; unfold Zn; have := hT.1; have := hT.2.1; omega)
  have hsrc2 : Src (Zn (q + 3)) (ext l w.heap.size 0) U2 (some ⟨g2, 0, none⟩) (ns s.f2).length (ns s.f2) := Src.of_read rd2 (fun a ha => by
    injection ha with ha; subst ha
    refine ⟨by show g2 < U2.heap.size; omega, ?_⟩
    rw [ext_new l (by show w.heap.size ≤ g2; omega)]; unfold Zn; have := hT.1; have := hT.2.1; omega)
  have hg := tUpd_calls _ U2 q p n V kv vv S kx vx dn hT2 hn (some ⟨g1, 0, none⟩) cc1 (ns s.f1) (by rw [ns_length]; exact hk0) (by rw [ns_length]; exact hks) (by rw [ns_length]; exact cap1) hsrc1 (some ⟨g2, 0, none⟩) (ns s.f2).length cc2 (ns s.f2) (by rw [ns_length]; omega) hsrc2
  rw [hbad, ns_length, ns_length] at hg
  have HG := Lib.hid hg
  have ST12 := Lib.hid (st1.trans st2)
  have y0' := (hbl1.block w.heap.size (by omega)).trans y0
  have c2' : U1.cell? ⟨w.heap.size, 2, none⟩ = some (.string s.f2) := by rw [cell_of_row U1 _ 2 _ _ (0, 0) y0']; rfl
  rw [← hW'] at hcv1
  clear hg hbad hk0 hks hvs hsrc1 hsrc2 st1 st2 hT1 hT2 rd1 rd2 br1 br2 sz1 sz2 hbl1 hbl2 cap1 cap2 hcc1 hcc2 hU1 hU2 hg1 hg2 y0'
  have HT := Lib.hid hT
  have HS0 := Lib.hid st0
  have Y1 := Lib.hid y1
  have Y2 := Lib.hid y2
  have c0 : W.cell? ⟨w.heap.size, 0, none⟩ = some (.int .i64 s.f0) := by rw [cell_of_row W _ 0 _ _ (0, 0) y0]; rfl
  have c1 : W.cell? ⟨w.heap.size, 1, none⟩ = some (.string s.f1) := by rw [cell_of_row W _ 1 _ _ (0, 0) y0]; rfl
  have c2 : W.cell? ⟨w.heap.size, 2, none⟩ = some (.string s.f2) := by rw [cell_of_row W _ 2 _ _ (0, 0) y0]; rfl
  rw [hdo] at c0
  have HW := Lib.hid hW'
  have HSZ := Lib.hid hsz
  rw [← hW'] at c0 c1 c2
  have hmf : ∀ (fn : Fn) (first cap : Array Value) (w : World), (Instr.makeFunc fn first cap).run Try.prog w = .ok (.func fn first cap) w := fun _ _ _ _ => rfl
  have HDO := Lib.hid hdo
  clear h hT y0 y1 y2 st0 hW hW' hsz hdo
  go_enter_defers Try.func26, Try.ntmps26
  go_wp2_with (first
    | (go_at_call 50
       refine HG.out.mono ?_
       rintro e w4 ⟨l4, V1, n1, S1, hT4, hle, st4, hpo⟩
       obtain ⟨⟨u, x, rfl⟩, hkv⟩ := (show _ ∧ _ by simpa using hpo)
       have st4 := ST12.out.trans st4
       have HLE := Lib.hid hle
       have HKV := Lib.hid hkv
       clear hle hkv hpo
       
       have lt1 : w.heap.size + 1 < W.heap.size := by rw [HSZ.out]; omega
       have lt2 : w.heap.size + 2 < W.heap.size := by rw [HSZ.out]; omega
       have lb0 : ¬ Tz q 0 := by have := HT.out.1; have := HT.out.2.1; unfold Tz; omega
       have r1 := (st4.block (w.heap.size + 1) lt1 (by rw [ext_new l (by omega)]; exact lb0)).trans Y1.out
       have r2 := (st4.block (w.heap.size + 2) lt2 (by rw [ext_new l (by omega)]; exact lb0)).trans Y2.out
       have lb1 := (st4.lab (w.heap.size + 1) lt1).trans (ext_new l (by omega))
       have lb2 := (st4.lab (w.heap.size + 2) lt2).trans (ext_new l (by omega))
       have a0 : w4.cell? ⟨w.heap.size + 1, 0, none⟩ = some (.string ⟨#[]⟩) := by rw [cell_of_row w4 _ 0 _ _ (0, 0) r1]; rfl
       have a1 : w4.cell? ⟨w.heap.size + 1, 1, none⟩ = some (.bool false) := by rw [cell_of_row w4 _ 1 _ _ (0, 0) r1]; rfl
       have a2 : w4.cell? ⟨w.heap.size + 1, 2, none⟩ = some (.int .i64 0) := by rw [cell_of_row w4 _ 2 _ _ (0, 0) r1]; rfl
       have a3 : w4.cell? ⟨w.heap.size + 1, 3, none⟩ = some (.slice none 0 0) := by rw [cell_of_row w4 _ 3 _ _ (0, 0) r1]; rfl
       have a4 : w4.cell? ⟨w.heap.size + 1, 4, none⟩ = some (.slice none 0 0) := by rw [cell_of_row w4 _ 4 _ _ (0, 0) r1]; rfl
       have b0 : w4.cell? ⟨w.heap.size + 2, 0, none⟩ = some (.bool false) := by rw [cell_of_row w4 _ 0 _ _ (0, 0) r2]; rfl
       have e0 := frozen_of_row w4 (w.heap.size + 1) 0 _ _ r1
       have e1 := frozen_of_row w4 (w.heap.size + 1) 1 _ _ r1
       have e2 := frozen_of_row w4 (w.heap.size + 1) 2 _ _ r1
       have e3 := frozen_of_row w4 (w.heap.size + 1) 3 _ _ r1
       have e4 := frozen_of_row w4 (w.heap.size + 1) 4 _ _ r1
       have e5 := frozen_of_row w4 (w.heap.size + 2) 0 _ _ r2
       have R1 := Lib.hid r1
       have R2 := Lib.hid r2
       have HT4 := Lib.hid hT4
       have ST4 := Lib.hid st4
       have LB1 := Lib.hid lb1
       have LB2 := Lib.hid lb2
       clear lt1 lt2 lb0 r1 r2 hT4 st4 lb1 lb2))
  refine leaves_cons (f := 40) (args := #[.pointer (some ⟨w.heap.size + 1, 0, none⟩), .pointer (some ⟨w.heap.size + 1 + 1, 0, none⟩)]) (by simp) (by simp [go_sem]) ?_
  refine (trailer_idle ⟨w.heap.size + 1, 0, none⟩ ⟨w.heap.size + 1 + 1, 0, none⟩ _).mono ?_
  rintro e u' w'' ⟨rfl, rfl, rfl⟩
  have r1' := heap_setCell_same w4 (w.heap.size + 1) 1 _ 32 (.bool false) R1.out
  have r2' : (w4.setCell ⟨w.heap.size + 1, 1, none⟩ (.bool false)).heap[w.heap.size + 1 + 1]? = some (.cells #[.bool false] 4 (0, 0)) := by
    rw [Below.heap_setCell _ _ _ _ (show w.heap.size + 1 + 1 ≠ w.heap.size + 1 by omega)]; exact R2.out
  obtain ⟨f1, f2⟩ := after5 (a0 := .string ⟨#[]⟩) (a1 := .bool false) (a2 := .int .i64 0) (a3 := .slice none 0 0) (a4 := .slice none 0 0) r1' r2' (by omega)
  have HT5 := Lib.hid (((((((HT4.out.setFar (a := ⟨w.heap.size + 1, 1, none⟩) LB1.out (.bool false)).setFar (a := ⟨w.heap.size + 1, 0, none⟩) LB1.out (.string ⟨#[]⟩)).setFar (a := ⟨w.heap.size + 1, 1, none⟩) LB1.out (.bool false)).setFar (a := ⟨w.heap.size + 1, 2, none⟩) LB1.out (.int .i64 0)).setFar (a := ⟨w.heap.size + 1, 3, none⟩) LB1.out (.slice none 0 0)).setFar (a := ⟨w.heap.size + 1, 4, none⟩) LB1.out (.slice none 0 0)).setFar (a := ⟨w.heap.size + 1 + 1, 0, none⟩) LB2.out (.bool true))
  have HS5 := Lib.hid (((((((((HS0.out.mono (fun _ k => k.elim) : Stp (Tz q) _ _ _ _).trans ST4.out).setNew (a := ⟨w.heap.size + 1, 1, none⟩) (by show _ ≤ w.heap.size + 1; omega) (.bool false)).setNew (a := ⟨w.heap.size + 1, 0, none⟩) (by show _ ≤ w.heap.size + 1; omega) (.string ⟨#[]⟩)).setNew (a := ⟨w.heap.size + 1, 1, none⟩) (by show _ ≤ w.heap.size + 1; omega) (.bool false)).setNew (a := ⟨w.heap.size + 1, 2, none⟩) (by show _ ≤ w.heap.size + 1; omega) (.int .i64 0)).setNew (a := ⟨w.heap.size + 1, 3, none⟩) (by show _ ≤ w.heap.size + 1; omega) (.slice none 0 0)).setNew (a := ⟨w.heap.size + 1, 4, none⟩) (by show _ ≤ w.heap.size + 1; omega) (.slice none 0 0)).setNew (a := ⟨w.heap.size + 1 + 1, 0, none⟩) (by show _ ≤ w.heap.size + 1 + 1; omega) (.bool true))
  clear r1' r2' a0 a1 a2 a3 a4 b0 e0 e1 e2 e3 e4 e5
  generalize (((((((w4.setCell ⟨w.heap.size + 1, 1, none⟩ (.bool false)).setCell ⟨w.heap.size + 1, 0, none⟩ (.string ⟨#[]⟩)).setCell ⟨w.heap.size + 1, 1, none⟩ (.bool false)).setCell ⟨w.heap.size + 1, 2, none⟩ (.int .i64 0)).setCell ⟨w.heap.size + 1, 3, none⟩ (.slice none 0 0)).setCell ⟨w.heap.size + 1, 4, none⟩ (.slice none 0 0)).setCell ⟨w.heap.size + 1 + 1, 0, none⟩ (.bool true)) = w5 at *
  have g0 : w5.cell? ⟨w.heap.size + 1, 0, none⟩ = some (.string ⟨#[]⟩) := by rw [cell_of_row w5 _ 0 _ _ (0, 0) f1]; rfl
  have g1 : w5.cell? ⟨w.heap.size + 1, 1, none⟩ = some (.bool false) := by rw [cell_of_row w5 _ 1 _ _ (0, 0) f1]; rfl
  have g2 : w5.cell? ⟨w.heap.size + 1, 2, none⟩ = some (.int .i64 0) := by rw [cell_of_row w5 _ 2 _ _ (0, 0) f1]; rfl
  have g3 : w5.cell? ⟨w.heap.size + 1, 3, none⟩ = some (.slice none 0 0) := by rw [cell_of_row w5 _ 3 _ _ (0, 0) f1]; rfl
  have g4 : w5.cell? ⟨w.heap.size + 1, 4, none⟩ = some (.slice none 0 0) := by rw [cell_of_row w5 _ 4 _ _ (0, 0) f1]; rfl
  have g5 : w5.cell? ⟨w.heap.size + 1 + 1, 0, none⟩ = some (.bool true) := by rw [cell_of_row w5 _ 0 _ _ (0, 0) f2]; rfl
  simp [Leaves, settle, results, Try.results26, go_sem, g0, g1, g2, g3, g4, g5]
  exact ⟨_, _, _, _, _, _, _, _, _, rfl, HT5.out, HLE.out, HKV.out, Kd.R_nil _ _ _ _ _, HS5.out⟩
set_option maxHeartbeats 4000000 in
set_option maxRecDepth 100000 in
theorem trailer_upd_false (l : Nat → Nat) (w : World) (q p n : Nat) (V kv vv : Value) (S : List Slot) (kx vx : List Int) (dn : Bool) (h : TrC l w q p V n S kv kx vv vx dn) (hn : n ≤ 1099511627775) (s : S28) (hk0 : 0 < s.f1.size) (hks : s.f1.size ≤ 140737488351232) (hvs : s.f2.size ≤ 140737488351232) (hbad : badK (ns s.f1) = false) (hdo : s.f0 = 9) :
    Calls Try.prog 26 #[.pointer (some ⟨p, 0, none⟩), .agg #[.int .i64 s.f0, .string s.f1, .string s.f2, .int .i64 s.f3, .int .i64 s.f4]] w fun e w' => StepT l w q p n (dn) (⟨#[]⟩) (true) ([]) (updKV (ns s.f1) (ns s.f2) (kvs S n)) e w' := by
  have st0 := Stp.of_below (W3_below w s) (fun _ => False) l 0
  have hT := h.keep st0 (fun _ k => k.elim)
  have y0 := W3_0 w s
  have y1 := W3_1 w s
  have y2 := W3_2 w s
  have hsz := W3_size w s
  obtain ⟨W, hW⟩ : ∃ W, W3 w s = W := ⟨_, rfl⟩
  have hW' := hW
  rw [hW] at hT st0 y0 y1 y2 hsz
  unfold W3 at hW'
  have hcv1 := Lib.run_convert_string_bytes (P := Try.prog) W 9 54 5 s.f1 Try.underlying9 Try.underlying54 Try.underlying5
  have hbl1 := conv_below W 5 s.f1
  have br1 := Br.conv W 5 s.f1
  have sz1 := Lib.bytesWorld_size W 5 s.f1
  have cap1 := grownCap_ge W s.f1.size 0 5
  obtain ⟨cc1, hcc1⟩ : ∃ c, grownCap W s.f1.size 0 5 = c := ⟨_, rfl⟩
  rw [hcc1] at hcv1 cap1
  obtain ⟨U1, hU1⟩ : ∃ X, Lib.bytesWorld W 5 s.f1 = X := ⟨_, rfl⟩
  rw [hU1] at hcv1 hbl1 br1 sz1
  obtain ⟨g1, hg1⟩ : ∃ g, W.heap.size = g := ⟨_, rfl⟩
  rw [hg1] at hcv1 br1 sz1
  have hT1 := hT.keep (Stp.of_below_same hbl1 (fun _ => False) (ext l w.heap.size 0)) (fun _ k => k.elim)
  have st1 := Stp.of_below_same hbl1 (Tz q) (ext l w.heap.size 0)
  have rd1 := br_read br1 (by rw [ns_length]; omega)
  have hcv2 := Lib.run_convert_string_bytes (P := Try.prog) U1 9 54 5 s.f2 Try.underlying9 Try.underlying54 Try.underlying5
  have hbl2 := conv_below U1 5 s.f2
  have br2 := Br.conv U1 5 s.f2
  have sz2 := Lib.bytesWorld_size U1 5 s.f2
  have cap2 := grownCap_ge U1 s.f2.size 0 5
  obtain ⟨cc2, hcc2⟩ : ∃ c, grownCap U1 s.f2.size 0 5 = c := ⟨_, rfl⟩
  rw [hcc2] at hcv2 cap2
  obtain ⟨U2, hU2⟩ : ∃ X, Lib.bytesWorld U1 5 s.f2 = X := ⟨_, rfl⟩
  rw [hU2] at hcv2 hbl2 br2 sz2
  obtain ⟨g2, hg2⟩ : ∃ g, U1.heap.size = g := ⟨_, rfl⟩
  rw [hg2] at hcv2 br2 sz2
  have hT2 := hT1.keep (Stp.of_below_same hbl2 (fun _ => False) (ext l w.heap.size 0)) (fun _ k => k.elim)
  have st2 := Stp.of_below_same hbl2 (Tz q) (ext l w.heap.size 0)
  have rd2 := br_read br2 (by rw [ns_length]; omega)
  have hsrc1 : Src (Zn (q + 3)) (ext l w.heap.size 0) U2 (some ⟨g1, 0, none⟩) (ns s.f1).length (ns s.f1) := Src.of_read (br_read (br1.below hbl2) (by rw [ns_length]; omega)) (fun a ha => by
    injection ha with ha; subst ha
    refine ⟨by show g1 < U2.heap.size; have := hbl2.size; omega, ?_⟩
    rw [ext_new l (by show w.heap.size ≤ g1; omega)]; unfold Zn; have := hT.1; have := hT.2.1; omega)
  have hsrc2 : Src (Zn (q + 3)) (ext l w.heap.size 0) U2 (some ⟨g2, 0, none⟩) (ns s.f2).length (ns s.f2) := Src.of_read rd2 (fun a ha => by
    injection ha with ha; subst ha
    refine ⟨by show g2 < U2.heap.size; omega, ?_⟩
    rw [ext_new l (by show w.heap.size ≤ g2; omega)]; unfold Zn; have := hT.1; have := hT.2.1; omega)
  have hg := tUpd_calls _ U2 q p n V kv vv S kx vx dn hT2 hn (some ⟨g1, 0, none⟩) cc1 (ns s.f1) (by rw [ns_length]; exact hk0) (by rw [ns_length]; exact hks) (by rw [ns_length]; exact cap1) hsrc1 (some ⟨g2, 0, none⟩) (ns s.f2).length cc2 (ns s.f2) (by rw [ns_length]; omega) hsrc2
  rw [hbad, ns_length, ns_length] at hg
  have HG := Lib.hid hg
  have ST12 := Lib.hid (st1.trans st2)
  have y0' := (hbl1.block w.heap.size (by omega)).trans y0
  have c2' : U1.cell? ⟨w.heap.size, 2, none⟩ = some (.string s.f2) := by rw [cell_of_row U1 _ 2 _ _ (0, 0) y0']; rfl
  rw [← hW'] at hcv1
  clear hg hbad hk0 hks hvs hsrc1 hsrc2 st1 st2 hT1 hT2 rd1 rd2 br1 br2 sz1 sz2 hbl1 hbl2 cap1 cap2 hcc1 hcc2 hU1 hU2 hg1 hg2 y0'
  have HT := Lib.hid hT
  have HS0 := Lib.hid st0
  have Y1 := Lib.hid y1
  have Y2 := Lib.hid y2
  have c0 : W.cell? ⟨w.heap.size, 0, none⟩ = some (.int .i64 s.f0) := by rw [cell_of_row W _ 0 _ _ (0, 0) y0]; rfl
  have c1 : W.cell? ⟨w.heap.size, 1, none⟩ = some (.string s.f1) := by rw [cell_of_row W _ 1 _ _ (0, 0) y0]; rfl
  have c2 : W.cell? ⟨w.heap.size, 2, none⟩ = some (.string s.f2) := by rw [cell_of_row W _ 2 _ _ (0, 0) y0]; rfl
  rw [hdo] at c0
  have HW := Lib.hid hW'
  have HSZ := Lib.hid hsz
  rw [← hW'] at c0 c1 c2
  have hmf : ∀ (fn : Fn) (first cap : Array Value) (w : World), (Instr.makeFunc fn first cap).run Try.prog w = .ok (.func fn first cap) w := fun _ _ _ _ => rfl
  have HDO := Lib.hid hdo
  clear h hT y0 y1 y2 st0 hW hW' hsz hdo
  go_enter_defers Try.func26, Try.ntmps26
  go_wp2_with (first
    | (go_at_call 50
       refine HG.out.mono ?_
       rintro e w4 ⟨l4, V1, n1, S1, hT4, hle, st4, hpo⟩
       obtain ⟨rfl, hkv⟩ := (show _ ∧ _ by simpa using hpo)
       have st4 := ST12.out.trans st4
       have HLE := Lib.hid hle
       have HKV := Lib.hid hkv
       clear hle hkv hpo
       
       have lt1 : w.heap.size + 1 < W.heap.size := by rw [HSZ.out]; omega
       have lt2 : w.heap.size + 2 < W.heap.size := by rw [HSZ.out]; omega
       have lb0 : ¬ Tz q 0 := by have := HT.out.1; have := HT.out.2.1; unfold Tz; omega
       have r1 := (st4.block (w.heap.size + 1) lt1 (by rw [ext_new l (by omega)]; exact lb0)).trans Y1.out
       have r2 := (st4.block (w.heap.size + 2) lt2 (by rw [ext_new l (by omega)]; exact lb0)).trans Y2.out
       have lb1 := (st4.lab (w.heap.size + 1) lt1).trans (ext_new l (by omega))
       have lb2 := (st4.lab (w.heap.size + 2) lt2).trans (ext_new l (by omega))
       have a0 : w4.cell? ⟨w.heap.size + 1, 0, none⟩ = some (.string ⟨#[]⟩) := by rw [cell_of_row w4 _ 0 _ _ (0, 0) r1]; rfl
       have a1 : w4.cell? ⟨w.heap.size + 1, 1, none⟩ = some (.bool false) := by rw [cell_of_row w4 _ 1 _ _ (0, 0) r1]; rfl
       have a2 : w4.cell? ⟨w.heap.size + 1, 2, none⟩ = some (.int .i64 0) := by rw [cell_of_row w4 _ 2 _ _ (0, 0) r1]; rfl
       have a3 : w4.cell? ⟨w.heap.size + 1, 3, none⟩ = some (.slice none 0 0) := by rw [cell_of_row w4 _ 3 _ _ (0, 0) r1]; rfl
       have a4 : w4.cell? ⟨w.heap.size + 1, 4, none⟩ = some (.slice none 0 0) := by rw [cell_of_row w4 _ 4 _ _ (0, 0) r1]; rfl
       have b0 : w4.cell? ⟨w.heap.size + 2, 0, none⟩ = some (.bool false) := by rw [cell_of_row w4 _ 0 _ _ (0, 0) r2]; rfl
       have e0 := frozen_of_row w4 (w.heap.size + 1) 0 _ _ r1
       have e1 := frozen_of_row w4 (w.heap.size + 1) 1 _ _ r1
       have e2 := frozen_of_row w4 (w.heap.size + 1) 2 _ _ r1
       have e3 := frozen_of_row w4 (w.heap.size + 1) 3 _ _ r1
       have e4 := frozen_of_row w4 (w.heap.size + 1) 4 _ _ r1
       have e5 := frozen_of_row w4 (w.heap.size + 2) 0 _ _ r2
       have R1 := Lib.hid r1
       have R2 := Lib.hid r2
       have HT4 := Lib.hid hT4
       have ST4 := Lib.hid st4
       have LB1 := Lib.hid lb1
       have LB2 := Lib.hid lb2
       clear lt1 lt2 lb0 r1 r2 hT4 st4 lb1 lb2))
  refine leaves_cons (f := 40) (args := #[.pointer (some ⟨w.heap.size + 1, 0, none⟩), .pointer (some ⟨w.heap.size + 1 + 1, 0, none⟩)]) (by simp) (by simp [go_sem]) ?_
  refine (trailer_idle ⟨w.heap.size + 1, 0, none⟩ ⟨w.heap.size + 1 + 1, 0, none⟩ _).mono ?_
  rintro e u' w'' ⟨rfl, rfl, rfl⟩
  have r1' := heap_setCell_same w4 (w.heap.size + 1) 1 _ 32 (.bool true) R1.out
  have r2' : (w4.setCell ⟨w.heap.size + 1, 1, none⟩ (.bool true)).heap[w.heap.size + 1 + 1]? = some (.cells #[.bool false] 4 (0, 0)) := by
    rw [Below.heap_setCell _ _ _ _ (show w.heap.size + 1 + 1 ≠ w.heap.size + 1 by omega)]; exact R2.out
  obtain ⟨f1, f2⟩ := after5 (a0 := .string ⟨#[]⟩) (a1 := .bool true) (a2 := .int .i64 0) (a3 := .slice none 0 0) (a4 := .slice none 0 0) r1' r2' (by omega)
  have HT5 := Lib.hid (((((((HT4.out.setFar (a := ⟨w.heap.size + 1, 1, none⟩) LB1.out (.bool true)).setFar (a := ⟨w.heap.size + 1, 0, none⟩) LB1.out (.string ⟨#[]⟩)).setFar (a := ⟨w.heap.size + 1, 1, none⟩) LB1.out (.bool true)).setFar (a := ⟨w.heap.size + 1, 2, none⟩) LB1.out (.int .i64 0)).setFar (a := ⟨w.heap.size + 1, 3, none⟩) LB1.out (.slice none 0 0)).setFar (a := ⟨w.heap.size + 1, 4, none⟩) LB1.out (.slice none 0 0)).setFar (a := ⟨w.heap.size + 1 + 1, 0, none⟩) LB2.out (.bool true))
  have HS5 := Lib.hid (((((((((HS0.out.mono (fun _ k => k.elim) : Stp (Tz q) _ _ _ _).trans ST4.out).setNew (a := ⟨w.heap.size + 1, 1, none⟩) (by show _ ≤ w.heap.size + 1; omega) (.bool true)).setNew (a := ⟨w.heap.size + 1, 0, none⟩) (by show _ ≤ w.heap.size + 1; omega) (.string ⟨#[]⟩)).setNew (a := ⟨w.heap.size + 1, 1, none⟩) (by show _ ≤ w.heap.size + 1; omega) (.bool true)).setNew (a := ⟨w.heap.size + 1, 2, none⟩) (by show _ ≤ w.heap.size + 1; omega) (.int .i64 0)).setNew (a := ⟨w.heap.size + 1, 3, none⟩) (by show _ ≤ w.heap.size + 1; omega) (.slice none 0 0)).setNew (a := ⟨w.heap.size + 1, 4, none⟩) (by show _ ≤ w.heap.size + 1; omega) (.slice none 0 0)).setNew (a := ⟨w.heap.size + 1 + 1, 0, none⟩) (by show _ ≤ w.heap.size + 1 + 1; omega) (.bool true))
  clear r1' r2' a0 a1 a2 a3 a4 b0 e0 e1 e2 e3 e4 e5
  generalize (((((((w4.setCell ⟨w.heap.size + 1, 1, none⟩ (.bool true)).setCell ⟨w.heap.size + 1, 0, none⟩ (.string ⟨#[]⟩)).setCell ⟨w.heap.size + 1, 1, none⟩ (.bool true)).setCell ⟨w.heap.size + 1, 2, none⟩ (.int .i64 0)).setCell ⟨w.heap.size + 1, 3, none⟩ (.slice none 0 0)).setCell ⟨w.heap.size + 1, 4, none⟩ (.slice none 0 0)).setCell ⟨w.heap.size + 1 + 1, 0, none⟩ (.bool true)) = w5 at *
  have g0 : w5.cell? ⟨w.heap.size + 1, 0, none⟩ = some (.string ⟨#[]⟩) := by rw [cell_of_row w5 _ 0 _ _ (0, 0) f1]; rfl
  have g1 : w5.cell? ⟨w.heap.size + 1, 1, none⟩ = some (.bool true) := by rw [cell_of_row w5 _ 1 _ _ (0, 0) f1]; rfl
  have g2 : w5.cell? ⟨w.heap.size + 1, 2, none⟩ = some (.int .i64 0) := by rw [cell_of_row w5 _ 2 _ _ (0, 0) f1]; rfl
  have g3 : w5.cell? ⟨w.heap.size + 1, 3, none⟩ = some (.slice none 0 0) := by rw [cell_of_row w5 _ 3 _ _ (0, 0) f1]; rfl
  have g4 : w5.cell? ⟨w.heap.size + 1, 4, none⟩ = some (.slice none 0 0) := by rw [cell_of_row w5 _ 4 _ _ (0, 0) f1]; rfl
  have g5 : w5.cell? ⟨w.heap.size + 1 + 1, 0, none⟩ = some (.bool true) := by rw [cell_of_row w5 _ 0 _ _ (0, 0) f2]; rfl
  simp [Leaves, settle, results, Try.results26, go_sem, g0, g1, g2, g3, g4, g5]
  exact ⟨_, _, _, _, _, _, _, _, _, rfl, HT5.out, HLE.out, HKV.out, Kd.R_nil _ _ _ _ _, HS5.out⟩
def W3t (w : World) (s : S28) : World := ((w.alloc (.cells #[.int .i64 s.f0, .string s.f1, .string s.f2, .int .i64 s.f3, .int .i64 s.f4] 28)).alloc (.cells #[.string ⟨#[]⟩, .bool false, .int .i64 0, .slice none 0 0, .slice none 0 0] 32)).alloc (.cells #[.bool true] 4)
theorem W3t_below (w : World) (s : S28) : Below w.heap.size w (W3t w s) := (((Below.refl _ _).alloc (Nat.le_refl _) _).alloc (by simp) _).alloc (by simp; omega) _
theorem W3t_1 (w : World) (s : S28) : (W3t w s).heap[w.heap.size + 1]? = some (.cells #[.string ⟨#[]⟩, .bool false, .int .i64 0, .slice none 0 0, .slice none 0 0] 32 (0, 0)) := by
  have := heap_alloc_new (w.alloc (.cells #[.int .i64 s.f0, .string s.f1, .string s.f2, .int .i64 s.f3, .int .i64 s.f4] 28)) (.cells #[.string ⟨#[]⟩, .bool false, .int .i64 0, .slice none 0 0, .slice none 0 0] 32)
  simp only [World.size_alloc] at this
  exact blk_alloc this _
theorem W3t_2 (w : World) (s : S28) : (W3t w s).heap[w.heap.size + 2]? = some (.cells #[.bool true] 4 (0, 0)) := by
  have := heap_alloc_new ((w.alloc (.cells #[.int .i64 s.f0, .string s.f1, .string s.f2, .int .i64 s.f3, .int .i64 s.f4] 28)).alloc (.cells #[.string ⟨#[]⟩, .bool false, .int .i64 0, .slice none 0 0, .slice none 0 0] 32)) (.cells #[.bool true] 4)
  simpa [W3t] using this
set_option maxHeartbeats 4000000 in
set_option maxRecDepth 100000 in
theorem trailer_other (l : Nat → Nat) (w : World) (q p n : Nat) (V kv vv : Value) (S : List Slot) (kx vx : List Int) (dn : Bool) (h : TrC l w q p V n S kv kx vv vx dn) (s : S28) (hdo : s.f0 < 0 ∨ 11 < s.f0) :
    Calls Try.prog 26 #[.pointer (some ⟨p, 0, none⟩), .agg #[.int .i64 s.f0, .string s.f1, .string s.f2, .int .i64 s.f3, .int .i64 s.f4]] w fun e w' => StepT l w q p n dn ⟨#[]⟩ false [] (kvs S n) e w' := by
  have HS5 := Lib.hid (Stp.of_below (W3t_below w s) (Tz q) l 0)
  have HT5 := Lib.hid (h.keep (Stp.of_below (W3t_below w s) (fun _ => False) l 0) (fun _ k => k.elim))
  have f1 := W3t_1 w s
  have f2 := W3t_2 w s
  obtain ⟨w5, hw5⟩ : ∃ x, W3t w s = x := ⟨_, rfl⟩
  rw [hw5] at HS5 HT5 f1 f2
  unfold W3t at hw5
  have HW5 := Lib.hid hw5
  have F1 := Lib.hid f1
  have F2 := Lib.hid f2
  have z0 : (s.f0 == 0) = false := beq_eq_false_iff_ne.2 (by omega)
  have z1 : (s.f0 == 1) = false := beq_eq_false_iff_ne.2 (by omega)
  have z2 : (s.f0 == 2) = false := beq_eq_false_iff_ne.2 (by omega)
  have z3 : (s.f0 == 3) = false := beq_eq_false_iff_ne.2 (by omega)
  have z4 : (s.f0 == 4) = false := beq_eq_false_iff_ne.2 (by omega)
  have z5 : (s.f0 == 5) = false := beq_eq_false_iff_ne.2 (by omega)
  have z6 : (s.f0 == 6) = false := beq_eq_false_iff_ne.2 (by omega)
  have z7 : (s.f0 == 7) = false := beq_eq_false_iff_ne.2 (by omega)
  have z8 : (s.f0 == 8) = false := beq_eq_false_iff_ne.2 (by omega)
  have z9 : (s.f0 == 9) = false := beq_eq_false_iff_ne.2 (by omega)
  have z10 : (s.f0 == 10) = false := beq_eq_false_iff_ne.2 (by omega)
  have z11 : (s.f0 == 11) = false := beq_eq_false_iff_ne.2 (by omega)
  have hmf : ∀ (fn : Fn) (first cap : Array Value) (w : World), (Instr.makeFunc fn first cap).run Try.prog w = .ok (.func fn first cap) w := fun _ _ _ _ => rfl
  clear h hw5 hdo f1 f2
  go_enter_defers Try.func26, Try.ntmps26
  go_wp2
  refine leaves_cons (f := 40) (args := #[.pointer (some ⟨w.heap.size + 1, 0, none⟩), .pointer (some ⟨w.heap.size + 1 + 1, 0, none⟩)]) (by simp) (by simp [go_sem]) ?_
  refine (trailer_idle ⟨w.heap.size + 1, 0, none⟩ ⟨w.heap.size + 1 + 1, 0, none⟩ _).mono ?_
  rintro e u' w'' ⟨rfl, rfl, rfl⟩
  rw [HW5.out]
  have g0 : w5.cell? ⟨w.heap.size + 1, 0, none⟩ = some (.string ⟨#[]⟩) := by rw [cell_of_row w5 _ 0 _ _ (0, 0) F1.out]; rfl
  have g1 : w5.cell? ⟨w.heap.size + 1, 1, none⟩ = some (.bool false) := by rw [cell_of_row w5 _ 1 _ _ (0, 0) F1.out]; rfl
  have g2 : w5.cell? ⟨w.heap.size + 1, 2, none⟩ = some (.int .i64 0) := by rw [cell_of_row w5 _ 2 _ _ (0, 0) F1.out]; rfl
  have g3 : w5.cell? ⟨w.heap.size + 1, 3, none⟩ = some (.slice none 0 0) := by rw [cell_of_row w5 _ 3 _ _ (0, 0) F1.out]; rfl
  have g4 : w5.cell? ⟨w.heap.size + 1, 4, none⟩ = some (.slice none 0 0) := by rw [cell_of_row w5 _ 4 _ _ (0, 0) F1.out]; rfl
  have g5 : w5.cell? ⟨w.heap.size + 1 + 1, 0, none⟩ = some (.bool true) := by rw [cell_of_row w5 _ 0 _ _ (0, 0) F2.out]; rfl
  simp [Leaves, settle, results, Try.results26, go_sem, g0, g1, g2, g3, g4, g5]
  exact ⟨_, _, _, _, _, _, _, _, _, rfl, HT5.out, by omega, rfl, Kd.R_nil _ _ _ _ _, HS5.out⟩
end Go.Proofs.Ytoimkmoalmmooaa.Own
