/- Texts of this claim, one behind the other (merged by wip/prune.py of this repo, without what the proof does not use): TPan1, TPan2. -/
import Derived.Test.YtoimkmoalmmooaaZY16
import Derived.Lib.BoundsPanic
import Derived.StillTailTactics
set_option linter.unusedVariables false
set_option linter.unusedSimpArgs false
namespace Go.Proofs.Ytoimkmoalmmooaa.Own
open Go.RowKit Go.Proofs.YtoimkmoalmmooaaW.PrintWords Go.Proofs.YtoimkmoalmmooaaW.PrintLast Go.Proofs.YtoimkmoalmmooaaW.PrintMore Go.Proofs.Ytoimkmoalmmooaa.Base Go.Proofs.Ytoimkmoalmmooaa.Gv Go.Proofs.Ytoimkmoalmmooaa.QA Go.Proofs.Ytoimkmoalmmooaa.Given
def PanE (e : Ending) : Prop := ∃ u v, e = .panicked [{ v := .iface u v, recovered := false }]
theorem run_index_empty (A : Option Addr) (c : Nat) (W : World) : ∃ u v, (Instr.indexAt 54 (.slice A 0 c) (.int .i64 0)).run Try.prog W = .halt (.panic (.iface u v)) W.drew := by
  have hel : Try.prog.elem 54 = 5 := by simp [Program.elem, Try.underlying54]
  have hu : Try.prog.underlying 54 = some (.slice (Try.prog.elem 54)) := by rw [hel]; exact Try.underlying54
  cases A with
  | none =>
    rw [Lib.run_indexAt_nil W 54 _ 0 c .i64 0 hu, Lib.run_boundsPanic_index _ 0 0 W (by omega) (by omega)]
    exact ⟨_, _, rfl⟩
  | some a =>
    rw [run_indexAt_slice (h := hu), if_neg (by omega)]
    have := Lib.run_boundsPanic_index (α := Value) Try.prog 0 0 W (by omega) (by omega)
    exact ⟨_, _, this⟩
set_option maxHeartbeats 1000000 in
set_option maxRecDepth 100000 in
theorem isBad_panics (W : World) (A : Option Addr) (c : Nat) :
    Calls Try.prog 68 #[.slice A 0 c] W fun e w' => PanE e ∧ W.drew = w' := by
  obtain ⟨u, v, hr⟩ := run_index_empty A c W
  go_enter Try.func68, Try.ntmps68
  go_wp2
  first | exact ⟨rfl, ⟨u, v, rfl⟩⟩ | exact ⟨rfl, ⟨⟨u, v, rfl⟩, rfl⟩⟩
set_option maxHeartbeats 1000000 in
set_option maxRecDepth 100000 in
theorem tUpd_panics (W : World) (p : Value) (A B : Option Addr) (c m d : Nat) :
    Calls Try.prog 50 #[p, .slice A 0 c, .slice B m d] W fun e w' => PanE e ∧ W.drew = w' := by
  go_enter Try.func50, Try.ntmps50
  go_wp2_with (go_at_call 68; refine (isBad_panics _ _ _).mono ?_; rintro e w1 ⟨⟨u, v, rfl⟩, rfl⟩)
  first | exact ⟨rfl, ⟨u, v, rfl⟩⟩ | exact ⟨rfl, ⟨⟨u, v, rfl⟩, rfl⟩⟩
set_option maxHeartbeats 1000000 in
set_option maxRecDepth 100000 in
theorem tSetB_panics (W : World) (p : Value) (A B : Option Addr) (c m d : Nat) (b : Bool) :
    Calls Try.prog 58 #[p, .slice A 0 c, .slice B m d, .bool b] W fun e w' => PanE e ∧ W.drew = w' := by
  go_enter Try.func58, Try.ntmps58
  go_wp2_with (go_at_call 68; refine (isBad_panics _ _ _).mono ?_; rintro e w1 ⟨⟨u, v, rfl⟩, rfl⟩)
  first | exact ⟨rfl, ⟨u, v, rfl⟩⟩ | exact ⟨rfl, ⟨⟨u, v, rfl⟩, rfl⟩⟩
set_option maxHeartbeats 1000000 in
set_option maxRecDepth 100000 in
theorem tAddB_panics (W : World) (p : Value) (A B : Option Addr) (c m d : Nat) (b : Bool) :
    Calls Try.prog 59 #[p, .slice A 0 c, .slice B m d, .bool b] W fun e w' => PanE e ∧ W.drew = w' := by
  go_enter Try.func59, Try.ntmps59
  go_wp2_with (go_at_call 68; refine (isBad_panics _ _ _).mono ?_; rintro e w1 ⟨⟨u, v, rfl⟩, rfl⟩)
  first | exact ⟨rfl, ⟨u, v, rfl⟩⟩ | exact ⟨rfl, ⟨⟨u, v, rfl⟩, rfl⟩⟩
def PanT (l : Nat → Nat) (w : World) (q : Nat) (e : Ending) (w' : World) : Prop := PanE e ∧ ∃ l1, Stp (Tz q) l l1 w w'
set_option maxHeartbeats 1000000 in
set_option maxRecDepth 100000 in
theorem tSet_panics (l : Nat → Nat) (w : World) (q p n : Nat) (V kv vv : Value) (S : List Slot) (kx vx : List Int) (dn : Bool) (h : TrC l w q p V n S kv kx vv vx dn) (hn : n ≤ 1099511627775) (key value : ByteArray) (hk0 : key.size = 0) (hvs : value.size ≤ 140737488351232) :
    Calls Try.prog 41 #[.pointer (some ⟨p, 0, none⟩), .string key, .string value] w fun e w' => PanT l w q e w' := by
  obtain ⟨wd, hwd⟩ : ∃ x, w.drew = x := ⟨_, rfl⟩
  have hsd : Stp (Tz q) l l w wd := by rw [← hwd]; exact drew_stp (Tz q) l w 1
  have hd0 : TrC l wd q p V n S kv kx vv vx dn := by rw [← hwd]; exact h.keep (drew_stp (fun _ => False) l w 1) (fun _ k => k.elim)
  have HWD := Lib.hid hwd
  have HI := Lib.hid (initKV_calls l wd q (q + 1) (q + 2) p 1 58 #[V, kv, vv, .bool false, .bool dn] kv vv kx vx key value dn hd0.2.2.1 rfl rfl hd0.2.2.2.2.1 hd0.2.2.2.2.2 (by omega) (by omega) (by omega) (by omega) (by omega))
  obtain ⟨x4, _⟩ := h.c4
  have HT := Lib.hid hd0
  have HD := Lib.hid hsd
  have HK0 := Lib.hid hk0
  clear h hd0 hsd hwd hk0
  go_enter Try.func41, Try.ntmps41
  go_wp2
  go_still_tail 9, (by kernel_rfl)
  change wpList _ _ _ _ _ w.drew
  rw [HWD.out]
  go_upto_region 2 with (go_at_call 57; refine HI.out.mono ?_; rintro e w1 ⟨l1, kv1, vv1, rfl, i1, i2, i3, i4⟩; have I1 := Lib.hid i1; have I2 := Lib.hid i2; have I3 := Lib.hid i3; have I4' := Lib.hid i4; clear i1 i2 i3 i4)
  have i1 := I1.out
  have i2 := I2.out
  have i3 := I3.out
  have i4 := I4'.out
  obtain ⟨q0, q1, t3, t4, t5, t6⟩ := HT.out
  have k0 : TrC l1 w1 q p V n S kv1 (nkd dn (ns key)) vv1 (ns value) dn := ⟨q0, q1, i1, t4.keep i4 (fun lab e => by rcases e with rfl | rfl | rfl <;> omega), i2, i3⟩
  obtain ⟨A1, d1, rfl, hd1⟩ := i2.slice
  obtain ⟨A2, d2, rfl, hd2⟩ := i3.slice
  obtain ⟨y1, _⟩ := k0.c1
  obtain ⟨y2, _⟩ := k0.c2
  obtain ⟨wd1, hwd1⟩ : ∃ x, w1.drew = x := ⟨_, rfl⟩
  have k1 : TrC l1 wd1 q p V n S (.slice A1 (nkd dn (ns key)).length d1) (nkd dn (ns key)) (.slice A2 (ns value).length d2) (ns value) dn := by rw [← hwd1]; exact k0.keep (drew_stp (fun _ => False) l1 w1 1) (fun _ k => k.elim)
  have hsd1 : Stp (Tz q) l1 l1 w1 wd1 := by rw [← hwd1]; exact drew_stp (Tz q) l1 w1 1
  have s1 := (Src.of_bf (F := Zn (q + 3)) k1.2.2.2.2.1 (by unfold Zn; omega)).2
  have s2 := (Src.of_bf (F := Zn (q + 3)) k1.2.2.2.2.2 (by unfold Zn; omega)).2
  have I4 := Lib.hid ((i4.mono Any3.tz).trans hsd1)
  have HWD1 := Lib.hid hwd1
  have hN1 : (nkd dn (ns key)).length = 0 := by rw [nkd_length, ns_length]; exact HK0.out
  obtain ⟨N2, hN2⟩ : ∃ N, (ns value).length = N := ⟨_, rfl⟩
  rw [hN1] at y1
  rw [hN2] at y2
  clear i1 i2 i3 i4 t3 t4 t5 t6 s1 s2 k0 k1 hsd1 hwd1 hN1 hN2 hd1 hd2
  go_still_tail 11, (by kernel_rfl)
  change wpList _ _ _ _ _ w1.drew
  rw [HWD1.out]
  go_wp2_with (go_at_call 58; refine (tSetB_panics _ _ _ _ _ _ _ _).mono ?_; rintro e w2 ⟨⟨u, v, rfl⟩, rfl⟩)
  have hst : Stp (Tz q) l _ w _ := ((HD.out.trans I4.out).trans (drew_stp (Tz q) _ _ 1))
  first | exact ⟨rfl, ⟨u, v, rfl⟩, _, hst⟩ | exact ⟨rfl, ⟨⟨u, v, rfl⟩, _, hst⟩⟩
set_option maxHeartbeats 1000000 in
set_option maxRecDepth 100000 in
theorem tAdd_panics (l : Nat → Nat) (w : World) (q p n : Nat) (V kv vv : Value) (S : List Slot) (kx vx : List Int) (dn : Bool) (h : TrC l w q p V n S kv kx vv vx dn) (hn : n ≤ 1099511627775) (key value : ByteArray) (hk0 : key.size = 0) (hvs : value.size ≤ 140737488351232) :
    Calls Try.prog 42 #[.pointer (some ⟨p, 0, none⟩), .string key, .string value] w fun e w' => PanT l w q e w' := by
  obtain ⟨wd, hwd⟩ : ∃ x, w.drew = x := ⟨_, rfl⟩
  have hsd : Stp (Tz q) l l w wd := by rw [← hwd]; exact drew_stp (Tz q) l w 1
  have hd0 : TrC l wd q p V n S kv kx vv vx dn := by rw [← hwd]; exact h.keep (drew_stp (fun _ => False) l w 1) (fun _ k => k.elim)
  have HWD := Lib.hid hwd
  have HI := Lib.hid (initKV_calls l wd q (q + 1) (q + 2) p 1 58 #[V, kv, vv, .bool false, .bool dn] kv vv kx vx key value dn hd0.2.2.1 rfl rfl hd0.2.2.2.2.1 hd0.2.2.2.2.2 (by omega) (by omega) (by omega) (by omega) (by omega))
  obtain ⟨x4, _⟩ := h.c4
  have HT := Lib.hid hd0
  have HD := Lib.hid hsd
  have HK0 := Lib.hid hk0
  clear h hd0 hsd hwd hk0
  go_enter Try.func42, Try.ntmps42
  go_wp2
  go_still_tail 9, (by kernel_rfl)
  change wpList _ _ _ _ _ w.drew
  rw [HWD.out]
  go_upto_region 2 with (go_at_call 57; refine HI.out.mono ?_; rintro e w1 ⟨l1, kv1, vv1, rfl, i1, i2, i3, i4⟩; have I1 := Lib.hid i1; have I2 := Lib.hid i2; have I3 := Lib.hid i3; have I4' := Lib.hid i4; clear i1 i2 i3 i4)
  have i1 := I1.out
  have i2 := I2.out
  have i3 := I3.out
  have i4 := I4'.out
  obtain ⟨q0, q1, t3, t4, t5, t6⟩ := HT.out
  have k0 : TrC l1 w1 q p V n S kv1 (nkd dn (ns key)) vv1 (ns value) dn := ⟨q0, q1, i1, t4.keep i4 (fun lab e => by rcases e with rfl | rfl | rfl <;> omega), i2, i3⟩
  obtain ⟨A1, d1, rfl, hd1⟩ := i2.slice
  obtain ⟨A2, d2, rfl, hd2⟩ := i3.slice
  obtain ⟨y1, _⟩ := k0.c1
  obtain ⟨y2, _⟩ := k0.c2
  obtain ⟨wd1, hwd1⟩ : ∃ x, w1.drew = x := ⟨_, rfl⟩
  have k1 : TrC l1 wd1 q p V n S (.slice A1 (nkd dn (ns key)).length d1) (nkd dn (ns key)) (.slice A2 (ns value).length d2) (ns value) dn := by rw [← hwd1]; exact k0.keep (drew_stp (fun _ => False) l1 w1 1) (fun _ k => k.elim)
  have hsd1 : Stp (Tz q) l1 l1 w1 wd1 := by rw [← hwd1]; exact drew_stp (Tz q) l1 w1 1
  have s1 := (Src.of_bf (F := Zn (q + 3)) k1.2.2.2.2.1 (by unfold Zn; omega)).2
  have s2 := (Src.of_bf (F := Zn (q + 3)) k1.2.2.2.2.2 (by unfold Zn; omega)).2
  have I4 := Lib.hid ((i4.mono Any3.tz).trans hsd1)
  have HWD1 := Lib.hid hwd1
  have hN1 : (nkd dn (ns key)).length = 0 := by rw [nkd_length, ns_length]; exact HK0.out
  obtain ⟨N2, hN2⟩ : ∃ N, (ns value).length = N := ⟨_, rfl⟩
  rw [hN1] at y1
  rw [hN2] at y2
  clear i1 i2 i3 i4 t3 t4 t5 t6 s1 s2 k0 k1 hsd1 hwd1 hN1 hN2 hd1 hd2
  go_still_tail 11, (by kernel_rfl)
  change wpList _ _ _ _ _ w1.drew
  rw [HWD1.out]
  go_wp2_with (go_at_call 59; refine (tAddB_panics _ _ _ _ _ _ _ _).mono ?_; rintro e w2 ⟨⟨u, v, rfl⟩, rfl⟩)
  have hst : Stp (Tz q) l _ w _ := ((HD.out.trans I4.out).trans (drew_stp (Tz q) _ _ 1))
  first | exact ⟨rfl, ⟨u, v, rfl⟩, _, hst⟩ | exact ⟨rfl, ⟨⟨u, v, rfl⟩, _, hst⟩⟩
end Go.Proofs.Ytoimkmoalmmooaa.Own
