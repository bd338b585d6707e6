/- Texts of this claim, one behind the other (merged by wip/prune.py of this repo, without what the proof does not use): TMeth2, TMeth3, TMeth6, TMeth4, TVisit, TMeth5, TStep0, TStepGet, TStepDel, TStepDisable, TStepReset, TStepSet, TStepAdd, TStepEmpty, TStepHead, TStepNames. -/
import Derived.Test.YtoimkmoalmmooaaZY4
import Derived.Test.YtoimkmoalmmooaaZY10
import Derived.Test.YtoimkmoalmmooaaZY11
import Derived.Test.YtoimkmoalmmooaaZY15
import Derived.BigQuiet
import Derived.Deep.QuietTactic
import Derived.Defers
import Derived.Recover
import Derived.StillTailTactics
set_option linter.unusedVariables false
set_option linter.unusedSimpArgs false
namespace Go.Proofs.Ytoimkmoalmmooaa.Own
open Go.RowKit Go.Proofs.YtoimkmoalmmooaaW.PrintWords Go.Proofs.YtoimkmoalmmooaaW.PrintLast Go.Proofs.YtoimkmoalmmooaaW.PrintMore Go.Proofs.Ytoimkmoalmmooaa.Base Go.Proofs.Ytoimkmoalmmooaa.Gv Go.Proofs.Ytoimkmoalmmooaa.QA Go.Proofs.Ytoimkmoalmmooaa.Given
def LaidT (l : Nat → Nat) (w : World) (q p n : Nat) (S : List Slot) (dn b : Bool) (R : List KVx) (e : Ending) (w' : World) : Prop := ∃ l1 V1 n1 S1 kv1 kx1 vv1 vx1, TrC l1 w' q p V1 n1 S1 kv1 kx1 vv1 vx1 dn ∧ n1 ≤ n + 1 ∧ Stp (Tz q) l l1 w w' ∧
      (if b = true then (∃ u x, e = .returned (.iface u x)) ∧ kvs S1 n1 = kvs S n else e = .returned .nilIface ∧ kvs S1 n1 = R)
theorem ret_of {b : Bool} {e : Ending} {P Q : Prop} (h : if b = true then (∃ u x, e = .returned (.iface u x)) ∧ P else e = .returned .nilIface ∧ Q) : ∃ v, e = .returned v := by
  cases b with
  | true => obtain ⟨⟨u, x, rfl⟩, _⟩ := h; exact ⟨_, rfl⟩
  | false => obtain ⟨rfl, _⟩ := h; exact ⟨_, rfl⟩
theorem Any3.tz {q : Nat} : ∀ lab, Any3 q (q + 1) (q + 2) lab → Tz q lab := fun lab h => h.elim .inl (fun h => h.elim (fun e => .inr (.inl e)) (fun e => .inr (.inr (.inl e))))
set_option maxHeartbeats 1000000 in
set_option maxRecDepth 100000 in
theorem tSet_calls (l : Nat → Nat) (w : World) (q p n : Nat) (V kv vv : Value) (S : List Slot) (kx vx : List Int) (dn : Bool) (h : TrC l w q p V n S kv kx vv vx dn) (hn : n ≤ 1099511627775) (key value : ByteArray) (hk0 : 0 < key.size) (hks : key.size ≤ 140737488351232) (hvs : value.size ≤ 140737488351232) :
    Calls Try.prog 41 #[.pointer (some ⟨p, 0, none⟩), .string key, .string value] w fun e w' => LaidT l w q p n S dn (badK (nkd dn (ns key))) (setKV (nkd dn (ns key)) (ns value) (kvs S n)) e w' := by
  obtain ⟨wd, hwd⟩ : ∃ x, w.drew = x := ⟨_, rfl⟩
  have hsd : Stp (Tz q) l l w wd := by rw [← hwd]; exact drew_stp (Tz q) l w 1
  have hd0 : TrC l wd q p V n S kv kx vv vx dn := by rw [← hwd]; exact h.keep (drew_stp (fun _ => False) l w 1) (fun _ k => k.elim)
  have HWD := Lib.hid hwd
  have HI := Lib.hid (initKV_calls l wd q (q + 1) (q + 2) p 1 58 #[V, kv, vv, .bool false, .bool dn] kv vv kx vx key value dn hd0.2.2.1 rfl rfl hd0.2.2.2.2.1 hd0.2.2.2.2.2 (by omega) (by omega) (by omega) (by omega) (by omega))
  obtain ⟨x4, _⟩ := h.c4
  have HT := Lib.hid hd0
  have HD := Lib.hid hsd
  obtain ⟨b, hb⟩ : ∃ b, badK (nkd dn (ns key)) = b := ⟨_, rfl⟩
  have HBB := Lib.hid hb
  rw [hb]
  clear h hb hd0 hsd hwd
  go_enter Try.func41, Try.ntmps41
  go_wp2
  go_still_tail 9, (by kernel_rfl)
  change wpList _ _ _ _ _ w.drew
  rw [HWD.out]
  go_upto_region 2 with (go_at_call 57; refine HI.out.mono ?_; rintro e w1 ⟨l1, kv1, vv1, rfl, i1, i2, i3, i4⟩; have I1 := Lib.hid i1; have I2 := Lib.hid i2; have I3 := Lib.hid i3; have I4' := Lib.hid i4; clear i1 i2 i3 i4)
  have i1 := I1.out
  have i2 := I2.out
  have i3 := I3.out
  have i4 := I4'.out
  obtain ⟨q0, q1, t3, t4, t5, t6⟩ := HT.out
  have k0 : TrC l1 w1 q p V n S kv1 (nkd dn (ns key)) vv1 (ns value) dn := ⟨q0, q1, i1, t4.keep i4 (fun lab e => by rcases e with rfl | rfl | rfl <;> omega), i2, i3⟩
  obtain ⟨A1, d1, rfl, hd1⟩ := i2.slice
  obtain ⟨A2, d2, rfl, hd2⟩ := i3.slice
  obtain ⟨y1, _⟩ := k0.c1
  obtain ⟨y2, _⟩ := k0.c2
  obtain ⟨wd1, hwd1⟩ : ∃ x, w1.drew = x := ⟨_, rfl⟩
  have k1 : TrC l1 wd1 q p V n S (.slice A1 (nkd dn (ns key)).length d1) (nkd dn (ns key)) (.slice A2 (ns value).length d2) (ns value) dn := by rw [← hwd1]; exact k0.keep (drew_stp (fun _ => False) l1 w1 1) (fun _ k => k.elim)
  have hsd1 : Stp (Tz q) l1 l1 w1 wd1 := by rw [← hwd1]; exact drew_stp (Tz q) l1 w1 1
  have s1 := (Src.of_bf (F := Zn (q + 3)) k1.2.2.2.2.1 (by unfold Zn; omega)).2
  have s2 := (Src.of_bf (F := Zn (q + 3)) k1.2.2.2.2.2 (by unfold Zn; omega)).2
  have HC := tSetB_calls l1 wd1 q p n V _ _ S _ _ dn k1 hn A1 d1 (nkd dn (ns key)) (by rw [nkd_length, ns_length]; exact hk0) (by rw [nkd_length, ns_length]; exact hks) hd1 s1 A2 (ns value).length d2 (ns value) (by rw [ns_length]; omega) s2
  rw [HBB.out] at HC
  have I4 := Lib.hid ((i4.mono Any3.tz).trans hsd1)
  have HWD1 := Lib.hid hwd1
  have HCC := Lib.hid HC
  obtain ⟨N1, hN1⟩ : ∃ N, (nkd dn (ns key)).length = N := ⟨_, rfl⟩
  obtain ⟨N2, hN2⟩ : ∃ N, (ns value).length = N := ⟨_, rfl⟩
  rw [hN1] at y1
  rw [hN2] at y2
  rw [hN1, hN2] at HCC
  clear i1 i2 i3 i4 t3 t4 t5 t6 s1 s2 HC k0 k1 hsd1 hwd1 hN1 hN2 hd1 hd2
  go_still_tail 11, (by kernel_rfl)
  change wpList _ _ _ _ _ w1.drew
  rw [HWD1.out]
  go_wp2_with (go_at_call 58; refine HCC.out.mono ?_; rintro e w2 ⟨l2, V2, n2, S2, j1, j2, j3, j4⟩; obtain ⟨ve, rfl⟩ := ret_of j4; have J1 := Lib.hid j1; have J2 := Lib.hid j2; have J3 := Lib.hid j3; have J4 := Lib.hid j4; clear j1 j2 j3 j4)
  go_ret
  exact ⟨_, _, _, _, _, _, _, _, J1.out, J2.out, (HD.out.trans I4.out).trans J3.out, J4.out⟩
set_option maxHeartbeats 1000000 in
set_option maxRecDepth 100000 in
theorem tAdd_calls (l : Nat → Nat) (w : World) (q p n : Nat) (V kv vv : Value) (S : List Slot) (kx vx : List Int) (dn : Bool) (h : TrC l w q p V n S kv kx vv vx dn) (hn : n ≤ 1099511627775) (key value : ByteArray) (hk0 : 0 < key.size) (hks : key.size ≤ 140737488351232) (hvs : value.size ≤ 140737488351232) :
    Calls Try.prog 42 #[.pointer (some ⟨p, 0, none⟩), .string key, .string value] w fun e w' => LaidT l w q p n S dn (badK (nkd dn (ns key))) (kvs S n ++ [⟨nkd dn (ns key), ns value, false⟩]) e w' := by
  obtain ⟨wd, hwd⟩ : ∃ x, w.drew = x := ⟨_, rfl⟩
  have hsd : Stp (Tz q) l l w wd := by rw [← hwd]; exact drew_stp (Tz q) l w 1
  have hd0 : TrC l wd q p V n S kv kx vv vx dn := by rw [← hwd]; exact h.keep (drew_stp (fun _ => False) l w 1) (fun _ k => k.elim)
  have HWD := Lib.hid hwd
  have HI := Lib.hid (initKV_calls l wd q (q + 1) (q + 2) p 1 58 #[V, kv, vv, .bool false, .bool dn] kv vv kx vx key value dn hd0.2.2.1 rfl rfl hd0.2.2.2.2.1 hd0.2.2.2.2.2 (by omega) (by omega) (by omega) (by omega) (by omega))
  obtain ⟨x4, _⟩ := h.c4
  have HT := Lib.hid hd0
  have HD := Lib.hid hsd
  obtain ⟨b, hb⟩ : ∃ b, badK (nkd dn (ns key)) = b := ⟨_, rfl⟩
  have HBB := Lib.hid hb
  rw [hb]
  clear h hb hd0 hsd hwd
  go_enter Try.func42, Try.ntmps42
  go_wp2
  go_still_tail 9, (by kernel_rfl)
  change wpList _ _ _ _ _ w.drew
  rw [HWD.out]
  go_upto_region 2 with (go_at_call 57; refine HI.out.mono ?_; rintro e w1 ⟨l1, kv1, vv1, rfl, i1, i2, i3, i4⟩; have I1 := Lib.hid i1; have I2 := Lib.hid i2; have I3 := Lib.hid i3; have I4' := Lib.hid i4; clear i1 i2 i3 i4)
  have i1 := I1.out
  have i2 := I2.out
  have i3 := I3.out
  have i4 := I4'.out
  obtain ⟨q0, q1, t3, t4, t5, t6⟩ := HT.out
  have k0 : TrC l1 w1 q p V n S kv1 (nkd dn (ns key)) vv1 (ns value) dn := ⟨q0, q1, i1, t4.keep i4 (fun lab e => by rcases e with rfl | rfl | rfl <;> omega), i2, i3⟩
  obtain ⟨A1, d1, rfl, hd1⟩ := i2.slice
  obtain ⟨A2, d2, rfl, hd2⟩ := i3.slice
  obtain ⟨y1, _⟩ := k0.c1
  obtain ⟨y2, _⟩ := k0.c2
  obtain ⟨wd1, hwd1⟩ : ∃ x, w1.drew = x := ⟨_, rfl⟩
  have k1 : TrC l1 wd1 q p V n S (.slice A1 (nkd dn (ns key)).length d1) (nkd dn (ns key)) (.slice A2 (ns value).length d2) (ns value) dn := by rw [← hwd1]; exact k0.keep (drew_stp (fun _ => False) l1 w1 1) (fun _ k => k.elim)
  have hsd1 : Stp (Tz q) l1 l1 w1 wd1 := by rw [← hwd1]; exact drew_stp (Tz q) l1 w1 1
  have s1 := (Src.of_bf (F := Zn (q + 3)) k1.2.2.2.2.1 (by unfold Zn; omega)).2
  have s2 := (Src.of_bf (F := Zn (q + 3)) k1.2.2.2.2.2 (by unfold Zn; omega)).2
  have HC := tAddB_calls l1 wd1 q p n V _ _ S _ _ dn k1 hn A1 d1 (nkd dn (ns key)) (by rw [nkd_length, ns_length]; exact hk0) (by rw [nkd_length, ns_length]; exact hks) hd1 s1 A2 (ns value).length d2 (ns value) (by rw [ns_length]; omega) s2
  rw [HBB.out] at HC
  have I4 := Lib.hid ((i4.mono Any3.tz).trans hsd1)
  have HWD1 := Lib.hid hwd1
  have HCC := Lib.hid HC
  obtain ⟨N1, hN1⟩ : ∃ N, (nkd dn (ns key)).length = N := ⟨_, rfl⟩
  obtain ⟨N2, hN2⟩ : ∃ N, (ns value).length = N := ⟨_, rfl⟩
  rw [hN1] at y1
  rw [hN2] at y2
  rw [hN1, hN2] at HCC
  clear i1 i2 i3 i4 t3 t4 t5 t6 s1 s2 HC k0 k1 hsd1 hwd1 hN1 hN2 hd1 hd2
  go_still_tail 11, (by kernel_rfl)
  change wpList _ _ _ _ _ w1.drew
  rw [HWD1.out]
  go_wp2_with (go_at_call 59; refine HCC.out.mono ?_; rintro e w2 ⟨l2, V2, n2, S2, j1, j2, j3, j4⟩; obtain ⟨ve, rfl⟩ := ret_of j4; have J1 := Lib.hid j1; have J2 := Lib.hid j2; have J3 := Lib.hid j3; have J4 := Lib.hid j4; clear j1 j2 j3 j4)
  go_ret
  exact ⟨_, _, _, _, _, _, _, _, J1.out, J2.out, (HD.out.trans I4.out).trans J3.out, J4.out⟩
theorem BrO.reads {w : World} {g o : Nat} {xs : List Int} (h : BrO w 5 g o xs) (hl : xs.length ≤ 9223372036854775807) : ReadsInt w .u8 (some ⟨g, o, none⟩) xs.length xs :=
  ⟨rfl, hl, fun _ => ⟨_, rfl, fun j hj => by rw [Addr.add_lit]; exact h.cell j hj⟩⟩
theorem Br.bro {w : World} {g : Nat} {xs : List Int} (h : Br w 5 g xs) : BrO w 5 g 0 xs := by
  obtain ⟨cur, fr, h1, h2, h3⟩ := h
  exact ⟨cur, fr, h1, fun j hj => by rw [Nat.zero_add]; exact h2 j hj, fun j hj => by rw [Nat.zero_add]; exact h3 j hj⟩
theorem OnlyO.below {g o n : Nat} {w w' : World} (h : OnlyO g o n w w') {B : Nat} (hB : B ≤ g) : Below B w w' := ⟨h.os, h.tape, h.output, by rw [h.size]; exact Nat.le_refl _, fun b hb => h.others b (by omega)⟩
theorem nhk_conv (w : World) (key : ByteArray) (c : Nat) (dn : Bool) (hks : key.size ≤ 140737488351232) :
    Calls Try.prog 60 #[.slice (some ⟨w.heap.size, 0, none⟩) key.size c, .bool dn] (Lib.bytesWorld w 5 key) fun e w' => e = .returned (.tuple #[]) ∧ BrO w' 5 w.heap.size 0 (nkd dn (ns key)) ∧ Below w.heap.size w w' := by
  have hbr := Br.bro (Br.conv w 5 key)
  have hbl := conv_below w 5 key
  cases dn with
  | true =>
    refine (nhk_true _ _).mono ?_
    rintro e w' ⟨rfl, rfl⟩
    exact ⟨rfl, hbr, hbl⟩
  | false =>
    refine (nhkO_calls _ w.heap.size 0 key.size c (ns key) (ns_length key) (fun x hx => ns_range key x hx) (by omega) hbr).mono ?_
    rintro e w' ⟨rfl, h1, h2⟩
    exact ⟨rfl, h1, hbl.trans (h2.below (Nat.le_refl _))⟩
set_option maxHeartbeats 1000000 in
set_option maxRecDepth 100000 in
theorem tPeek_calls (l : Nat → Nat) (w : World) (q p n : Nat) (V kv vv : Value) (S : List Slot) (kx vx : List Int) (dn : Bool) (h : TrC l w q p V n S kv kx vv vx dn) (hn : n ≤ 1099511627775) (key : ByteArray) (hks : key.size ≤ 140737488351232) :
    Calls Try.prog 62 #[.pointer (some ⟨p, 0, none⟩), .string key] w fun e w' => ∃ v, e = .returned v ∧ PeekSays w' (getKV (nkd dn (ns key)) (kvs S n)) v ∧ Below w.heap.size w w' := by
  have hcv := Lib.run_convert_string_bytes (P := Try.prog) w 9 54 5 key Try.underlying9 Try.underlying54 Try.underlying5
  have hbl := conv_below w 5 key
  obtain ⟨c, hc⟩ : ∃ c, grownCap w key.size 0 5 = c := ⟨_, rfl⟩
  have hcap : key.size ≤ c := by rw [← hc]; exact grownCap_ge w key.size 0 _
  have HN := Lib.hid (nhk_conv w key c dn hks)
  have hT1 := h.keep (Stp.of_below_same hbl (fun _ => False) l) (fun _ k => k.elim)
  rw [hc] at hcv
  obtain ⟨W, hW⟩ : ∃ W, Lib.bytesWorld w 5 key = W := ⟨_, rfl⟩
  rw [hW] at hcv HN hT1
  obtain ⟨x4, _⟩ := hT1.c4
  obtain ⟨A0, c0, rfl⟩ := h.2.2.2.1.shape
  have HT := Lib.hid h
  have HCAP := Lib.hid hcap
  clear h hc hbl hW hcap
  go_enter Try.func62, Try.ntmps62
  go_wp2_with (first
    | (go_at_call 60; refine HN.out.mono ?_; rintro e w2 ⟨rfl, n1, n2⟩; have hT2 := HT.out.keep (Stp.of_below_same n2 (fun _ => False) l) (fun _ k => k.elim); obtain ⟨x0, _⟩ := hT2.c0; have T2 := Lib.hid hT2; have N1 := Lib.hid n1; have N2 := Lib.hid n2; clear n1 n2 hT2)
    | (go_at_call 76; have q_ := peekArgBytes_calls l w2 (q + 3) n _ S T2.out.2.2.2.1 (by omega) (some ⟨w.heap.size, 0, none⟩) c (nkd dn (ns key)) (by rw [nkd_length, ns_length]; exact HCAP.out) (N1.out.reads (by rw [nkd_length, ns_length]; omega)); rw [nkd_length, ns_length] at q_; refine q_.mono ?_; rintro e w3 ⟨v, rfl, p1, m, rfl⟩; have P1 := Lib.hid p1; clear p1 q_))
  go_ret
  refine ⟨_, rfl, ?_, pw_below_drewN N2.out _⟩
  rcases P1.out with ⟨e1, e2⟩ | ⟨A, c', vx', e1, e2, e3, e4, e5⟩
  · exact .inl ⟨e1, e2⟩
  · exact .inr ⟨A, c', vx', e1, e2, e3, e4, e5⟩
theorem peek_text {w : World} {r : Option (List Int)} {v : Value} (h : PeekSays w r v) : (convert 54 9 v).run Try.prog w = .ok (.string (strOfNums (r.getD []))) w := by
  rcases h with ⟨rfl, rfl⟩ | ⟨A, c, vx, rfl, rfl, _, h4, _⟩
  · exact conv_read (A := none) (c := 0) (xs := []) ⟨rfl, by simp, fun h => by simp at h⟩
  · exact conv_read h4
set_option maxHeartbeats 1000000 in
set_option maxRecDepth 100000 in
theorem tGet_calls (l : Nat → Nat) (w : World) (q p n : Nat) (V kv vv : Value) (S : List Slot) (kx vx : List Int) (dn : Bool) (h : TrC l w q p V n S kv kx vv vx dn) (hn : n ≤ 1099511627775) (key : ByteArray) (hks : key.size ≤ 140737488351232) :
    Calls Try.prog 44 #[.pointer (some ⟨p, 0, none⟩), .string key] w fun e w' => e = .returned (.string (strOfNums ((getKV (nkd dn (ns key)) (kvs S n)).getD []))) ∧ Below w.heap.size w w' := by
  have HP := Lib.hid (tPeek_calls l w q p n V kv vv S kx vx dn h hn key hks)
  obtain ⟨T, hT⟩ : ∃ T, strOfNums ((getKV (nkd dn (ns key)) (kvs S n)).getD []) = T := ⟨_, rfl⟩
  rw [hT]
  have HT := Lib.hid hT
  clear h hT
  go_enter Try.func44, Try.ntmps44
  go_wp2_with (go_at_call 62; refine HP.out.mono ?_; rintro e w2 ⟨v, rfl, p1, p2⟩; have hcv := peek_text p1; rw [HT.out] at hcv; have P2 := Lib.hid p2; clear p1 p2)
  go_ret
  exact ⟨rfl, P2.out⟩
def MovedT (l : Nat → Nat) (w : World) (q p : Nat) (dn : Bool) (n : Nat) (R : List KVx) (e : Ending) (w' : World) : Prop := ∃ l1 V1 n1 S1 kv1 kx1 vv1 vx1, e = .returned (.tuple #[]) ∧ TrC l1 w' q p V1 n1 S1 kv1 kx1 vv1 vx1 dn ∧ n1 ≤ n ∧ Stp (Tz q) l l1 w w' ∧ kvs S1 n1 = R
set_option maxHeartbeats 1000000 in
set_option maxRecDepth 100000 in
theorem tDel_calls (l : Nat → Nat) (w : World) (q p n : Nat) (V kv vv : Value) (S : List Slot) (kx vx : List Int) (dn : Bool) (h : TrC l w q p V n S kv kx vv vx dn) (hn : n ≤ 1099511627775) (key : ByteArray) (hks : key.size ≤ 140737488351232) :
    Calls Try.prog 43 #[.pointer (some ⟨p, 0, none⟩), .string key] w fun e w' => MovedT l w q p dn n (delKV (strOfNums (nkd dn (ns key))) (kvs S n)) e w' := by
  have hcv := Lib.run_convert_string_bytes (P := Try.prog) w 9 54 5 key Try.underlying9 Try.underlying54 Try.underlying5
  have hbl := conv_below w 5 key
  obtain ⟨c, hc⟩ : ∃ c, grownCap w key.size 0 5 = c := ⟨_, rfl⟩
  have HN := Lib.hid (nhk_conv w key c dn hks)
  have hT1 := h.keep (Stp.of_below_same hbl (fun _ => False) l) (fun _ k => k.elim)
  rw [hc] at hcv
  obtain ⟨W, hW⟩ : ∃ W, Lib.bytesWorld w 5 key = W := ⟨_, rfl⟩
  rw [hW] at hcv HN hT1
  obtain ⟨x4, _⟩ := hT1.c4
  obtain ⟨A0, c0, rfl⟩ := h.2.2.2.1.shape
  have HT := Lib.hid h
  clear h hc hbl hW
  go_enter Try.func43, Try.ntmps43
  go_wp2_with (first
    | (go_at_call 60; refine HN.out.mono ?_; rintro e w2 ⟨rfl, n1, n2⟩; have hT2 := HT.out.keep (Stp.of_below_same n2 (fun _ => False) l) (fun _ k => k.elim); obtain ⟨x0, _⟩ := hT2.c0; have T2 := Lib.hid hT2; have N1 := Lib.hid n1; have N2 := Lib.hid n2; clear n1 n2 hT2)
    | (go_at_call 61; have q_ := delAllArgsBytes_calls l w2 (q + 3) n _ S (some ⟨w.heap.size, 0, none⟩) c (nkd dn (ns key)) (N1.out.reads (by rw [nkd_length, ns_length]; omega)) T2.out.2.2.2.1 (by omega); rw [nkd_length, ns_length] at q_; refine q_.mono ?_; rintro e w3 ⟨V1, n1, S1, rfl, d1, d2, d3, d4⟩; obtain ⟨A2, c2, rfl⟩ := d1.shape; obtain ⟨⟨y0, g0⟩, k5, k6⟩ := T2.out.list d4 d1; have K5 := Lib.hid k5; have K6 := Lib.hid k6; have D2 := Lib.hid d2; have D3 := Lib.hid d3; clear d1 d2 d3 d4 k5 k6 q_))
  go_end0
  exact ⟨_, _, _, _, _, _, _, _, rfl, K5.out, D2.out, (Stp.of_below_same N2.out (Tz q) l).trans K6.out, D3.out⟩
end Go.Proofs.Ytoimkmoalmmooaa.Own
namespace Go.Proofs.Ytoimkmoalmmooaa.Own
open Go.RowKit Go.Proofs.YtoimkmoalmmooaaW.PrintWords Go.Proofs.YtoimkmoalmmooaaW.PrintLast Go.Proofs.YtoimkmoalmmooaaW.PrintMore Go.Proofs.Ytoimkmoalmmooaa.Base Go.Proofs.Ytoimkmoalmmooaa.Gv Go.Proofs.Ytoimkmoalmmooaa.Given
theorem KvS.cut0 {l : Nat → Nat} {w : World} {z n : Nat} {A : Option Addr} {c : Nat} {S : List Slot} (h : KvS l w z (.slice A n c) n S) : KvS l w z (.slice A 0 c) 0 S := by
  obtain ⟨hz, hn, ⟨e, h2, h3⟩ | ⟨a, e, hle, hmx, hkv⟩⟩ := h
  · cases e
    exact ⟨hz, by simp, .inl ⟨rfl, h2, rfl⟩⟩
  · cases e
    exact ⟨hz, by simp, .inr ⟨a, rfl, Nat.zero_le _, hmx, hkv⟩⟩
theorem cutzk (A : Option Addr) (n c : Nat) (W : World) : (Instr.slice 53 (.slice A n c) none (some (.int .i64 0)) none).run Try.prog W = .ok (.slice A 0 c) W := by
  have hinfo : (Try.prog.info? 56).map (fun i => (i.zero, i.size, i.bytes)) = some (some (.agg #[.slice none 0 0, .slice none 0 0, .bool false]), 3, 56) := by kernel_rfl
  obtain ⟨i0, hi0, hz0, hz1, hz2⟩ := info_parts hinfo
  have hel : Try.prog.elem 53 = 56 := by simp [Program.elem, Try.underlying53]
  have hu : Try.prog.underlying 53 = some (.slice (Try.prog.elem 53)) := by rw [hel]; exact Try.underlying53
  have hsz : (sizeOf 56).run Try.prog W = .ok 3 W := by simp [sizeOf, typeInfo, hi0, hz1]
  have ha : (A.map fun x => x.add 0) = A := by cases A <;> simp [Addr.add]
  rw [run_slice_h W 53 A n c hu .i64 0 (by omega) (by omega), hel, hsz]
  simp [Result.andThen, sliced, ha]
set_option maxHeartbeats 1000000 in
set_option maxRecDepth 100000 in
theorem tResetSkip_calls (l : Nat → Nat) (w : World) (q p n : Nat) (V kv vv : Value) (S : List Slot) (kx vx : List Int) (dn : Bool) (h : TrC l w q p V n S kv kx vv vx dn) :
    Calls Try.prog 63 #[.pointer (some ⟨p, 0, none⟩)] w fun e w' => ∃ V1, e = .returned (.tuple #[]) ∧ TrC l w' q p V1 0 S kv kx vv vx dn ∧ Stp (Tz q) l l w w' := by
  obtain ⟨A0, c0, rfl⟩ := h.2.2.2.1.shape
  obtain ⟨x0, g0⟩ := h.c0
  have hcz := cutzk
  obtain ⟨_, k1, k2⟩ := h.list (Stp.refl _ _ _) h.2.2.2.1.cut0
  have K1 := Lib.hid k1
  have K2 := Lib.hid k2
  clear h k1 k2
  go_enter Try.func63, Try.ntmps63
  go_wp2
  go_end0
  exact ⟨_, rfl, K1.out, K2.out⟩
theorem TrC.setDn {l : Nat → Nat} {w : World} {q p n : Nat} {V kv vv : Value} {S : List Slot} {kx vx : List Int} {dn : Bool} (h : TrC l w q p V n S kv kx vv vx dn) (b : Bool) : TrC l (w.setCell ⟨p, 4, none⟩ (.bool b)) q p V n S kv kx vv vx b ∧ Stp (Tz q) l l w (w.setCell ⟨p, 4, none⟩ (.bool b)) := by
  obtain ⟨h1, h2, h3, h4, h5, h6⟩ := h
  obtain ⟨k3, s3⟩ := h3.set 4 (.bool b)
  exact ⟨⟨h1, h2, k3, h4.keep s3 (fun lab e => by omega), h5.keep s3 (by omega), h6.keep s3 (by omega)⟩, s3.mono (fun x e => .inl e)⟩
set_option maxHeartbeats 1000000 in
set_option maxRecDepth 100000 in
theorem tDisable_calls (l : Nat → Nat) (w : World) (q p n : Nat) (V kv vv : Value) (S : List Slot) (kx vx : List Int) (dn : Bool) (h : TrC l w q p V n S kv kx vv vx dn) :
    Calls Try.prog 51 #[.pointer (some ⟨p, 0, none⟩)] w fun e w' => e = .returned (.tuple #[]) ∧ TrC l w' q p V n S kv kx vv vx true ∧ Stp (Tz q) l l w w' := by
  obtain ⟨x4, g4⟩ := h.c4
  have HK := Lib.hid (h.setDn true)
  clear h
  go_enter Try.func51, Try.ntmps51
  go_wp2
  go_end0
  exact ⟨rfl, HK.out.1, HK.out.2⟩
set_option maxHeartbeats 1000000 in
set_option maxRecDepth 100000 in
theorem tReset_calls (l : Nat → Nat) (w : World) (q p n : Nat) (V kv vv : Value) (S : List Slot) (kx vx : List Int) (dn : Bool) (h : TrC l w q p V n S kv kx vv vx dn) :
    Calls Try.prog 52 #[.pointer (some ⟨p, 0, none⟩)] w fun e w' => ∃ V1, e = .returned (.tuple #[]) ∧ TrC l w' q p V1 0 S kv kx vv vx false ∧ Stp (Tz q) l l w w' := by
  obtain ⟨x4, g4⟩ := h.c4
  obtain ⟨k1, k2⟩ := h.setDn false
  have HR := Lib.hid (tResetSkip_calls l _ q p n V kv vv S kx vx false k1)
  have K2 := Lib.hid k2
  clear h k1 k2
  go_enter Try.func52, Try.ntmps52
  go_wp2_with (
    go_at_call 63
    refine HR.out.mono ?_
    rintro e w1 ⟨V1, rfl, h1, h2⟩
    have H1 := Lib.hid h1
    have H2 := Lib.hid h2
    clear h1 h2)
  go_end0
  exact ⟨_, rfl, H1.out, K2.out.trans H2.out⟩
set_option maxHeartbeats 1000000 in
set_option maxRecDepth 100000 in
theorem tEmpty_calls (l : Nat → Nat) (w : World) (q p n : Nat) (V kv vv : Value) (S : List Slot) (kx vx : List Int) (dn : Bool) (h : TrC l w q p V n S kv kx vv vx dn) :
    Calls Try.prog 49 #[.pointer (some ⟨p, 0, none⟩)] w fun e w' => e = .returned (.bool (decide (n = 0))) ∧ w' = w := by
  obtain ⟨A0, c0, rfl⟩ := h.2.2.2.1.shape
  obtain ⟨x0, g0⟩ := h.c0
  have hb : ((n : Int) == 0) = decide (n = 0) := by
    by_cases h0 : n = 0
    · subst h0; rfl
    · rw [decide_eq_false h0]; exact beq_eq_false_iff_ne.2 (by omega)
  clear h
  go_enter Try.func49, Try.ntmps49
  go_wp2
  go_ret
  exact ⟨by first | rfl | (rw [hb]; rfl), rfl⟩
def linesOf (l : List KVx) : List Int := l.flatMap fun x => lineOf x.k x.v
def RgK (l : List KVx) : Prop := ∀ x ∈ l, ∀ b ∈ x.k, 0 ≤ b ∧ b ≤ 255
theorem lineOf_len (k v : List Int) : (lineOf k v).length ≤ k.length + v.length + 4 := by
  unfold lineOf
  split
  · simp; omega
  · simp
def sizeKV (l : List KVx) : Nat := (l.map fun x => x.k.length + x.v.length + 4).sum
theorem sizeKV_cons (x : KVx) (l : List KVx) : sizeKV (x :: l) = x.k.length + x.v.length + 4 + sizeKV l := by simp [sizeKV]
theorem KvS.kv {l : Nat → Nat} {w : World} {z n : Nat} {A : Option Addr} {c : Nat} {S : List Slot} (h : KvS l w z (.slice A n c) n S) {i : Nat} (hi : i < n) : ∃ a, A = some ⟨a, 0, none⟩ ∧ c = S.length ∧ n ≤ S.length ∧ Kv l w z a S := by
  obtain ⟨_, _, ⟨e, _, _⟩ | ⟨a, e, hle, _, hkv⟩⟩ := h
  · cases e; omega
  · cases e; exact ⟨a, rfl, rfl, hle, hkv⟩
set_option maxHeartbeats 4000000 in
set_option maxRecDepth 100000 in
theorem tAppend_calls (l : Nat → Nat) (w : World) (q zh zd p n : Nat) (V : Value) (S : List Slot) (cs : Array Value) (hd : Cl l w q p 58 cs) (hc : cs[0]? = some V) (hk : KvS l w zh V n S) (hn : n ≤ 1099511627775) (D : Value) (xs : List Int) (hD : Bf l w zd D xs) (z1 : zd ≠ q) (z2 : zd % 64 ≠ zh) (hr : RgK (kvs S n)) (hl : xs.length + (sizeKV (kvs S n) + 2) ≤ 140737488355328) :
    Calls Try.prog 53 #[.pointer (some ⟨p, 0, none⟩), D] w fun e w' => ∃ l1 A1 N1 c1, e = .returned (.slice A1 N1 c1) ∧ N1 = (xs ++ linesOf (kvs S n) ++ [13, 10]).length ∧ Bf l1 w' zd (.slice A1 N1 c1) (xs ++ linesOf (kvs S n) ++ [13, 10]) ∧ Stp (· = zd) l l1 w w' := by
  obtain ⟨A0, c0, rfl⟩ := hk.shape
  obtain ⟨AD, cD, rfl, _⟩ := hD.slice
  have x0 : w.cell? ⟨p, 0, none⟩ = some (.slice A0 n c0) := by rw [hd.cell]; exact hc
  have HD := Lib.hid hd
  have HC := Lib.hid hc
  have HK := Lib.hid hk
  have HB := Lib.hid hD
  have HRG := Lib.hid hr
  have HL := Lib.hid hl
  have HLEN := Lib.hid (kvs_length hk.le)
  obtain ⟨ND, hND⟩ : ∃ N, xs.length = N := ⟨_, rfl⟩
  rw [hND]
  have HND := Lib.hid hND
  obtain ⟨RES, hRES⟩ : ∃ R, xs ++ linesOf (kvs S n) = R := ⟨_, rfl⟩
  rw [hRES]
  have HRES := Lib.hid hRES
  clear hd hc hk hD hr hl hND hRES
  go_enter Try.func53, Try.ntmps53
  go_wp2
  go_quiet (fail)
  go_wp2
  go_loopw [1, 5, 7] (fun dv iv _ wr => ∃ (i N : Nat) (A : Option Addr) (c : Nat) (l1 : Nat → Nat) (acc : List Int), dv = .slice A N c ∧ iv = .int .i64 i ∧ i ≤ n ∧ Hid (N = acc.length) ∧ Hid (Bf l1 wr zd (.slice A N c) acc) ∧ Hid (acc ++ linesOf ((kvs S n).drop i) = RES) ∧ Hid (acc.length + (sizeKV ((kvs S n).drop i) + 2) ≤ 140737488355328) ∧ Hid (Stp (· = zd) l l1 w wr)) (fun _ iv _ _ => n - (intOf iv).toNat)
  case atStart => exact ⟨0, ND, AD, cD, l, xs, rfl, rfl, by omega, Lib.hid HND.out.symm, Lib.hid (by have := HB.out; rw [HND.out] at this; exact this.drewN _), Lib.hid (by rw [List.drop_zero]; exact HRES.out), Lib.hid (by rw [List.drop_zero]; exact HL.out), Lib.hid (drew_stp _ _ _ _)⟩
  case round =>
    obtain ⟨i, N, A, c, l1, acc, rfl, rfl, hi, HN, HBi, HE, HLi, HS⟩ := hrel
    by_cases hlt : i < n
    · have q1 : (i : Int) < (n : Int) := by omega
      have hdi := HD.out.keep HS.out (fun e => z1 e.symm)
      have hki := HK.out.keep HS.out (fun lab e => by subst e; exact z2)
      have y0 : wr.cell? ⟨p, 0, none⟩ = some (.slice A0 n c0) := by rw [hdi.cell]; exact HC.out
      obtain ⟨a, rfl, rfl, hle, hkv⟩ := hki.kv hlt
      obtain ⟨s, hs⟩ := get_some (S := S) (n := i) (by omega)
      obtain ⟨⟨A1, c1, ek, z0, hc1, r1⟩, ⟨A2, c2, ev, z3, hc2, r2⟩, z4⟩ := hkv.look hs
      have hat := kvs_at (n := n) hs hlt
      have hdr : (kvs S n).drop i = ⟨s.kx, s.vx, s.no⟩ :: (kvs S n).drop (i + 1) := by
        obtain ⟨h1, e⟩ := List.getElem?_eq_some_iff.1 hat
        rw [List.drop_eq_getElem_cons h1, e]
      have hrg : ∀ b ∈ s.kx, 0 ≤ b ∧ b ≤ 255 := HRG.out ⟨s.kx, s.vx, s.no⟩ (List.mem_of_getElem? hat)
      have hsz : acc.length + (s.kx.length + s.vx.length + 4 + sizeKV ((kvs S n).drop (i + 1)) + 2) ≤ 140737488355328 := by
        have := HLi.out
        rw [hdr, sizeKV_cons] at this
        exact this
      obtain ⟨wd, hwd⟩ : ∃ x, wr.drew = x := ⟨_, rfl⟩
      have hsd : Stp (· = zd) l1 l1 wr wd := by rw [← hwd]; exact drew_stp _ l1 wr 1
      have hkd : Kv l1 wd zh a S := by rw [← hwd]; exact hkv.drewN 1
      have hbd : Bf l1 wd zd (.slice A N c) acc := by rw [← hwd]; exact HBi.out.drewN 1
      have hsk : Src (· = zd) l1 wd A1 s.kx.length s.kx := by
        have := (hkd.row hs).1
        rw [ek] at this
        exact (Src.of_bf this (fun e => by have := kLab_zn (z := zh) (id := s.id) hkv.hz; rw [e] at this; exact z2 this)).2
      have hsv : Src (· = zd) l1 wd A2 s.vx.length s.vx := by
        have := (hkd.row hs).2
        rw [ev] at this
        exact (Src.of_bf this (fun e => by have := vLab_zn (z := zh) (id := s.id) hkv.hz; rw [e] at this; exact z2 this)).2
      have hcall := headerLine_calls l1 wd zd _ acc hbd A1 c1 s.kx hrg hsk A2 c2 s.vx hsv (by omega)
      have hnext : acc ++ lineOf s.kx s.vx ++ linesOf ((kvs S n).drop (i + 1)) = RES := by
        rw [← HE.out, hdr]; simp [linesOf]
      have hlen2 : (acc ++ lineOf s.kx s.vx).length + (sizeKV ((kvs S n).drop (i + 1)) + 2) ≤ 140737488355328 := by
        have := lineOf_len s.kx s.vx
        rw [List.length_append]; omega
      obtain ⟨kl, hkl⟩ : ∃ k, s.kx.length = k := ⟨_, rfl⟩
      obtain ⟨vl, hvl⟩ : ∃ k, s.vx.length = k := ⟨_, rfl⟩
      rw [hkl, hvl] at hcall
      rw [hkl] at z0
      rw [hvl] at z3
      have HCALL := Lib.hid hcall
      have HNEXT := Lib.hid hnext
      have HLEN2 := Lib.hid hlen2
      have HWD := Lib.hid hwd
      have HSD := Lib.hid (HS.out.trans hsd)
      have hiS : i < S.length := by omega
      clear hdi hki hle hkv hs ek ev r1 r2 hc1 hc2 hat hdr hrg hsz hsd hkd hbd hsk hsv hcall hnext hlen2 hkl hvl hwd
      go_wp2
      go_still_tail 9, (by kernel_rfl)
      change wpList _ _ _ _ _ wr.drew
      rw [HWD.out]
      go_wp2_with (go_at_call 71; refine HCALL.out.mono ?_; rintro e w2 ⟨l2, A3, c3, rfl, b3, s3⟩; obtain ⟨N3, hN3⟩ : ∃ k, (acc ++ lineOf s.kx s.vx).length = k := ⟨_, rfl⟩; rw [hN3] at b3 ⊢; have B3 := Lib.hid b3; have S3 := Lib.hid s3; have HN3 := Lib.hid hN3; clear b3 s3 hN3)
      go_roundw
      case rel => exact ⟨i + 1, N3, A3, c3, l2, _, rfl, by go_num, by omega, Lib.hid HN3.out.symm, B3, HNEXT, HLEN2, Lib.hid (HSD.out.trans S3.out)⟩
      case measure => simp [intOf]; omega
    · obtain rfl : n = i := by omega
      have q1 : ¬ ((n : Int) < (n : Int)) := by omega
      have hres : acc = RES := by
        have := HE.out
        rw [List.drop_eq_nil_of_le (by rw [HLEN.out]; exact Nat.le_refl _)] at this
        simpa [linesOf] using this
      have HRS := Lib.hid hres
      clear hres
      go_wp2_with (first
        | (go_at_call 72
           refine (hertzstr_StrCRLF.calls [13, 10] _ rfl).mono ?_
           rintro e w5 ⟨v5, rfl, ho5, hb5⟩
           obtain ⟨A5, k5, rfl⟩ := MR.R_slice ho5
           have R5 := Lib.hid (mr_read ho5)
           have B5 := Lib.hid (HBi.out.keep (below_stp hb5 (fun _ => False) l1) (fun k => k))
           have S5 := Lib.hid (HS.out.trans (below_stp hb5 (· = zd) l1))
           clear ho5 hb5)
        | (at_builtin
           refine app_row zd rfl (.tmp 34) (.tmp 35) 54 rfl Try.underlying54 info8 _ acc [13, 10] A5 2 k5 rfl rfl B5.out R5.out (by have := HLi.out; omega) ?_
           intro v6 w6 l6 hB st _
           obtain ⟨A6, c6, rfl, hc6⟩ := hB.slice
           obtain ⟨N6, hN6⟩ : ∃ N, (acc ++ [13, 10]).length = N := ⟨_, rfl⟩
           rw [hN6] at hB
           rw [hN6]
           have HN6 := Lib.hid hN6
           have B6 := Lib.hid hB
           have S6 := Lib.hid (S5.out.trans st)
           clear hB st hc6 hN6))
      go_ret
      rw [← HRS.out]
      exact ⟨_, A6, N6, c6, rfl, HN6.out.symm, B6.out, S6.out⟩
open Go.Proofs.Ytoimkmoalmmooaa.QA Go.Proofs.Ytoimkmoalmmooaa.PrX
def OutZ (w : World) (o : Nat) (xs : List S96) : Prop := ∃ v, w.heap[o]? = some (.cells #[v] 82 (0, 0)) ∧ Kd.R k96 96 w (o + 1) (fun k => k ≠ o) v xs
set_option maxHeartbeats 1000000 in
set_option maxRecDepth 100000 in
theorem zzClo_calls (w : World) (o : Nat) (A : Option Addr) (c : Nat) (ks : List Int) (B : Option Addr) (d : Nat) (vs : List Int) (hk : ReadsInt w .u8 A ks.length ks) (hv : ReadsInt w .u8 B vs.length vs) (xs : List S96) (ho : OutZ w o xs) (hl : (xs.length + 1) * 32 ≤ 140737488355328) :
    Calls Try.prog 78 #[.slice A ks.length c, .slice B vs.length d, .pointer (some ⟨o, 0, none⟩)] w fun e w' => e = .returned (.tuple #[]) ∧ OutZ w' o (xs ++ [⟨strOfNums ks, strOfNums vs⟩]) ∧ Below o w w' := by
  have hinfo : (Try.prog.info? 96).map (fun i => (i.zero, i.size, i.bytes)) = some (some (.agg #[.string ⟨#[]⟩, .string ⟨#[]⟩]), 2, 32) := by kernel_rfl
  obtain ⟨v, hc, hR⟩ := ho
  have hlt : o < w.heap.size := (Array.getElem?_eq_some_iff.1 hc).1
  have hcv1 := conv_read (c := c) hk
  have hcv2 := conv_read (c := d) hv
  obtain ⟨K, hK⟩ : ∃ k, ks.length = k := ⟨_, rfl⟩
  obtain ⟨M, hM⟩ : ∃ k, vs.length = k := ⟨_, rfl⟩
  obtain ⟨TK, hTK⟩ : ∃ k, strOfNums ks = k := ⟨_, rfl⟩
  obtain ⟨TV, hTV⟩ : ∃ k, strOfNums vs = k := ⟨_, rfl⟩
  rw [hK, hTK] at hcv1
  rw [hM, hTV] at hcv2
  rw [hK, hM, hTK, hTV]
  obtain ⟨AV, cV, hvs⟩ := Kd.R_slice hR
  have x0 : w.cell? ⟨o, 0, none⟩ = some v := by rw [cell_of_row w o 0 _ _ (0, 0) hc]; rfl
  obtain ⟨NV, hNV⟩ : ∃ k, xs.length = k := ⟨_, rfl⟩
  rw [hvs, hNV] at x0
  rw [hvs, hNV] at hR
  have HR := Lib.hid hR
  have HC := Lib.hid hc
  have HNV := Lib.hid hNV
  have HL := Lib.hid hl
  have HI := Lib.hid hinfo
  clear hk hv hc hR hK hM hTK hTV hNV hl hinfo hvs
  go_enter Try.func78, Try.ntmps78
  go_wp2_with (
    at_builtin
    refine Kd.R_append k96 (w0 := w) (o + 1) rfl (.tmp 5) (.tmp 11) 82 96 (.agg #[.string ⟨#[]⟩, .string ⟨#[]⟩]) 32 rfl Try.underlying82 HI.out rfl (by decide) (by omega) _ xs (⟨TK, TV⟩ : S96) [.string TK, .string TV] (fun k => k ≠ o) (fun _ => False) rfl (by first | rfl | (go_simp; done)) (k96_mkM _ _ _ _) (fun _ hk => hk.elim) (fun k hk => by omega) HR.out (Below.refl _ _) (by omega) HL.out ?_
    intro v1 w1 hr1 hb1 hg1 hat1
    obtain ⟨A1, c1, rfl⟩ := Kd.R_slice hr1
    obtain ⟨N1, hN1⟩ : ∃ k, (xs ++ [(⟨TK, TV⟩ : S96)]).length = k := ⟨_, rfl⟩
    rw [hN1] at hr1
    rw [hN1]
    have hc1 : w1.heap[o]? = some (.cells #[.slice AV NV cV] 82 (0, 0)) := by
      rw [hb1.block o (by omega)]
      have h0 := HC.out
      rw [h0]
      have := cell_of_row w o 0 _ _ (0, 0) h0
      rw [x0] at this
      simp at this
      rw [this]
    have y0 : w1.cell? ⟨o, 0, none⟩ = some (.slice AV NV cV) := by rw [cell_of_row w1 o 0 _ _ (0, 0) hc1]; rfl
    have g0 : w1.frozen? ⟨o, 0, none⟩ = false := frozen_of_row _ _ 0 _ _ hc1
    have hc2 := heap_setCell_same w1 o 0 _ 82 (.slice A1 N1 c1) hc1
    have HC2 := Lib.hid hc2
    have HR2 := Lib.hid (Kd.R_far (p := ⟨o, 0, none⟩) hr1 (fun k hk => hk) (.slice A1 N1 c1))
    have HB2 := Lib.hid ((⟨hb1.os, hb1.tape, hb1.output, hb1.size, fun i hi => hb1.block i (by omega)⟩ : Below o w w1).setCell (p := ⟨o, 0, none⟩) (Nat.le_refl o) (.slice A1 N1 c1))
    clear hr1 hb1 hg1 hat1 hc1 hc2 hN1)
  go_end0
  exact ⟨rfl, ⟨_, by have := HC2.out; simpa using this, HR2.out⟩, HB2.out⟩
def toZ (x : KVx) : S96 := ⟨strOfNums x.k, strOfNums x.v⟩
theorem OutZ.drew {w : World} {o : Nat} {xs : List S96} (h : OutZ w o xs) : OutZ w.drew o xs := by
  obtain ⟨v, h1, h2⟩ := h
  exact ⟨v, h1, Kd.R_drew h2⟩
set_option maxHeartbeats 2000000 in
set_option maxRecDepth 100000 in
theorem visitZ_calls (l : Nat → Nat) (w : World) (z n : Nat) (V : Value) (S : List Slot) (o : Nat) (hk : ∀ wr, Below o w wr → KvS l wr z V n S) (hn : n ≤ 1099511627776) (ho : OutZ w o []) :
    Calls Try.prog 79 #[V, .func (.func 78) #[] #[.pointer (some ⟨o, 0, none⟩)]] w fun e w' => e = .returned (.tuple #[]) ∧ OutZ w' o ((kvs S n).map toZ) ∧ Below o w w' := by
  have h0 := hk w (Below.refl _ _)
  have HLEN := Lib.hid (kvs_length h0.le)
  obtain ⟨A0, c0, rfl⟩ := h0.shape
  have HK := Lib.hid hk
  have HO := Lib.hid ho
  have hcf : ∀ (args : Array Value) (W : World), (callFunc 78 args).run Try.prog W = .ok (.enter 78 args) W := fun _ _ => rfl
  clear hk ho h0
  go_enter Try.func79, Try.ntmps79
  go_wp2
  go_loopw [4, 6] (fun iv _ wr => ∃ i : Nat, iv = .int .i64 i ∧ i ≤ n ∧ Hid (OutZ wr o (((kvs S n).take i).map toZ)) ∧ Hid (Below o w wr)) (fun iv _ _ => n - (intOf iv).toNat)
  case atStart => exact ⟨0, rfl, by omega, Lib.hid (by simpa using HO.out), Lib.hid (Below.refl _ _)⟩
  case round =>
    obtain ⟨i, rfl, hi, HOi, HBi⟩ := hrel
    by_cases hlt : i < n
    · have q1 : (i : Int) < (n : Int) := by omega
      obtain ⟨a, rfl, rfl, hle, hkv⟩ := (HK.out wr HBi.out).kv hlt
      obtain ⟨s, hs⟩ := get_some (S := S) (n := i) (by omega)
      obtain ⟨⟨A1, c1, ek, z0, hc1, r1⟩, ⟨A2, c2, ev, z3, hc2, r2⟩, z4⟩ := hkv.look hs
      have hat := kvs_at (n := n) hs hlt
      have htk : ((kvs S n).take (i + 1)).map toZ = ((kvs S n).take i).map toZ ++ [⟨strOfNums s.kx, strOfNums s.vx⟩] := by
        rw [List.take_add_one, hat, List.map_append]; rfl
      have hll : (((kvs S n).take i).map toZ).length = i := by rw [List.length_map, List.length_take, HLEN.out]; omega
      obtain ⟨wd, hwd⟩ : ∃ x, wr.drew = x := ⟨_, rfl⟩
      have hcall := zzClo_calls wd o A1 c1 s.kx A2 c2 s.vx (by rw [← hwd]; exact r1) (by rw [← hwd]; exact r2) _ (by rw [← hwd]; exact HOi.out.drew) (by rw [hll]; omega)
      rw [← htk] at hcall
      obtain ⟨kl, hkl⟩ : ∃ k, s.kx.length = k := ⟨_, rfl⟩
      obtain ⟨vl, hvl⟩ : ∃ k, s.vx.length = k := ⟨_, rfl⟩
      rw [hkl, hvl] at hcall
      rw [hkl] at z0
      rw [hvl] at z3
      have HCALL := Lib.hid hcall
      have HWD := Lib.hid hwd
      have hbd : Below o w wd := by rw [← hwd]; exact below_drew1 HBi.out
      have HBD := Lib.hid hbd
      have hiS : i < S.length := by omega
      clear hle hkv hs ek ev r1 r2 hc1 hc2 hat htk hll hcall hkl hvl hwd hbd
      go_wp2
      go_still_tail 9, (by kernel_rfl)
      change wpList _ _ _ _ _ wr.drew
      rw [HWD.out]
      go_wp2_with (go_at_call 78; refine HCALL.out.mono ?_; rintro e w2 ⟨rfl, b3, s3⟩; have B3 := Lib.hid b3; have S3 := Lib.hid s3; clear b3 s3)
      go_roundw
      case rel => exact ⟨i + 1, by go_num, by omega, B3, Lib.hid (HBD.out.trans S3.out)⟩
      case measure => simp [intOf]; omega
    · obtain rfl : n = i := by omega
      have q1 : ¬ ((n : Int) < (n : Int)) := by omega
      go_wp2
      go_end0
      refine ⟨rfl, ?_, HBi.out⟩
      have := HOi.out
      rw [List.take_of_length_le (by rw [HLEN.out]; exact Nat.le_refl _)] at this
      exact this
set_option maxHeartbeats 2000000 in
set_option maxRecDepth 100000 in
theorem tVisit_calls (l : Nat → Nat) (w : World) (q p n : Nat) (V kv vv : Value) (S : List Slot) (kx vx : List Int) (dn : Bool) (o : Nat) (h : ∀ wr, Below o w wr → TrC l wr q p V n S kv kx vv vx dn) (hn : n ≤ 1099511627775) (ho : OutZ w o []) :
    Calls Try.prog 67 #[.pointer (some ⟨p, 0, none⟩), .func (.func 78) #[] #[.pointer (some ⟨o, 0, none⟩)]] w fun e w' => e = .returned (.tuple #[]) ∧ OutZ w' o ((kvs S n).map toZ) ∧ Below o w w' := by
  have h0 := h w (Below.refl _ _)
  obtain ⟨A0, c0, rfl⟩ := h0.2.2.2.1.shape
  obtain ⟨x0, _⟩ := h0.c0
  have HV := Lib.hid (visitZ_calls l w (q + 3) n _ S o (fun wr hb => (h wr hb).2.2.2.1) (by omega) ho)
  clear h h0 ho
  go_enter Try.func67, Try.ntmps67
  go_wp2_with (go_at_call 79; refine HV.out.mono ?_; rintro e w2 ⟨rfl, b3, s3⟩; have B3 := Lib.hid b3; have S3 := Lib.hid s3; clear b3 s3)
  go_end0
  exact ⟨rfl, B3.out, S3.out⟩
set_option maxHeartbeats 2000000 in
set_option maxRecDepth 100000 in
theorem tAll_calls (l : Nat → Nat) (w : World) (q p n : Nat) (V kv vv : Value) (S : List Slot) (kx vx : List Int) (dn : Bool) (h : TrC l w q p V n S kv kx vv vx dn) (hn : n ≤ 1099511627775) :
    Calls Try.prog 66 #[.func (.func 67) #[.pointer (some ⟨p, 0, none⟩)] #[]] w fun e w' => ∃ v, e = .returned v ∧ Kd.R k96 96 w' w.heap.size (fun _ => True) v ((kvs S n).map toZ) ∧ Below w.heap.size w w' := by
  obtain ⟨W, hW⟩ : ∃ W, w.alloc (.cells #[.slice none 0 0] 82) = W := ⟨_, rfl⟩
  have hb : Below w.heap.size w W := by rw [← hW]; exact (Below.refl _ _).alloc (Nat.le_refl _) _
  have ho : OutZ W w.heap.size [] := ⟨_, by rw [← hW]; exact heap_alloc_new w _, Kd.R_nil _ _ _ _ _⟩
  have HV := Lib.hid (tVisit_calls l W q p n V kv vv S kx vx dn w.heap.size (fun wr hbr => h.keep (Stp.of_below_same (hb.trans hbr) (fun _ => False) l) (fun _ k => k.elim)) hn ho)
  have HB := Lib.hid hb
  have hmf : ∀ (fn : Fn) (first cap : Array Value) (w : World), (Instr.makeFunc fn first cap).run Try.prog w = .ok (.func fn first cap) w := fun _ _ _ _ => rfl
  have hcf : ∀ (args : Array Value) (W : World), (callFunc 67 args).run Try.prog W = .ok (.enter 67 args) W := fun _ _ => rfl
  have HW := Lib.hid hW
  clear h hW hb ho
  go_enter Try.func66, Try.ntmps66
  go_wp2_with (
    go_at_call 67
    rw [HW.out]
    refine HV.out.mono ?_
    rintro e w2 ⟨rfl, ⟨v, b1, b2⟩, s3⟩
    obtain ⟨A1, c1, rfl⟩ := Kd.R_slice b2
    obtain ⟨N1, hN1⟩ : ∃ k, ((kvs S n).map toZ).length = k := ⟨_, rfl⟩
    rw [hN1] at b1 b2
    have y0 : w2.cell? ⟨w.heap.size, 0, none⟩ = some (.slice A1 N1 c1) := by rw [cell_of_row w2 _ 0 _ _ (0, 0) b1]; rfl
    have B2 := Lib.hid b2
    have S3 := Lib.hid s3
    clear b1 b2 s3 hN1)
  go_ret
  exact ⟨_, rfl, Kd.R_mono (Kd.R_lower B2.out (by omega)) (fun _ _ => trivial), HB.out.trans S3.out⟩
set_option maxHeartbeats 2000000 in
set_option maxRecDepth 100000 in
theorem tZz_calls (l : Nat → Nat) (w : World) (q p n : Nat) (V kv vv : Value) (S : List Slot) (kx vx : List Int) (dn : Bool) (h : TrC l w q p V n S kv kx vv vx dn) (hn : n ≤ 1099511627775) :
    Calls Try.prog 48 #[.pointer (some ⟨p, 0, none⟩)] w fun e w' => ∃ v, e = .returned v ∧ Kd.R k96 96 w' w.heap.size (fun _ => True) v ((kvs S n).map toZ) ∧ Below w.heap.size w w' := by
  have HA := Lib.hid (tAll_calls l w q p n V kv vv S kx vx dn h hn)
  have hmf : ∀ (fn : Fn) (first cap : Array Value) (w : World), (Instr.makeFunc fn first cap).run Try.prog w = .ok (.func fn first cap) w := fun _ _ _ _ => rfl
  clear h
  go_enter Try.func48, Try.ntmps48
  go_wp2_with (
    go_at_call 66
    refine HA.out.mono ?_
    rintro e w2 ⟨v, rfl, b2, s3⟩
    have B2 := Lib.hid b2
    have S3 := Lib.hid s3
    clear b2 s3)
  go_ret
  exact ⟨_, rfl, B2.out, S3.out⟩
end Go.Proofs.Ytoimkmoalmmooaa.Own
namespace Go.Proofs.Ytoimkmoalmmooaa.Own
open Go.RowKit Go.Proofs.YtoimkmoalmmooaaW.PrintWords Go.Proofs.YtoimkmoalmmooaaW.PrintLast Go.Proofs.YtoimkmoalmmooaaW.PrintMore Go.Proofs.Ytoimkmoalmmooaa.Base Go.Proofs.Ytoimkmoalmmooaa.Gv Go.Proofs.Ytoimkmoalmmooaa.Given
def HeadT (l : Nat → Nat) (w : World) (q p n : Nat) (V kv : Value) (S : List Slot) (kx : List Int) (dn : Bool) (T : List Int) (e : Ending) (w' : World) : Prop :=
  ∃ l1 A1 N1 c1, e = .returned (.slice A1 N1 c1) ∧ N1 = T.length ∧ TrC l1 w' q p V n S kv kx (.slice A1 N1 c1) T dn ∧ Stp (Tz q) l l1 w w'
set_option maxHeartbeats 1000000 in
set_option maxRecDepth 100000 in
theorem tHeader_calls (l : Nat → Nat) (w : World) (q p n : Nat) (V kv vv : Value) (S : List Slot) (kx vx : List Int) (dn : Bool) (h : TrC l w q p V n S kv kx vv vx dn) (hn : n ≤ 1099511627775) (hr : RgK (kvs S n)) (hl : sizeKV (kvs S n) + 2 ≤ 140737488355328) :
    Calls Try.prog 27 #[.pointer (some ⟨p, 0, none⟩)] w fun e w' => HeadT l w q p n V kv S kx dn (linesOf (kvs S n) ++ [13, 10]) e w' := by
  obtain ⟨q0, q1, t3, t4, t5, t6⟩ := h
  obtain ⟨A2, c2, rfl, _⟩ := t6.slice
  have hcz := cutz
  have x2 : w.cell? ⟨p, 2, none⟩ = some (.slice A2 vx.length c2) := by rw [t3.cell]; rfl
  obtain ⟨m, hm⟩ : ∃ m, vx.length = m := ⟨_, rfl⟩
  have HA := Lib.hid (tAppend_calls l w q (q + 3) (q + 2) p n V S _ t3 rfl t4 hn (.slice A2 0 c2) [] t6.cut0.2 (by omega) (by omega) hr (by simpa using hl))
  have T3 := Lib.hid t3
  have T4 := Lib.hid t4
  have T5 := Lib.hid t5
  rw [hm] at x2
  clear t3 t4 t5 t6 hm hr hl
  go_enter Try.func27, Try.ntmps27
  go_wp2_with (
    go_at_call 53
    refine HA.out.mono ?_
    rintro e w1 ⟨l1, A1, N1, c1, rfl, h1, h2, h3⟩
    rw [List.nil_append] at h1 h2
    obtain ⟨⟨y0, g0⟩, k1, k2, k3⟩ := T3.out.field h3 (by omega) 2 (.slice A1 N1 c1)
    have y1 : w1.cell? ⟨p, 2, none⟩ = some (.slice A2 vx.length c2) := y0
    obtain ⟨m2, hm2⟩ : ∃ m, vx.length = m := ⟨_, rfl⟩
    rw [hm2] at y1
    have k4 := (T4.out.keep h3 (fun lab e => by subst e; omega)).keep k3 (fun lab e => by subst e; omega)
    have k5 := (T5.out.keep h3 (by omega)).keep k3 (by omega)
    have k6 := h2.keep k3 (by omega)
    have y3 : (w1.setCell ⟨p, 2, none⟩ (.slice A1 N1 c1)).cell? ⟨p, 2, none⟩ = some (.slice A1 N1 c1) := by rw [k1.cell]; rfl
    have K1 := Lib.hid k1
    have K2 := Lib.hid k2
    have K4 := Lib.hid k4
    have K5 := Lib.hid k5
    have K6 := Lib.hid k6
    have H1 := Lib.hid h1
    clear h1 h2 h3 y0 k1 k2 k3 k4 k5 k6 hm2)
  go_ret
  exact ⟨_, A1, N1, c1, rfl, H1.out, ⟨q0, q1, K1.out, K4.out, K5.out, K6.out⟩, K2.out.mono (fun x e => e.elim .inl (fun e => .inr (.inr (.inl e))))⟩
def joinC : List (List Int) → List Int
  | [] => []
  | [k] => k
  | k :: t => k ++ [44, 32] ++ joinC t
theorem joinC_cons (k : List Int) (t : List (List Int)) : joinC (k :: t) = k ++ ((if t = [] then [] else [44, 32]) ++ joinC t) := by
  cases t with
  | nil => simp [joinC]
  | cons a b => simp [joinC]
theorem label_bound (l : Nat → Nat) : ∀ n : Nat, ∃ M, ∀ b, b < n → l b < M
  | 0 => ⟨0, fun b hb => absurd hb (by omega)⟩
  | k + 1 => by
    obtain ⟨M, hM⟩ := label_bound l k
    refine ⟨max M (l k + 1), fun b hb => ?_⟩
    rcases Nat.lt_or_ge b k with h | h
    · have := hM b h; omega
    · obtain rfl : b = k := by omega
      omega
theorem fresh_label (l : Nat → Nat) (n : Nat) : ∃ zd, (∀ b, b < n → l b ≠ zd) ∧ 64 ≤ zd ∧ zd % 64 = 0 := by
  obtain ⟨M, hM⟩ := label_bound l n
  exact ⟨64 * (M + 1), fun b hb e => by have := hM b hb; omega, by omega, by omega⟩
set_option maxHeartbeats 4000000 in
set_option maxRecDepth 100000 in
theorem tNames_calls (l : Nat → Nat) (w : World) (q p n : Nat) (V kv vv : Value) (S : List Slot) (kx vx : List Int) (dn : Bool) (h : TrC l w q p V n S kv kx vv vx dn) (hn : n ≤ 1099511627775) (hl : sizeKV (kvs S n) ≤ 140737488355328) :
    Calls Try.prog 46 #[.pointer (some ⟨p, 0, none⟩)] w fun e w' => ∃ A N c, e = .returned (.slice A N c) ∧ ReadsInt w' .u8 A N (joinC ((kvs S n).map KVx.k)) ∧ N ≤ c ∧ Below w.heap.size w w' := by
  obtain ⟨zd, f1, f2, f3⟩ := fresh_label l w.heap.size
  obtain ⟨q0, q1, t3, t4, _, _⟩ := h
  have hk := t4
  obtain ⟨A0, c0, rfl⟩ := hk.shape
  have x0 : w.cell? ⟨p, 0, none⟩ = some (.slice A0 n c0) := by rw [t3.cell]; rfl
  have HD := Lib.hid t3
  have HK := Lib.hid t4
  have HF := Lib.hid f1
  have HLEN := Lib.hid (kvs_length hk.le)
  obtain ⟨RES, hRES⟩ : ∃ R, joinC ((kvs S n).map KVx.k) = R := ⟨_, rfl⟩
  rw [hRES]
  have HRES := Lib.hid hRES
  have HL := Lib.hid hl
  have HZ1 := Lib.hid (show zd ≠ q by omega)
  have HZ2 := Lib.hid (show zd % 64 ≠ q + 3 by omega)
  clear t3 t4 hk hRES f1 f2 f3 hl
  go_enter Try.func46, Try.ntmps46
  go_wp2
  go_quiet (fail)
  go_wp2
  go_loopw [3, 4, 6] (fun dv iv _ wr => ∃ (i N : Nat) (A : Option Addr) (c : Nat) (l1 : Nat → Nat) (acc : List Int), dv = .slice A N c ∧ iv = .int .i64 i ∧ i ≤ n ∧ Hid (N = acc.length) ∧ Hid (Bf l1 wr zd (.slice A N c) acc) ∧ Hid (acc ++ joinC (((kvs S n).drop i).map KVx.k) = RES) ∧ Hid (acc.length + sizeKV ((kvs S n).drop i) ≤ 140737488355328) ∧ Hid (Stp (· = zd) l l1 w wr)) (fun _ iv _ _ => n - (intOf iv).toNat)
  case atStart => exact ⟨0, 0, none, 0, l, [], rfl, rfl, by omega, Lib.hid rfl, Lib.hid (Bf.nil _ _ _), Lib.hid (by rw [List.drop_zero, List.nil_append]; exact HRES.out), Lib.hid (by rw [List.drop_zero]; simpa using HL.out), Lib.hid (drew_stp _ _ _ _)⟩
  case round =>
    obtain ⟨i, N, A, c, l1, acc, rfl, rfl, hi, HN, HBi, HE, HLi, HS⟩ := hrel
    by_cases hlt : i < n
    · have q1' : (i : Int) < (n : Int) := by omega
      have hdi := HD.out.keep HS.out (fun e => HZ1.out e.symm)
      have hki := HK.out.keep HS.out (fun lab e => by subst e; exact HZ2.out)
      have y0 : wr.cell? ⟨p, 0, none⟩ = some (.slice A0 n c0) := by rw [hdi.cell]; rfl
      obtain ⟨a, rfl, rfl, hle, hkv⟩ := hki.kv hlt
      obtain ⟨s, hs⟩ := get_some (S := S) (n := i) (by omega)
      obtain ⟨⟨A1, c1, ek, z0, hc1, r1⟩, _, _⟩ := hkv.look hs
      have hat := kvs_at (n := n) hs hlt
      have hdr : (kvs S n).drop i = ⟨s.kx, s.vx, s.no⟩ :: (kvs S n).drop (i + 1) := by
        obtain ⟨h1, e⟩ := List.getElem?_eq_some_iff.1 hat
        rw [List.drop_eq_getElem_cons h1, e]
      have hsz : acc.length + (s.kx.length + s.vx.length + 4 + sizeKV ((kvs S n).drop (i + 1))) ≤ 140737488355328 := by
        have := HLi.out
        rw [hdr, sizeKV_cons] at this
        exact this
      have hnil : ((kvs S n).drop (i + 1) = []) ↔ ¬ (i + 1 < n) := by rw [List.drop_eq_nil_iff, HLEN.out]; omega
      have hnext : acc ++ s.kx ++ ((if i + 1 < n then [44, 32] else []) ++ joinC (((kvs S n).drop (i + 1)).map KVx.k)) = RES := by
        rw [← HE.out, hdr, List.map_cons, joinC_cons]
        by_cases hh : i + 1 < n
        · rw [if_pos hh, if_neg (by rw [List.map_eq_nil_iff, hnil]; omega)]; simp
        · rw [if_neg hh, if_pos (by rw [List.map_eq_nil_iff, hnil]; omega)]; simp
      obtain ⟨kl, hkl⟩ : ∃ k, s.kx.length = k := ⟨_, rfl⟩
      rw [hkl] at z0 r1 hsz
      have HKL := Lib.hid hkl
      have R1 := Lib.hid r1
      have HNEXT := Lib.hid hnext
      have HSZ := Lib.hid hsz
      have hiS : i < S.length := by omega
      clear hdi hki hle hkv hs ek r1 hc1 hat hdr hnil hnext hsz hkl
      by_cases hlast : i + 1 < n
      · have q2 : (i : Int) + 1 < (n : Int) := by omega
        have hn1 := HNEXT.out
        rw [if_pos hlast] at hn1
        have HN1 := Lib.hid hn1
        clear hn1
        go_wp2_with (first
          | (at_builtin
             refine app_row zd rfl (.tmp 23) (.tmp 27) 54 rfl Try.underlying54 info8 _ acc s.kx A1 kl c1 rfl rfl HBi.out R1.out (by have := HSZ.out; omega) ?_
             intro v1 w1 l2 hB st _
             obtain ⟨A4, c4, rfl, hc4⟩ := hB.slice
             obtain ⟨N4, hN4⟩ : ∃ k, (acc ++ s.kx).length = k := ⟨_, rfl⟩
             rw [hN4] at hB
             rw [hN4]
             have HN4 := Lib.hid hN4
             have B4 := Lib.hid hB
             have S4 := Lib.hid (HS.out.trans st)
             clear hB st hc4 hN4)
          | (go_at_call 65
             refine (hertzstr_StrCommaSpace.calls [44, 32] _ rfl).mono ?_
             rintro e w5 ⟨v5, rfl, ho5, hb5⟩
             obtain ⟨A5, k5, rfl⟩ := MR.R_slice ho5
             have R5 := Lib.hid (mr_read ho5)
             have B5 := Lib.hid (B4.out.keep (below_stp hb5 (fun _ => False) l2) (fun k => k))
             have S5 := Lib.hid (S4.out.trans (below_stp hb5 (· = zd) l2))
             clear ho5 hb5)
          | (at_builtin
             refine app_row zd rfl (.tmp 33) (.tmp 34) 54 rfl Try.underlying54 info8 _ (acc ++ s.kx) [44, 32] A5 2 k5 rfl rfl B5.out R5.out (by have := HSZ.out; rw [List.length_append, HKL.out]; omega) ?_
             intro v6 w6 l6 hB st _
             obtain ⟨A6, c6, rfl, hc6⟩ := hB.slice
             obtain ⟨N6, hN6⟩ : ∃ N, (acc ++ s.kx ++ [44, 32]).length = N := ⟨_, rfl⟩
             rw [hN6] at hB
             rw [hN6]
             have HN6 := Lib.hid hN6
             have B6 := Lib.hid hB
             have S6 := Lib.hid (S5.out.trans st)
             clear hB st hc6 hN6))
        go_roundw
        case rel => exact ⟨i + 1, N6, A6, c6, l6, _, rfl, by go_num, by omega, Lib.hid HN6.out.symm, B6, Lib.hid (by have := HN1.out; rw [← List.append_assoc] at this; exact this), Lib.hid (by have := HSZ.out; rw [List.length_append, List.length_append, HKL.out]; simp only [List.length_cons, List.length_nil]; omega), S6⟩
        case measure => simp [intOf]; omega
      · have q2 : ¬ ((i : Int) + 1 < (n : Int)) := by omega
        have hn1 := HNEXT.out
        rw [if_neg hlast] at hn1
        have HN1 := Lib.hid hn1
        clear hn1
        go_wp2_with (
          at_builtin
          refine app_row zd rfl (.tmp 23) (.tmp 27) 54 rfl Try.underlying54 info8 _ acc s.kx A1 kl c1 rfl rfl HBi.out R1.out (by have := HSZ.out; omega) ?_
          intro v1 w1 l2 hB st _
          obtain ⟨A4, c4, rfl, hc4⟩ := hB.slice
          obtain ⟨N4, hN4⟩ : ∃ k, (acc ++ s.kx).length = k := ⟨_, rfl⟩
          rw [hN4] at hB
          rw [hN4]
          have HN4 := Lib.hid hN4
          have B4 := Lib.hid hB
          have S4 := Lib.hid (HS.out.trans st)
          clear hB st hc4 hN4)
        go_roundw
        case rel => exact ⟨i + 1, N4, A4, c4, l2, _, rfl, by go_num, by omega, Lib.hid HN4.out.symm, B4, Lib.hid (by have := HN1.out; rwa [List.nil_append] at this), Lib.hid (by have := HSZ.out; rw [List.length_append, HKL.out]; omega), S4⟩
        case measure => simp [intOf]; omega
    · obtain rfl : n = i := by omega
      have q1' : ¬ ((n : Int) < (n : Int)) := by omega
      have hres : acc = RES := by
        have := HE.out
        rw [List.drop_eq_nil_of_le (by rw [HLEN.out]; exact Nat.le_refl _)] at this
        simpa [joinC] using this
      have HRS := Lib.hid hres
      clear hres
      go_wp2
      go_ret
      obtain ⟨A', c', e, hc'⟩ := HBi.out.slice
      cases e
      refine ⟨_, _, _, rfl, ?_, hc', HS.out.below (Nat.le_refl _) (fun b hb e => HF.out b hb e)⟩
      have := HBi.out.reads
      rw [← HRS.out]
      exact this
open Go.Proofs.Ytoimkmoalmmooaa.QA Go.Proofs.Ytoimkmoalmmooaa.PrX
def W3 (w : World) (s : S28) : World := ((w.alloc (.cells #[.int .i64 s.f0, .string s.f1, .string s.f2, .int .i64 s.f3, .int .i64 s.f4] 28)).alloc (.cells #[.string ⟨#[]⟩, .bool false, .int .i64 0, .slice none 0 0, .slice none 0 0] 32)).alloc (.cells #[.bool false] 4)
theorem W3_size (w : World) (s : S28) : (W3 w s).heap.size = w.heap.size + 3 := by simp [W3]
theorem W3_below (w : World) (s : S28) : Below w.heap.size w (W3 w s) := (((Below.refl _ _).alloc (Nat.le_refl _) _).alloc (by simp) _).alloc (by simp; omega) _
theorem W3_0 (w : World) (s : S28) : (W3 w s).heap[w.heap.size]? = some (.cells #[.int .i64 s.f0, .string s.f1, .string s.f2, .int .i64 s.f3, .int .i64 s.f4] 28 (0, 0)) := blk_alloc (blk_alloc (heap_alloc_new w _) _) _
theorem W3_1 (w : World) (s : S28) : (W3 w s).heap[w.heap.size + 1]? = some (.cells #[.string ⟨#[]⟩, .bool false, .int .i64 0, .slice none 0 0, .slice none 0 0] 32 (0, 0)) := by
  have := heap_alloc_new (w.alloc (.cells #[.int .i64 s.f0, .string s.f1, .string s.f2, .int .i64 s.f3, .int .i64 s.f4] 28)) (.cells #[.string ⟨#[]⟩, .bool false, .int .i64 0, .slice none 0 0, .slice none 0 0] 32)
  simp only [World.size_alloc] at this
  exact blk_alloc this _
theorem W3_2 (w : World) (s : S28) : (W3 w s).heap[w.heap.size + 2]? = some (.cells #[.bool false] 4 (0, 0)) := by
  have := heap_alloc_new ((w.alloc (.cells #[.int .i64 s.f0, .string s.f1, .string s.f2, .int .i64 s.f3, .int .i64 s.f4] 28)).alloc (.cells #[.string ⟨#[]⟩, .bool false, .int .i64 0, .slice none 0 0, .slice none 0 0] 32)) (.cells #[.bool false] 4)
  simpa [W3] using this
theorem Stp.setNew {F : Nat → Prop} {l l1 : Nat → Nat} {w w1 : World} (h : Stp F l l1 w w1) {a : Addr} (ha : w.heap.size ≤ a.block) (v : Value) : Stp F l l1 w (w1.setCell a v) :=
  ⟨h.os, h.tape, h.output, by rw [World.size_setCell]; exact h.size, h.lab, fun b hb hf => (Below.heap_setCell _ _ _ _ (by omega)).trans (h.block b hb hf)⟩
theorem TrC.setFar {l : Nat → Nat} {w : World} {q p n : Nat} {V kv vv : Value} {S : List Slot} {kx vx : List Int} {dn : Bool} (h : TrC l w q p V n S kv kx vv vx dn) {a : Addr} (ha : l a.block = 0) (v : Value) : TrC l (w.setCell a v) q p V n S kv kx vv vx dn :=
  h.keep (Stp.set w a v) (fun lab e k => by have := h.1; have := h.2.1; rw [ha] at e; subst e; unfold Tz at k; omega)
theorem trailer_idle (p q : Addr) (w : World) :
    CallsD Try.prog 40 #[.pointer (some p), .pointer (some q)] .returning w fun e u' w' => e = .returned (.tuple #[]) ∧ u' = .returning ∧ w' = w := by
  refine callsD_of_wpS Try.func40 rfl fun c₀ cs hu => ?_
  apply wpS_seq
  apply wpS_region
  simp [wpOpsS, go_sem, recoverD, hu, Try.ntmps40, Exit.thenS]
  refine wpS_cond (t := false) (by simp [Act.eval, Array.replicate]) ?_
  simp only [Bool.false_eq_true, if_false]
  refine wpS_of_wp (wp_skip ?_)
  cases c₀
  simp_all [bodyPostS, results, Try.results40]
theorem after5 {w : World} {b1 b2 : Nat} {a0 a1 a2 a3 a4 x : Value} (r1 : w.heap[b1]? = some (.cells #[a0, a1, a2, a3, a4] 32 (0, 0))) (r2 : w.heap[b2]? = some (.cells #[x] 4 (0, 0))) (hne : b1 ≠ b2) :
    ((((((w.setCell ⟨b1, 0, none⟩ a0).setCell ⟨b1, 1, none⟩ a1).setCell ⟨b1, 2, none⟩ a2).setCell ⟨b1, 3, none⟩ a3).setCell ⟨b1, 4, none⟩ a4).setCell ⟨b2, 0, none⟩ (.bool true)).heap[b1]? = some (.cells #[a0, a1, a2, a3, a4] 32 (0, 0)) ∧
    ((((((w.setCell ⟨b1, 0, none⟩ a0).setCell ⟨b1, 1, none⟩ a1).setCell ⟨b1, 2, none⟩ a2).setCell ⟨b1, 3, none⟩ a3).setCell ⟨b1, 4, none⟩ a4).setCell ⟨b2, 0, none⟩ (.bool true)).heap[b2]? = some (.cells #[.bool true] 4 (0, 0)) := by
  have s0 := heap_setCell_same w b1 0 _ 32 a0 r1
  have s1 := heap_setCell_same _ b1 1 _ 32 a1 s0
  have s2 := heap_setCell_same _ b1 2 _ 32 a2 s1
  have s3 := heap_setCell_same _ b1 3 _ 32 a3 s2
  have s4 := heap_setCell_same _ b1 4 _ 32 a4 s3
  have hn : ∀ (W : World) (o : Nat) (v : Value), (W.setCell ⟨b1, o, none⟩ v).heap[b2]? = W.heap[b2]? := fun W o v => Below.heap_setCell _ _ _ _ (fun e => hne e.symm)
  refine ⟨?_, ?_⟩
  · rw [Below.heap_setCell _ _ _ _ (show b1 ≠ b2 from hne), s4]
    rfl
  · have t0 : (((((w.setCell ⟨b1, 0, none⟩ a0).setCell ⟨b1, 1, none⟩ a1).setCell ⟨b1, 2, none⟩ a2).setCell ⟨b1, 3, none⟩ a3).setCell ⟨b1, 4, none⟩ a4).heap[b2]? = some (.cells #[x] 4 (0, 0)) := by rw [hn, hn, hn, hn, hn]; exact r2
    rw [heap_setCell_same _ b2 0 _ _ (.bool true) t0]
    rfl
def StepT (l : Nat → Nat) (w : World) (q p n : Nat) (dn' : Bool) (T : ByteArray) (is : Bool) (P : List S34) (R : List KVx) (e : Ending) (w' : World) : Prop :=
  ∃ l1 V1 n1 S1 kv1 kx1 vv1 vx1 PV, e = .returned (.tuple #[.agg #[.string T, .bool is, .int .i64 0, .slice none 0 0, PV], .bool true]) ∧ TrC l1 w' q p V1 n1 S1 kv1 kx1 vv1 vx1 dn' ∧ n1 ≤ n + 1 ∧ kvs S1 n1 = R ∧ Kd.R k34 34 w' w.heap.size (fun k => l1 k = 0) PV P ∧ Stp (Tz q) l l1 w w'
set_option maxHeartbeats 4000000 in
set_option maxRecDepth 100000 in
theorem trailer_get (l : Nat → Nat) (w : World) (q p n : Nat) (V kv vv : Value) (S : List Slot) (kx vx : List Int) (dn : Bool) (h : TrC l w q p V n S kv kx vv vx dn) (hn : n ≤ 1099511627775) (s : S28) (hks : s.f1.size ≤ 140737488351232) (hdo : s.f0 = 3) :
    Calls Try.prog 26 #[.pointer (some ⟨p, 0, none⟩), .agg #[.int .i64 s.f0, .string s.f1, .string s.f2, .int .i64 s.f3, .int .i64 s.f4]] w fun e w' => StepT l w q p n (dn) (strOfNums ((getKV (nkd dn (ns s.f1)) (kvs S n)).getD [])) (false) ([]) (kvs S n) e w' := by
  have st0 := Stp.of_below (W3_below w s) (fun _ => False) l 0
  have hT := h.keep st0 (fun _ k => k.elim)
  have y0 := W3_0 w s
  have y1 := W3_1 w s
  have y2 := W3_2 w s
  have hsz := W3_size w s
  obtain ⟨W, hW⟩ : ∃ W, W3 w s = W := ⟨_, rfl⟩
  have hW' := hW
  rw [hW] at hT st0 y0 y1 y2 hsz
  unfold W3 at hW'
  obtain ⟨TX, hTX⟩ : ∃ T, strOfNums ((getKV (nkd dn (ns s.f1)) (kvs S n)).getD []) = T := ⟨_, rfl⟩
  have hg := tGet_calls _ W q p n V kv vv S kx vx dn hT hn s.f1 hks
  rw [hTX] at hg ⊢
  have HG := Lib.hid hg
  clear hg hTX
  have HT := Lib.hid hT
  have HS0 := Lib.hid st0
  have Y1 := Lib.hid y1
  have Y2 := Lib.hid y2
  have c0 : W.cell? ⟨w.heap.size, 0, none⟩ = some (.int .i64 s.f0) := by rw [cell_of_row W _ 0 _ _ (0, 0) y0]; rfl
  have c1 : W.cell? ⟨w.heap.size, 1, none⟩ = some (.string s.f1) := by rw [cell_of_row W _ 1 _ _ (0, 0) y0]; rfl
  have c2 : W.cell? ⟨w.heap.size, 2, none⟩ = some (.string s.f2) := by rw [cell_of_row W _ 2 _ _ (0, 0) y0]; rfl
  rw [hdo] at c0
  have HW := Lib.hid hW'
  have HSZ := Lib.hid hsz
  rw [← hW'] at c0 c1 c2
  have hmf : ∀ (fn : Fn) (first cap : Array Value) (w : World), (Instr.makeFunc fn first cap).run Try.prog w = .ok (.func fn first cap) w := fun _ _ _ _ => rfl
  have HDO := Lib.hid hdo
  clear h hT y0 y1 y2 st0 hW hW' hsz hdo
  go_enter_defers Try.func26, Try.ntmps26
  go_wp2_with (first
    | (go_at_call 44
       rw [HW.out]
       refine HG.out.mono ?_
       rintro e w4 ⟨rfl, hb⟩
       have st4 : Stp (Tz q) (ext l w.heap.size 0) (ext l w.heap.size 0) W w4 := Stp.of_below_same hb _ _
       have hT4 := HT.out.keep (Stp.of_below_same hb (fun _ => False) (ext l w.heap.size 0)) (fun _ k => k.elim)
       
       have lt1 : w.heap.size + 1 < W.heap.size := by rw [HSZ.out]; omega
       have lt2 : w.heap.size + 2 < W.heap.size := by rw [HSZ.out]; omega
       have lb0 : ¬ Tz q 0 := by have := HT.out.1; have := HT.out.2.1; unfold Tz; omega
       have r1 := (st4.block (w.heap.size + 1) lt1 (by rw [ext_new l (by omega)]; exact lb0)).trans Y1.out
       have r2 := (st4.block (w.heap.size + 2) lt2 (by rw [ext_new l (by omega)]; exact lb0)).trans Y2.out
       have lb1 := (st4.lab (w.heap.size + 1) lt1).trans (ext_new l (by omega))
       have lb2 := (st4.lab (w.heap.size + 2) lt2).trans (ext_new l (by omega))
       have a0 : w4.cell? ⟨w.heap.size + 1, 0, none⟩ = some (.string ⟨#[]⟩) := by rw [cell_of_row w4 _ 0 _ _ (0, 0) r1]; rfl
       have a1 : w4.cell? ⟨w.heap.size + 1, 1, none⟩ = some (.bool false) := by rw [cell_of_row w4 _ 1 _ _ (0, 0) r1]; rfl
       have a2 : w4.cell? ⟨w.heap.size + 1, 2, none⟩ = some (.int .i64 0) := by rw [cell_of_row w4 _ 2 _ _ (0, 0) r1]; rfl
       have a3 : w4.cell? ⟨w.heap.size + 1, 3, none⟩ = some (.slice none 0 0) := by rw [cell_of_row w4 _ 3 _ _ (0, 0) r1]; rfl
       have a4 : w4.cell? ⟨w.heap.size + 1, 4, none⟩ = some (.slice none 0 0) := by rw [cell_of_row w4 _ 4 _ _ (0, 0) r1]; rfl
       have b0 : w4.cell? ⟨w.heap.size + 2, 0, none⟩ = some (.bool false) := by rw [cell_of_row w4 _ 0 _ _ (0, 0) r2]; rfl
       have e0 := frozen_of_row w4 (w.heap.size + 1) 0 _ _ r1
       have e1 := frozen_of_row w4 (w.heap.size + 1) 1 _ _ r1
       have e2 := frozen_of_row w4 (w.heap.size + 1) 2 _ _ r1
       have e3 := frozen_of_row w4 (w.heap.size + 1) 3 _ _ r1
       have e4 := frozen_of_row w4 (w.heap.size + 1) 4 _ _ r1
       have e5 := frozen_of_row w4 (w.heap.size + 2) 0 _ _ r2
       have R1 := Lib.hid r1
       have R2 := Lib.hid r2
       have HT4 := Lib.hid hT4
       have ST4 := Lib.hid st4
       have LB1 := Lib.hid lb1
       have LB2 := Lib.hid lb2
       clear lt1 lt2 lb0 r1 r2 hT4 st4 lb1 lb2
       clear hb))
  refine leaves_cons (f := 40) (args := #[.pointer (some ⟨w.heap.size + 1, 0, none⟩), .pointer (some ⟨w.heap.size + 1 + 1, 0, none⟩)]) (by simp) (by simp [go_sem]) ?_
  refine (trailer_idle ⟨w.heap.size + 1, 0, none⟩ ⟨w.heap.size + 1 + 1, 0, none⟩ _).mono ?_
  rintro e u' w'' ⟨rfl, rfl, rfl⟩
  have r1' := heap_setCell_same w4 (w.heap.size + 1) 0 _ 32 (.string TX) R1.out
  have r2' : (w4.setCell ⟨w.heap.size + 1, 0, none⟩ (.string TX)).heap[w.heap.size + 1 + 1]? = some (.cells #[.bool false] 4 (0, 0)) := by
    rw [Below.heap_setCell _ _ _ _ (show w.heap.size + 1 + 1 ≠ w.heap.size + 1 by omega)]; exact R2.out
  obtain ⟨f1, f2⟩ := after5 (a0 := .string TX) (a1 := .bool false) (a2 := .int .i64 0) (a3 := .slice none 0 0) (a4 := .slice none 0 0) r1' r2' (by omega)
  have HT5 := Lib.hid (((((((HT4.out.setFar (a := ⟨w.heap.size + 1, 0, none⟩) LB1.out (.string TX)).setFar (a := ⟨w.heap.size + 1, 0, none⟩) LB1.out (.string TX)).setFar (a := ⟨w.heap.size + 1, 1, none⟩) LB1.out (.bool false)).setFar (a := ⟨w.heap.size + 1, 2, none⟩) LB1.out (.int .i64 0)).setFar (a := ⟨w.heap.size + 1, 3, none⟩) LB1.out (.slice none 0 0)).setFar (a := ⟨w.heap.size + 1, 4, none⟩) LB1.out (.slice none 0 0)).setFar (a := ⟨w.heap.size + 1 + 1, 0, none⟩) LB2.out (.bool true))
  have HS5 := Lib.hid (((((((((HS0.out.mono (fun _ k => k.elim) : Stp (Tz q) _ _ _ _).trans ST4.out).setNew (a := ⟨w.heap.size + 1, 0, none⟩) (by show _ ≤ w.heap.size + 1; omega) (.string TX)).setNew (a := ⟨w.heap.size + 1, 0, none⟩) (by show _ ≤ w.heap.size + 1; omega) (.string TX)).setNew (a := ⟨w.heap.size + 1, 1, none⟩) (by show _ ≤ w.heap.size + 1; omega) (.bool false)).setNew (a := ⟨w.heap.size + 1, 2, none⟩) (by show _ ≤ w.heap.size + 1; omega) (.int .i64 0)).setNew (a := ⟨w.heap.size + 1, 3, none⟩) (by show _ ≤ w.heap.size + 1; omega) (.slice none 0 0)).setNew (a := ⟨w.heap.size + 1, 4, none⟩) (by show _ ≤ w.heap.size + 1; omega) (.slice none 0 0)).setNew (a := ⟨w.heap.size + 1 + 1, 0, none⟩) (by show _ ≤ w.heap.size + 1 + 1; omega) (.bool true))
  clear r1' r2' a0 a1 a2 a3 a4 b0 e0 e1 e2 e3 e4 e5
  generalize (((((((w4.setCell ⟨w.heap.size + 1, 0, none⟩ (.string TX)).setCell ⟨w.heap.size + 1, 0, none⟩ (.string TX)).setCell ⟨w.heap.size + 1, 1, none⟩ (.bool false)).setCell ⟨w.heap.size + 1, 2, none⟩ (.int .i64 0)).setCell ⟨w.heap.size + 1, 3, none⟩ (.slice none 0 0)).setCell ⟨w.heap.size + 1, 4, none⟩ (.slice none 0 0)).setCell ⟨w.heap.size + 1 + 1, 0, none⟩ (.bool true)) = w5 at *
  have g0 : w5.cell? ⟨w.heap.size + 1, 0, none⟩ = some (.string TX) := by rw [cell_of_row w5 _ 0 _ _ (0, 0) f1]; rfl
  have g1 : w5.cell? ⟨w.heap.size + 1, 1, none⟩ = some (.bool false) := by rw [cell_of_row w5 _ 1 _ _ (0, 0) f1]; rfl
  have g2 : w5.cell? ⟨w.heap.size + 1, 2, none⟩ = some (.int .i64 0) := by rw [cell_of_row w5 _ 2 _ _ (0, 0) f1]; rfl
  have g3 : w5.cell? ⟨w.heap.size + 1, 3, none⟩ = some (.slice none 0 0) := by rw [cell_of_row w5 _ 3 _ _ (0, 0) f1]; rfl
  have g4 : w5.cell? ⟨w.heap.size + 1, 4, none⟩ = some (.slice none 0 0) := by rw [cell_of_row w5 _ 4 _ _ (0, 0) f1]; rfl
  have g5 : w5.cell? ⟨w.heap.size + 1 + 1, 0, none⟩ = some (.bool true) := by rw [cell_of_row w5 _ 0 _ _ (0, 0) f2]; rfl
  simp [Leaves, settle, results, Try.results26, go_sem, g0, g1, g2, g3, g4, g5]
  exact ⟨_, _, _, _, _, _, _, _, _, rfl, HT5.out, by omega, rfl, Kd.R_nil _ _ _ _ _, HS5.out⟩
set_option maxHeartbeats 4000000 in
set_option maxRecDepth 100000 in
theorem trailer_del (l : Nat → Nat) (w : World) (q p n : Nat) (V kv vv : Value) (S : List Slot) (kx vx : List Int) (dn : Bool) (h : TrC l w q p V n S kv kx vv vx dn) (hn : n ≤ 1099511627775) (s : S28) (hks : s.f1.size ≤ 140737488351232) (hdo : s.f0 = 2) :
    Calls Try.prog 26 #[.pointer (some ⟨p, 0, none⟩), .agg #[.int .i64 s.f0, .string s.f1, .string s.f2, .int .i64 s.f3, .int .i64 s.f4]] w fun e w' => StepT l w q p n (dn) (⟨#[]⟩) (false) ([]) (delKV (strOfNums (nkd dn (ns s.f1))) (kvs S n)) e w' := by
  have st0 := Stp.of_below (W3_below w s) (fun _ => False) l 0
  have hT := h.keep st0 (fun _ k => k.elim)
  have y0 := W3_0 w s
  have y1 := W3_1 w s
  have y2 := W3_2 w s
  have hsz := W3_size w s
  obtain ⟨W, hW⟩ : ∃ W, W3 w s = W := ⟨_, rfl⟩
  have hW' := hW
  rw [hW] at hT st0 y0 y1 y2 hsz
  unfold W3 at hW'
  have HG := Lib.hid (tDel_calls _ W q p n V kv vv S kx vx dn hT hn s.f1 hks)
  have HT := Lib.hid hT
  have HS0 := Lib.hid st0
  have Y1 := Lib.hid y1
  have Y2 := Lib.hid y2
  have c0 : W.cell? ⟨w.heap.size, 0, none⟩ = some (.int .i64 s.f0) := by rw [cell_of_row W _ 0 _ _ (0, 0) y0]; rfl
  have c1 : W.cell? ⟨w.heap.size, 1, none⟩ = some (.string s.f1) := by rw [cell_of_row W _ 1 _ _ (0, 0) y0]; rfl
  have c2 : W.cell? ⟨w.heap.size, 2, none⟩ = some (.string s.f2) := by rw [cell_of_row W _ 2 _ _ (0, 0) y0]; rfl
  rw [hdo] at c0
  have HW := Lib.hid hW'
  have HSZ := Lib.hid hsz
  rw [← hW'] at c0 c1 c2
  have hmf : ∀ (fn : Fn) (first cap : Array Value) (w : World), (Instr.makeFunc fn first cap).run Try.prog w = .ok (.func fn first cap) w := fun _ _ _ _ => rfl
  have HDO := Lib.hid hdo
  clear h hT y0 y1 y2 st0 hW hW' hsz hdo
  go_enter_defers Try.func26, Try.ntmps26
  go_wp2_with (first
    | (go_at_call 43
       rw [HW.out]
       refine HG.out.mono ?_
       rintro e w4 ⟨l4, V1, n1, S1, kv1, kx1, vv1, vx1, rfl, hT4, hle, st4, hkv⟩
       have HLE := Lib.hid hle
       have HKV := Lib.hid hkv
       clear hle hkv
       
       have lt1 : w.heap.size + 1 < W.heap.size := by rw [HSZ.out]; omega
       have lt2 : w.heap.size + 2 < W.heap.size := by rw [HSZ.out]; omega
       have lb0 : ¬ Tz q 0 := by have := HT.out.1; have := HT.out.2.1; unfold Tz; omega
       have r1 := (st4.block (w.heap.size + 1) lt1 (by rw [ext_new l (by omega)]; exact lb0)).trans Y1.out
       have r2 := (st4.block (w.heap.size + 2) lt2 (by rw [ext_new l (by omega)]; exact lb0)).trans Y2.out
       have lb1 := (st4.lab (w.heap.size + 1) lt1).trans (ext_new l (by omega))
       have lb2 := (st4.lab (w.heap.size + 2) lt2).trans (ext_new l (by omega))
       have a0 : w4.cell? ⟨w.heap.size + 1, 0, none⟩ = some (.string ⟨#[]⟩) := by rw [cell_of_row w4 _ 0 _ _ (0, 0) r1]; rfl
       have a1 : w4.cell? ⟨w.heap.size + 1, 1, none⟩ = some (.bool false) := by rw [cell_of_row w4 _ 1 _ _ (0, 0) r1]; rfl
       have a2 : w4.cell? ⟨w.heap.size + 1, 2, none⟩ = some (.int .i64 0) := by rw [cell_of_row w4 _ 2 _ _ (0, 0) r1]; rfl
       have a3 : w4.cell? ⟨w.heap.size + 1, 3, none⟩ = some (.slice none 0 0) := by rw [cell_of_row w4 _ 3 _ _ (0, 0) r1]; rfl
       have a4 : w4.cell? ⟨w.heap.size + 1, 4, none⟩ = some (.slice none 0 0) := by rw [cell_of_row w4 _ 4 _ _ (0, 0) r1]; rfl
       have b0 : w4.cell? ⟨w.heap.size + 2, 0, none⟩ = some (.bool false) := by rw [cell_of_row w4 _ 0 _ _ (0, 0) r2]; rfl
       have e0 := frozen_of_row w4 (w.heap.size + 1) 0 _ _ r1
       have e1 := frozen_of_row w4 (w.heap.size + 1) 1 _ _ r1
       have e2 := frozen_of_row w4 (w.heap.size + 1) 2 _ _ r1
       have e3 := frozen_of_row w4 (w.heap.size + 1) 3 _ _ r1
       have e4 := frozen_of_row w4 (w.heap.size + 1) 4 _ _ r1
       have e5 := frozen_of_row w4 (w.heap.size + 2) 0 _ _ r2
       have R1 := Lib.hid r1
       have R2 := Lib.hid r2
       have HT4 := Lib.hid hT4
       have ST4 := Lib.hid st4
       have LB1 := Lib.hid lb1
       have LB2 := Lib.hid lb2
       clear lt1 lt2 lb0 r1 r2 hT4 st4 lb1 lb2))
  refine leaves_cons (f := 40) (args := #[.pointer (some ⟨w.heap.size + 1, 0, none⟩), .pointer (some ⟨w.heap.size + 1 + 1, 0, none⟩)]) (by simp) (by simp [go_sem]) ?_
  refine (trailer_idle ⟨w.heap.size + 1, 0, none⟩ ⟨w.heap.size + 1 + 1, 0, none⟩ _).mono ?_
  rintro e u' w'' ⟨rfl, rfl, rfl⟩
  have r1' := R1.out
  have r2' := R2.out
  obtain ⟨f1, f2⟩ := after5 (a0 := .string ⟨#[]⟩) (a1 := .bool false) (a2 := .int .i64 0) (a3 := .slice none 0 0) (a4 := .slice none 0 0) r1' r2' (by omega)
  have HT5 := Lib.hid ((((((HT4.out.setFar (a := ⟨w.heap.size + 1, 0, none⟩) LB1.out (.string ⟨#[]⟩)).setFar (a := ⟨w.heap.size + 1, 1, none⟩) LB1.out (.bool false)).setFar (a := ⟨w.heap.size + 1, 2, none⟩) LB1.out (.int .i64 0)).setFar (a := ⟨w.heap.size + 1, 3, none⟩) LB1.out (.slice none 0 0)).setFar (a := ⟨w.heap.size + 1, 4, none⟩) LB1.out (.slice none 0 0)).setFar (a := ⟨w.heap.size + 1 + 1, 0, none⟩) LB2.out (.bool true))
  have HS5 := Lib.hid ((((((((HS0.out.mono (fun _ k => k.elim) : Stp (Tz q) _ _ _ _).trans ST4.out).setNew (a := ⟨w.heap.size + 1, 0, none⟩) (by show _ ≤ w.heap.size + 1; omega) (.string ⟨#[]⟩)).setNew (a := ⟨w.heap.size + 1, 1, none⟩) (by show _ ≤ w.heap.size + 1; omega) (.bool false)).setNew (a := ⟨w.heap.size + 1, 2, none⟩) (by show _ ≤ w.heap.size + 1; omega) (.int .i64 0)).setNew (a := ⟨w.heap.size + 1, 3, none⟩) (by show _ ≤ w.heap.size + 1; omega) (.slice none 0 0)).setNew (a := ⟨w.heap.size + 1, 4, none⟩) (by show _ ≤ w.heap.size + 1; omega) (.slice none 0 0)).setNew (a := ⟨w.heap.size + 1 + 1, 0, none⟩) (by show _ ≤ w.heap.size + 1 + 1; omega) (.bool true))
  clear r1' r2' a0 a1 a2 a3 a4 b0 e0 e1 e2 e3 e4 e5
  generalize ((((((w4.setCell ⟨w.heap.size + 1, 0, none⟩ (.string ⟨#[]⟩)).setCell ⟨w.heap.size + 1, 1, none⟩ (.bool false)).setCell ⟨w.heap.size + 1, 2, none⟩ (.int .i64 0)).setCell ⟨w.heap.size + 1, 3, none⟩ (.slice none 0 0)).setCell ⟨w.heap.size + 1, 4, none⟩ (.slice none 0 0)).setCell ⟨w.heap.size + 1 + 1, 0, none⟩ (.bool true)) = w5 at *
  have g0 : w5.cell? ⟨w.heap.size + 1, 0, none⟩ = some (.string ⟨#[]⟩) := by rw [cell_of_row w5 _ 0 _ _ (0, 0) f1]; rfl
  have g1 : w5.cell? ⟨w.heap.size + 1, 1, none⟩ = some (.bool false) := by rw [cell_of_row w5 _ 1 _ _ (0, 0) f1]; rfl
  have g2 : w5.cell? ⟨w.heap.size + 1, 2, none⟩ = some (.int .i64 0) := by rw [cell_of_row w5 _ 2 _ _ (0, 0) f1]; rfl
  have g3 : w5.cell? ⟨w.heap.size + 1, 3, none⟩ = some (.slice none 0 0) := by rw [cell_of_row w5 _ 3 _ _ (0, 0) f1]; rfl
  have g4 : w5.cell? ⟨w.heap.size + 1, 4, none⟩ = some (.slice none 0 0) := by rw [cell_of_row w5 _ 4 _ _ (0, 0) f1]; rfl
  have g5 : w5.cell? ⟨w.heap.size + 1 + 1, 0, none⟩ = some (.bool true) := by rw [cell_of_row w5 _ 0 _ _ (0, 0) f2]; rfl
  simp [Leaves, settle, results, Try.results26, go_sem, g0, g1, g2, g3, g4, g5]
  exact ⟨_, _, _, _, _, _, _, _, _, rfl, HT5.out, by have := HLE.out; omega, HKV.out, Kd.R_nil _ _ _ _ _, HS5.out⟩
set_option maxHeartbeats 4000000 in
set_option maxRecDepth 100000 in
theorem trailer_disable (l : Nat → Nat) (w : World) (q p n : Nat) (V kv vv : Value) (S : List Slot) (kx vx : List Int) (dn : Bool) (h : TrC l w q p V n S kv kx vv vx dn) (hn : n ≤ 1099511627775) (s : S28)  (hdo : s.f0 = 10) :
    Calls Try.prog 26 #[.pointer (some ⟨p, 0, none⟩), .agg #[.int .i64 s.f0, .string s.f1, .string s.f2, .int .i64 s.f3, .int .i64 s.f4]] w fun e w' => StepT l w q p n (true) (⟨#[]⟩) (false) ([]) (kvs S n) e w' := by
  have st0 := Stp.of_below (W3_below w s) (fun _ => False) l 0
  have hT := h.keep st0 (fun _ k => k.elim)
  have y0 := W3_0 w s
  have y1 := W3_1 w s
  have y2 := W3_2 w s
  have hsz := W3_size w s
  obtain ⟨W, hW⟩ : ∃ W, W3 w s = W := ⟨_, rfl⟩
  have hW' := hW
  rw [hW] at hT st0 y0 y1 y2 hsz
  unfold W3 at hW'
  have HG := Lib.hid (tDisable_calls _ W q p n V kv vv S kx vx dn hT)
  have HT := Lib.hid hT
  have HS0 := Lib.hid st0
  have Y1 := Lib.hid y1
  have Y2 := Lib.hid y2
  have c0 : W.cell? ⟨w.heap.size, 0, none⟩ = some (.int .i64 s.f0) := by rw [cell_of_row W _ 0 _ _ (0, 0) y0]; rfl
  have c1 : W.cell? ⟨w.heap.size, 1, none⟩ = some (.string s.f1) := by rw [cell_of_row W _ 1 _ _ (0, 0) y0]; rfl
  have c2 : W.cell? ⟨w.heap.size, 2, none⟩ = some (.string s.f2) := by rw [cell_of_row W _ 2 _ _ (0, 0) y0]; rfl
  rw [hdo] at c0
  have HW := Lib.hid hW'
  have HSZ := Lib.hid hsz
  rw [← hW'] at c0 c1 c2
  have hmf : ∀ (fn : Fn) (first cap : Array Value) (w : World), (Instr.makeFunc fn first cap).run Try.prog w = .ok (.func fn first cap) w := fun _ _ _ _ => rfl
  have HDO := Lib.hid hdo
  clear h hT y0 y1 y2 st0 hW hW' hsz hdo
  go_enter_defers Try.func26, Try.ntmps26
  go_wp2_with (first
    | (go_at_call 51
       rw [HW.out]
       refine HG.out.mono ?_
       rintro e w4 ⟨rfl, hT4, st4⟩
       
       have lt1 : w.heap.size + 1 < W.heap.size := by rw [HSZ.out]; omega
       have lt2 : w.heap.size + 2 < W.heap.size := by rw [HSZ.out]; omega
       have lb0 : ¬ Tz q 0 := by have := HT.out.1; have := HT.out.2.1; unfold Tz; omega
       have r1 := (st4.block (w.heap.size + 1) lt1 (by rw [ext_new l (by omega)]; exact lb0)).trans Y1.out
       have r2 := (st4.block (w.heap.size + 2) lt2 (by rw [ext_new l (by omega)]; exact lb0)).trans Y2.out
       have lb1 := (st4.lab (w.heap.size + 1) lt1).trans (ext_new l (by omega))
       have lb2 := (st4.lab (w.heap.size + 2) lt2).trans (ext_new l (by omega))
       have a0 : w4.cell? ⟨w.heap.size + 1, 0, none⟩ = some (.string ⟨#[]⟩) := by rw [cell_of_row w4 _ 0 _ _ (0, 0) r1]; rfl
       have a1 : w4.cell? ⟨w.heap.size + 1, 1, none⟩ = some (.bool false) := by rw [cell_of_row w4 _ 1 _ _ (0, 0) r1]; rfl
       have a2 : w4.cell? ⟨w.heap.size + 1, 2, none⟩ = some (.int .i64 0) := by rw [cell_of_row w4 _ 2 _ _ (0, 0) r1]; rfl
       have a3 : w4.cell? ⟨w.heap.size + 1, 3, none⟩ = some (.slice none 0 0) := by rw [cell_of_row w4 _ 3 _ _ (0, 0) r1]; rfl
       have a4 : w4.cell? ⟨w.heap.size + 1, 4, none⟩ = some (.slice none 0 0) := by rw [cell_of_row w4 _ 4 _ _ (0, 0) r1]; rfl
       have b0 : w4.cell? ⟨w.heap.size + 2, 0, none⟩ = some (.bool false) := by rw [cell_of_row w4 _ 0 _ _ (0, 0) r2]; rfl
       have e0 := frozen_of_row w4 (w.heap.size + 1) 0 _ _ r1
       have e1 := frozen_of_row w4 (w.heap.size + 1) 1 _ _ r1
       have e2 := frozen_of_row w4 (w.heap.size + 1) 2 _ _ r1
       have e3 := frozen_of_row w4 (w.heap.size + 1) 3 _ _ r1
       have e4 := frozen_of_row w4 (w.heap.size + 1) 4 _ _ r1
       have e5 := frozen_of_row w4 (w.heap.size + 2) 0 _ _ r2
       have R1 := Lib.hid r1
       have R2 := Lib.hid r2
       have HT4 := Lib.hid hT4
       have ST4 := Lib.hid st4
       have LB1 := Lib.hid lb1
       have LB2 := Lib.hid lb2
       clear lt1 lt2 lb0 r1 r2 hT4 st4 lb1 lb2))
  refine leaves_cons (f := 40) (args := #[.pointer (some ⟨w.heap.size + 1, 0, none⟩), .pointer (some ⟨w.heap.size + 1 + 1, 0, none⟩)]) (by simp) (by simp [go_sem]) ?_
  refine (trailer_idle ⟨w.heap.size + 1, 0, none⟩ ⟨w.heap.size + 1 + 1, 0, none⟩ _).mono ?_
  rintro e u' w'' ⟨rfl, rfl, rfl⟩
  have r1' := R1.out
  have r2' := R2.out
  obtain ⟨f1, f2⟩ := after5 (a0 := .string ⟨#[]⟩) (a1 := .bool false) (a2 := .int .i64 0) (a3 := .slice none 0 0) (a4 := .slice none 0 0) r1' r2' (by omega)
  have HT5 := Lib.hid ((((((HT4.out.setFar (a := ⟨w.heap.size + 1, 0, none⟩) LB1.out (.string ⟨#[]⟩)).setFar (a := ⟨w.heap.size + 1, 1, none⟩) LB1.out (.bool false)).setFar (a := ⟨w.heap.size + 1, 2, none⟩) LB1.out (.int .i64 0)).setFar (a := ⟨w.heap.size + 1, 3, none⟩) LB1.out (.slice none 0 0)).setFar (a := ⟨w.heap.size + 1, 4, none⟩) LB1.out (.slice none 0 0)).setFar (a := ⟨w.heap.size + 1 + 1, 0, none⟩) LB2.out (.bool true))
  have HS5 := Lib.hid ((((((((HS0.out.mono (fun _ k => k.elim) : Stp (Tz q) _ _ _ _).trans ST4.out).setNew (a := ⟨w.heap.size + 1, 0, none⟩) (by show _ ≤ w.heap.size + 1; omega) (.string ⟨#[]⟩)).setNew (a := ⟨w.heap.size + 1, 1, none⟩) (by show _ ≤ w.heap.size + 1; omega) (.bool false)).setNew (a := ⟨w.heap.size + 1, 2, none⟩) (by show _ ≤ w.heap.size + 1; omega) (.int .i64 0)).setNew (a := ⟨w.heap.size + 1, 3, none⟩) (by show _ ≤ w.heap.size + 1; omega) (.slice none 0 0)).setNew (a := ⟨w.heap.size + 1, 4, none⟩) (by show _ ≤ w.heap.size + 1; omega) (.slice none 0 0)).setNew (a := ⟨w.heap.size + 1 + 1, 0, none⟩) (by show _ ≤ w.heap.size + 1 + 1; omega) (.bool true))
  clear r1' r2' a0 a1 a2 a3 a4 b0 e0 e1 e2 e3 e4 e5
  generalize ((((((w4.setCell ⟨w.heap.size + 1, 0, none⟩ (.string ⟨#[]⟩)).setCell ⟨w.heap.size + 1, 1, none⟩ (.bool false)).setCell ⟨w.heap.size + 1, 2, none⟩ (.int .i64 0)).setCell ⟨w.heap.size + 1, 3, none⟩ (.slice none 0 0)).setCell ⟨w.heap.size + 1, 4, none⟩ (.slice none 0 0)).setCell ⟨w.heap.size + 1 + 1, 0, none⟩ (.bool true)) = w5 at *
  have g0 : w5.cell? ⟨w.heap.size + 1, 0, none⟩ = some (.string ⟨#[]⟩) := by rw [cell_of_row w5 _ 0 _ _ (0, 0) f1]; rfl
  have g1 : w5.cell? ⟨w.heap.size + 1, 1, none⟩ = some (.bool false) := by rw [cell_of_row w5 _ 1 _ _ (0, 0) f1]; rfl
  have g2 : w5.cell? ⟨w.heap.size + 1, 2, none⟩ = some (.int .i64 0) := by rw [cell_of_row w5 _ 2 _ _ (0, 0) f1]; rfl
  have g3 : w5.cell? ⟨w.heap.size + 1, 3, none⟩ = some (.slice none 0 0) := by rw [cell_of_row w5 _ 3 _ _ (0, 0) f1]; rfl
  have g4 : w5.cell? ⟨w.heap.size + 1, 4, none⟩ = some (.slice none 0 0) := by rw [cell_of_row w5 _ 4 _ _ (0, 0) f1]; rfl
  have g5 : w5.cell? ⟨w.heap.size + 1 + 1, 0, none⟩ = some (.bool true) := by rw [cell_of_row w5 _ 0 _ _ (0, 0) f2]; rfl
  simp [Leaves, settle, results, Try.results26, go_sem, g0, g1, g2, g3, g4, g5]
  exact ⟨_, _, _, _, _, _, _, _, _, rfl, HT5.out, by omega, rfl, Kd.R_nil _ _ _ _ _, HS5.out⟩
set_option maxHeartbeats 4000000 in
set_option maxRecDepth 100000 in
theorem trailer_reset (l : Nat → Nat) (w : World) (q p n : Nat) (V kv vv : Value) (S : List Slot) (kx vx : List Int) (dn : Bool) (h : TrC l w q p V n S kv kx vv vx dn) (hn : n ≤ 1099511627775) (s : S28)  (hdo : s.f0 = 11) :
    Calls Try.prog 26 #[.pointer (some ⟨p, 0, none⟩), .agg #[.int .i64 s.f0, .string s.f1, .string s.f2, .int .i64 s.f3, .int .i64 s.f4]] w fun e w' => StepT l w q p n (false) (⟨#[]⟩) (false) ([]) ([]) e w' := by
  have st0 := Stp.of_below (W3_below w s) (fun _ => False) l 0
  have hT := h.keep st0 (fun _ k => k.elim)
  have y0 := W3_0 w s
  have y1 := W3_1 w s
  have y2 := W3_2 w s
  have hsz := W3_size w s
  obtain ⟨W, hW⟩ : ∃ W, W3 w s = W := ⟨_, rfl⟩
  have hW' := hW
  rw [hW] at hT st0 y0 y1 y2 hsz
  unfold W3 at hW'
  have HG := Lib.hid (tReset_calls _ W q p n V kv vv S kx vx dn hT)
  have HT := Lib.hid hT
  have HS0 := Lib.hid st0
  have Y1 := Lib.hid y1
  have Y2 := Lib.hid y2
  have c0 : W.cell? ⟨w.heap.size, 0, none⟩ = some (.int .i64 s.f0) := by rw [cell_of_row W _ 0 _ _ (0, 0) y0]; rfl
  have c1 : W.cell? ⟨w.heap.size, 1, none⟩ = some (.string s.f1) := by rw [cell_of_row W _ 1 _ _ (0, 0) y0]; rfl
  have c2 : W.cell? ⟨w.heap.size, 2, none⟩ = some (.string s.f2) := by rw [cell_of_row W _ 2 _ _ (0, 0) y0]; rfl
  rw [hdo] at c0
  have HW := Lib.hid hW'
  have HSZ := Lib.hid hsz
  rw [← hW'] at c0 c1 c2
  have hmf : ∀ (fn : Fn) (first cap : Array Value) (w : World), (Instr.makeFunc fn first cap).run Try.prog w = .ok (.func fn first cap) w := fun _ _ _ _ => rfl
  have HDO := Lib.hid hdo
  clear h hT y0 y1 y2 st0 hW hW' hsz hdo
  go_enter_defers Try.func26, Try.ntmps26
  go_wp2_with (first
    | (go_at_call 52
       rw [HW.out]
       refine HG.out.mono ?_
       rintro e w4 ⟨V1, rfl, hT4, st4⟩
       
       have lt1 : w.heap.size + 1 < W.heap.size := by rw [HSZ.out]; omega
       have lt2 : w.heap.size + 2 < W.heap.size := by rw [HSZ.out]; omega
       have lb0 : ¬ Tz q 0 := by have := HT.out.1; have := HT.out.2.1; unfold Tz; omega
       have r1 := (st4.block (w.heap.size + 1) lt1 (by rw [ext_new l (by omega)]; exact lb0)).trans Y1.out
       have r2 := (st4.block (w.heap.size + 2) lt2 (by rw [ext_new l (by omega)]; exact lb0)).trans Y2.out
       have lb1 := (st4.lab (w.heap.size + 1) lt1).trans (ext_new l (by omega))
       have lb2 := (st4.lab (w.heap.size + 2) lt2).trans (ext_new l (by omega))
       have a0 : w4.cell? ⟨w.heap.size + 1, 0, none⟩ = some (.string ⟨#[]⟩) := by rw [cell_of_row w4 _ 0 _ _ (0, 0) r1]; rfl
       have a1 : w4.cell? ⟨w.heap.size + 1, 1, none⟩ = some (.bool false) := by rw [cell_of_row w4 _ 1 _ _ (0, 0) r1]; rfl
       have a2 : w4.cell? ⟨w.heap.size + 1, 2, none⟩ = some (.int .i64 0) := by rw [cell_of_row w4 _ 2 _ _ (0, 0) r1]; rfl
       have a3 : w4.cell? ⟨w.heap.size + 1, 3, none⟩ = some (.slice none 0 0) := by rw [cell_of_row w4 _ 3 _ _ (0, 0) r1]; rfl
       have a4 : w4.cell? ⟨w.heap.size + 1, 4, none⟩ = some (.slice none 0 0) := by rw [cell_of_row w4 _ 4 _ _ (0, 0) r1]; rfl
       have b0 : w4.cell? ⟨w.heap.size + 2, 0, none⟩ = some (.bool false) := by rw [cell_of_row w4 _ 0 _ _ (0, 0) r2]; rfl
       have e0 := frozen_of_row w4 (w.heap.size + 1) 0 _ _ r1
       have e1 := frozen_of_row w4 (w.heap.size + 1) 1 _ _ r1
       have e2 := frozen_of_row w4 (w.heap.size + 1) 2 _ _ r1
       have e3 := frozen_of_row w4 (w.heap.size + 1) 3 _ _ r1
       have e4 := frozen_of_row w4 (w.heap.size + 1) 4 _ _ r1
       have e5 := frozen_of_row w4 (w.heap.size + 2) 0 _ _ r2
       have R1 := Lib.hid r1
       have R2 := Lib.hid r2
       have HT4 := Lib.hid hT4
       have ST4 := Lib.hid st4
       have LB1 := Lib.hid lb1
       have LB2 := Lib.hid lb2
       clear lt1 lt2 lb0 r1 r2 hT4 st4 lb1 lb2))
  refine leaves_cons (f := 40) (args := #[.pointer (some ⟨w.heap.size + 1, 0, none⟩), .pointer (some ⟨w.heap.size + 1 + 1, 0, none⟩)]) (by simp) (by simp [go_sem]) ?_
  refine (trailer_idle ⟨w.heap.size + 1, 0, none⟩ ⟨w.heap.size + 1 + 1, 0, none⟩ _).mono ?_
  rintro e u' w'' ⟨rfl, rfl, rfl⟩
  have r1' := R1.out
  have r2' := R2.out
  obtain ⟨f1, f2⟩ := after5 (a0 := .string ⟨#[]⟩) (a1 := .bool false) (a2 := .int .i64 0) (a3 := .slice none 0 0) (a4 := .slice none 0 0) r1' r2' (by omega)
  have HT5 := Lib.hid ((((((HT4.out.setFar (a := ⟨w.heap.size + 1, 0, none⟩) LB1.out (.string ⟨#[]⟩)).setFar (a := ⟨w.heap.size + 1, 1, none⟩) LB1.out (.bool false)).setFar (a := ⟨w.heap.size + 1, 2, none⟩) LB1.out (.int .i64 0)).setFar (a := ⟨w.heap.size + 1, 3, none⟩) LB1.out (.slice none 0 0)).setFar (a := ⟨w.heap.size + 1, 4, none⟩) LB1.out (.slice none 0 0)).setFar (a := ⟨w.heap.size + 1 + 1, 0, none⟩) LB2.out (.bool true))
  have HS5 := Lib.hid ((((((((HS0.out.mono (fun _ k => k.elim) : Stp (Tz q) _ _ _ _).trans ST4.out).setNew (a := ⟨w.heap.size + 1, 0, none⟩) (by show _ ≤ w.heap.size + 1; omega) (.string ⟨#[]⟩)).setNew (a := ⟨w.heap.size + 1, 1, none⟩) (by show _ ≤ w.heap.size + 1; omega) (.bool false)).setNew (a := ⟨w.heap.size + 1, 2, none⟩) (by show _ ≤ w.heap.size + 1; omega) (.int .i64 0)).setNew (a := ⟨w.heap.size + 1, 3, none⟩) (by show _ ≤ w.heap.size + 1; omega) (.slice none 0 0)).setNew (a := ⟨w.heap.size + 1, 4, none⟩) (by show _ ≤ w.heap.size + 1; omega) (.slice none 0 0)).setNew (a := ⟨w.heap.size + 1 + 1, 0, none⟩) (by show _ ≤ w.heap.size + 1 + 1; omega) (.bool true))
  clear r1' r2' a0 a1 a2 a3 a4 b0 e0 e1 e2 e3 e4 e5
  generalize ((((((w4.setCell ⟨w.heap.size + 1, 0, none⟩ (.string ⟨#[]⟩)).setCell ⟨w.heap.size + 1, 1, none⟩ (.bool false)).setCell ⟨w.heap.size + 1, 2, none⟩ (.int .i64 0)).setCell ⟨w.heap.size + 1, 3, none⟩ (.slice none 0 0)).setCell ⟨w.heap.size + 1, 4, none⟩ (.slice none 0 0)).setCell ⟨w.heap.size + 1 + 1, 0, none⟩ (.bool true)) = w5 at *
  have g0 : w5.cell? ⟨w.heap.size + 1, 0, none⟩ = some (.string ⟨#[]⟩) := by rw [cell_of_row w5 _ 0 _ _ (0, 0) f1]; rfl
  have g1 : w5.cell? ⟨w.heap.size + 1, 1, none⟩ = some (.bool false) := by rw [cell_of_row w5 _ 1 _ _ (0, 0) f1]; rfl
  have g2 : w5.cell? ⟨w.heap.size + 1, 2, none⟩ = some (.int .i64 0) := by rw [cell_of_row w5 _ 2 _ _ (0, 0) f1]; rfl
  have g3 : w5.cell? ⟨w.heap.size + 1, 3, none⟩ = some (.slice none 0 0) := by rw [cell_of_row w5 _ 3 _ _ (0, 0) f1]; rfl
  have g4 : w5.cell? ⟨w.heap.size + 1, 4, none⟩ = some (.slice none 0 0) := by rw [cell_of_row w5 _ 4 _ _ (0, 0) f1]; rfl
  have g5 : w5.cell? ⟨w.heap.size + 1 + 1, 0, none⟩ = some (.bool true) := by rw [cell_of_row w5 _ 0 _ _ (0, 0) f2]; rfl
  simp [Leaves, settle, results, Try.results26, go_sem, g0, g1, g2, g3, g4, g5]
  exact ⟨_, _, _, _, _, _, _, _, _, rfl, HT5.out, by omega, rfl, Kd.R_nil _ _ _ _ _, HS5.out⟩
set_option maxHeartbeats 4000000 in
set_option maxRecDepth 100000 in
theorem trailer_set_true (l : Nat → Nat) (w : World) (q p n : Nat) (V kv vv : Value) (S : List Slot) (kx vx : List Int) (dn : Bool) (h : TrC l w q p V n S kv kx vv vx dn) (hn : n ≤ 1099511627775) (s : S28) (hk0 : 0 < s.f1.size) (hks : s.f1.size ≤ 140737488351232) (hvs : s.f2.size ≤ 140737488351232) (hbad : badK (nkd dn (ns s.f1)) = true) (hdo : s.f0 = 0) :
    Calls Try.prog 26 #[.pointer (some ⟨p, 0, none⟩), .agg #[.int .i64 s.f0, .string s.f1, .string s.f2, .int .i64 s.f3, .int .i64 s.f4]] w fun e w' => StepT l w q p n (dn) (⟨#[]⟩) (false) ([]) (kvs S n) e w' := by
  have st0 := Stp.of_below (W3_below w s) (fun _ => False) l 0
  have hT := h.keep st0 (fun _ k => k.elim)
  have y0 := W3_0 w s
  have y1 := W3_1 w s
  have y2 := W3_2 w s
  have hsz := W3_size w s
  obtain ⟨W, hW⟩ : ∃ W, W3 w s = W := ⟨_, rfl⟩
  have hW' := hW
  rw [hW] at hT st0 y0 y1 y2 hsz
  unfold W3 at hW'
  have hg := tSet_calls _ W q p n V kv vv S kx vx dn hT hn s.f1 s.f2 hk0 hks hvs
  rw [hbad] at hg
  have HG := Lib.hid hg
  clear hg hbad
  have HT := Lib.hid hT
  have HS0 := Lib.hid st0
  have Y1 := Lib.hid y1
  have Y2 := Lib.hid y2
  have c0 : W.cell? ⟨w.heap.size, 0, none⟩ = some (.int .i64 s.f0) := by rw [cell_of_row W _ 0 _ _ (0, 0) y0]; rfl
  have c1 : W.cell? ⟨w.heap.size, 1, none⟩ = some (.string s.f1) := by rw [cell_of_row W _ 1 _ _ (0, 0) y0]; rfl
  have c2 : W.cell? ⟨w.heap.size, 2, none⟩ = some (.string s.f2) := by rw [cell_of_row W _ 2 _ _ (0, 0) y0]; rfl
  rw [hdo] at c0
  have HW := Lib.hid hW'
  have HSZ := Lib.hid hsz
  rw [← hW'] at c0 c1 c2
  have hmf : ∀ (fn : Fn) (first cap : Array Value) (w : World), (Instr.makeFunc fn first cap).run Try.prog w = .ok (.func fn first cap) w := fun _ _ _ _ => rfl
  have HDO := Lib.hid hdo
  clear h hT y0 y1 y2 st0 hW hW' hsz hdo
  go_enter_defers Try.func26, Try.ntmps26
  go_wp2_with (first
    | (go_at_call 41
       rw [HW.out]
       refine HG.out.mono ?_
       rintro e w4 ⟨l4, V1, n1, S1, kv1, kx1, vv1, vx1, hT4, hle, st4, hpo⟩
       obtain ⟨⟨u, x, rfl⟩, hkv⟩ := (show _ ∧ _ by simpa using hpo)
       have HLE := Lib.hid hle
       have HKV := Lib.hid hkv
       clear hle hkv hpo
       
       have lt1 : w.heap.size + 1 < W.heap.size := by rw [HSZ.out]; omega
       have lt2 : w.heap.size + 2 < W.heap.size := by rw [HSZ.out]; omega
       have lb0 : ¬ Tz q 0 := by have := HT.out.1; have := HT.out.2.1; unfold Tz; omega
       have r1 := (st4.block (w.heap.size + 1) lt1 (by rw [ext_new l (by omega)]; exact lb0)).trans Y1.out
       have r2 := (st4.block (w.heap.size + 2) lt2 (by rw [ext_new l (by omega)]; exact lb0)).trans Y2.out
       have lb1 := (st4.lab (w.heap.size + 1) lt1).trans (ext_new l (by omega))
       have lb2 := (st4.lab (w.heap.size + 2) lt2).trans (ext_new l (by omega))
       have a0 : w4.cell? ⟨w.heap.size + 1, 0, none⟩ = some (.string ⟨#[]⟩) := by rw [cell_of_row w4 _ 0 _ _ (0, 0) r1]; rfl
       have a1 : w4.cell? ⟨w.heap.size + 1, 1, none⟩ = some (.bool false) := by rw [cell_of_row w4 _ 1 _ _ (0, 0) r1]; rfl
       have a2 : w4.cell? ⟨w.heap.size + 1, 2, none⟩ = some (.int .i64 0) := by rw [cell_of_row w4 _ 2 _ _ (0, 0) r1]; rfl
       have a3 : w4.cell? ⟨w.heap.size + 1, 3, none⟩ = some (.slice none 0 0) := by rw [cell_of_row w4 _ 3 _ _ (0, 0) r1]; rfl
       have a4 : w4.cell? ⟨w.heap.size + 1, 4, none⟩ = some (.slice none 0 0) := by rw [cell_of_row w4 _ 4 _ _ (0, 0) r1]; rfl
       have b0 : w4.cell? ⟨w.heap.size + 2, 0, none⟩ = some (.bool false) := by rw [cell_of_row w4 _ 0 _ _ (0, 0) r2]; rfl
       have e0 := frozen_of_row w4 (w.heap.size + 1) 0 _ _ r1
       have e1 := frozen_of_row w4 (w.heap.size + 1) 1 _ _ r1
       have e2 := frozen_of_row w4 (w.heap.size + 1) 2 _ _ r1
       have e3 := frozen_of_row w4 (w.heap.size + 1) 3 _ _ r1
       have e4 := frozen_of_row w4 (w.heap.size + 1) 4 _ _ r1
       have e5 := frozen_of_row w4 (w.heap.size + 2) 0 _ _ r2
       have R1 := Lib.hid r1
       have R2 := Lib.hid r2
       have HT4 := Lib.hid hT4
       have ST4 := Lib.hid st4
       have LB1 := Lib.hid lb1
       have LB2 := Lib.hid lb2
       clear lt1 lt2 lb0 r1 r2 hT4 st4 lb1 lb2))
  refine leaves_cons (f := 40) (args := #[.pointer (some ⟨w.heap.size + 1, 0, none⟩), .pointer (some ⟨w.heap.size + 1 + 1, 0, none⟩)]) (by simp) (by simp [go_sem]) ?_
  refine (trailer_idle ⟨w.heap.size + 1, 0, none⟩ ⟨w.heap.size + 1 + 1, 0, none⟩ _).mono ?_
  rintro e u' w'' ⟨rfl, rfl, rfl⟩
  have r1' := heap_setCell_same w4 (w.heap.size + 1) 1 _ 32 (.bool false) R1.out
  have r2' : (w4.setCell ⟨w.heap.size + 1, 1, none⟩ (.bool false)).heap[w.heap.size + 1 + 1]? = some (.cells #[.bool false] 4 (0, 0)) := by
    rw [Below.heap_setCell _ _ _ _ (show w.heap.size + 1 + 1 ≠ w.heap.size + 1 by omega)]; exact R2.out
  obtain ⟨f1, f2⟩ := after5 (a0 := .string ⟨#[]⟩) (a1 := .bool false) (a2 := .int .i64 0) (a3 := .slice none 0 0) (a4 := .slice none 0 0) r1' r2' (by omega)
  have HT5 := Lib.hid (((((((HT4.out.setFar (a := ⟨w.heap.size + 1, 1, none⟩) LB1.out (.bool false)).setFar (a := ⟨w.heap.size + 1, 0, none⟩) LB1.out (.string ⟨#[]⟩)).setFar (a := ⟨w.heap.size + 1, 1, none⟩) LB1.out (.bool false)).setFar (a := ⟨w.heap.size + 1, 2, none⟩) LB1.out (.int .i64 0)).setFar (a := ⟨w.heap.size + 1, 3, none⟩) LB1.out (.slice none 0 0)).setFar (a := ⟨w.heap.size + 1, 4, none⟩) LB1.out (.slice none 0 0)).setFar (a := ⟨w.heap.size + 1 + 1, 0, none⟩) LB2.out (.bool true))
  have HS5 := Lib.hid (((((((((HS0.out.mono (fun _ k => k.elim) : Stp (Tz q) _ _ _ _).trans ST4.out).setNew (a := ⟨w.heap.size + 1, 1, none⟩) (by show _ ≤ w.heap.size + 1; omega) (.bool false)).setNew (a := ⟨w.heap.size + 1, 0, none⟩) (by show _ ≤ w.heap.size + 1; omega) (.string ⟨#[]⟩)).setNew (a := ⟨w.heap.size + 1, 1, none⟩) (by show _ ≤ w.heap.size + 1; omega) (.bool false)).setNew (a := ⟨w.heap.size + 1, 2, none⟩) (by show _ ≤ w.heap.size + 1; omega) (.int .i64 0)).setNew (a := ⟨w.heap.size + 1, 3, none⟩) (by show _ ≤ w.heap.size + 1; omega) (.slice none 0 0)).setNew (a := ⟨w.heap.size + 1, 4, none⟩) (by show _ ≤ w.heap.size + 1; omega) (.slice none 0 0)).setNew (a := ⟨w.heap.size + 1 + 1, 0, none⟩) (by show _ ≤ w.heap.size + 1 + 1; omega) (.bool true))
  clear r1' r2' a0 a1 a2 a3 a4 b0 e0 e1 e2 e3 e4 e5
  generalize (((((((w4.setCell ⟨w.heap.size + 1, 1, none⟩ (.bool false)).setCell ⟨w.heap.size + 1, 0, none⟩ (.string ⟨#[]⟩)).setCell ⟨w.heap.size + 1, 1, none⟩ (.bool false)).setCell ⟨w.heap.size + 1, 2, none⟩ (.int .i64 0)).setCell ⟨w.heap.size + 1, 3, none⟩ (.slice none 0 0)).setCell ⟨w.heap.size + 1, 4, none⟩ (.slice none 0 0)).setCell ⟨w.heap.size + 1 + 1, 0, none⟩ (.bool true)) = w5 at *
  have g0 : w5.cell? ⟨w.heap.size + 1, 0, none⟩ = some (.string ⟨#[]⟩) := by rw [cell_of_row w5 _ 0 _ _ (0, 0) f1]; rfl
  have g1 : w5.cell? ⟨w.heap.size + 1, 1, none⟩ = some (.bool false) := by rw [cell_of_row w5 _ 1 _ _ (0, 0) f1]; rfl
  have g2 : w5.cell? ⟨w.heap.size + 1, 2, none⟩ = some (.int .i64 0) := by rw [cell_of_row w5 _ 2 _ _ (0, 0) f1]; rfl
  have g3 : w5.cell? ⟨w.heap.size + 1, 3, none⟩ = some (.slice none 0 0) := by rw [cell_of_row w5 _ 3 _ _ (0, 0) f1]; rfl
  have g4 : w5.cell? ⟨w.heap.size + 1, 4, none⟩ = some (.slice none 0 0) := by rw [cell_of_row w5 _ 4 _ _ (0, 0) f1]; rfl
  have g5 : w5.cell? ⟨w.heap.size + 1 + 1, 0, none⟩ = some (.bool true) := by rw [cell_of_row w5 _ 0 _ _ (0, 0) f2]; rfl
  simp [Leaves, settle, results, Try.results26, go_sem, g0, g1, g2, g3, g4, g5]
  exact ⟨_, _, _, _, _, _, _, _, _, rfl, HT5.out, HLE.out, HKV.out, Kd.R_nil _ _ _ _ _, HS5.out⟩
set_option maxHeartbeats 4000000 in
set_option maxRecDepth 100000 in
theorem trailer_set_false (l : Nat → Nat) (w : World) (q p n : Nat) (V kv vv : Value) (S : List Slot) (kx vx : List Int) (dn : Bool) (h : TrC l w q p V n S kv kx vv vx dn) (hn : n ≤ 1099511627775) (s : S28) (hk0 : 0 < s.f1.size) (hks : s.f1.size ≤ 140737488351232) (hvs : s.f2.size ≤ 140737488351232) (hbad : badK (nkd dn (ns s.f1)) = false) (hdo : s.f0 = 0) :
    Calls Try.prog 26 #[.pointer (some ⟨p, 0, none⟩), .agg #[.int .i64 s.f0, .string s.f1, .string s.f2, .int .i64 s.f3, .int .i64 s.f4]] w fun e w' => StepT l w q p n (dn) (⟨#[]⟩) (true) ([]) (setKV (nkd dn (ns s.f1)) (ns s.f2) (kvs S n)) e w' := by
  have st0 := Stp.of_below (W3_below w s) (fun _ => False) l 0
  have hT := h.keep st0 (fun _ k => k.elim)
  have y0 := W3_0 w s
  have y1 := W3_1 w s
  have y2 := W3_2 w s
  have hsz := W3_size w s
  obtain ⟨W, hW⟩ : ∃ W, W3 w s = W := ⟨_, rfl⟩
  have hW' := hW
  rw [hW] at hT st0 y0 y1 y2 hsz
  unfold W3 at hW'
  have hg := tSet_calls _ W q p n V kv vv S kx vx dn hT hn s.f1 s.f2 hk0 hks hvs
  rw [hbad] at hg
  have HG := Lib.hid hg
  clear hg hbad
  have HT := Lib.hid hT
  have HS0 := Lib.hid st0
  have Y1 := Lib.hid y1
  have Y2 := Lib.hid y2
  have c0 : W.cell? ⟨w.heap.size, 0, none⟩ = some (.int .i64 s.f0) := by rw [cell_of_row W _ 0 _ _ (0, 0) y0]; rfl
  have c1 : W.cell? ⟨w.heap.size, 1, none⟩ = some (.string s.f1) := by rw [cell_of_row W _ 1 _ _ (0, 0) y0]; rfl
  have c2 : W.cell? ⟨w.heap.size, 2, none⟩ = some (.string s.f2) := by rw [cell_of_row W _ 2 _ _ (0, 0) y0]; rfl
  rw [hdo] at c0
  have HW := Lib.hid hW'
  have HSZ := Lib.hid hsz
  rw [← hW'] at c0 c1 c2
  have hmf : ∀ (fn : Fn) (first cap : Array Value) (w : World), (Instr.makeFunc fn first cap).run Try.prog w = .ok (.func fn first cap) w := fun _ _ _ _ => rfl
  have HDO := Lib.hid hdo
  clear h hT y0 y1 y2 st0 hW hW' hsz hdo
  go_enter_defers Try.func26, Try.ntmps26
  go_wp2_with (first
    | (go_at_call 41
       rw [HW.out]
       refine HG.out.mono ?_
       rintro e w4 ⟨l4, V1, n1, S1, kv1, kx1, vv1, vx1, hT4, hle, st4, hpo⟩
       obtain ⟨rfl, hkv⟩ := (show _ ∧ _ by simpa using hpo)
       have HLE := Lib.hid hle
       have HKV := Lib.hid hkv
       clear hle hkv hpo
       
       have lt1 : w.heap.size + 1 < W.heap.size := by rw [HSZ.out]; omega
       have lt2 : w.heap.size + 2 < W.heap.size := by rw [HSZ.out]; omega
       have lb0 : ¬ Tz q 0 := by have := HT.out.1; have := HT.out.2.1; unfold Tz; omega
       have r1 := (st4.block (w.heap.size + 1) lt1 (by rw [ext_new l (by omega)]; exact lb0)).trans Y1.out
       have r2 := (st4.block (w.heap.size + 2) lt2 (by rw [ext_new l (by omega)]; exact lb0)).trans Y2.out
       have lb1 := (st4.lab (w.heap.size + 1) lt1).trans (ext_new l (by omega))
       have lb2 := (st4.lab (w.heap.size + 2) lt2).trans (ext_new l (by omega))
       have a0 : w4.cell? ⟨w.heap.size + 1, 0, none⟩ = some (.string ⟨#[]⟩) := by rw [cell_of_row w4 _ 0 _ _ (0, 0) r1]; rfl
       have a1 : w4.cell? ⟨w.heap.size + 1, 1, none⟩ = some (.bool false) := by rw [cell_of_row w4 _ 1 _ _ (0, 0) r1]; rfl
       have a2 : w4.cell? ⟨w.heap.size + 1, 2, none⟩ = some (.int .i64 0) := by rw [cell_of_row w4 _ 2 _ _ (0, 0) r1]; rfl
       have a3 : w4.cell? ⟨w.heap.size + 1, 3, none⟩ = some (.slice none 0 0) := by rw [cell_of_row w4 _ 3 _ _ (0, 0) r1]; rfl
       have a4 : w4.cell? ⟨w.heap.size + 1, 4, none⟩ = some (.slice none 0 0) := by rw [cell_of_row w4 _ 4 _ _ (0, 0) r1]; rfl
       have b0 : w4.cell? ⟨w.heap.size + 2, 0, none⟩ = some (.bool false) := by rw [cell_of_row w4 _ 0 _ _ (0, 0) r2]; rfl
       have e0 := frozen_of_row w4 (w.heap.size + 1) 0 _ _ r1
       have e1 := frozen_of_row w4 (w.heap.size + 1) 1 _ _ r1
       have e2 := frozen_of_row w4 (w.heap.size + 1) 2 _ _ r1
       have e3 := frozen_of_row w4 (w.heap.size + 1) 3 _ _ r1
       have e4 := frozen_of_row w4 (w.heap.size + 1) 4 _ _ r1
       have e5 := frozen_of_row w4 (w.heap.size + 2) 0 _ _ r2
       have R1 := Lib.hid r1
       have R2 := Lib.hid r2
       have HT4 := Lib.hid hT4
       have ST4 := Lib.hid st4
       have LB1 := Lib.hid lb1
       have LB2 := Lib.hid lb2
       clear lt1 lt2 lb0 r1 r2 hT4 st4 lb1 lb2))
  refine leaves_cons (f := 40) (args := #[.pointer (some ⟨w.heap.size + 1, 0, none⟩), .pointer (some ⟨w.heap.size + 1 + 1, 0, none⟩)]) (by simp) (by simp [go_sem]) ?_
  refine (trailer_idle ⟨w.heap.size + 1, 0, none⟩ ⟨w.heap.size + 1 + 1, 0, none⟩ _).mono ?_
  rintro e u' w'' ⟨rfl, rfl, rfl⟩
  have r1' := heap_setCell_same w4 (w.heap.size + 1) 1 _ 32 (.bool true) R1.out
  have r2' : (w4.setCell ⟨w.heap.size + 1, 1, none⟩ (.bool true)).heap[w.heap.size + 1 + 1]? = some (.cells #[.bool false] 4 (0, 0)) := by
    rw [Below.heap_setCell _ _ _ _ (show w.heap.size + 1 + 1 ≠ w.heap.size + 1 by omega)]; exact R2.out
  obtain ⟨f1, f2⟩ := after5 (a0 := .string ⟨#[]⟩) (a1 := .bool true) (a2 := .int .i64 0) (a3 := .slice none 0 0) (a4 := .slice none 0 0) r1' r2' (by omega)
  have HT5 := Lib.hid (((((((HT4.out.setFar (a := ⟨w.heap.size + 1, 1, none⟩) LB1.out (.bool true)).setFar (a := ⟨w.heap.size + 1, 0, none⟩) LB1.out (.string ⟨#[]⟩)).setFar (a := ⟨w.heap.size + 1, 1, none⟩) LB1.out (.bool true)).setFar (a := ⟨w.heap.size + 1, 2, none⟩) LB1.out (.int .i64 0)).setFar (a := ⟨w.heap.size + 1, 3, none⟩) LB1.out (.slice none 0 0)).setFar (a := ⟨w.heap.size + 1, 4, none⟩) LB1.out (.slice none 0 0)).setFar (a := ⟨w.heap.size + 1 + 1, 0, none⟩) LB2.out (.bool true))
  have HS5 := Lib.hid (((((((((HS0.out.mono (fun _ k => k.elim) : Stp (Tz q) _ _ _ _).trans ST4.out).setNew (a := ⟨w.heap.size + 1, 1, none⟩) (by show _ ≤ w.heap.size + 1; omega) (.bool true)).setNew (a := ⟨w.heap.size + 1, 0, none⟩) (by show _ ≤ w.heap.size + 1; omega) (.string ⟨#[]⟩)).setNew (a := ⟨w.heap.size + 1, 1, none⟩) (by show _ ≤ w.heap.size + 1; omega) (.bool true)).setNew (a := ⟨w.heap.size + 1, 2, none⟩) (by show _ ≤ w.heap.size + 1; omega) (.int .i64 0)).setNew (a := ⟨w.heap.size + 1, 3, none⟩) (by show _ ≤ w.heap.size + 1; omega) (.slice none 0 0)).setNew (a := ⟨w.heap.size + 1, 4, none⟩) (by show _ ≤ w.heap.size + 1; omega) (.slice none 0 0)).setNew (a := ⟨w.heap.size + 1 + 1, 0, none⟩) (by show _ ≤ w.heap.size + 1 + 1; omega) (.bool true))
  clear r1' r2' a0 a1 a2 a3 a4 b0 e0 e1 e2 e3 e4 e5
  generalize (((((((w4.setCell ⟨w.heap.size + 1, 1, none⟩ (.bool true)).setCell ⟨w.heap.size + 1, 0, none⟩ (.string ⟨#[]⟩)).setCell ⟨w.heap.size + 1, 1, none⟩ (.bool true)).setCell ⟨w.heap.size + 1, 2, none⟩ (.int .i64 0)).setCell ⟨w.heap.size + 1, 3, none⟩ (.slice none 0 0)).setCell ⟨w.heap.size + 1, 4, none⟩ (.slice none 0 0)).setCell ⟨w.heap.size + 1 + 1, 0, none⟩ (.bool true)) = w5 at *
  have g0 : w5.cell? ⟨w.heap.size + 1, 0, none⟩ = some (.string ⟨#[]⟩) := by rw [cell_of_row w5 _ 0 _ _ (0, 0) f1]; rfl
  have g1 : w5.cell? ⟨w.heap.size + 1, 1, none⟩ = some (.bool true) := by rw [cell_of_row w5 _ 1 _ _ (0, 0) f1]; rfl
  have g2 : w5.cell? ⟨w.heap.size + 1, 2, none⟩ = some (.int .i64 0) := by rw [cell_of_row w5 _ 2 _ _ (0, 0) f1]; rfl
  have g3 : w5.cell? ⟨w.heap.size + 1, 3, none⟩ = some (.slice none 0 0) := by rw [cell_of_row w5 _ 3 _ _ (0, 0) f1]; rfl
  have g4 : w5.cell? ⟨w.heap.size + 1, 4, none⟩ = some (.slice none 0 0) := by rw [cell_of_row w5 _ 4 _ _ (0, 0) f1]; rfl
  have g5 : w5.cell? ⟨w.heap.size + 1 + 1, 0, none⟩ = some (.bool true) := by rw [cell_of_row w5 _ 0 _ _ (0, 0) f2]; rfl
  simp [Leaves, settle, results, Try.results26, go_sem, g0, g1, g2, g3, g4, g5]
  exact ⟨_, _, _, _, _, _, _, _, _, rfl, HT5.out, HLE.out, HKV.out, Kd.R_nil _ _ _ _ _, HS5.out⟩
set_option maxHeartbeats 4000000 in
set_option maxRecDepth 100000 in
theorem trailer_add_true (l : Nat → Nat) (w : World) (q p n : Nat) (V kv vv : Value) (S : List Slot) (kx vx : List Int) (dn : Bool) (h : TrC l w q p V n S kv kx vv vx dn) (hn : n ≤ 1099511627775) (s : S28) (hk0 : 0 < s.f1.size) (hks : s.f1.size ≤ 140737488351232) (hvs : s.f2.size ≤ 140737488351232) (hbad : badK (nkd dn (ns s.f1)) = true) (hdo : s.f0 = 1) :
    Calls Try.prog 26 #[.pointer (some ⟨p, 0, none⟩), .agg #[.int .i64 s.f0, .string s.f1, .string s.f2, .int .i64 s.f3, .int .i64 s.f4]] w fun e w' => StepT l w q p n (dn) (⟨#[]⟩) (false) ([]) (kvs S n) e w' := by
  have st0 := Stp.of_below (W3_below w s) (fun _ => False) l 0
  have hT := h.keep st0 (fun _ k => k.elim)
  have y0 := W3_0 w s
  have y1 := W3_1 w s
  have y2 := W3_2 w s
  have hsz := W3_size w s
  obtain ⟨W, hW⟩ : ∃ W, W3 w s = W := ⟨_, rfl⟩
  have hW' := hW
  rw [hW] at hT st0 y0 y1 y2 hsz
  unfold W3 at hW'
  have hg := tAdd_calls _ W q p n V kv vv S kx vx dn hT hn s.f1 s.f2 hk0 hks hvs
  rw [hbad] at hg
  have HG := Lib.hid hg
  clear hg hbad
  have HT := Lib.hid hT
  have HS0 := Lib.hid st0
  have Y1 := Lib.hid y1
  have Y2 := Lib.hid y2
  have c0 : W.cell? ⟨w.heap.size, 0, none⟩ = some (.int .i64 s.f0) := by rw [cell_of_row W _ 0 _ _ (0, 0) y0]; rfl
  have c1 : W.cell? ⟨w.heap.size, 1, none⟩ = some (.string s.f1) := by rw [cell_of_row W _ 1 _ _ (0, 0) y0]; rfl
  have c2 : W.cell? ⟨w.heap.size, 2, none⟩ = some (.string s.f2) := by rw [cell_of_row W _ 2 _ _ (0, 0) y0]; rfl
  rw [hdo] at c0
  have HW := Lib.hid hW'
  have HSZ := Lib.hid hsz
  rw [← hW'] at c0 c1 c2
  have hmf : ∀ (fn : Fn) (first cap : Array Value) (w : World), (Instr.makeFunc fn first cap).run Try.prog w = .ok (.func fn first cap) w := fun _ _ _ _ => rfl
  have HDO := Lib.hid hdo
  clear h hT y0 y1 y2 st0 hW hW' hsz hdo
  go_enter_defers Try.func26, Try.ntmps26
  go_wp2_with (first
    | (go_at_call 42
       rw [HW.out]
       refine HG.out.mono ?_
       rintro e w4 ⟨l4, V1, n1, S1, kv1, kx1, vv1, vx1, hT4, hle, st4, hpo⟩
       obtain ⟨⟨u, x, rfl⟩, hkv⟩ := (show _ ∧ _ by simpa using hpo)
       have HLE := Lib.hid hle
       have HKV := Lib.hid hkv
       clear hle hkv hpo
       
       have lt1 : w.heap.size + 1 < W.heap.size := by rw [HSZ.out]; omega
       have lt2 : w.heap.size + 2 < W.heap.size := by rw [HSZ.out]; omega
       have lb0 : ¬ Tz q 0 := by have := HT.out.1; have := HT.out.2.1; unfold Tz; omega
       have r1 := (st4.block (w.heap.size + 1) lt1 (by rw [ext_new l (by omega)]; exact lb0)).trans Y1.out
       have r2 := (st4.block (w.heap.size + 2) lt2 (by rw [ext_new l (by omega)]; exact lb0)).trans Y2.out
       have lb1 := (st4.lab (w.heap.size + 1) lt1).trans (ext_new l (by omega))
       have lb2 := (st4.lab (w.heap.size + 2) lt2).trans (ext_new l (by omega))
       have a0 : w4.cell? ⟨w.heap.size + 1, 0, none⟩ = some (.string ⟨#[]⟩) := by rw [cell_of_row w4 _ 0 _ _ (0, 0) r1]; rfl
       have a1 : w4.cell? ⟨w.heap.size + 1, 1, none⟩ = some (.bool false) := by rw [cell_of_row w4 _ 1 _ _ (0, 0) r1]; rfl
       have a2 : w4.cell? ⟨w.heap.size + 1, 2, none⟩ = some (.int .i64 0) := by rw [cell_of_row w4 _ 2 _ _ (0, 0) r1]; rfl
       have a3 : w4.cell? ⟨w.heap.size + 1, 3, none⟩ = some (.slice none 0 0) := by rw [cell_of_row w4 _ 3 _ _ (0, 0) r1]; rfl
       have a4 : w4.cell? ⟨w.heap.size + 1, 4, none⟩ = some (.slice none 0 0) := by rw [cell_of_row w4 _ 4 _ _ (0, 0) r1]; rfl
       have b0 : w4.cell? ⟨w.heap.size + 2, 0, none⟩ = some (.bool false) := by rw [cell_of_row w4 _ 0 _ _ (0, 0) r2]; rfl
       have e0 := frozen_of_row w4 (w.heap.size + 1) 0 _ _ r1
       have e1 := frozen_of_row w4 (w.heap.size + 1) 1 _ _ r1
       have e2 := frozen_of_row w4 (w.heap.size + 1) 2 _ _ r1
       have e3 := frozen_of_row w4 (w.heap.size + 1) 3 _ _ r1
       have e4 := frozen_of_row w4 (w.heap.size + 1) 4 _ _ r1
       have e5 := frozen_of_row w4 (w.heap.size + 2) 0 _ _ r2
       have R1 := Lib.hid r1
       have R2 := Lib.hid r2
       have HT4 := Lib.hid hT4
       have ST4 := Lib.hid st4
       have LB1 := Lib.hid lb1
       have LB2 := Lib.hid lb2
       clear lt1 lt2 lb0 r1 r2 hT4 st4 lb1 lb2))
  refine leaves_cons (f := 40) (args := #[.pointer (some ⟨w.heap.size + 1, 0, none⟩), .pointer (some ⟨w.heap.size + 1 + 1, 0, none⟩)]) (by simp) (by simp [go_sem]) ?_
  refine (trailer_idle ⟨w.heap.size + 1, 0, none⟩ ⟨w.heap.size + 1 + 1, 0, none⟩ _).mono ?_
  rintro e u' w'' ⟨rfl, rfl, rfl⟩
  have r1' := heap_setCell_same w4 (w.heap.size + 1) 1 _ 32 (.bool false) R1.out
  have r2' : (w4.setCell ⟨w.heap.size + 1, 1, none⟩ (.bool false)).heap[w.heap.size + 1 + 1]? = some (.cells #[.bool false] 4 (0, 0)) := by
    rw [Below.heap_setCell _ _ _ _ (show w.heap.size + 1 + 1 ≠ w.heap.size + 1 by omega)]; exact R2.out
  obtain ⟨f1, f2⟩ := after5 (a0 := .string ⟨#[]⟩) (a1 := .bool false) (a2 := .int .i64 0) (a3 := .slice none 0 0) (a4 := .slice none 0 0) r1' r2' (by omega)
  have HT5 := Lib.hid (((((((HT4.out.setFar (a := ⟨w.heap.size + 1, 1, none⟩) LB1.out (.bool false)).setFar (a := ⟨w.heap.size + 1, 0, none⟩) LB1.out (.string ⟨#[]⟩)).setFar (a := ⟨w.heap.size + 1, 1, none⟩) LB1.out (.bool false)).setFar (a := ⟨w.heap.size + 1, 2, none⟩) LB1.out (.int .i64 0)).setFar (a := ⟨w.heap.size + 1, 3, none⟩) LB1.out (.slice none 0 0)).setFar (a := ⟨w.heap.size + 1, 4, none⟩) LB1.out (.slice none 0 0)).setFar (a := ⟨w.heap.size + 1 + 1, 0, none⟩) LB2.out (.bool true))
  have HS5 := Lib.hid (((((((((HS0.out.mono (fun _ k => k.elim) : Stp (Tz q) _ _ _ _).trans ST4.out).setNew (a := ⟨w.heap.size + 1, 1, none⟩) (by show _ ≤ w.heap.size + 1; omega) (.bool false)).setNew (a := ⟨w.heap.size + 1, 0, none⟩) (by show _ ≤ w.heap.size + 1; omega) (.string ⟨#[]⟩)).setNew (a := ⟨w.heap.size + 1, 1, none⟩) (by show _ ≤ w.heap.size + 1; omega) (.bool false)).setNew (a := ⟨w.heap.size + 1, 2, none⟩) (by show _ ≤ w.heap.size + 1; omega) (.int .i64 0)).setNew (a := ⟨w.heap.size + 1, 3, none⟩) (by show _ ≤ w.heap.size + 1; omega) (.slice none 0 0)).setNew (a := ⟨w.heap.size + 1, 4, none⟩) (by show _ ≤ w.heap.size + 1; omega) (.slice none 0 0)).setNew (a := ⟨w.heap.size + 1 + 1, 0, none⟩) (by show _ ≤ w.heap.size + 1 + 1; omega) (.bool true))
  clear r1' r2' a0 a1 a2 a3 a4 b0 e0 e1 e2 e3 e4 e5
  generalize (((((((w4.setCell ⟨w.heap.size + 1, 1, none⟩ (.bool false)).setCell ⟨w.heap.size + 1, 0, none⟩ (.string ⟨#[]⟩)).setCell ⟨w.heap.size + 1, 1, none⟩ (.bool false)).setCell ⟨w.heap.size + 1, 2, none⟩ (.int .i64 0)).setCell ⟨w.heap.size + 1, 3, none⟩ (.slice none 0 0)).setCell ⟨w.heap.size + 1, 4, none⟩ (.slice none 0 0)).setCell ⟨w.heap.size + 1 + 1, 0, none⟩ (.bool true)) = w5 at *
  have g0 : w5.cell? ⟨w.heap.size + 1, 0, none⟩ = some (.string ⟨#[]⟩) := by rw [cell_of_row w5 _ 0 _ _ (0, 0) f1]; rfl
  have g1 : w5.cell? ⟨w.heap.size + 1, 1, none⟩ = some (.bool false) := by rw [cell_of_row w5 _ 1 _ _ (0, 0) f1]; rfl
  have g2 : w5.cell? ⟨w.heap.size + 1, 2, none⟩ = some (.int .i64 0) := by rw [cell_of_row w5 _ 2 _ _ (0, 0) f1]; rfl
  have g3 : w5.cell? ⟨w.heap.size + 1, 3, none⟩ = some (.slice none 0 0) := by rw [cell_of_row w5 _ 3 _ _ (0, 0) f1]; rfl
  have g4 : w5.cell? ⟨w.heap.size + 1, 4, none⟩ = some (.slice none 0 0) := by rw [cell_of_row w5 _ 4 _ _ (0, 0) f1]; rfl
  have g5 : w5.cell? ⟨w.heap.size + 1 + 1, 0, none⟩ = some (.bool true) := by rw [cell_of_row w5 _ 0 _ _ (0, 0) f2]; rfl
  simp [Leaves, settle, results, Try.results26, go_sem, g0, g1, g2, g3, g4, g5]
  exact ⟨_, _, _, _, _, _, _, _, _, rfl, HT5.out, HLE.out, HKV.out, Kd.R_nil _ _ _ _ _, HS5.out⟩
set_option maxHeartbeats 4000000 in
set_option maxRecDepth 100000 in
theorem trailer_add_false (l : Nat → Nat) (w : World) (q p n : Nat) (V kv vv : Value) (S : List Slot) (kx vx : List Int) (dn : Bool) (h : TrC l w q p V n S kv kx vv vx dn) (hn : n ≤ 1099511627775) (s : S28) (hk0 : 0 < s.f1.size) (hks : s.f1.size ≤ 140737488351232) (hvs : s.f2.size ≤ 140737488351232) (hbad : badK (nkd dn (ns s.f1)) = false) (hdo : s.f0 = 1) :
    Calls Try.prog 26 #[.pointer (some ⟨p, 0, none⟩), .agg #[.int .i64 s.f0, .string s.f1, .string s.f2, .int .i64 s.f3, .int .i64 s.f4]] w fun e w' => StepT l w q p n (dn) (⟨#[]⟩) (true) ([]) (kvs S n ++ [⟨nkd dn (ns s.f1), ns s.f2, false⟩]) e w' := by
  have st0 := Stp.of_below (W3_below w s) (fun _ => False) l 0
  have hT := h.keep st0 (fun _ k => k.elim)
  have y0 := W3_0 w s
  have y1 := W3_1 w s
  have y2 := W3_2 w s
  have hsz := W3_size w s
  obtain ⟨W, hW⟩ : ∃ W, W3 w s = W := ⟨_, rfl⟩
  have hW' := hW
  rw [hW] at hT st0 y0 y1 y2 hsz
  unfold W3 at hW'
  have hg := tAdd_calls _ W q p n V kv vv S kx vx dn hT hn s.f1 s.f2 hk0 hks hvs
  rw [hbad] at hg
  have HG := Lib.hid hg
  clear hg hbad
  have HT := Lib.hid hT
  have HS0 := Lib.hid st0
  have Y1 := Lib.hid y1
  have Y2 := Lib.hid y2
  have c0 : W.cell? ⟨w.heap.size, 0, none⟩ = some (.int .i64 s.f0) := by rw [cell_of_row W _ 0 _ _ (0, 0) y0]; rfl
  have c1 : W.cell? ⟨w.heap.size, 1, none⟩ = some (.string s.f1) := by rw [cell_of_row W _ 1 _ _ (0, 0) y0]; rfl
  have c2 : W.cell? ⟨w.heap.size, 2, none⟩ = some (.string s.f2) := by rw [cell_of_row W _ 2 _ _ (0, 0) y0]; rfl
  rw [hdo] at c0
  have HW := Lib.hid hW'
  have HSZ := Lib.hid hsz
  rw [← hW'] at c0 c1 c2
  have hmf : ∀ (fn : Fn) (first cap : Array Value) (w : World), (Instr.makeFunc fn first cap).run Try.prog w = .ok (.func fn first cap) w := fun _ _ _ _ => rfl
  have HDO := Lib.hid hdo
  clear h hT y0 y1 y2 st0 hW hW' hsz hdo
  go_enter_defers Try.func26, Try.ntmps26
  go_wp2_with (first
    | (go_at_call 42
       rw [HW.out]
       refine HG.out.mono ?_
       rintro e w4 ⟨l4, V1, n1, S1, kv1, kx1, vv1, vx1, hT4, hle, st4, hpo⟩
       obtain ⟨rfl, hkv⟩ := (show _ ∧ _ by simpa using hpo)
       have HLE := Lib.hid hle
       have HKV := Lib.hid hkv
       clear hle hkv hpo
       
       have lt1 : w.heap.size + 1 < W.heap.size := by rw [HSZ.out]; omega
       have lt2 : w.heap.size + 2 < W.heap.size := by rw [HSZ.out]; omega
       have lb0 : ¬ Tz q 0 := by have := HT.out.1; have := HT.out.2.1; unfold Tz; omega
       have r1 := (st4.block (w.heap.size + 1) lt1 (by rw [ext_new l (by omega)]; exact lb0)).trans Y1.out
       have r2 := (st4.block (w.heap.size + 2) lt2 (by rw [ext_new l (by omega)]; exact lb0)).trans Y2.out
       have lb1 := (st4.lab (w.heap.size + 1) lt1).trans (ext_new l (by omega))
       have lb2 := (st4.lab (w.heap.size + 2) lt2).trans (ext_new l (by omega))
       have a0 : w4.cell? ⟨w.heap.size + 1, 0, none⟩ = some (.string ⟨#[]⟩) := by rw [cell_of_row w4 _ 0 _ _ (0, 0) r1]; rfl
       have a1 : w4.cell? ⟨w.heap.size + 1, 1, none⟩ = some (.bool false) := by rw [cell_of_row w4 _ 1 _ _ (0, 0) r1]; rfl
       have a2 : w4.cell? ⟨w.heap.size + 1, 2, none⟩ = some (.int .i64 0) := by rw [cell_of_row w4 _ 2 _ _ (0, 0) r1]; rfl
       have a3 : w4.cell? ⟨w.heap.size + 1, 3, none⟩ = some (.slice none 0 0) := by rw [cell_of_row w4 _ 3 _ _ (0, 0) r1]; rfl
       have a4 : w4.cell? ⟨w.heap.size + 1, 4, none⟩ = some (.slice none 0 0) := by rw [cell_of_row w4 _ 4 _ _ (0, 0) r1]; rfl
       have b0 : w4.cell? ⟨w.heap.size + 2, 0, none⟩ = some (.bool false) := by rw [cell_of_row w4 _ 0 _ _ (0, 0) r2]; rfl
       have e0 := frozen_of_row w4 (w.heap.size + 1) 0 _ _ r1
       have e1 := frozen_of_row w4 (w.heap.size + 1) 1 _ _ r1
       have e2 := frozen_of_row w4 (w.heap.size + 1) 2 _ _ r1
       have e3 := frozen_of_row w4 (w.heap.size + 1) 3 _ _ r1
       have e4 := frozen_of_row w4 (w.heap.size + 1) 4 _ _ r1
       have e5 := frozen_of_row w4 (w.heap.size + 2) 0 _ _ r2
       have R1 := Lib.hid r1
       have R2 := Lib.hid r2
       have HT4 := Lib.hid hT4
       have ST4 := Lib.hid st4
       have LB1 := Lib.hid lb1
       have LB2 := Lib.hid lb2
       clear lt1 lt2 lb0 r1 r2 hT4 st4 lb1 lb2))
  refine leaves_cons (f := 40) (args := #[.pointer (some ⟨w.heap.size + 1, 0, none⟩), .pointer (some ⟨w.heap.size + 1 + 1, 0, none⟩)]) (by simp) (by simp [go_sem]) ?_
  refine (trailer_idle ⟨w.heap.size + 1, 0, none⟩ ⟨w.heap.size + 1 + 1, 0, none⟩ _).mono ?_
  rintro e u' w'' ⟨rfl, rfl, rfl⟩
  have r1' := heap_setCell_same w4 (w.heap.size + 1) 1 _ 32 (.bool true) R1.out
  have r2' : (w4.setCell ⟨w.heap.size + 1, 1, none⟩ (.bool true)).heap[w.heap.size + 1 + 1]? = some (.cells #[.bool false] 4 (0, 0)) := by
    rw [Below.heap_setCell _ _ _ _ (show w.heap.size + 1 + 1 ≠ w.heap.size + 1 by omega)]; exact R2.out
  obtain ⟨f1, f2⟩ := after5 (a0 := .string ⟨#[]⟩) (a1 := .bool true) (a2 := .int .i64 0) (a3 := .slice none 0 0) (a4 := .slice none 0 0) r1' r2' (by omega)
  have HT5 := Lib.hid (((((((HT4.out.setFar (a := ⟨w.heap.size + 1, 1, none⟩) LB1.out (.bool true)).setFar (a := ⟨w.heap.size + 1, 0, none⟩) LB1.out (.string ⟨#[]⟩)).setFar (a := ⟨w.heap.size + 1, 1, none⟩) LB1.out (.bool true)).setFar (a := ⟨w.heap.size + 1, 2, none⟩) LB1.out (.int .i64 0)).setFar (a := ⟨w.heap.size + 1, 3, none⟩) LB1.out (.slice none 0 0)).setFar (a := ⟨w.heap.size + 1, 4, none⟩) LB1.out (.slice none 0 0)).setFar (a := ⟨w.heap.size + 1 + 1, 0, none⟩) LB2.out (.bool true))
  have HS5 := Lib.hid (((((((((HS0.out.mono (fun _ k => k.elim) : Stp (Tz q) _ _ _ _).trans ST4.out).setNew (a := ⟨w.heap.size + 1, 1, none⟩) (by show _ ≤ w.heap.size + 1; omega) (.bool true)).setNew (a := ⟨w.heap.size + 1, 0, none⟩) (by show _ ≤ w.heap.size + 1; omega) (.string ⟨#[]⟩)).setNew (a := ⟨w.heap.size + 1, 1, none⟩) (by show _ ≤ w.heap.size + 1; omega) (.bool true)).setNew (a := ⟨w.heap.size + 1, 2, none⟩) (by show _ ≤ w.heap.size + 1; omega) (.int .i64 0)).setNew (a := ⟨w.heap.size + 1, 3, none⟩) (by show _ ≤ w.heap.size + 1; omega) (.slice none 0 0)).setNew (a := ⟨w.heap.size + 1, 4, none⟩) (by show _ ≤ w.heap.size + 1; omega) (.slice none 0 0)).setNew (a := ⟨w.heap.size + 1 + 1, 0, none⟩) (by show _ ≤ w.heap.size + 1 + 1; omega) (.bool true))
  clear r1' r2' a0 a1 a2 a3 a4 b0 e0 e1 e2 e3 e4 e5
  generalize (((((((w4.setCell ⟨w.heap.size + 1, 1, none⟩ (.bool true)).setCell ⟨w.heap.size + 1, 0, none⟩ (.string ⟨#[]⟩)).setCell ⟨w.heap.size + 1, 1, none⟩ (.bool true)).setCell ⟨w.heap.size + 1, 2, none⟩ (.int .i64 0)).setCell ⟨w.heap.size + 1, 3, none⟩ (.slice none 0 0)).setCell ⟨w.heap.size + 1, 4, none⟩ (.slice none 0 0)).setCell ⟨w.heap.size + 1 + 1, 0, none⟩ (.bool true)) = w5 at *
  have g0 : w5.cell? ⟨w.heap.size + 1, 0, none⟩ = some (.string ⟨#[]⟩) := by rw [cell_of_row w5 _ 0 _ _ (0, 0) f1]; rfl
  have g1 : w5.cell? ⟨w.heap.size + 1, 1, none⟩ = some (.bool true) := by rw [cell_of_row w5 _ 1 _ _ (0, 0) f1]; rfl
  have g2 : w5.cell? ⟨w.heap.size + 1, 2, none⟩ = some (.int .i64 0) := by rw [cell_of_row w5 _ 2 _ _ (0, 0) f1]; rfl
  have g3 : w5.cell? ⟨w.heap.size + 1, 3, none⟩ = some (.slice none 0 0) := by rw [cell_of_row w5 _ 3 _ _ (0, 0) f1]; rfl
  have g4 : w5.cell? ⟨w.heap.size + 1, 4, none⟩ = some (.slice none 0 0) := by rw [cell_of_row w5 _ 4 _ _ (0, 0) f1]; rfl
  have g5 : w5.cell? ⟨w.heap.size + 1 + 1, 0, none⟩ = some (.bool true) := by rw [cell_of_row w5 _ 0 _ _ (0, 0) f2]; rfl
  simp [Leaves, settle, results, Try.results26, go_sem, g0, g1, g2, g3, g4, g5]
  exact ⟨_, _, _, _, _, _, _, _, _, rfl, HT5.out, HLE.out, HKV.out, Kd.R_nil _ _ _ _ _, HS5.out⟩
set_option maxHeartbeats 4000000 in
set_option maxRecDepth 100000 in
theorem trailer_empty (l : Nat → Nat) (w : World) (q p n : Nat) (V kv vv : Value) (S : List Slot) (kx vx : List Int) (dn : Bool) (h : TrC l w q p V n S kv kx vv vx dn) (hn : n ≤ 1099511627775) (s : S28)  (hdo : s.f0 = 8) :
    Calls Try.prog 26 #[.pointer (some ⟨p, 0, none⟩), .agg #[.int .i64 s.f0, .string s.f1, .string s.f2, .int .i64 s.f3, .int .i64 s.f4]] w fun e w' => StepT l w q p n (dn) (⟨#[]⟩) (decide (n = 0)) ([]) (kvs S n) e w' := by
  have st0 := Stp.of_below (W3_below w s) (fun _ => False) l 0
  have hT := h.keep st0 (fun _ k => k.elim)
  have y0 := W3_0 w s
  have y1 := W3_1 w s
  have y2 := W3_2 w s
  have hsz := W3_size w s
  obtain ⟨W, hW⟩ : ∃ W, W3 w s = W := ⟨_, rfl⟩
  have hW' := hW
  rw [hW] at hT st0 y0 y1 y2 hsz
  unfold W3 at hW'
  obtain ⟨BX, hBX⟩ : ∃ b, decide (n = 0) = b := ⟨_, rfl⟩
  have hg := (tEmpty_calls _ W q p n V kv vv S kx vx dn hT).mono (fun e w' k => (⟨k.1, k.2 ▸ Below.refl _ _⟩ : e = .returned (.bool (decide (n = 0))) ∧ Below W.heap.size W w'))
  rw [hBX] at hg ⊢
  have HG := Lib.hid hg
  clear hg hBX
  have HT := Lib.hid hT
  have HS0 := Lib.hid st0
  have Y1 := Lib.hid y1
  have Y2 := Lib.hid y2
  have c0 : W.cell? ⟨w.heap.size, 0, none⟩ = some (.int .i64 s.f0) := by rw [cell_of_row W _ 0 _ _ (0, 0) y0]; rfl
  have c1 : W.cell? ⟨w.heap.size, 1, none⟩ = some (.string s.f1) := by rw [cell_of_row W _ 1 _ _ (0, 0) y0]; rfl
  have c2 : W.cell? ⟨w.heap.size, 2, none⟩ = some (.string s.f2) := by rw [cell_of_row W _ 2 _ _ (0, 0) y0]; rfl
  rw [hdo] at c0
  have HW := Lib.hid hW'
  have HSZ := Lib.hid hsz
  rw [← hW'] at c0 c1 c2
  have hmf : ∀ (fn : Fn) (first cap : Array Value) (w : World), (Instr.makeFunc fn first cap).run Try.prog w = .ok (.func fn first cap) w := fun _ _ _ _ => rfl
  have HDO := Lib.hid hdo
  clear h hT y0 y1 y2 st0 hW hW' hsz hdo
  go_enter_defers Try.func26, Try.ntmps26
  go_wp2_with (first
    | (go_at_call 49
       rw [HW.out]
       refine HG.out.mono ?_
       rintro e w4 ⟨rfl, hb⟩
       have st4 : Stp (Tz q) (ext l w.heap.size 0) (ext l w.heap.size 0) W w4 := Stp.of_below_same hb _ _
       have hT4 := HT.out.keep (Stp.of_below_same hb (fun _ => False) (ext l w.heap.size 0)) (fun _ k => k.elim)
       
       have lt1 : w.heap.size + 1 < W.heap.size := by rw [HSZ.out]; omega
       have lt2 : w.heap.size + 2 < W.heap.size := by rw [HSZ.out]; omega
       have lb0 : ¬ Tz q 0 := by have := HT.out.1; have := HT.out.2.1; unfold Tz; omega
       have r1 := (st4.block (w.heap.size + 1) lt1 (by rw [ext_new l (by omega)]; exact lb0)).trans Y1.out
       have r2 := (st4.block (w.heap.size + 2) lt2 (by rw [ext_new l (by omega)]; exact lb0)).trans Y2.out
       have lb1 := (st4.lab (w.heap.size + 1) lt1).trans (ext_new l (by omega))
       have lb2 := (st4.lab (w.heap.size + 2) lt2).trans (ext_new l (by omega))
       have a0 : w4.cell? ⟨w.heap.size + 1, 0, none⟩ = some (.string ⟨#[]⟩) := by rw [cell_of_row w4 _ 0 _ _ (0, 0) r1]; rfl
       have a1 : w4.cell? ⟨w.heap.size + 1, 1, none⟩ = some (.bool false) := by rw [cell_of_row w4 _ 1 _ _ (0, 0) r1]; rfl
       have a2 : w4.cell? ⟨w.heap.size + 1, 2, none⟩ = some (.int .i64 0) := by rw [cell_of_row w4 _ 2 _ _ (0, 0) r1]; rfl
       have a3 : w4.cell? ⟨w.heap.size + 1, 3, none⟩ = some (.slice none 0 0) := by rw [cell_of_row w4 _ 3 _ _ (0, 0) r1]; rfl
       have a4 : w4.cell? ⟨w.heap.size + 1, 4, none⟩ = some (.slice none 0 0) := by rw [cell_of_row w4 _ 4 _ _ (0, 0) r1]; rfl
       have b0 : w4.cell? ⟨w.heap.size + 2, 0, none⟩ = some (.bool false) := by rw [cell_of_row w4 _ 0 _ _ (0, 0) r2]; rfl
       have e0 := frozen_of_row w4 (w.heap.size + 1) 0 _ _ r1
       have e1 := frozen_of_row w4 (w.heap.size + 1) 1 _ _ r1
       have e2 := frozen_of_row w4 (w.heap.size + 1) 2 _ _ r1
       have e3 := frozen_of_row w4 (w.heap.size + 1) 3 _ _ r1
       have e4 := frozen_of_row w4 (w.heap.size + 1) 4 _ _ r1
       have e5 := frozen_of_row w4 (w.heap.size + 2) 0 _ _ r2
       have R1 := Lib.hid r1
       have R2 := Lib.hid r2
       have HT4 := Lib.hid hT4
       have ST4 := Lib.hid st4
       have LB1 := Lib.hid lb1
       have LB2 := Lib.hid lb2
       clear lt1 lt2 lb0 r1 r2 hT4 st4 lb1 lb2
       clear hb))
  refine leaves_cons (f := 40) (args := #[.pointer (some ⟨w.heap.size + 1, 0, none⟩), .pointer (some ⟨w.heap.size + 1 + 1, 0, none⟩)]) (by simp) (by simp [go_sem]) ?_
  refine (trailer_idle ⟨w.heap.size + 1, 0, none⟩ ⟨w.heap.size + 1 + 1, 0, none⟩ _).mono ?_
  rintro e u' w'' ⟨rfl, rfl, rfl⟩
  have r1' := heap_setCell_same w4 (w.heap.size + 1) 1 _ 32 (.bool BX) R1.out
  have r2' : (w4.setCell ⟨w.heap.size + 1, 1, none⟩ (.bool BX)).heap[w.heap.size + 1 + 1]? = some (.cells #[.bool false] 4 (0, 0)) := by
    rw [Below.heap_setCell _ _ _ _ (show w.heap.size + 1 + 1 ≠ w.heap.size + 1 by omega)]; exact R2.out
  obtain ⟨f1, f2⟩ := after5 (a0 := .string ⟨#[]⟩) (a1 := .bool BX) (a2 := .int .i64 0) (a3 := .slice none 0 0) (a4 := .slice none 0 0) r1' r2' (by omega)
  have HT5 := Lib.hid (((((((HT4.out.setFar (a := ⟨w.heap.size + 1, 1, none⟩) LB1.out (.bool BX)).setFar (a := ⟨w.heap.size + 1, 0, none⟩) LB1.out (.string ⟨#[]⟩)).setFar (a := ⟨w.heap.size + 1, 1, none⟩) LB1.out (.bool BX)).setFar (a := ⟨w.heap.size + 1, 2, none⟩) LB1.out (.int .i64 0)).setFar (a := ⟨w.heap.size + 1, 3, none⟩) LB1.out (.slice none 0 0)).setFar (a := ⟨w.heap.size + 1, 4, none⟩) LB1.out (.slice none 0 0)).setFar (a := ⟨w.heap.size + 1 + 1, 0, none⟩) LB2.out (.bool true))
  have HS5 := Lib.hid (((((((((HS0.out.mono (fun _ k => k.elim) : Stp (Tz q) _ _ _ _).trans ST4.out).setNew (a := ⟨w.heap.size + 1, 1, none⟩) (by show _ ≤ w.heap.size + 1; omega) (.bool BX)).setNew (a := ⟨w.heap.size + 1, 0, none⟩) (by show _ ≤ w.heap.size + 1; omega) (.string ⟨#[]⟩)).setNew (a := ⟨w.heap.size + 1, 1, none⟩) (by show _ ≤ w.heap.size + 1; omega) (.bool BX)).setNew (a := ⟨w.heap.size + 1, 2, none⟩) (by show _ ≤ w.heap.size + 1; omega) (.int .i64 0)).setNew (a := ⟨w.heap.size + 1, 3, none⟩) (by show _ ≤ w.heap.size + 1; omega) (.slice none 0 0)).setNew (a := ⟨w.heap.size + 1, 4, none⟩) (by show _ ≤ w.heap.size + 1; omega) (.slice none 0 0)).setNew (a := ⟨w.heap.size + 1 + 1, 0, none⟩) (by show _ ≤ w.heap.size + 1 + 1; omega) (.bool true))
  clear r1' r2' a0 a1 a2 a3 a4 b0 e0 e1 e2 e3 e4 e5
  generalize (((((((w4.setCell ⟨w.heap.size + 1, 1, none⟩ (.bool BX)).setCell ⟨w.heap.size + 1, 0, none⟩ (.string ⟨#[]⟩)).setCell ⟨w.heap.size + 1, 1, none⟩ (.bool BX)).setCell ⟨w.heap.size + 1, 2, none⟩ (.int .i64 0)).setCell ⟨w.heap.size + 1, 3, none⟩ (.slice none 0 0)).setCell ⟨w.heap.size + 1, 4, none⟩ (.slice none 0 0)).setCell ⟨w.heap.size + 1 + 1, 0, none⟩ (.bool true)) = w5 at *
  have g0 : w5.cell? ⟨w.heap.size + 1, 0, none⟩ = some (.string ⟨#[]⟩) := by rw [cell_of_row w5 _ 0 _ _ (0, 0) f1]; rfl
  have g1 : w5.cell? ⟨w.heap.size + 1, 1, none⟩ = some (.bool BX) := by rw [cell_of_row w5 _ 1 _ _ (0, 0) f1]; rfl
  have g2 : w5.cell? ⟨w.heap.size + 1, 2, none⟩ = some (.int .i64 0) := by rw [cell_of_row w5 _ 2 _ _ (0, 0) f1]; rfl
  have g3 : w5.cell? ⟨w.heap.size + 1, 3, none⟩ = some (.slice none 0 0) := by rw [cell_of_row w5 _ 3 _ _ (0, 0) f1]; rfl
  have g4 : w5.cell? ⟨w.heap.size + 1, 4, none⟩ = some (.slice none 0 0) := by rw [cell_of_row w5 _ 4 _ _ (0, 0) f1]; rfl
  have g5 : w5.cell? ⟨w.heap.size + 1 + 1, 0, none⟩ = some (.bool true) := by rw [cell_of_row w5 _ 0 _ _ (0, 0) f2]; rfl
  simp [Leaves, settle, results, Try.results26, go_sem, g0, g1, g2, g3, g4, g5]
  exact ⟨_, _, _, _, _, _, _, _, _, rfl, HT5.out, by omega, rfl, Kd.R_nil _ _ _ _ _, HS5.out⟩
set_option maxHeartbeats 4000000 in
set_option maxRecDepth 100000 in
theorem trailer_head (l : Nat → Nat) (w : World) (q p n : Nat) (V kv vv : Value) (S : List Slot) (kx vx : List Int) (dn : Bool) (h : TrC l w q p V n S kv kx vv vx dn) (hn : n ≤ 1099511627775) (s : S28) (hr : RgK (kvs S n)) (hl : sizeKV (kvs S n) + 2 ≤ 140737488355328) (hdo : s.f0 = 6) :
    Calls Try.prog 26 #[.pointer (some ⟨p, 0, none⟩), .agg #[.int .i64 s.f0, .string s.f1, .string s.f2, .int .i64 s.f3, .int .i64 s.f4]] w fun e w' => StepT l w q p n (dn) (strOfNums (linesOf (kvs S n) ++ [13, 10])) (false) ([]) (kvs S n) e w' := by
  have st0 := Stp.of_below (W3_below w s) (fun _ => False) l 0
  have hT := h.keep st0 (fun _ k => k.elim)
  have y0 := W3_0 w s
  have y1 := W3_1 w s
  have y2 := W3_2 w s
  have hsz := W3_size w s
  obtain ⟨W, hW⟩ : ∃ W, W3 w s = W := ⟨_, rfl⟩
  have hW' := hW
  rw [hW] at hT st0 y0 y1 y2 hsz
  unfold W3 at hW'
  obtain ⟨TX, hTX⟩ : ∃ T, strOfNums (linesOf (kvs S n) ++ [13, 10]) = T := ⟨_, rfl⟩
  have HG := Lib.hid (tHeader_calls _ W q p n V kv vv S kx vx dn hT hn hr hl)
  have HTX := Lib.hid hTX
  rw [hTX]
  clear hr hl hTX
  have HT := Lib.hid hT
  have HS0 := Lib.hid st0
  have Y1 := Lib.hid y1
  have Y2 := Lib.hid y2
  have c0 : W.cell? ⟨w.heap.size, 0, none⟩ = some (.int .i64 s.f0) := by rw [cell_of_row W _ 0 _ _ (0, 0) y0]; rfl
  have c1 : W.cell? ⟨w.heap.size, 1, none⟩ = some (.string s.f1) := by rw [cell_of_row W _ 1 _ _ (0, 0) y0]; rfl
  have c2 : W.cell? ⟨w.heap.size, 2, none⟩ = some (.string s.f2) := by rw [cell_of_row W _ 2 _ _ (0, 0) y0]; rfl
  rw [hdo] at c0
  have HW := Lib.hid hW'
  have HSZ := Lib.hid hsz
  rw [← hW'] at c0 c1 c2
  have hmf : ∀ (fn : Fn) (first cap : Array Value) (w : World), (Instr.makeFunc fn first cap).run Try.prog w = .ok (.func fn first cap) w := fun _ _ _ _ => rfl
  have HDO := Lib.hid hdo
  clear h hT y0 y1 y2 st0 hW hW' hsz hdo
  go_enter_defers Try.func26, Try.ntmps26
  go_wp2_with (first
    | (go_at_call 27
       rw [HW.out]
       refine HG.out.mono ?_
       rintro e w4 ⟨l4, A1, N1, c1, rfl, hN1, hT4, st4⟩
       have hcv := conv_read (c := c1) hT4.2.2.2.2.2.reads
       rw [← hN1] at hcv
       rw [HTX.out] at hcv
       clear hN1
       
       have lt1 : w.heap.size + 1 < W.heap.size := by rw [HSZ.out]; omega
       have lt2 : w.heap.size + 2 < W.heap.size := by rw [HSZ.out]; omega
       have lb0 : ¬ Tz q 0 := by have := HT.out.1; have := HT.out.2.1; unfold Tz; omega
       have r1 := (st4.block (w.heap.size + 1) lt1 (by rw [ext_new l (by omega)]; exact lb0)).trans Y1.out
       have r2 := (st4.block (w.heap.size + 2) lt2 (by rw [ext_new l (by omega)]; exact lb0)).trans Y2.out
       have lb1 := (st4.lab (w.heap.size + 1) lt1).trans (ext_new l (by omega))
       have lb2 := (st4.lab (w.heap.size + 2) lt2).trans (ext_new l (by omega))
       have a0 : w4.cell? ⟨w.heap.size + 1, 0, none⟩ = some (.string ⟨#[]⟩) := by rw [cell_of_row w4 _ 0 _ _ (0, 0) r1]; rfl
       have a1 : w4.cell? ⟨w.heap.size + 1, 1, none⟩ = some (.bool false) := by rw [cell_of_row w4 _ 1 _ _ (0, 0) r1]; rfl
       have a2 : w4.cell? ⟨w.heap.size + 1, 2, none⟩ = some (.int .i64 0) := by rw [cell_of_row w4 _ 2 _ _ (0, 0) r1]; rfl
       have a3 : w4.cell? ⟨w.heap.size + 1, 3, none⟩ = some (.slice none 0 0) := by rw [cell_of_row w4 _ 3 _ _ (0, 0) r1]; rfl
       have a4 : w4.cell? ⟨w.heap.size + 1, 4, none⟩ = some (.slice none 0 0) := by rw [cell_of_row w4 _ 4 _ _ (0, 0) r1]; rfl
       have b0 : w4.cell? ⟨w.heap.size + 2, 0, none⟩ = some (.bool false) := by rw [cell_of_row w4 _ 0 _ _ (0, 0) r2]; rfl
       have e0 := frozen_of_row w4 (w.heap.size + 1) 0 _ _ r1
       have e1 := frozen_of_row w4 (w.heap.size + 1) 1 _ _ r1
       have e2 := frozen_of_row w4 (w.heap.size + 1) 2 _ _ r1
       have e3 := frozen_of_row w4 (w.heap.size + 1) 3 _ _ r1
       have e4 := frozen_of_row w4 (w.heap.size + 1) 4 _ _ r1
       have e5 := frozen_of_row w4 (w.heap.size + 2) 0 _ _ r2
       have R1 := Lib.hid r1
       have R2 := Lib.hid r2
       have HT4 := Lib.hid hT4
       have ST4 := Lib.hid st4
       have LB1 := Lib.hid lb1
       have LB2 := Lib.hid lb2
       clear lt1 lt2 lb0 r1 r2 hT4 st4 lb1 lb2))
  refine leaves_cons (f := 40) (args := #[.pointer (some ⟨w.heap.size + 1, 0, none⟩), .pointer (some ⟨w.heap.size + 1 + 1, 0, none⟩)]) (by simp) (by simp [go_sem]) ?_
  refine (trailer_idle ⟨w.heap.size + 1, 0, none⟩ ⟨w.heap.size + 1 + 1, 0, none⟩ _).mono ?_
  rintro e u' w'' ⟨rfl, rfl, rfl⟩
  have r1' := heap_setCell_same w4 (w.heap.size + 1) 0 _ 32 (.string TX) R1.out
  have r2' : (w4.setCell ⟨w.heap.size + 1, 0, none⟩ (.string TX)).heap[w.heap.size + 1 + 1]? = some (.cells #[.bool false] 4 (0, 0)) := by
    rw [Below.heap_setCell _ _ _ _ (show w.heap.size + 1 + 1 ≠ w.heap.size + 1 by omega)]; exact R2.out
  obtain ⟨f1, f2⟩ := after5 (a0 := .string TX) (a1 := .bool false) (a2 := .int .i64 0) (a3 := .slice none 0 0) (a4 := .slice none 0 0) r1' r2' (by omega)
  have HT5 := Lib.hid (((((((HT4.out.setFar (a := ⟨w.heap.size + 1, 0, none⟩) LB1.out (.string TX)).setFar (a := ⟨w.heap.size + 1, 0, none⟩) LB1.out (.string TX)).setFar (a := ⟨w.heap.size + 1, 1, none⟩) LB1.out (.bool false)).setFar (a := ⟨w.heap.size + 1, 2, none⟩) LB1.out (.int .i64 0)).setFar (a := ⟨w.heap.size + 1, 3, none⟩) LB1.out (.slice none 0 0)).setFar (a := ⟨w.heap.size + 1, 4, none⟩) LB1.out (.slice none 0 0)).setFar (a := ⟨w.heap.size + 1 + 1, 0, none⟩) LB2.out (.bool true))
  have HS5 := Lib.hid (((((((((HS0.out.mono (fun _ k => k.elim) : Stp (Tz q) _ _ _ _).trans ST4.out).setNew (a := ⟨w.heap.size + 1, 0, none⟩) (by show _ ≤ w.heap.size + 1; omega) (.string TX)).setNew (a := ⟨w.heap.size + 1, 0, none⟩) (by show _ ≤ w.heap.size + 1; omega) (.string TX)).setNew (a := ⟨w.heap.size + 1, 1, none⟩) (by show _ ≤ w.heap.size + 1; omega) (.bool false)).setNew (a := ⟨w.heap.size + 1, 2, none⟩) (by show _ ≤ w.heap.size + 1; omega) (.int .i64 0)).setNew (a := ⟨w.heap.size + 1, 3, none⟩) (by show _ ≤ w.heap.size + 1; omega) (.slice none 0 0)).setNew (a := ⟨w.heap.size + 1, 4, none⟩) (by show _ ≤ w.heap.size + 1; omega) (.slice none 0 0)).setNew (a := ⟨w.heap.size + 1 + 1, 0, none⟩) (by show _ ≤ w.heap.size + 1 + 1; omega) (.bool true))
  clear r1' r2' a0 a1 a2 a3 a4 b0 e0 e1 e2 e3 e4 e5
  generalize (((((((w4.setCell ⟨w.heap.size + 1, 0, none⟩ (.string TX)).setCell ⟨w.heap.size + 1, 0, none⟩ (.string TX)).setCell ⟨w.heap.size + 1, 1, none⟩ (.bool false)).setCell ⟨w.heap.size + 1, 2, none⟩ (.int .i64 0)).setCell ⟨w.heap.size + 1, 3, none⟩ (.slice none 0 0)).setCell ⟨w.heap.size + 1, 4, none⟩ (.slice none 0 0)).setCell ⟨w.heap.size + 1 + 1, 0, none⟩ (.bool true)) = w5 at *
  have g0 : w5.cell? ⟨w.heap.size + 1, 0, none⟩ = some (.string TX) := by rw [cell_of_row w5 _ 0 _ _ (0, 0) f1]; rfl
  have g1 : w5.cell? ⟨w.heap.size + 1, 1, none⟩ = some (.bool false) := by rw [cell_of_row w5 _ 1 _ _ (0, 0) f1]; rfl
  have g2 : w5.cell? ⟨w.heap.size + 1, 2, none⟩ = some (.int .i64 0) := by rw [cell_of_row w5 _ 2 _ _ (0, 0) f1]; rfl
  have g3 : w5.cell? ⟨w.heap.size + 1, 3, none⟩ = some (.slice none 0 0) := by rw [cell_of_row w5 _ 3 _ _ (0, 0) f1]; rfl
  have g4 : w5.cell? ⟨w.heap.size + 1, 4, none⟩ = some (.slice none 0 0) := by rw [cell_of_row w5 _ 4 _ _ (0, 0) f1]; rfl
  have g5 : w5.cell? ⟨w.heap.size + 1 + 1, 0, none⟩ = some (.bool true) := by rw [cell_of_row w5 _ 0 _ _ (0, 0) f2]; rfl
  simp [Leaves, settle, results, Try.results26, go_sem, g0, g1, g2, g3, g4, g5]
  exact ⟨_, _, _, _, _, _, _, _, _, rfl, HT5.out, by omega, rfl, Kd.R_nil _ _ _ _ _, HS5.out⟩
set_option maxHeartbeats 4000000 in
set_option maxRecDepth 100000 in
theorem trailer_names (l : Nat → Nat) (w : World) (q p n : Nat) (V kv vv : Value) (S : List Slot) (kx vx : List Int) (dn : Bool) (h : TrC l w q p V n S kv kx vv vx dn) (hn : n ≤ 1099511627775) (s : S28) (hl : sizeKV (kvs S n) ≤ 140737488355328) (hdo : s.f0 = 5) :
    Calls Try.prog 26 #[.pointer (some ⟨p, 0, none⟩), .agg #[.int .i64 s.f0, .string s.f1, .string s.f2, .int .i64 s.f3, .int .i64 s.f4]] w fun e w' => StepT l w q p n (dn) (strOfNums (joinC ((kvs S n).map KVx.k))) (false) ([]) (kvs S n) e w' := by
  have st0 := Stp.of_below (W3_below w s) (fun _ => False) l 0
  have hT := h.keep st0 (fun _ k => k.elim)
  have y0 := W3_0 w s
  have y1 := W3_1 w s
  have y2 := W3_2 w s
  have hsz := W3_size w s
  obtain ⟨W, hW⟩ : ∃ W, W3 w s = W := ⟨_, rfl⟩
  have hW' := hW
  rw [hW] at hT st0 y0 y1 y2 hsz
  unfold W3 at hW'
  obtain ⟨TX, hTX⟩ : ∃ T, strOfNums (joinC ((kvs S n).map KVx.k)) = T := ⟨_, rfl⟩
  have HG := Lib.hid (tNames_calls _ W q p n V kv vv S kx vx dn hT hn hl)
  have HTX := Lib.hid hTX
  rw [hTX]
  clear hl hTX
  have HT := Lib.hid hT
  have HS0 := Lib.hid st0
  have Y1 := Lib.hid y1
  have Y2 := Lib.hid y2
  have c0 : W.cell? ⟨w.heap.size, 0, none⟩ = some (.int .i64 s.f0) := by rw [cell_of_row W _ 0 _ _ (0, 0) y0]; rfl
  have c1 : W.cell? ⟨w.heap.size, 1, none⟩ = some (.string s.f1) := by rw [cell_of_row W _ 1 _ _ (0, 0) y0]; rfl
  have c2 : W.cell? ⟨w.heap.size, 2, none⟩ = some (.string s.f2) := by rw [cell_of_row W _ 2 _ _ (0, 0) y0]; rfl
  rw [hdo] at c0
  have HW := Lib.hid hW'
  have HSZ := Lib.hid hsz
  rw [← hW'] at c0 c1 c2
  have hmf : ∀ (fn : Fn) (first cap : Array Value) (w : World), (Instr.makeFunc fn first cap).run Try.prog w = .ok (.func fn first cap) w := fun _ _ _ _ => rfl
  have HDO := Lib.hid hdo
  clear h hT y0 y1 y2 st0 hW hW' hsz hdo
  go_enter_defers Try.func26, Try.ntmps26
  go_wp2_with (first
    | (go_at_call 46
       rw [HW.out]
       refine HG.out.mono ?_
       rintro e w4 ⟨A1, N1, c1, rfl, hrd, hnc, hb⟩
       have hln := hrd.1
       rw [← hln] at hrd
       have hcv := conv_read (c := c1) hrd
       rw [hln, HTX.out] at hcv
       have st4 : Stp (Tz q) (ext l w.heap.size 0) (ext l w.heap.size 0) W w4 := Stp.of_below_same hb _ _
       have hT4 := HT.out.keep (Stp.of_below_same hb (fun _ => False) (ext l w.heap.size 0)) (fun _ k => k.elim)
       clear hrd hnc hb hln
       
       have lt1 : w.heap.size + 1 < W.heap.size := by rw [HSZ.out]; omega
       have lt2 : w.heap.size + 2 < W.heap.size := by rw [HSZ.out]; omega
       have lb0 : ¬ Tz q 0 := by have := HT.out.1; have := HT.out.2.1; unfold Tz; omega
       have r1 := (st4.block (w.heap.size + 1) lt1 (by rw [ext_new l (by omega)]; exact lb0)).trans Y1.out
       have r2 := (st4.block (w.heap.size + 2) lt2 (by rw [ext_new l (by omega)]; exact lb0)).trans Y2.out
       have lb1 := (st4.lab (w.heap.size + 1) lt1).trans (ext_new l (by omega))
       have lb2 := (st4.lab (w.heap.size + 2) lt2).trans (ext_new l (by omega))
       have a0 : w4.cell? ⟨w.heap.size + 1, 0, none⟩ = some (.string ⟨#[]⟩) := by rw [cell_of_row w4 _ 0 _ _ (0, 0) r1]; rfl
       have a1 : w4.cell? ⟨w.heap.size + 1, 1, none⟩ = some (.bool false) := by rw [cell_of_row w4 _ 1 _ _ (0, 0) r1]; rfl
       have a2 : w4.cell? ⟨w.heap.size + 1, 2, none⟩ = some (.int .i64 0) := by rw [cell_of_row w4 _ 2 _ _ (0, 0) r1]; rfl
       have a3 : w4.cell? ⟨w.heap.size + 1, 3, none⟩ = some (.slice none 0 0) := by rw [cell_of_row w4 _ 3 _ _ (0, 0) r1]; rfl
       have a4 : w4.cell? ⟨w.heap.size + 1, 4, none⟩ = some (.slice none 0 0) := by rw [cell_of_row w4 _ 4 _ _ (0, 0) r1]; rfl
       have b0 : w4.cell? ⟨w.heap.size + 2, 0, none⟩ = some (.bool false) := by rw [cell_of_row w4 _ 0 _ _ (0, 0) r2]; rfl
       have e0 := frozen_of_row w4 (w.heap.size + 1) 0 _ _ r1
       have e1 := frozen_of_row w4 (w.heap.size + 1) 1 _ _ r1
       have e2 := frozen_of_row w4 (w.heap.size + 1) 2 _ _ r1
       have e3 := frozen_of_row w4 (w.heap.size + 1) 3 _ _ r1
       have e4 := frozen_of_row w4 (w.heap.size + 1) 4 _ _ r1
       have e5 := frozen_of_row w4 (w.heap.size + 2) 0 _ _ r2
       have R1 := Lib.hid r1
       have R2 := Lib.hid r2
       have HT4 := Lib.hid hT4
       have ST4 := Lib.hid st4
       have LB1 := Lib.hid lb1
       have LB2 := Lib.hid lb2
       clear lt1 lt2 lb0 r1 r2 hT4 st4 lb1 lb2))
  refine leaves_cons (f := 40) (args := #[.pointer (some ⟨w.heap.size + 1, 0, none⟩), .pointer (some ⟨w.heap.size + 1 + 1, 0, none⟩)]) (by simp) (by simp [go_sem]) ?_
  refine (trailer_idle ⟨w.heap.size + 1, 0, none⟩ ⟨w.heap.size + 1 + 1, 0, none⟩ _).mono ?_
  rintro e u' w'' ⟨rfl, rfl, rfl⟩
  have r1' := heap_setCell_same w4 (w.heap.size + 1) 0 _ 32 (.string TX) R1.out
  have r2' : (w4.setCell ⟨w.heap.size + 1, 0, none⟩ (.string TX)).heap[w.heap.size + 1 + 1]? = some (.cells #[.bool false] 4 (0, 0)) := by
    rw [Below.heap_setCell _ _ _ _ (show w.heap.size + 1 + 1 ≠ w.heap.size + 1 by omega)]; exact R2.out
  obtain ⟨f1, f2⟩ := after5 (a0 := .string TX) (a1 := .bool false) (a2 := .int .i64 0) (a3 := .slice none 0 0) (a4 := .slice none 0 0) r1' r2' (by omega)
  have HT5 := Lib.hid (((((((HT4.out.setFar (a := ⟨w.heap.size + 1, 0, none⟩) LB1.out (.string TX)).setFar (a := ⟨w.heap.size + 1, 0, none⟩) LB1.out (.string TX)).setFar (a := ⟨w.heap.size + 1, 1, none⟩) LB1.out (.bool false)).setFar (a := ⟨w.heap.size + 1, 2, none⟩) LB1.out (.int .i64 0)).setFar (a := ⟨w.heap.size + 1, 3, none⟩) LB1.out (.slice none 0 0)).setFar (a := ⟨w.heap.size + 1, 4, none⟩) LB1.out (.slice none 0 0)).setFar (a := ⟨w.heap.size + 1 + 1, 0, none⟩) LB2.out (.bool true))
  have HS5 := Lib.hid (((((((((HS0.out.mono (fun _ k => k.elim) : Stp (Tz q) _ _ _ _).trans ST4.out).setNew (a := ⟨w.heap.size + 1, 0, none⟩) (by show _ ≤ w.heap.size + 1; omega) (.string TX)).setNew (a := ⟨w.heap.size + 1, 0, none⟩) (by show _ ≤ w.heap.size + 1; omega) (.string TX)).setNew (a := ⟨w.heap.size + 1, 1, none⟩) (by show _ ≤ w.heap.size + 1; omega) (.bool false)).setNew (a := ⟨w.heap.size + 1, 2, none⟩) (by show _ ≤ w.heap.size + 1; omega) (.int .i64 0)).setNew (a := ⟨w.heap.size + 1, 3, none⟩) (by show _ ≤ w.heap.size + 1; omega) (.slice none 0 0)).setNew (a := ⟨w.heap.size + 1, 4, none⟩) (by show _ ≤ w.heap.size + 1; omega) (.slice none 0 0)).setNew (a := ⟨w.heap.size + 1 + 1, 0, none⟩) (by show _ ≤ w.heap.size + 1 + 1; omega) (.bool true))
  clear r1' r2' a0 a1 a2 a3 a4 b0 e0 e1 e2 e3 e4 e5
  generalize (((((((w4.setCell ⟨w.heap.size + 1, 0, none⟩ (.string TX)).setCell ⟨w.heap.size + 1, 0, none⟩ (.string TX)).setCell ⟨w.heap.size + 1, 1, none⟩ (.bool false)).setCell ⟨w.heap.size + 1, 2, none⟩ (.int .i64 0)).setCell ⟨w.heap.size + 1, 3, none⟩ (.slice none 0 0)).setCell ⟨w.heap.size + 1, 4, none⟩ (.slice none 0 0)).setCell ⟨w.heap.size + 1 + 1, 0, none⟩ (.bool true)) = w5 at *
  have g0 : w5.cell? ⟨w.heap.size + 1, 0, none⟩ = some (.string TX) := by rw [cell_of_row w5 _ 0 _ _ (0, 0) f1]; rfl
  have g1 : w5.cell? ⟨w.heap.size + 1, 1, none⟩ = some (.bool false) := by rw [cell_of_row w5 _ 1 _ _ (0, 0) f1]; rfl
  have g2 : w5.cell? ⟨w.heap.size + 1, 2, none⟩ = some (.int .i64 0) := by rw [cell_of_row w5 _ 2 _ _ (0, 0) f1]; rfl
  have g3 : w5.cell? ⟨w.heap.size + 1, 3, none⟩ = some (.slice none 0 0) := by rw [cell_of_row w5 _ 3 _ _ (0, 0) f1]; rfl
  have g4 : w5.cell? ⟨w.heap.size + 1, 4, none⟩ = some (.slice none 0 0) := by rw [cell_of_row w5 _ 4 _ _ (0, 0) f1]; rfl
  have g5 : w5.cell? ⟨w.heap.size + 1 + 1, 0, none⟩ = some (.bool true) := by rw [cell_of_row w5 _ 0 _ _ (0, 0) f2]; rfl
  simp [Leaves, settle, results, Try.results26, go_sem, g0, g1, g2, g3, g4, g5]
  exact ⟨_, _, _, _, _, _, _, _, _, rfl, HT5.out, by omega, rfl, Kd.R_nil _ _ _ _ _, HS5.out⟩
end Go.Proofs.Ytoimkmoalmmooaa.Own
