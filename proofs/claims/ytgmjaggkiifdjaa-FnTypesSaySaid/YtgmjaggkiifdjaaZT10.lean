/- Texts of this claim, one behind the other (merged by wip/prune.py of this repo, without what the proof does not use): GvRow, GParams, GSort66h, GEqFold, GMatchP, LParL, GMatch, GHit, GMatchM, GSpecSort, GZzParams, SortLex, QA21. -/
import Derived.Test.YtgmjaggkiifdjaaZT2
import Derived.Test.YtgmjaggkiifdjaaZT3
import Derived.Test.YtgmjaggkiifdjaaZT4
import Derived.Test.YtgmjaggkiifdjaaZT5
import Derived.Test.YtgmjaggkiifdjaaZT6
import Derived.Test.YtgmjaggkiifdjaaZT7
import Derived.Test.YtgmjaggkiifdjaaZT8
import Derived.Below
import Derived.BigQuiet
import Derived.BigRegion
import Derived.Deep.LoopGhost
import Derived.Deep.MidRow
import Derived.Deep.Quiet
import Derived.Deep.QuietTactic
import Derived.IntWalk
import Derived.KernelRfl
import Derived.Laws.BytesArg
import Derived.Laws.MakeOwn
import Derived.Laws.OwnMore
import Derived.Laws.RangeAny
import Derived.Laws.RangeString
import Derived.Laws.Slices
import Derived.Lib.ConvBytes
import Derived.Lib.Hide
import Derived.Lib.TrimU
import Derived.Outline
import Derived.OwnWalk
import Derived.RowKit3
import Derived.Tactics
import Derived.Test.YtgmjaggkiifdjaaProg
import Derived.WalkKit
import Derived.WalkLawsBesides
import Derived.WalkMore
import Derived.WalkSpells
import Derived.WideLaws
set_option linter.unusedVariables false
set_option linter.unusedSimpArgs false
namespace Go.Proofs.Ytgmjaggkiifdjaa.Gv
open Go.RowKit Go.Proofs.YtgmjaggkiifdjaaW.PrintWords Go.Proofs.YtgmjaggkiifdjaaW.PrintLast Go.Proofs.YtgmjaggkiifdjaaW.PrintMore Go.Proofs.Ytgmjaggkiifdjaa.Base
def Br (w : World) (e : TypeId) (g : Nat) (xs : List Int) : Prop :=
  ∃ cur fr, w.heap[g]? = some (.cells cur e fr) ∧ (∀ j, j < xs.length → cur[j]? = some (.int .u8 (xs.getD j 0))) ∧ ∀ j, j < xs.length → ¬ (fr.1 ≤ j ∧ j < fr.2)
theorem Br.cell {w : World} {e : TypeId} {g : Nat} {xs : List Int} (h : Br w e g xs) (j : Nat) (hj : j < xs.length) : w.cell? ⟨g, j, none⟩ = some (.int .u8 (xs.getD j 0)) := by
  obtain ⟨cur, fr, hb, hc, _⟩ := h
  simp only [World.cell?, hb]
  exact hc j hj
theorem Br.reads {w : World} {e : TypeId} {g : Nat} {xs : List Int} (h : Br w e g xs) (hl : xs.length ≤ 9223372036854775807) : ReadsOf (Value.int .u8) 0 w (some ⟨g, 0, none⟩) xs.length xs :=
  ⟨rfl, hl, fun _ => ⟨_, rfl, fun j hj => by rw [add_plain]; exact h.cell j hj⟩⟩
theorem Br.C {w : World} {e : TypeId} {g : Nat} {xs : List Int} (h : Br w e g xs) (hl : xs.length ≤ 9223372036854775807) : Kd.C (Kd.int .u8) w (some ⟨g, 0, none⟩) xs.length xs :=
  Kd.C_of_reads (d := (0 : Int)) (h1 := fun _ => rfl) (h.reads hl)
def TabIs (S : ByteArray) (f : Int → Int) : Prop := S.size = 256 ∧ ∀ n : Fin 256, bt S ((n.val : Nat) : Int) = f ((n.val : Nat) : Int)
instance (S : ByteArray) (f : Int → Int) : Decidable (TabIs S f) := inferInstanceAs (Decidable (_ ∧ _))
end Go.Proofs.Ytgmjaggkiifdjaa.Gv
namespace Go.Proofs.Ytgmjaggkiifdjaa.Given
open Go.RowKit Go.Proofs.YtgmjaggkiifdjaaW.PrintWords Go.Proofs.YtgmjaggkiifdjaaW.PrintLast Go.Proofs.YtgmjaggkiifdjaaW.PrintMore Go.Proofs.Ytgmjaggkiifdjaa.Base Go.Proofs.Ytgmjaggkiifdjaa.Gv Go.Proofs.Ytgmjaggkiifdjaa.QA
def tokB (c : Int) : Bool := (Go.bits .or .u64 (Go.bits .and .u64 (shl .u64 1 c) 288068722172624896) (Go.bits .and .u64 (shl .u64 1 ((c - 64) % 256)) 6341068274398134270)) != 0
theorem tok_is (c : Int) (h : 0 ≤ c) : fiberhelpers_validHeaderFieldByte.f c = some (tokB c) := by
  unfold fiberhelpers_validHeaderFieldByte.f
  rw [if_pos h]
  rfl
def tokN : List Int → Nat
  | [] => 0
  | c :: r => if tokB c = true then 1 + tokN r else 0
theorem tokN_le (xs : List Int) : tokN xs ≤ xs.length := by
  induction xs with
  | nil => exact Nat.le_refl _
  | cons c r ih =>
    rw [tokN, List.length_cons]
    split <;> omega
theorem tokN_at (xs : List Int) : ∀ k, k < tokN xs → tokB (xs.getD k 0) = true := by
  induction xs with
  | nil => intro k h; simp [tokN] at h
  | cons c r ih =>
    intro k h
    rw [tokN] at h
    split at h
    · cases k with
      | zero => simpa using ‹tokB c = true›
      | succ k => simpa using ih k (by omega)
    · omega
theorem tokN_end (xs : List Int) (h : tokN xs < xs.length) : tokB (xs.getD (tokN xs) 0) = false := by
  induction xs with
  | nil => simp [tokN] at h
  | cons c r ih =>
    rw [tokN] at h ⊢
    split at h
    · rename_i hc
      rw [if_pos hc, Nat.add_comm, List.getD_cons_succ]
      exact ih (by simp only [List.length_cons] at h; omega)
    · rename_i hc
      rw [if_neg hc]
      simpa using hc
theorem tokN_pos (xs : List Int) (h0 : 0 < xs.length) (h : tokB (xs.getD 0 0) = true) : 1 ≤ tokN xs := by
  cases xs with
  | nil => simp at h0
  | cons c r => rw [tokN, if_pos (by simpa using h)]; omega
theorem p_drop_cons (xs : List Int) (k : Nat) (h : k < xs.length) : xs.drop k = xs.getD k 0 :: xs.drop (k + 1) := by
  rw [List.drop_eq_getElem_cons h, List.getD_eq_getElem?_getD, List.getElem?_eq_getElem h]; rfl
theorem getD_drop (xs : List Int) (m k : Nat) : (xs.drop m).getD k 0 = xs.getD (m + k) 0 := by
  rw [List.getD_eq_getElem?_getD, List.getD_eq_getElem?_getD, List.getElem?_drop]
def quoN : Bool → List Int → Nat
  | _, [] => 0
  | esc, c :: r => if c = 34 ∧ esc = false then 0 else 1 + quoN (c == 92 && !esc) r
theorem quoN_le (xs : List Int) : ∀ e, quoN e xs ≤ xs.length := by
  induction xs with
  | nil => intro e; exact Nat.le_refl _
  | cons c r ih =>
    intro e
    have := ih (c == 92 && !e)
    rw [quoN, List.length_cons]
    split <;> omega
def oneU (u : List Int) : Option (List Int × List Int × List Int) :=
  if tokN u = 0 then none
  else if u.length ≤ tokN u + 1 ∨ u.getD (tokN u) 0 ≠ 61 then none
  else if u.getD (tokN u + 1) 0 = 34 then
    (if tokN u + 2 + quoN false (u.drop (tokN u + 2)) < u.length then
      some (u.take (tokN u), (u.drop (tokN u + 2)).take (quoN false (u.drop (tokN u + 2))), u.drop (tokN u + 2 + quoN false (u.drop (tokN u + 2)) + 1))
    else none)
  else if tokN (u.drop (tokN u + 1)) = 0 then none
  else some (u.take (tokN u), (u.drop (tokN u + 1)).take (tokN (u.drop (tokN u + 1))), u.drop (tokN u + 1 + tokN (u.drop (tokN u + 1))))
def oneP (xs : List Int) : Option (List Int × List Int × List Int) :=
  if (ltrim xs).length = 0 ∨ (ltrim xs).getD 0 0 ≠ 59 then none else oneU (ltrim ((ltrim xs).drop 1))
def foldP {σ : Type} (step : σ → ByteArray → ByteArray → Bool × σ) : Nat → σ → List Int → σ
  | 0, s, _ => s
  | f + 1, s, xs => match oneP xs with
    | none => s
    | some (p, v, rest) => if (step s (strOfNums p) (strOfNums v)).1 = true then foldP step f (step s (strOfNums p) (strOfNums v)).2 rest else (step s (strOfNums p) (strOfNums v)).2
theorem strOf_ns (s : ByteArray) : strOfNums (ns s) = s := ns_inj (ns_strOfNums (fun x hx => ns_range s x hx))
section
variable {σ : Type} {step : σ → ByteArray → ByteArray → Bool × σ}
theorem fold_none {f : Nat} {s : σ} {xs : List Int} (h : oneP xs = none) : foldP step f s xs = s := by
  cases f with
  | zero => rfl
  | succ f => rw [foldP, h]
theorem fold_some {f : Nat} {s : σ} {xs : List Int} {P V R : ByteArray} (h : oneP xs = some (ns P, ns V, ns R)) : foldP step (f + 1) s xs = if (step s P V).1 = true then foldP step f (step s P V).2 (ns R) else (step s P V).2 := by
  rw [foldP, h]
  simp only [strOf_ns]
end
theorem p_ltrim_mem {xs : List Int} {x : Int} (h : x ∈ ltrim xs) : x ∈ xs := by
  unfold ltrim at h
  exact List.dropWhile_sublist _ |>.mem h
theorem p_ltrim_le (xs : List Int) : (ltrim xs).length ≤ xs.length := by
  unfold ltrim
  induction xs with
  | nil => simp
  | cons x xs ih =>
    rw [List.dropWhile_cons]
    split
    · simp only [List.length_cons]; omega
    · exact Nat.le_refl _
theorem trim_at (x : ByteArray) (hx : x.size ≤ 4611686018427387904) : ∃ t : ByteArray, (∃ k, fiberutils_TrimLeft.f k x 32 = some t) ∧ t.size ≤ x.size ∧ ns t = ltrim (ns x) := by
  have hr : ∀ y ∈ ltrim (ns x), 0 ≤ y ∧ y ≤ 255 := fun y hy => ns_range x y (p_ltrim_mem hy)
  have hns : ns (strOfNums (ltrim (ns x))) = ltrim (ns x) := ns_strOfNums hr
  refine ⟨_, trimL x hx, ?_, hns⟩
  have := p_ltrim_le (ns x)
  rw [← hns, ns_length, ns_length] at this
  exact this
theorem ns_from (u : ByteArray) (i : Nat) : ns (u.extract i u.size) = (ns u).drop i := by
  rw [ns_extract]
  refine List.take_of_length_le ?_
  rw [List.length_drop, ns_length]
  omega
theorem ns_to (u : ByteArray) (i : Nat) : ns (u.extract 0 i) = (ns u).take i := by
  rw [ns_extract, List.drop_zero, Nat.sub_zero]
theorem p_below_drewN {o n : Nat} {w w' : World} (h : Below o (w.drewN n) w') : Below o w w' := (pw_below_drewN (Below.refl o w) n).trans h
theorem one_of {x t u : ByteArray} (ht : ns t = ltrim (ns x)) (h0 : 0 < t.size) (h1 : (ns t).getD 0 0 = 59) (hu : ns u = ltrim (ns (t.extract 1 t.size))) : oneP (ns x) = oneU (ns u) := by
  have hl := ns_length t
  unfold oneP
  rw [← ht, if_neg (fun h => h.elim (fun h => by omega) (fun h => h h1)), hu, ns_from]
theorem oneU_n0 {u : List Int} (h : tokN u = 0) : oneU u = none := by rw [oneU, if_pos h]
theorem oneU_eq {u : List Int} {N : Nat} (hN : tokN u = N) (h : u.length ≤ N + 1 ∨ u.getD N 0 ≠ 61) : oneU u = none := by
  unfold oneU
  rw [hN]
  split <;> first | rfl | rw [if_pos h]
theorem oneU_q {u : List Int} {N Q : Nat} (hN : tokN u = N) (h0 : N ≠ 0) (h1 : N + 1 < u.length) (h2 : u.getD N 0 = 61) (h3 : u.getD (N + 1) 0 = 34) (hQ : quoN false (u.drop (N + 2)) = Q) :
    oneU u = if N + 2 + Q < u.length then some (u.take N, (u.drop (N + 2)).take Q, u.drop (N + 2 + Q + 1)) else none := by
  unfold oneU
  rw [hN, if_neg h0, if_neg (fun h => h.elim (fun h => by omega) (fun h => h h2)), if_pos h3, hQ]
theorem oneU_t {u : List Int} {N M : Nat} (hN : tokN u = N) (h0 : N ≠ 0) (h1 : N + 1 < u.length) (h2 : u.getD N 0 = 61) (h3 : u.getD (N + 1) 0 ≠ 34) (hM : tokN (u.drop (N + 1)) = M) :
    oneU u = if M = 0 then none else some (u.take N, (u.drop (N + 1)).take M, u.drop (N + 1 + M)) := by
  unfold oneU
  rw [hN, if_neg h0, if_neg (fun h => h.elim (fun h => by omega) (fun h => h h2)), if_neg h3, hM]
theorem ns_mid (u : ByteArray) (i n : Nat) : ns (u.extract i (i + n)) = ((ns u).drop i).take n := by
  rw [ns_extract, Nat.add_sub_cancel_left]
set_option maxHeartbeats 16000000 in
set_option maxRecDepth 100000 in
theorem forEach_calls {σ : Type} (F : Nat) (caps : Array Value) (step : σ → ByteArray → ByteArray → Bool × σ) (Inv : World → Nat → σ → Prop) (o : Nat) (a0 : ByteArray) (hbd : a0.size ≤ 1099511627776)
  (hdrew : ∀ W i s n, Inv W i s → Inv (W.drewN n) i s)
  (hstep : ∀ W i s p v, Inv W i s → i < 1099511627776 → p.size ≤ 1099511627776 → v.size ≤ 1099511627776 → Calls Try.prog F (#[.string p, .string v] ++ caps) W fun e W' => e = .returned (.bool (step s p v).1) ∧ Inv W' (i + 1) (step s p v).2 ∧ Below o W W')
  (hcf : ∀ (args : Array Value) (W : World), (callFunc F args).run Try.prog W = .ok (.enter F args) W) (s0 : σ) (w : World) (h0 : Inv w 0 s0) :
  Calls Try.prog 43 #[.string a0, .func (.func F) #[] caps] w fun e w' => e = .returned (.tuple #[]) ∧ (∃ i, Inv w' i (foldP step a0.size s0 (ns a0))) ∧ Below o w w' := by
 obtain ⟨FIN, hFIN⟩ : ∃ R, foldP step a0.size s0 (ns a0) = R := ⟨_, rfl⟩
 rw [hFIN]
 have HF0 := Lib.hid hFIN
 have HDR := Lib.hid hdrew
 have HST := Lib.hid hstep
 have HI0 := Lib.hid h0
 clear hFIN hdrew hstep h0
 go_enter Try.func43, Try.ntmps43
 go_wp2
 go_loopw [0, 4, 5, 6, 7, 8, 9] (fun hd _ _ _ _ _ _ wr => ∃ (x : ByteArray) (s : σ) (i f : Nat), hd = .string x ∧ Hid (x.size ≤ f) ∧ x.size + i ≤ a0.size ∧ Hid (Inv wr i s) ∧ Hid (Below o w wr) ∧ Hid (foldP step f s (ns x) = FIN)) (fun hd _ _ _ _ _ _ _ => match hd with | .string x => x.size | _ => 0)
 case atStart => exact ⟨a0, s0, 0, a0.size, rfl, Lib.hid (Nat.le_refl _), by simp, HI0, Lib.hid (Below.refl _ _), HF0⟩
 case round =>
  obtain ⟨x, s, i, f, rfl, HF, hcount, HI, HBL, HE⟩ := hrel
  have stop : Hid (oneP (ns x) = none → s = (FIN : σ)) := Lib.hid (fun h => by rw [← HE.out, fold_none h])
  by_cases hx0 : 0 < x.size
  ·obtain ⟨f, rfl⟩ : ∃ g, f = g + 1 := ⟨f - 1, by have := HF.out; omega⟩
   obtain ⟨t, ⟨kt, htr⟩, hts, hnt⟩ := trim_at x (by omega)
   have HTR := Lib.hid htr
   have HNT := Lib.hid hnt
   have htb : t.size ≤ 1099511627776 := by omega
   have HTS := Lib.hid hts
   clear htr hnt hts
   go_upto_region 2 with (go_at_call 49; refine (fiberutils_TrimLeft.calls kt x 32 t _ HTR.out).mono ?_; rintro e w' ⟨rfl, ⟨n1, rfl⟩⟩)
   by_cases d1 : 0 < t.size
   ·obtain ⟨c0, hc0⟩ : ∃ c, (ns t).getD 0 0 = c := ⟨_, rfl⟩
    have e0 : ((t[0]'d1).toNat : Int) = c0 := (bt_at t 0 d1).trans ((bt_ns t 0).trans hc0)
    have zt : ((t.size : Int) == 0) = false := beq_eq_false_iff_ne.2 (by omega)
    by_cases d2 : c0 = 59
    ·subst d2
     obtain ⟨u, ⟨ku, hur⟩, hus, hnu⟩ := trim_at (t.extract 1 t.size) (by rw [ByteArray.size_extract]; omega)
     have hus2 : u.size < x.size := by rw [ByteArray.size_extract] at hus; have := HTS.out; omega
     have HUR := Lib.hid hur
     have HU : Hid (oneP (ns x) = oneU (ns u)) := Lib.hid (one_of HNT.out d1 hc0 hnu)
     have hub : u.size ≤ 1099511627776 := by omega
     have HU2 := Lib.hid hus2
     clear hur hnu hus hc0 hus2
     go_upto_region 5 with (first
      | (go_at_call 49; refine (fiberutils_TrimLeft.calls ku (t.extract 1 t.size) 32 u _ HUR.out).mono ?_; rintro e w' ⟨rfl, ⟨n2, rfl⟩⟩))
     obtain ⟨N, hN⟩ : ∃ N, tokN (ns u) = N := ⟨_, rfl⟩
     have HN := Lib.hid hN
     have hul := ns_length u
     by_cases e1 : 0 < u.size
     ·obtain ⟨c1, hc1⟩ : ∃ c, (ns u).getD 0 0 = c := ⟨_, rfl⟩
      have e1v : ((u[0]'e1).toNat : Int) = c1 := (bt_at u 0 e1).trans ((bt_ns u 0).trans hc1)
      have zu : ((u.size : Int) == 0) = false := beq_eq_false_iff_ne.2 (by omega)
      have c1r : 0 ≤ c1 := by rw [← e1v]; exact Int.natCast_nonneg _
      by_cases e2 : tokB c1 = true
      ·have HV1 : Hid (fiberhelpers_validHeaderFieldByte.f c1 = some true) := Lib.hid (by rw [tok_is c1 c1r, e2])
       have hN1 : 1 ≤ N := by rw [← hN]; exact tokN_pos _ (by omega) (by rw [hc1]; exact e2)
       have hNu : N ≤ u.size := by rw [← hN, ← hul]; exact tokN_le _
       have HAT : Hid (∀ k, k < N → tokB ((ns u).getD k 0) = true) := Lib.hid (fun k hk => tokN_at _ k (by rw [hN]; exact hk))
       have HEND : Hid (N < u.size → tokB ((ns u).getD N 0) = false) := Lib.hid (fun h => by have := tokN_end (ns u) (by rw [hN, hul]; exact h); rwa [hN] at this)
       have HUL := Lib.hid hul
       clear hN hul hc1 e2 c1r
       go_wp2_with (go_at_call 51; refine (fiberhelpers_validHeaderFieldByte.calls c1 true _ HV1.out).mono ?_; rintro e w' ⟨rfl, ⟨n3, rfl⟩⟩)
       clear e1v zu
       go_loopw [4] (fun n wi => ∃ k : Nat, n = .int .i64 k ∧ 1 ≤ k ∧ k ≤ N ∧ Hid (Inv wi i s) ∧ Hid (Below o w wi)) (fun n _ => u.size - (intOf n).toNat)
       case atStart => exact ⟨1, by go_num, by omega, hN1, Lib.hid (by repeat (first | exact HI.out | apply HDR.out)), Lib.hid (by repeat (first | exact HBL.out | apply pw_below_drewN))⟩
       case round =>
        obtain ⟨k, rfl, hk1, hkN, HI2, HB2⟩ := hrel
        by_cases hk : k < u.size
        ·obtain ⟨c, hc⟩ : ∃ c, (ns u).getD k 0 = c := ⟨_, rfl⟩
         have ev : ((u[k]'hk).toNat : Int) = c := (bt_at u (k : Int) hk).trans ((bt_ns u k).trans hc)
         have cr : 0 ≤ c := by rw [← ev]; exact Int.natCast_nonneg _
         by_cases ht : tokB c = true
         ·have hlt : k < N := by
           rcases Nat.lt_or_ge k N with h | h
           ·exact h
           ·obtain rfl : k = N := by omega
            have := HEND.out hk
            rw [hc, ht] at this
            cases this
          have HV : Hid (fiberhelpers_validHeaderFieldByte.f c = some true) := Lib.hid (by rw [tok_is c cr, ht])
          clear hc ht cr
          go_wp2_with (go_at_call 51; refine (fiberhelpers_validHeaderFieldByte.calls c true _ HV.out).mono ?_; rintro e w' ⟨rfl, ⟨n3, rfl⟩⟩)
          go_roundw
          case rel => exact ⟨k + 1, by go_num, by omega, by omega, Lib.hid (by repeat (first | exact HI2.out | apply HDR.out)), Lib.hid (by repeat (first | exact HB2.out | apply pw_below_drewN))⟩
          case measure => simp [intOf]; omega
         ·rw [Bool.not_eq_true] at ht
          obtain rfl : k = N := by
           rcases Nat.lt_or_ge k N with h | h
           ·have := HAT.out k h
            rw [hc, ht] at this
            cases this
           ·omega
          have HV : Hid (fiberhelpers_validHeaderFieldByte.f c = some false) := Lib.hid (by rw [tok_is c cr, ht])
          by_cases g1 : k + 1 < u.size
          ·have zg : (k : Int) < (u.size : Int) - 1 := by omega
           have k0 : k ≠ 0 := by omega
           obtain ⟨c2, hc2⟩ : ∃ c, (ns u).getD (k + 1) 0 = c := ⟨_, rfl⟩
           have ev2 : ((u[k + 1]'g1).toNat : Int) = c2 := (bt_at u ((k + 1 : Nat) : Int) g1).trans ((bt_ns u (k + 1)).trans hc2)
           by_cases g2 : c = 61
           ·subst g2
            by_cases g3 : c2 = 34
            ·subst g3
             obtain ⟨Q, hQ⟩ : ∃ Q, quoN false ((ns u).drop (k + 2)) = Q := ⟨_, rfl⟩
             have hQl : k + 2 + Q ≤ u.size := by
              have := quoN_le ((ns u).drop (k + 2)) false
              rw [hQ, List.length_drop, HUL.out] at this
              omega
             have HQ := Lib.hid hQ
             have HONE : Hid (oneU (ns u) = if k + 2 + Q < u.size then some ((ns u).take k, ((ns u).drop (k + 2)).take Q, (ns u).drop (k + 2 + Q + 1)) else none) := Lib.hid (by
              have := oneU_q HN.out k0 (by rw [HUL.out]; exact g1) hc hc2 hQ
              rwa [HUL.out] at this)
             clear hQ hc hc2 ht cr
             go_wp2_with (go_at_call 51; refine (fiberhelpers_validHeaderFieldByte.calls 61 false _ HV.out).mono ?_; rintro e w' ⟨rfl, ⟨n4, rfl⟩⟩)
             clear ev ev2
             go_loopw [4, 6, 7] (fun nn fo es wi => ∃ (p : Nat) (esc : Bool), nn = .int .i64 p ∧ fo = .bool false ∧ es = .bool esc ∧ k + 2 ≤ p ∧ p ≤ k + 2 + Q ∧ Hid (p + quoN esc ((ns u).drop p) = k + 2 + Q) ∧ Hid (Inv wi i s) ∧ Hid (Below o w wi)) (fun nn _ _ _ => u.size - (intOf nn).toNat)
             case atStart => exact ⟨k + 2, false, by go_num, rfl, rfl, by omega, by omega, Lib.hid (by rw [HQ.out]), Lib.hid (by repeat (first | exact HI2.out | apply HDR.out)), Lib.hid (by repeat (first | exact HB2.out | apply pw_below_drewN))⟩
             case round =>
              obtain ⟨p, esc, rfl, rfl, rfl, hp1, hp2, HS, HI3, HB3⟩ := hrel
              by_cases hp : p < u.size
              ·obtain ⟨c3, hc3⟩ : ∃ c, (ns u).getD p 0 = c := ⟨_, rfl⟩
               have ev3 : ((u[p]'hp).toNat : Int) = c3 := (bt_at u (p : Int) hp).trans ((bt_ns u p).trans hc3)
               have HS3 : Hid (p + quoN esc (c3 :: (ns u).drop (p + 1)) = k + 2 + Q) := Lib.hid (by rw [← hc3, ← p_drop_cons (ns u) p (by rw [HUL.out]; exact hp)]; exact HS.out)
               clear hc3 HS
               by_cases b1 : c3 = 34
               ·subst b1
                cases esc with
                | false =>
                 have hpe : p = k + 2 + Q := by have := HS3.out; rw [quoN, if_pos ⟨rfl, rfl⟩] at this; omega
                 subst hpe
                 obtain ⟨b, s', hsv⟩ : ∃ b s', step s (u.extract 0 k) (u.extract (k + 1 + 1) (k + 2 + Q)) = (b, s') := ⟨_, _, rfl⟩
                 have HON : Hid (oneP (ns x) = some (ns (u.extract 0 k), ns (u.extract (k + 1 + 1) (k + 2 + Q)), ns (u.extract (k + 2 + Q + 1) u.size))) := Lib.hid (by
        have hv : ns (u.extract (k + 1 + 1) (k + 2 + Q)) = ((ns u).drop (k + 2)).take Q := ns_mid u (k + 2) Q
        rw [HU.out, HONE.out, if_pos hp, ns_to, hv, ns_from])
                 have HFO : Hid ((if b = true then foldP step f s' (ns (u.extract (k + 2 + Q + 1) u.size)) else s') = FIN) := Lib.hid (by
                  have := HE.out
                  rw [fold_some HON.out, hsv] at this
                  exact this)
                 have HCA : Hid (∀ W, Inv W i s → Calls Try.prog F (#[.string (u.extract 0 k), .string (u.extract (k + 1 + 1) (k + 2 + Q))] ++ caps) W fun e W' => e = .returned (.bool b) ∧ Inv W' (i + 1) s' ∧ Below o W W') := Lib.hid (fun W h => by
                  have := HST.out W i s (u.extract 0 k) (u.extract (k + 1 + 1) (k + 2 + Q)) h (by omega) (by rw [ByteArray.size_extract]; omega) (by rw [ByteArray.size_extract]; omega)
                  rw [hsv] at this
                  exact this)
                 have hrs : (u.extract (k + 2 + Q + 1) u.size).size < x.size ∧ (u.extract (k + 2 + Q + 1) u.size).size ≤ f ∧ (u.extract (k + 2 + Q + 1) u.size).size + (i + 1) ≤ a0.size := by
                  have h1 := HU2.out
                  have h2 := HF.out
                  rw [ByteArray.size_extract]
                  omega
                 have HRS := Lib.hid hrs
                 clear hsv hrs
                 cases b with
                 | false =>
                  go_wp2_with (refine (HCA.out _ (by repeat (first | exact HI3.out | apply HDR.out))).mono ?_; rintro e w' ⟨rfl, q1, q2⟩)
                  refine bodyPost_ret (results_none rfl _ _ _) rfl ?_
                  have hfin : Hid (s' = FIN) := Lib.hid (by have := HFO.out; rwa [if_neg (by simp)] at this)
                  exact ⟨rfl, ⟨i + 1, hfin.out ▸ q1⟩, HB3.out.trans (by first | exact q2 | exact p_below_drewN q2)⟩
                 | true =>
                  have hgo : Hid (foldP step f s' (ns (u.extract (k + 2 + Q + 1) u.size)) = FIN) := Lib.hid (by have := HFO.out; rwa [if_pos rfl] at this)
                  go_wp2_with (refine (HCA.out _ (by repeat (first | exact HI3.out | apply HDR.out))).mono ?_; rintro e w' ⟨rfl, q1, q2⟩)
                  go_roundw
                  case rel => exact ⟨u.extract (k + 2 + Q + 1) u.size, s', i + 1, f, by go_num, Lib.hid HRS.out.2.1, HRS.out.2.2, Lib.hid q1, Lib.hid (HB3.out.trans (by first | exact q2 | exact p_below_drewN q2)), hgo⟩
                  case measure => exact HRS.out.1
                | true =>
                 have HS4 : Hid (p + 1 + quoN false ((ns u).drop (p + 1)) = k + 2 + Q) := Lib.hid (by have := HS3.out; rw [quoN, if_neg (by simp)] at this; simp at this; omega)
                 have hp3 : p + 1 ≤ k + 2 + Q := by have := HS4.out; omega
                 go_wp2
                 go_roundw
                 case rel => exact ⟨p + 1, false, by go_num, by first | rfl | trivial, by first | rfl | trivial, by omega, hp3, HS4, Lib.hid (by repeat (first | exact HI3.out | apply HDR.out)), Lib.hid (by repeat (first | exact HB3.out | apply pw_below_drewN))⟩
                 case measure => simp [intOf]; omega
               ·have b1b : (c3 == 34) = false := beq_eq_false_iff_ne.2 b1
                have HS4 : Hid (p + 1 + quoN (c3 == 92 && !esc) ((ns u).drop (p + 1)) = k + 2 + Q) := Lib.hid (by have := HS3.out; rw [quoN, if_neg (fun h => b1 h.1)] at this; omega)
                have hp3 : p + 1 ≤ k + 2 + Q := by have := HS4.out; omega
                cases b2 : (c3 == 92) with
                | false =>
                 rw [b2, Bool.false_and] at HS4
                 go_wp2
                 go_roundw
                 case rel => exact ⟨p + 1, false, by go_num, by first | rfl | trivial, by first | rfl | trivial, by omega, hp3, HS4, Lib.hid (by repeat (first | exact HI3.out | apply HDR.out)), Lib.hid (by repeat (first | exact HB3.out | apply pw_below_drewN))⟩
                 case measure => simp [intOf]; omega
                | true =>
                 rw [b2, Bool.true_and] at HS4
                 go_wp2
                 go_roundw
                 case rel => exact ⟨p + 1, !esc, by go_num, by first | rfl | trivial, by first | rfl | trivial, by omega, hp3, HS4, Lib.hid (by repeat (first | exact HI3.out | apply HDR.out)), Lib.hid (by repeat (first | exact HB3.out | apply pw_below_drewN))⟩
                 case measure => simp [intOf]; omega
              ·have hpe : p = k + 2 + Q := by omega
               have hnone : Hid (s = FIN) := Lib.hid (stop.out (HU.out.trans (HONE.out.trans (if_neg (by omega)))))
               go_wp2
               refine bodyPost_ret (results_none rfl _ _ _) rfl ?_
               exact ⟨rfl, ⟨i, hnone.out ▸ (by repeat (first | exact HI3.out | apply HDR.out))⟩, (by repeat (first | exact HB3.out | apply pw_below_drewN))⟩
            ·have g3b : (c2 == 34) = false := beq_eq_false_iff_ne.2 g3
             have c2r : 0 ≤ c2 := by rw [← ev2]; exact Int.natCast_nonneg _
             obtain ⟨M, hM⟩ : ∃ M, tokN ((ns u).drop (k + 1)) = M := ⟨_, rfl⟩
             have HM := Lib.hid hM
             have HONE : Hid (oneU (ns u) = if M = 0 then none else some ((ns u).take k, ((ns u).drop (k + 1)).take M, (ns u).drop (k + 1 + M))) := Lib.hid (oneU_t HN.out k0 (by rw [HUL.out]; exact g1) hc (by rw [hc2]; exact g3) hM)
             have hdl : ((ns u).drop (k + 1)).length = u.size - (k + 1) := by rw [List.length_drop, HUL.out]
             by_cases t2 : tokB c2 = true
             ·have hM1 : 1 ≤ M := by rw [← hM]; exact tokN_pos _ (by omega) (by rw [getD_drop, Nat.add_zero, hc2]; exact t2)
              have hMl : k + 1 + M ≤ u.size := by have := tokN_le ((ns u).drop (k + 1)); rw [hM, hdl] at this; omega
              have HAT2 : Hid (∀ p, k + 1 ≤ p → p < k + 1 + M → tokB ((ns u).getD p 0) = true) := Lib.hid (fun p h1 h2 => by
               have := tokN_at ((ns u).drop (k + 1)) (p - (k + 1)) (by rw [hM]; omega)
               rwa [getD_drop, show k + 1 + (p - (k + 1)) = p by omega] at this)
              have HEND2 : Hid (k + 1 + M < u.size → tokB ((ns u).getD (k + 1 + M) 0) = false) := Lib.hid (fun h => by
               have := tokN_end ((ns u).drop (k + 1)) (by rw [hM, hdl]; omega)
               rwa [hM, getD_drop] at this)
              have HV2 : Hid (fiberhelpers_validHeaderFieldByte.f c2 = some true) := Lib.hid (by rw [tok_is c2 c2r, t2])
              clear hM hdl hc hc2 ht cr c2r t2 g3
              go_upto_region 25 with (go_at_call 51; refine (fiberhelpers_validHeaderFieldByte.calls 61 false _ HV.out).mono ?_; rintro e w' ⟨rfl, ⟨n4, rfl⟩⟩)
              go_wp2_with (go_at_call 51; refine (fiberhelpers_validHeaderFieldByte.calls c2 true _ HV2.out).mono ?_; rintro e w' ⟨rfl, ⟨n4, rfl⟩⟩)
              clear ev ev2 g3b
              go_loopw [4] (fun nn wi => ∃ p : Nat, nn = .int .i64 p ∧ k + 2 ≤ p ∧ p ≤ k + 1 + M ∧ Hid (Inv wi i s) ∧ Hid (Below o w wi)) (fun nn _ => u.size - (intOf nn).toNat)
              case atStart => exact ⟨k + 2, by go_num, by omega, by omega, Lib.hid (by repeat (first | exact HI2.out | apply HDR.out)), Lib.hid (by repeat (first | exact HB2.out | apply pw_below_drewN))⟩
              case round =>
               obtain ⟨p, rfl, hp1, hp2, HI3, HB3⟩ := hrel
               have goes : p = k + 1 + M → Hid (∃ b s', step s (u.extract 0 k) (u.extract (k + 1) p) = (b, s') ∧ ((if b = true then foldP step f s' (ns (u.extract p u.size)) else s') = FIN) ∧ (∀ W, Inv W i s → Calls Try.prog F (#[.string (u.extract 0 k), .string (u.extract (k + 1) p)] ++ caps) W fun e W' => e = .returned (.bool b) ∧ Inv W' (i + 1) s' ∧ Below o W W') ∧ ((u.extract p u.size).size < x.size ∧ (u.extract p u.size).size ≤ f ∧ (u.extract p u.size).size + (i + 1) ≤ a0.size)) := by
                rintro rfl
                refine Lib.hid ⟨_, _, rfl, ?_, ?_, ?_⟩
                ·have := HE.out
                 rw [fold_some (P := u.extract 0 k) (V := u.extract (k + 1) (k + 1 + M)) (R := u.extract (k + 1 + M) u.size) (by rw [HU.out, HONE.out, if_neg (by omega), ns_to, ns_mid, ns_from])] at this
                 exact this
                ·intro W h
                 exact HST.out W i s (u.extract 0 k) (u.extract (k + 1) (k + 1 + M)) h (by omega) (by rw [ByteArray.size_extract]; omega) (by rw [ByteArray.size_extract]; omega)
                ·have h1 := HU2.out
                 have h2 := HF.out
                 rw [ByteArray.size_extract]
                 omega
               by_cases hp : p < u.size
               ·obtain ⟨c3, hc3⟩ : ∃ c, (ns u).getD p 0 = c := ⟨_, rfl⟩
                have ev3 : ((u[p]'hp).toNat : Int) = c3 := (bt_at u (p : Int) hp).trans ((bt_ns u p).trans hc3)
                have cr3 : 0 ≤ c3 := by rw [← ev3]; exact Int.natCast_nonneg _
                by_cases ht3 : tokB c3 = true
                ·have hlt : p < k + 1 + M := by
                  rcases Nat.lt_or_ge p (k + 1 + M) with h | h
                  ·exact h
                  ·obtain rfl : p = k + 1 + M := by omega
                   have := HEND2.out hp
                   rw [hc3, ht3] at this
                   cases this
                 have HV3 : Hid (fiberhelpers_validHeaderFieldByte.f c3 = some true) := Lib.hid (by rw [tok_is c3 cr3, ht3])
                 clear hc3 ht3 cr3 goes
                 go_wp2_with (go_at_call 51; refine (fiberhelpers_validHeaderFieldByte.calls c3 true _ HV3.out).mono ?_; rintro e w' ⟨rfl, ⟨n4, rfl⟩⟩)
                 go_roundw
                 case rel => exact ⟨p + 1, by go_num, by omega, by omega, Lib.hid (by repeat (first | exact HI3.out | apply HDR.out)), Lib.hid (by repeat (first | exact HB3.out | apply pw_below_drewN))⟩
                 case measure => simp [intOf]; omega
                ·rw [Bool.not_eq_true] at ht3
                 have hpe : p = k + 1 + M := by
                  rcases Nat.lt_or_ge p (k + 1 + M) with h | h
                  ·have := HAT2.out p (by omega) h
                   rw [hc3, ht3] at this
                   cases this
                  ·omega
                 have HV3 : Hid (fiberhelpers_validHeaderFieldByte.f c3 = some false) := Lib.hid (by rw [tok_is c3 cr3, ht3])
                 have GO := goes hpe
                 clear hc3 ht3 cr3 goes hpe
                 obtain ⟨b, s', _, hfo, hca, hrs⟩ := GO.out
                 have HFO := Lib.hid hfo
                 have HCA := Lib.hid hca
                 have HRS := Lib.hid hrs
                 clear hfo hca hrs GO
                 cases b with
                 | false =>
                  go_wp2_with (first | (go_at_call 51; refine (fiberhelpers_validHeaderFieldByte.calls c3 false _ HV3.out).mono ?_; rintro e w' ⟨rfl, ⟨n4, rfl⟩⟩) | (refine (HCA.out _ (by repeat (first | exact HI3.out | apply HDR.out))).mono ?_; rintro e w' ⟨rfl, q1, q2⟩))
                  refine bodyPost_ret (results_none rfl _ _ _) rfl ?_
                  have hfin : Hid (s' = FIN) := Lib.hid (by have := HFO.out; rwa [if_neg (by simp)] at this)
                  exact ⟨rfl, ⟨i + 1, hfin.out ▸ q1⟩, HB3.out.trans (by first | exact q2 | exact p_below_drewN q2)⟩
                 | true =>
                  have hgo : Hid (foldP step f s' (ns (u.extract p u.size)) = FIN) := Lib.hid (by have := HFO.out; rwa [if_pos rfl] at this)
                  go_wp2_with (first | (go_at_call 51; refine (fiberhelpers_validHeaderFieldByte.calls c3 false _ HV3.out).mono ?_; rintro e w' ⟨rfl, ⟨n4, rfl⟩⟩) | (refine (HCA.out _ (by repeat (first | exact HI3.out | apply HDR.out))).mono ?_; rintro e w' ⟨rfl, q1, q2⟩))
                  go_roundw
                  case rel => exact ⟨u.extract p u.size, s', i + 1, f, by go_num, Lib.hid HRS.out.2.1, HRS.out.2.2, Lib.hid q1, Lib.hid (HB3.out.trans (by first | exact q2 | exact p_below_drewN q2)), hgo⟩
                  case measure => exact HRS.out.1
               ·have hpe : p = k + 1 + M := by omega
                have GO := goes hpe
                clear goes hpe
                obtain ⟨b, s', _, hfo, hca, hrs⟩ := GO.out
                have HFO := Lib.hid hfo
                have HCA := Lib.hid hca
                have HRS := Lib.hid hrs
                clear hfo hca hrs GO
                cases b with
                | false =>
                 go_wp2_with (refine (HCA.out _ (by repeat (first | exact HI3.out | apply HDR.out))).mono ?_; rintro e w' ⟨rfl, q1, q2⟩)
                 refine bodyPost_ret (results_none rfl _ _ _) rfl ?_
                 have hfin : Hid (s' = FIN) := Lib.hid (by have := HFO.out; rwa [if_neg (by simp)] at this)
                 exact ⟨rfl, ⟨i + 1, hfin.out ▸ q1⟩, HB3.out.trans (by first | exact q2 | exact p_below_drewN q2)⟩
                | true =>
                 have hgo : Hid (foldP step f s' (ns (u.extract p u.size)) = FIN) := Lib.hid (by have := HFO.out; rwa [if_pos rfl] at this)
                 go_wp2_with (refine (HCA.out _ (by repeat (first | exact HI3.out | apply HDR.out))).mono ?_; rintro e w' ⟨rfl, q1, q2⟩)
                 go_roundw
                 case rel => exact ⟨u.extract p u.size, s', i + 1, f, by go_num, Lib.hid HRS.out.2.1, HRS.out.2.2, Lib.hid q1, Lib.hid (HB3.out.trans (by first | exact q2 | exact p_below_drewN q2)), hgo⟩
                 case measure => exact HRS.out.1
             ·rw [Bool.not_eq_true] at t2
              have HV2 : Hid (fiberhelpers_validHeaderFieldByte.f c2 = some false) := Lib.hid (by rw [tok_is c2 c2r, t2])
              have hM0 : M = 0 := by
               rcases Nat.eq_zero_or_pos M with h | h
               ·exact h
               ·have := tokN_at ((ns u).drop (k + 1)) 0 (by rw [hM]; exact h)
                rw [getD_drop, Nat.add_zero, hc2, t2] at this
                cases this
              have hnone : Hid (s = FIN) := Lib.hid (stop.out (HU.out.trans (HONE.out.trans (if_pos hM0))))
              clear hM hdl hc hc2 ht cr c2r t2 g3
              go_upto_region 25 with (go_at_call 51; refine (fiberhelpers_validHeaderFieldByte.calls 61 false _ HV.out).mono ?_; rintro e w' ⟨rfl, ⟨n4, rfl⟩⟩)
              go_wp2_with (go_at_call 51; refine (fiberhelpers_validHeaderFieldByte.calls c2 false _ HV2.out).mono ?_; rintro e w' ⟨rfl, ⟨n4, rfl⟩⟩)
              refine bodyPost_ret (results_none rfl _ _ _) rfl ?_
              exact ⟨rfl, ⟨i, hnone.out ▸ (by repeat (first | exact HI2.out | apply HDR.out))⟩, (by repeat (first | exact HB2.out | apply pw_below_drewN))⟩
           ·have g2b : (c != 61) = true := bne_iff_ne.2 g2
            have hnone : Hid (s = FIN) := Lib.hid (stop.out (HU.out.trans (oneU_eq HN.out (.inr (by rw [hc]; exact g2)))))
            go_wp2_with (go_at_call 51; refine (fiberhelpers_validHeaderFieldByte.calls c false _ HV.out).mono ?_; rintro e w' ⟨rfl, ⟨n4, rfl⟩⟩)
            refine bodyPost_ret (results_none rfl _ _ _) rfl ?_
            exact ⟨rfl, ⟨i, hnone.out ▸ (by repeat (first | exact HI2.out | apply HDR.out))⟩, (by repeat (first | exact HB2.out | apply pw_below_drewN))⟩
          ·have hnone : Hid (s = FIN) := Lib.hid (stop.out (HU.out.trans (oneU_eq HN.out (.inl (by rw [HUL.out]; omega)))))
           go_wp2_with (go_at_call 51; refine (fiberhelpers_validHeaderFieldByte.calls c false _ HV.out).mono ?_; rintro e w' ⟨rfl, ⟨n3, rfl⟩⟩)
           refine bodyPost_ret (results_none rfl _ _ _) rfl ?_
           exact ⟨rfl, ⟨i, hnone.out ▸ (by repeat (first | exact HI2.out | apply HDR.out))⟩, (by repeat (first | exact HB2.out | apply pw_below_drewN))⟩
        ·obtain rfl : k = N := by omega
         have hnone : Hid (s = FIN) := Lib.hid (stop.out (HU.out.trans (oneU_eq HN.out (.inl (by rw [HUL.out]; omega)))))
         go_wp2
         refine bodyPost_ret (results_none rfl _ _ _) rfl ?_
         exact ⟨rfl, ⟨i, hnone.out ▸ (by repeat (first | exact HI2.out | apply HDR.out))⟩, (by repeat (first | exact HB2.out | apply pw_below_drewN))⟩
      ·have HV1 : Hid (fiberhelpers_validHeaderFieldByte.f c1 = some false) := Lib.hid (by rw [tok_is c1 c1r]; simpa using e2)
       have hnone : Hid (s = FIN) := Lib.hid (stop.out (HU.out.trans (oneU_n0 (by
        cases hh : ns u with
        | nil => rfl
        | cons y r => rw [tokN, if_neg (by rw [hh] at hc1; simp at hc1; rw [hc1]; exact e2)]))))
       go_wp2_with (go_at_call 51; refine (fiberhelpers_validHeaderFieldByte.calls c1 false _ HV1.out).mono ?_; rintro e w' ⟨rfl, ⟨n3, rfl⟩⟩)
       refine bodyPost_ret (results_none rfl _ _ _) rfl ?_
       exact ⟨rfl, ⟨i, hnone.out ▸ (by repeat (first | exact HI.out | apply HDR.out))⟩, (by repeat (first | exact HBL.out | apply pw_below_drewN))⟩
     ·have hnone : Hid (s = FIN) := Lib.hid (stop.out (HU.out.trans (oneU_n0 (by rw [List.eq_nil_of_length_eq_zero (show (ns u).length = 0 by omega)]; rfl))))
      have zu : ((u.size : Int) == 0) = true := beq_iff_eq.2 (by omega)
      go_wp2
      refine bodyPost_ret (results_none rfl _ _ _) rfl ?_
      exact ⟨rfl, ⟨i, hnone.out ▸ (by repeat (first | exact HI.out | apply HDR.out))⟩, (by repeat (first | exact HBL.out | apply pw_below_drewN))⟩
    ·have hnone : Hid (s = FIN) := Lib.hid (stop.out (by unfold oneP; rw [← HNT.out, if_pos (.inr (by rw [hc0]; exact d2))]))
     have d2b : (c0 != 59) = true := bne_iff_ne.2 d2
     go_wp2
     refine bodyPost_ret (results_none rfl _ _ _) rfl ?_
     exact ⟨rfl, ⟨i, hnone.out ▸ (by repeat (first | exact HI.out | apply HDR.out))⟩, (by repeat (first | exact HBL.out | apply pw_below_drewN))⟩
   ·have hnone : Hid (s = FIN) := Lib.hid (stop.out (by unfold oneP; rw [← HNT.out, if_pos (.inl (by rw [ns_length]; omega))]))
    have zt : ((t.size : Int) == 0) = true := beq_iff_eq.2 (by omega)
    go_wp2
    refine bodyPost_ret (results_none rfl _ _ _) rfl ?_
    exact ⟨rfl, ⟨i, hnone.out ▸ (by repeat (first | exact HI.out | apply HDR.out))⟩, (by repeat (first | exact HBL.out | apply pw_below_drewN))⟩
  ·have hnone : Hid (s = FIN) := Lib.hid (stop.out (by
    have hl := p_ltrim_le (ns x)
    rw [ns_length] at hl
    unfold oneP
    rw [if_pos (.inl (by omega))]))
   clear stop
   go_wp2
   go_end0
   exact ⟨rfl, ⟨i, hnone.out ▸ HI.out⟩, HBL.out⟩
end Go.Proofs.Ytgmjaggkiifdjaa.Given
namespace Go.Proofs.Ytgmjaggkiifdjaa.Given
open Go.RowKit Go.Proofs.YtgmjaggkiifdjaaW.PrintWords Go.Proofs.YtgmjaggkiifdjaaW.PrintLast Go.Proofs.YtgmjaggkiifdjaaW.PrintMore Go.Proofs.Ytgmjaggkiifdjaa.Base Go.Proofs.Ytgmjaggkiifdjaa.Gv Go.Proofs.Ytgmjaggkiifdjaa.QA Go.Proofs.Ytgmjaggkiifdjaa.Srt Go.Proofs.Ytgmjaggkiifdjaa.Fl
theorem own_setCells {w : World} {base g n cap size : Nat} {e : TypeId} : ∀ (vs : List Value) (o : Nat) (w : World) (xs : List Value), w.ownsRow base e size (.slice (some ⟨g, 0, none⟩) n cap) n xs →
    (w.setCells g o vs).ownsRow base e size (.slice (some ⟨g, 0, none⟩) n cap) n (putA xs o vs)
  | [], _, _, _, h => h
  | v :: vs, o, w, xs, h => own_setCells (w := w) vs (o + 1) _ _ (h.stored o v).1
theorem below_setCells {B g : Nat} {w : World} (hg : B ≤ g) : ∀ (vs : List Value) (o : Nat) (w' : World), Below B w w' → Below B w (w'.setCells g o vs)
  | [], _, _, h => h
  | v :: vs, o, w', h => below_setCells hg vs (o + 1) _ (h.setCell (p := ⟨g, o, none⟩) hg v)
def ARow (w : World) (B g n cap : Nat) (l : List S68) : Prop := w.ownsRow B 78 5 (.slice (some ⟨g, 0, none⟩) n cap) n (flatA l)
theorem ARow.range {w : World} {B g n cap : Nat} {l : List S68} (h : ARow w B g n cap l) (hl : l.length = n) (i : Nat) (hi : i < n) : w.rangeAt g (i * 5) (accC (l.getD i z68)) := by
  intro j v hv
  have hj : j < 5 := by have := (List.getElem?_eq_some_iff.1 hv).1; rwa [accC_length] at this
  rw [World.ownsRow.cellAt (w := w) h (i * 5 + j) (by omega), flatA_at l i j (by omega) hj, hv]
theorem ARow.cells {w : World} {B g n cap : Nat} {l : List S68} (h : ARow w B g n cap l) (hl : l.length = n) (i : Nat) (hi : i < n) :
    w.cell? ⟨g, i * 5, none⟩ = some (.string (l.getD i z68).f0) ∧ w.cell? ⟨g, i * 5 + 1, none⟩ = some (.float .f64 (fl (l.getD i z68).f1)) ∧ w.cell? ⟨g, i * 5 + 2, none⟩ = some (.int .i64 (l.getD i z68).f2) ∧ w.cell? ⟨g, i * 5 + 3, none⟩ = some (.int .i64 (l.getD i z68).f3) ∧ w.cell? ⟨g, i * 5 + 4, none⟩ = some (.string (l.getD i z68).f4) :=
  ⟨h.range hl i hi 0 _ rfl, h.range hl i hi 1 _ rfl, h.range hl i hi 2 _ rfl, h.range hl i hi 3 _ rfl, h.range hl i hi 4 _ rfl⟩
theorem ARow.put {w : World} {B g n cap : Nat} {l : List S68} (h : ARow w B g n cap l) (hl : l.length = n) (i : Nat) (hi : i < n) (x : S68) : ARow (w.setCells g (i * 5) (accC x)) B g n cap (l.set i x) := by
  have := own_setCells (w := w) (accC x) (i * 5) w _ h
  rw [flatA_put l x i (by omega)] at this
  exact this
theorem less_cases (x y : S68) : (lessA x y = true ∧ (x.f1 < y.f1 ∨ (x.f1 = y.f1 ∧ x.f2 < y.f2) ∨ (x.f1 = y.f1 ∧ x.f2 = y.f2 ∧ x.f4.size = y.f4.size ∧ x.f3 > y.f3))) ∨
    (lessA x y = false ∧ (y.f1 < x.f1 ∨ (x.f1 = y.f1 ∧ y.f2 < x.f2) ∨ (x.f1 = y.f1 ∧ x.f2 = y.f2 ∧ x.f4.size ≠ y.f4.size) ∨ (x.f1 = y.f1 ∧ x.f2 = y.f2 ∧ x.f4.size = y.f4.size ∧ ¬ x.f3 > y.f3))) := by
  unfold lessA
  by_cases h1 : x.f1 < y.f1
  · left; exact ⟨by simp [h1], Or.inl h1⟩
  · by_cases h2 : x.f1 = y.f1
    · by_cases h3 : x.f2 < y.f2
      · left; exact ⟨by simp [h2, h3], Or.inr (Or.inl ⟨h2, h3⟩)⟩
      · by_cases h4 : x.f2 = y.f2
        · by_cases h5 : x.f4.size = y.f4.size
          · by_cases h6 : x.f3 > y.f3
            · left; exact ⟨by simp [h2, h4, h5, h6], Or.inr (Or.inr ⟨h2, h4, h5, h6⟩)⟩
            · right; exact ⟨by simp [h2, h4, h5, h6], Or.inr (Or.inr (Or.inr ⟨h2, h4, h5, h6⟩))⟩
          · right; exact ⟨by simp [h2, h4, h5], Or.inr (Or.inr (Or.inl ⟨h2, h4, h5⟩))⟩
        · right; exact ⟨by simp [h1, h2, h3, h4], Or.inr (Or.inl ⟨h2, by omega⟩)⟩
    · right; exact ⟨by simp [h1, h2], Or.inl (by omega)⟩
def inQ (l : List S68) : Prop := ∀ x ∈ l, 0 ≤ x.f1 ∧ x.f1 ≤ 1000
theorem inQ.at {l : List S68} (h : inQ l) (i : Nat) (hi : i < l.length) : 0 ≤ (l.getD i z68).f1 ∧ (l.getD i z68).f1 ≤ 1000 := by
  rw [List.getD_eq_getElem?_getD, List.getElem?_eq_getElem hi]
  exact h _ (List.getElem_mem hi)
theorem inQ.move {l : List S68} (h : inQ l) (i j : Nat) (hi : i < l.length) : inQ (moveA l i j) := by
  intro x hx
  unfold moveA at hx
  rcases List.mem_append.1 hx with hx | hx
  · exact h x (List.mem_of_mem_take hx)
  · rcases List.mem_cons.1 hx with rfl | hx
    · exact h.at i hi
    · rcases List.mem_append.1 hx with hx | hx
      · exact h x (List.mem_of_mem_drop (List.mem_of_mem_take hx))
      · exact h x (List.mem_of_mem_drop hx)
end Go.Proofs.Ytgmjaggkiifdjaa.Given
namespace Go.Proofs.Ytgmjaggkiifdjaa.Given
open Go.RowKit Go.Proofs.YtgmjaggkiifdjaaW.PrintWords Go.Proofs.YtgmjaggkiifdjaaW.PrintLast Go.Proofs.YtgmjaggkiifdjaaW.PrintMore Go.Proofs.Ytgmjaggkiifdjaa.Base Go.Proofs.Ytgmjaggkiifdjaa.Gv
def eqFold (a b : ByteArray) : Bool := decide ((ns a).map up = (ns b).map up)
def fiberutils_EqualFold.f (a0 a1 : ByteArray) : Option Bool := if a0.size ≤ 4611686018427387904 ∧ a1.size ≤ 4611686018427387904 then some (eqFold a0 a1) else none
section
variable {P : Program} {C : World → Prop} {a : Act} {o : Oper}
theorem quiet_index_tab {K : Act → Prop} (t : TypeId) (x i : Operand) (ho : o.op = .index t x i)
    (S : ByteArray) (n : Int) (k : IntKind) (hx : a.eval x = .string S) (hi : a.eval i = .int k n) (ht : P.underlying t = some .string) (h0 : 0 ≤ n) (h1 : n < S.size) (v : Int) (hv : bt S n = v)
    (hk : K (a.put o.dst (.int .u8 v))) : o.quiet P a C K := by
  refine ⟨_, fun w _ => ?_, hk⟩
  have hn : n.toNat < S.size := by omega
  have hb : ((S[n.toNat]'hn).toNat : Int) = v := by rw [← hv]; exact bt_at S n hn
  have hr : (Instr.index t (.string S) (.int k n)).run P w = .ok (.int .u8 v) w := by
    rw [← hb]
    simp [Instr.index, asIntOf, run_underlying ht, h0, hn]
  have he : (execOp a.eval o).run P w = .ok (.value (.int .u8 v)) w := by
    unfold execOp
    simp only [ho, hx, hi, Sem.run_bind, hr, Result.andThen_ok, Sem.run_pure]
  unfold Oper.quietAt
  rw [he]
  exact ⟨rfl, rfl⟩
theorem quiet_index_fn {K : Act → Prop} (t : TypeId) (x i : Operand) (ho : o.op = .index t x i)
    (S : ByteArray) (n : Int) (k : IntKind) (hx : a.eval x = .string S) (hi : a.eval i = .int k n) (ht : P.underlying t = some .string) (h0 : 0 ≤ n) (h1 : n ≤ 255) (f : Int → Int) (hv : TabIs S f)
    (hk : K (a.put o.dst (.int .u8 (f n)))) : o.quiet P a C K := by
  obtain ⟨m, rfl⟩ := Int.eq_ofNat_of_zero_le h0
  exact quiet_index_tab t x i ho S _ k hx hi ht h0 (by rw [hv.1]; omega) _ (hv.2 ⟨m, by omega⟩) hk
end
theorem drop_cons_ (xs : List Int) (k : Nat) (h : k < xs.length) : xs.drop k = xs.getD k 0 :: xs.drop (k + 1) := by
  rw [List.drop_eq_getElem_cons h, List.getD_eq_getElem?_getD, List.getElem?_eq_getElem h]; rfl
set_option maxHeartbeats 4000000 in
set_option maxRecDepth 100000 in
theorem eqFold_calls (a0 a1 : ByteArray) (w : World) (hbd : a0.size ≤ 4611686018427387904) (hbd1 : a1.size ≤ 4611686018427387904) :
    Calls Try.prog 53 #[.string a0, .string a1] w fun e w' => e = .returned (.bool (eqFold a0 a1)) ∧ Drawn0 w w' := by
  obtain ⟨r, hr⟩ : ∃ r, eqFold a0 a1 = r := ⟨_, rfl⟩
  rw [hr]
  have HR := Lib.hid hr
  clear hr
  by_cases hs : a0.size = a1.size
  · obtain ⟨n, hn⟩ : ∃ n, a0.size = n := ⟨_, rfl⟩
    have hn1 : a1.size = n := by omega
    have HT : Hid (((ns a0).drop n).map up = ((ns a1).drop n).map up) := Lib.hid (by
      rw [List.drop_eq_nil_of_le (by rw [ns_length]; omega), List.drop_eq_nil_of_le (by rw [ns_length]; omega)])
    clear hs
    go_enter Try.func53, Try.ntmps53
    go_wp2
    go_loopw [5] (fun i wi => ∃ (j : Int) (m : Nat), wi = w.drewN m ∧ i = .int .i64 j ∧ -1 ≤ j ∧ j < n ∧ Hid (((ns a0).drop (j + 1).toNat).map up = ((ns a1).drop (j + 1).toNat).map up)) (fun i _ => (intOf i + 1).toNat)
    case atStart => exact ⟨(n : Int) - 1, 0, rfl, by go_num, by omega, by omega, Lib.hid (by rw [show ((n : Int) - 1 + 1).toNat = n by omega]; exact HT.out)⟩
    case round =>
      obtain ⟨j, m, rfl, rfl, hj1, hj2, HS⟩ := hrel
      by_cases hj : 0 ≤ j
      · obtain ⟨k, rfl⟩ := Int.eq_ofNat_of_zero_le hj
        have hk : k < n := by omega
        obtain ⟨c, hc⟩ : ∃ c, (ns a0).getD k 0 = c := ⟨_, rfl⟩
        obtain ⟨d, hd⟩ : ∃ d, (ns a1).getD k 0 = d := ⟨_, rfl⟩
        have hbc := Lib.hid ((bt_ns a0 k).trans hc)
        have hbd := Lib.hid ((bt_ns a1 k).trans hd)
        have hcr : 0 ≤ c ∧ c ≤ 255 := by
          refine ns_range a0 c ?_
          rw [← hc, List.getD_eq_getElem?_getD, List.getElem?_eq_getElem (by rw [ns_length]; omega)]
          exact List.getElem_mem _
        have hdr : 0 ≤ d ∧ d ≤ 255 := by
          refine ns_range a1 d ?_
          rw [← hd, List.getD_eq_getElem?_getD, List.getElem?_eq_getElem (by rw [ns_length]; omega)]
          exact List.getElem_mem _
        have HC := Lib.hid (drop_cons_ (ns a0) k (by rw [ns_length]; omega))
        have HD := Lib.hid (drop_cons_ (ns a1) k (by rw [ns_length]; omega))
        have Hc := Lib.hid hc
        have Hd := Lib.hid hd
        clear hc hd
        by_cases he : up c = up d
        · have heb : (up c != up d) = false := bne_eq_false_iff_eq.2 he
          have HS2 : Hid (((ns a0).drop (((k : Int) - 1 + 1).toNat)).map up = ((ns a1).drop (((k : Int) - 1 + 1).toNat)).map up) := Lib.hid (by
            have h := HS.out
            rw [show ((k : Int) + 1).toNat = k + 1 by omega] at h
            rw [show ((k : Int) - 1 + 1).toNat = k by omega, HC.out, HD.out, List.map_cons, List.map_cons, h, Hc.out, Hd.out, he])
          clear he
          go_wp2
          refine wp_region_quiet_lit (by kernel_rfl) (by kernel_rfl) ?_
          repeat (first
            | (go_big_quiet_want; refine quiet_index_tab 9 _ _ rfl a0 (k : Int) .i64 rfl rfl Try.underlying9 (by omega) (by omega) c hbc.out ?_; go_simp; go_big_quiet_on)
            | (go_big_quiet_want; refine quiet_index_tab 9 _ _ rfl a1 (k : Int) .i64 rfl rfl Try.underlying9 (by omega) (by omega) d hbd.out ?_; go_simp; go_big_quiet_on)
            | (go_big_quiet_want; refine quiet_index_fn 9 _ _ rfl _ c .u8 rfl rfl Try.underlying9 hcr.1 hcr.2 up ?tb ?_; (case tb => decide +kernel); go_simp; go_big_quiet_on)
            | (go_big_quiet_want; refine quiet_index_fn 9 _ _ rfl _ d .u8 rfl rfl Try.underlying9 hdr.1 hdr.2 up ?tb ?_; (case tb => decide +kernel); go_simp; go_big_quiet_on)
            | go_big_quiet_step (fail))
          refine wpQuiet_nil ?_
          rintro _ ⟨nq, rfl⟩
          try go_wp2
          go_roundw
          case rel => exact ⟨(k : Int) - 1, m + nq, rfl, by go_num, by omega, by omega, HS2⟩
          case measure => first | (simp [intOf]; done) | (simp [intOf]; omega)
        · have heb : (up c != up d) = true := bne_iff_ne.2 he
          have hrf : r = false := by
            rw [← HR.out]
            refine decide_eq_false (fun e => he ?_)
            have e1 := congrArg (fun l => l.getD k 0) e
            simp only [List.getD_eq_getElem?_getD, List.getElem?_map] at e1
            rw [List.getElem?_eq_getElem (by rw [ns_length]; omega), List.getElem?_eq_getElem (by rw [ns_length]; omega)] at e1
            have h1 := Hc.out
            have h2 := Hd.out
            rw [List.getD_eq_getElem?_getD, List.getElem?_eq_getElem (by rw [ns_length]; omega)] at h1 h2
            simp only [Option.map_some, Option.getD_some] at e1 h1 h2
            rw [← h1, ← h2]; exact e1
          subst hrf
          clear he
          go_wp2
          refine wp_region_quiet_lit (by kernel_rfl) (by kernel_rfl) ?_
          repeat (first
            | (go_big_quiet_want; refine quiet_index_tab 9 _ _ rfl a0 (k : Int) .i64 rfl rfl Try.underlying9 (by omega) (by omega) c hbc.out ?_; go_simp; go_big_quiet_on)
            | (go_big_quiet_want; refine quiet_index_tab 9 _ _ rfl a1 (k : Int) .i64 rfl rfl Try.underlying9 (by omega) (by omega) d hbd.out ?_; go_simp; go_big_quiet_on)
            | (go_big_quiet_want; refine quiet_index_fn 9 _ _ rfl _ c .u8 rfl rfl Try.underlying9 hcr.1 hcr.2 up ?tb ?_; (case tb => decide +kernel); go_simp; go_big_quiet_on)
            | (go_big_quiet_want; refine quiet_index_fn 9 _ _ rfl _ d .u8 rfl rfl Try.underlying9 hdr.1 hdr.2 up ?tb ?_; (case tb => decide +kernel); go_simp; go_big_quiet_on)
            | go_big_quiet_step (fail))
          refine wpQuiet_nil ?_
          rintro _ ⟨nq, rfl⟩
          try go_wp2
          go_ret
          exact ⟨rfl, by repeat (first | exact Drawn0.refl _ | exact ⟨_, rfl⟩ | apply Drawn0.step)⟩
      · have hrt : r = true := by
          rw [← HR.out]
          have h := HS.out
          rw [show (j + 1).toNat = 0 by omega] at h
          exact decide_eq_true h
        subst hrt
        go_wp2
        go_ret
        exact ⟨rfl, by repeat (first | exact Drawn0.refl _ | exact ⟨_, rfl⟩ | apply Drawn0.step)⟩
  · have hrf : r = false := by
      rw [← HR.out]
      refine decide_eq_false (fun e => hs ?_)
      have := congrArg List.length e
      simpa [ns_length] using this
    subst hrf
    go_enter Try.func53, Try.ntmps53
    go_wp2
    go_ret
    exact ⟨rfl, Drawn0.refl _⟩
theorem fiberutils_EqualFold.calls (a0 a1 : ByteArray) (r : Bool) (w : World) (h : fiberutils_EqualFold.f a0 a1 = some r) :
    Calls Try.prog 53 #[.string a0, .string a1] w fun e w' => e = .returned (.bool r) ∧ Drawn0 w w' := by
  unfold fiberutils_EqualFold.f at h
  by_cases hb : a0.size ≤ 4611686018427387904 ∧ a1.size ≤ 4611686018427387904
  · rw [if_pos hb] at h
    obtain rfl := Option.some.inj h
    exact eqFold_calls a0 a1 w hb.1 hb.2
  · rw [if_neg hb] at h
    cases h
end Go.Proofs.Ytgmjaggkiifdjaa.Given
namespace Go.Proofs.Ytgmjaggkiifdjaa.Given
open Go.RowKit Go.Proofs.YtgmjaggkiifdjaaW.PrintWords Go.Proofs.YtgmjaggkiifdjaaW.PrintLast Go.Proofs.YtgmjaggkiifdjaaW.PrintMore Go.Proofs.Ytgmjaggkiifdjaa.Base Go.Proofs.Ytgmjaggkiifdjaa.Gv
abbrev SP := List (ByteArray × ByteArray)
def noP : ByteArray × ByteArray := (⟨#[]⟩, ⟨#[]⟩)
def findF (p : ByteArray) : SP → Nat
  | [] => 0
  | q :: r => if eqFold p q.1 = true then 0 else 1 + findF p r
theorem findF_le (p : ByteArray) (sp : SP) : findF p sp ≤ sp.length := by
  induction sp with
  | nil => exact Nat.le_refl _
  | cons q r ih => rw [findF, List.length_cons]; split <;> omega
theorem findF_not (p : ByteArray) (sp : SP) : ∀ k (h : k < sp.length), k < findF p sp → eqFold p (sp[k]).1 = false := by
  induction sp with
  | nil => intro k h; simp at h
  | cons q r ih =>
    intro k h hk
    rw [findF] at hk
    split at hk
    · omega
    · rename_i hq
      cases k with
      | zero => simpa using hq
      | succ k => exact ih k (by simpa using h) (by omega)
theorem findF_at (p : ByteArray) (sp : SP) (h : findF p sp < sp.length) : eqFold p (sp[findF p sp]).1 = true := by
  induction sp with
  | nil => simp at h
  | cons q r ih =>
    by_cases hq : eqFold p q.1 = true
    · have e : findF p (q :: r) = 0 := by rw [findF, if_pos hq]
      simp only [e]
      exact hq
    · have e : findF p (q :: r) = findF p r + 1 := by rw [findF, if_neg hq, Nat.add_comm]
      simp only [e, List.getElem_cons_succ]
      exact ih (by rw [e, List.length_cons] at h; omega)
def specStep (sp : SP) (p v : ByteArray) : Bool × SP :=
  if p.toList = ([113] : List UInt8) ∨ p.toList = ([81] : List UInt8) then (false, sp)
  else if findF p sp < sp.length then (false, sp.set (findF p sp) ((sp.getD (findF p sp) noP).1, v))
  else (true, sp ++ [(p, v)])
def hitStep (q : ByteArray × ByteArray) (s : Bool × Bool) (p v : ByteArray) : Bool × (Bool × Bool) :=
  if eqFold q.1 p = true then (false, (true, eqFold q.2 v)) else (true, s)
def hitOf (a1 : ByteArray) (q : ByteArray × ByteArray) : Bool := (foldP (hitStep q) a1.size (false, true) (ns a1)).1 && (foldP (hitStep q) a1.size (false, true) (ns a1)).2
def specOf (a0 : ByteArray) : SP := foldP specStep a0.size [] (ns a0)
def matchOf (a0 a1 : ByteArray) : Bool := if a0.size = 0 then true else (specOf a0).all (hitOf a1)
def fiberhelpers_paramsMatch.f (a0 a1 : ByteArray) : Option Bool := if a0.size ≤ 1099511627776 ∧ a1.size ≤ 1099511627776 then some (matchOf a0 a1) else none
def flatS (sp : SP) : List Value := sp.flatMap fun p => [.string p.1, .string p.2]
theorem flatS_append (a b : SP) : flatS (a ++ b) = flatS a ++ flatS b := by unfold flatS; rw [List.flatMap_append]
theorem flatS_cons (q : ByteArray × ByteArray) (r : SP) : flatS (q :: r) = .string q.1 :: .string q.2 :: flatS r := by
  unfold flatS; rw [List.flatMap_cons]; rfl
theorem flatS_key (sp : SP) : ∀ (i : Nat) (h : i < sp.length), (flatS sp)[i * 2]? = some (.string (sp[i]).1) := by
  induction sp with
  | nil => intro i h; simp at h
  | cons q r ih =>
    intro i h
    rw [flatS_cons]
    cases i with
    | zero => rfl
    | succ i => rw [show (i + 1) * 2 = i * 2 + 1 + 1 by omega, List.getElem?_cons_succ, List.getElem?_cons_succ]; exact ih i (by simpa using h)
theorem flatS_val (sp : SP) : ∀ (i : Nat) (h : i < sp.length), (flatS sp)[i * 2 + 1]? = some (.string (sp[i]).2) := by
  induction sp with
  | nil => intro i h; simp at h
  | cons q r ih =>
    intro i h
    rw [flatS_cons]
    cases i with
    | zero => rfl
    | succ i => rw [show (i + 1) * 2 + 1 = i * 2 + 1 + 1 + 1 by omega, List.getElem?_cons_succ, List.getElem?_cons_succ]; exact ih i (by simpa using h)
theorem flatS_set (sp : SP) (v : ByteArray) : ∀ (i : Nat) (h : i < sp.length), (flatS sp).set (i * 2 + 1) (.string v) = flatS (sp.set i ((sp[i]).1, v)) := by
  induction sp with
  | nil => intro i h; simp at h
  | cons q r ih =>
    intro i h
    cases i with
    | zero => rfl
    | succ i =>
      rw [flatS_cons, show (i + 1) * 2 + 1 = i * 2 + 1 + 1 + 1 by omega, List.set_cons_succ, List.set_cons_succ, ih i (by simpa using h)]
      rfl
def SpRow (w : World) (h o : Nat) (sp : SP) : Prop :=
  h ≤ o ∧ ∃ g cap, w.heap[o]? = some (.cells #[.slice (some ⟨g, 0, none⟩) sp.length cap] 82 (0, 0)) ∧ g ≠ o ∧ w.ownsRow h 83 2 (.slice (some ⟨g, 0, none⟩) sp.length cap) sp.length (flatS sp)
theorem SpRow.drewN {w : World} {h o : Nat} {sp : SP} (hr : SpRow w h o sp) (k : Nat) : SpRow (w.drewN k) h o sp := hr
def parL : Nat → List Int → SP
  | 0, _ => []
  | f + 1, xs => match oneP xs with
    | none => []
    | some (p, v, rest) => (strOfNums p, strOfNums v) :: parL f rest
def runL {σ : Type} (step : σ → ByteArray → ByteArray → Bool × σ) : σ → SP → σ
  | s, [] => s
  | s, x :: t => if (step s x.1 x.2).1 = true then runL step (step s x.1 x.2).2 t else (step s x.1 x.2).2
theorem fold_run {σ : Type} (step : σ → ByteArray → ByteArray → Bool × σ) : ∀ (f : Nat) (s : σ) (xs : List Int), foldP step f s xs = runL step s (parL f xs)
  | 0, s, xs => rfl
  | f + 1, s, xs => by
    rw [foldP, parL]
    cases h : oneP xs with
    | none => rfl
    | some r =>
      obtain ⟨p, v, rest⟩ := r
      simp only
      rw [runL]
      split
      · exact fold_run step f _ rest
      · rfl
def hitL (lb : SP) (q : ByteArray × ByteArray) : Bool := match lb.find? (fun p => eqFold q.1 p.1) with
  | some p => eqFold q.2 p.2
  | none => false
theorem run_hit (q : ByteArray × ByteArray) : ∀ (l : SP), (runL (hitStep q) (false, true) l).1 = (l.find? (fun p => eqFold q.1 p.1)).isSome ∧ ((runL (hitStep q) (false, true) l).1 && (runL (hitStep q) (false, true) l).2) = hitL l q
  | [] => ⟨rfl, rfl⟩
  | x :: t => by
    have ih := run_hit q t
    by_cases h : eqFold q.1 x.1 = true
    · have e : hitStep q (false, true) x.1 x.2 = (false, (true, eqFold q.2 x.2)) := by rw [hitStep, if_pos h]
      rw [runL, e, if_neg (by simp)]
      unfold hitL
      rw [List.find?_cons_of_pos (p := fun p : ByteArray × ByteArray => eqFold q.1 p.1) h]
      exact ⟨rfl, by simp⟩
    · have e : hitStep q (false, true) x.1 x.2 = (true, (false, true)) := by rw [hitStep, if_neg h]
      rw [runL, e, if_pos rfl]
      unfold hitL at ih ⊢
      rw [List.find?_cons_of_neg (p := fun p : ByteArray × ByteArray => eqFold q.1 p.1) h]
      exact ih
theorem hitOf_is (a1 : ByteArray) (q : ByteArray × ByteArray) : hitOf a1 q = hitL (parL a1.size (ns a1)) q := by
  unfold hitOf
  rw [fold_run]
  exact (run_hit q _).2
def isQ (p : ByteArray) : Bool := decide (p.toList = ([113] : List UInt8) ∨ p.toList = ([81] : List UInt8))
def wantL (l : SP) : SP := l.takeWhile fun p => !isQ p.1
def dupL : SP → SP → Bool
  | _, [] => false
  | acc, p :: t => acc.any (fun q => eqFold p.1 q.1) || dupL (acc ++ [p]) t
theorem findF_any (p : ByteArray) : ∀ sp : SP, sp.any (fun q => eqFold p q.1) = false → ¬ findF p sp < sp.length
  | [], _ => by simp [findF]
  | q :: r, h => by
    rw [List.any_cons, Bool.or_eq_false_iff] at h
    rw [findF, if_neg (by rw [h.1]; simp), List.length_cons]
    have := findF_any p r h.2
    omega
theorem run_spec : ∀ (l acc : SP), dupL acc (wantL l) = false → runL specStep acc l = acc ++ wantL l
  | [], acc, _ => by simp [runL, wantL]
  | x :: t, acc, h => by
    by_cases hq : isQ x.1 = true
    · have e : specStep acc x.1 x.2 = (false, acc) := by rw [specStep, if_pos (by simpa [isQ] using hq)]
      rw [runL, e, if_neg (by simp), wantL, List.takeWhile_cons_of_neg (by simp [hq]), List.append_nil]
    · have ew : wantL (x :: t) = x :: wantL t := by rw [wantL, List.takeWhile_cons_of_pos (by simp [hq])]; rfl
      rw [ew, dupL, Bool.or_eq_false_iff] at h
      have e : specStep acc x.1 x.2 = (true, acc ++ [(x.1, x.2)]) := by
        rw [specStep, if_neg (by simpa [isQ] using hq), if_neg (findF_any _ _ h.1)]
      rw [runL, e, if_pos rfl, ew, run_spec t _ h.2, List.append_assoc]
      rfl
theorem matchOf_is (a0 a1 : ByteArray) (h : dupL [] (wantL (parL a0.size (ns a0))) = false) : matchOf a0 a1 = (wantL (parL a0.size (ns a0))).all (hitL (parL a1.size (ns a1))) := by
  unfold matchOf
  split
  · rename_i h0
    rw [h0]
    rfl
  · unfold specOf
    rw [fold_run, run_spec _ _ h, List.nil_append]
    congr 1
    funext q
    exact hitOf_is a1 q
open Go.Proofs.Ytgmjaggkiifdjaa.QA
set_option maxHeartbeats 4000000 in
set_option maxRecDepth 100000 in
theorem put_calls (w : World) (h o : Nat) (sp : SP) (p v : ByteArray) (hr : SpRow w h o sp) (hlen : (sp.length + 1) * 32 ≤ 140737488355328) (hp : p.size ≤ 1099511627776) (hs : ∀ q ∈ sp, q.1.size ≤ 1099511627776) :
    Calls Try.prog 52 #[.string p, .string v, .pointer (some ⟨o, 0, none⟩)] w fun e w' => e = .returned (.bool (specStep sp p v).1) ∧ SpRow w' h o (specStep sp p v).2 ∧ Below h w w' := by
  by_cases q1 : p.toList = ([113] : List UInt8)
  · have e1 : specStep sp p v = (false, sp) := by unfold specStep; rw [if_pos (.inl q1)]
    rw [e1]
    have q1b : (p.toList == ([113] : List UInt8)) = true := beq_iff_eq.2 q1
    have HR := Lib.hid hr
    clear hr hs e1 q1
    go_enter Try.func52, Try.ntmps52
    go_wp2
    go_ret
    exact ⟨rfl, HR.out, Below.refl _ _⟩
  · by_cases q2 : p.toList = ([81] : List UInt8)
    · have e1 : specStep sp p v = (false, sp) := by unfold specStep; rw [if_pos (.inr q2)]
      rw [e1]
      have q1b : (p.toList == ([113] : List UInt8)) = false := beq_eq_false_iff_ne.2 q1
      have q2b : (p.toList == ([81] : List UInt8)) = true := beq_iff_eq.2 q2
      have HR := Lib.hid hr
      clear hr hs e1 q1 q2
      go_enter Try.func52, Try.ntmps52
      go_wp2
      go_ret
      exact ⟨rfl, HR.out, Below.refl _ _⟩
    · have e1 : specStep sp p v = if findF p sp < sp.length then (false, sp.set (findF p sp) ((sp.getD (findF p sp) noP).1, v)) else (true, sp ++ [(p, v)]) := by
        unfold specStep; rw [if_neg (fun e => e.elim q1 q2)]
      rw [e1]
      have q1b : (p.toList == ([113] : List UInt8)) = false := beq_eq_false_iff_ne.2 q1
      have q2b : (p.toList == ([81] : List UInt8)) = false := beq_eq_false_iff_ne.2 q2
      obtain ⟨N, hN⟩ : ∃ N, findF p sp = N := ⟨_, rfl⟩
      have hNl : N ≤ sp.length := by rw [← hN]; exact findF_le _ _
      have HNOT : Hid (∀ k (hk : k < sp.length), k < N → fiberutils_EqualFold.f p (sp[k]).1 = some false) := Lib.hid (fun k hk hkn => by
        unfold fiberutils_EqualFold.f
        rw [if_pos ⟨by omega, by have := hs _ (List.getElem_mem hk); omega⟩, findF_not p sp k hk (by rw [hN]; exact hkn)])
      have HAT : Hid (∀ (hk : N < sp.length), fiberutils_EqualFold.f p (sp[N]).1 = some true) := Lib.hid (fun hk => by
        unfold fiberutils_EqualFold.f
        have := findF_at p sp (by rw [hN]; exact hk)
        simp only [hN] at this
        rw [if_pos ⟨by omega, by have := hs _ (List.getElem_mem hk); omega⟩, this])
      rw [hN]
      obtain ⟨hho, g, cap, hh, hgo, ho⟩ := hr
      have hgb : h ≤ g := own_base ho g rfl
      have hol : o < w.heap.size := (Array.getElem?_eq_some_iff.1 hh).1
      have hcap : sp.length ≤ cap := own_cap ho
      have hcapm : cap ≤ maxLen := by
        rcases ho.2 with ⟨e, _⟩ | ⟨_, _, _, e, _, _, _, hm, _⟩
        · cases e
        · cases e; exact hm
      have c0 : ∀ n : Nat, (w.drewN n).cell? ⟨o, 0, none⟩ = some (.slice (some ⟨g, 0, none⟩) sp.length cap) := fun n => by rw [cell_of_row (w.drewN n) o 0 _ _ (0, 0) hh]; rfl
      have HO := Lib.hid ho
      have HH := Lib.hid hh
      have hkeys : Hid (∀ k (hk : k < sp.length) (n : Nat), (w.drewN n).cell? ⟨g, k * 2, none⟩ = some (.string (sp[k]).1)) := Lib.hid (fun k hk n => by
        have := World.ownsRow.cellAt ho (k * 2) (by omega)
        rw [flatS_key sp k hk] at this
        exact this)
      have hsl : (sp.length : Int) ≤ 4398046511104 := by omega
      have hinfo : (Try.prog.info? 83).map (fun i => (i.zero, i.size, i.bytes)) = some (some (.agg #[.string ByteArray.empty, .string ByteArray.empty]), 2, 32) := by kernel_rfl
      obtain ⟨i0, hi, hz0, hz1, hz2⟩ := info_parts hinfo
      obtain ⟨r, hres⟩ : ∃ r, (if N < sp.length then (false, sp.set N ((sp.getD N noP).1, v)) else (true, sp ++ [(p, v)])) = r := ⟨_, rfl⟩
      rw [hres]
      have HRES := Lib.hid hres
      clear e1 q1 q2 hN ho hh hs hres
      go_enter Try.func52, Try.ntmps52
      have c00 : w.cell? ⟨o, 0, none⟩ = some (.slice (some ⟨g, 0, none⟩) sp.length cap) := c0 0
      have C0 := Lib.hid c0
      clear c0
      go_wp2
      go_loopw [5, 6, 15] (fun s5 _ iv wi => ∃ (k m : Nat), s5 = .bool false ∧ wi = w.drewN m ∧ iv = .int .i64 k ∧ k ≤ N) (fun _ _ iv _ => sp.length - (intOf iv).toNat)
      case atStart => exact ⟨0, 0, rfl, rfl, rfl, by omega⟩
      case round =>
        obtain ⟨k, m, rfl, rfl, rfl, hkN⟩ := hrel
        have c1 := C0.out m
        clear c00
        by_cases hk : k < sp.length
        · obtain ⟨key, hkey⟩ : ∃ key, (sp[k]).1 = key := ⟨_, rfl⟩
          have c2 := hkeys.out k hk m
          rw [hkey] at c2
          by_cases hkn : k < N
          · have HE : Hid (fiberutils_EqualFold.f p key = some false) := Lib.hid (by rw [← hkey]; exact HNOT.out k hk hkn)
            clear hkey
            go_wp2_with (go_at_call 53; refine (fiberutils_EqualFold.calls p key false _ HE.out).mono ?_; rintro e w' ⟨rfl, ⟨n1, rfl⟩⟩)
            go_roundw
            case rel => exact ⟨k + 1, m + n1, by first | rfl | trivial, by first | rfl | simp, by go_num, by omega⟩
            case measure => simp [intOf]; omega
          · obtain rfl : k = N := by omega
            have HE : Hid (fiberutils_EqualFold.f p key = some true) := Lib.hid (by rw [← hkey]; exact HAT.out hk)
            have hfz : Hid (∀ n : Nat, (w.drewN n).frozen? ⟨g, k * 2 + 1, none⟩ = false) := Lib.hid (fun n => World.ownsRow.frozenAt (w := w.drewN n) HO.out (k * 2 + 1))
            have C0' := C0
            have c5 : w.cell? ⟨g, k * 2 + 1, none⟩ = some (.string (sp[k]).2) := by
              have := World.ownsRow.cellAt HO.out (k * 2 + 1) (by omega)
              rw [flatS_val sp k hk] at this
              exact this
            have C5 := Lib.hid c5
            clear c5
            clear hkey
            go_wp2_with (go_at_call 53; refine (fiberutils_EqualFold.calls p key true _ HE.out).mono ?_; rintro e w' ⟨rfl, ⟨n1, rfl⟩⟩; have fz := hfz.out (m + n1); have c4 := C0'.out (m + n1); have c5 := C5.out)
            go_ret
            have hr2 : r = (false, sp.set k ((sp.getD k noP).1, v)) := by rw [← HRES.out, if_pos hk]
            subst hr2
            refine ⟨rfl, ⟨hho, g, cap, ?_, hgo, ?_⟩, (pw_below_drewN (Below.refl h w) (m + n1)).setCell (p := ⟨g, k * 2 + 1, none⟩) hgb _⟩
            · rw [List.length_set, Below.heap_setCell _ _ _ _ (show o ≠ g from fun e => hgo e.symm)]
              exact HH.out
            · have hst := World.ownsRow.stored (w := w.drewN (m + n1)) HO.out (k * 2 + 1) (.string v)
              rw [flatS_set sp v k hk] at hst
              rw [List.length_set, List.getD_eq_getElem?_getD, List.getElem?_eq_getElem hk]
              exact hst.1
        · obtain rfl : k = sp.length := by omega
          have HOm : Hid ((w.drewN m).ownsRow h 83 2 (.slice (some ⟨g, 0, none⟩) sp.length cap) sp.length (flatS sp)) := HO
          have hr2 : r = (true, sp ++ [(p, v)]) := by rw [← HRES.out, if_neg (by omega)]
          subst hr2
          go_wp2_with (at_builtin; refine wpList_append_own _ rfl _ _ 82 rfl h 83 i0 (.agg #[.string ByteArray.empty, .string ByteArray.empty]) 2 32 Try.underlying82 hi hz0 hz1 hz2 rfl (by decide) _ _ _ rfl (HOm.out.alloc _) ⟨w.heap.size, 0, none⟩ 1 1 [.string p, .string v] rfl rfl ?c1 ?c2 ?c3 ?c4 ?c5 ?_)
          case c1 =>
            intro j u hj
            obtain ⟨W, hW⟩ : ∃ W, w.drewN m = W := ⟨_, rfl⟩
            have hz : w.heap.size = W.heap.size := by rw [← hW]; rfl
            rw [hW, hz]
            match j, hj with
            | 0, hj => simp at hj; subst hj; simp [Addr.add]
            | 1, hj => simp at hj; subst hj; simp [Addr.add]
          case c2 =>
            intro u hu
            simp only [List.mem_cons, List.not_mem_nil, or_false] at hu
            rcases hu with rfl | rfl <;> rfl
          case c3 => unfold maxLen; omega
          case c4 => exact hlen
          case c5 => simp; omega
          intro v' w2 hown' hgrow _
          have hold : ∀ k, k < w.heap.size → k ≠ g → w2.heap[k]? = w.heap[k]? := fun k hk hkg => by
            rw [hgrow.block k (by simp; omega) (by simp [Value.ownBlock]; exact hkg)]
            exact Below.heap_alloc _ _ _ (by simpa using hk)
          have hb2 : w2.heap[o]? = some (.cells #[.slice (some ⟨g, 0, none⟩) sp.length cap] 82 (0, 0)) := by rw [hold o hol (fun e => hgo e.symm)]; exact HH.out
          have d0 : w2.cell? ⟨o, 0, none⟩ = some (.slice (some ⟨g, 0, none⟩) sp.length cap) := by rw [cell_of_row w2 o 0 _ _ (0, 0) hb2]; rfl
          have f0 : w2.frozen? ⟨o, 0, none⟩ = false := frozen_of_row _ _ 0 _ _ hb2
          obtain ⟨g', cap', hv', hg'⟩ : ∃ g' cap', v' = .slice (some ⟨g', 0, none⟩) (sp.length + 1) cap' ∧ ∃ cur, w2.heap[g']? = some (.cells cur 83 (0, 0)) := by
            rcases hown'.2 with ⟨_, h0⟩ | ⟨g', cap', cur, hv, _, hg, _⟩
            · omega
            · exact ⟨g', cap', hv, cur, hg⟩
          subst hv'
          have hgo' : g' ≠ o := by
            rintro rfl
            obtain ⟨cur, hcur⟩ := hg'
            rw [hb2] at hcur
            simp at hcur
          have hbw2 : Below h w w2 := by
            refine ⟨hgrow.os, hgrow.tape, hgrow.output, ?_, fun k hk => hold k (by omega) (by omega)⟩
            have := hgrow.size
            simp at this
            omega
          have HOW := Lib.hid hown'
          have HB2 := Lib.hid hb2
          have HW2 := Lib.hid hbw2
          have HGO := Lib.hid hgo'
          clear hown' hb2 hbw2 hgrow hold hi hz0 hz1 hz2 hinfo hg' hgo'
          go_wp2
          go_ret
          refine ⟨rfl, ⟨hho, g', cap', ?_, HGO.out, ?_⟩, HW2.out.setCell (p := ⟨o, 0, none⟩) hho _⟩
          · have := heap_setCell_same w2 o 0 _ 82 (.slice (some ⟨g', 0, none⟩) (sp.length + 1) cap') HB2.out
            rw [List.length_append, List.length_singleton]
            simpa using this
          · have hm := own_move (w1 := w2.setCell ⟨o, 0, none⟩ (.slice (some ⟨g', 0, none⟩) (sp.length + 1) cap')) HOW.out (fun k hk => Below.heap_setCell _ _ _ _ (by
              have : g' = k := by simpa [Value.ownBlock] using hk
              rw [← this]; exact HGO.out))
            rw [flatS_append, List.length_append, List.length_singleton]
            exact hm
theorem SpRow.kept {w : World} {h o c : Nat} {sp : SP} {cs : Array Value} (hr : SpRow w h o sp) (hc : w.heap[c]? = some (.cells cs 4 (0, 0))) (u : Value) : SpRow (w.setCell ⟨c, 0, none⟩ u) h o sp := by
  obtain ⟨h1, g, cap, hh, hgo, ho⟩ := hr
  have hoc : o ≠ c := by rintro rfl; rw [hh] at hc; simp at hc
  refine ⟨h1, g, cap, ?_, hgo, ?_⟩
  · rw [Below.heap_setCell _ _ _ _ hoc]; exact hh
  · exact own_setCell ho (own_ne ho hc (by decide)) u
theorem SpRow.below {w w' : World} {h o : Nat} {sp : SP} (hr : SpRow w h o sp) (hb : Below w.heap.size w w') : SpRow w' h o sp := by
  obtain ⟨h1, g, cap, hh, hgo, ho⟩ := hr
  have hol : o < w.heap.size := (Array.getElem?_eq_some_iff.1 hh).1
  exact ⟨h1, g, cap, by rw [hb.block o hol]; exact hh, hgo, pw_own_below ho hb⟩
structure HitRow (w : World) (h o b fb ab : Nat) (sp : SP) (k : Nat) (s : Bool × Bool) : Prop where
  row : SpRow w h o sp
  at_ : w.heap[b]? = some (.cells #[.int .i64 k] 3 (0, 0))
  hit : w.heap[fb]? = some (.cells #[.bool s.1] 4 (0, 0))
  all : w.heap[ab]? = some (.cells #[.bool s.2] 4 (0, 0))
theorem HitRow.set_hit {w : World} {h o b fb ab : Nat} {sp : SP} {k : Nat} {s : Bool × Bool} (hr : HitRow w h o b fb ab sp k s) (hne : fb ≠ ab) (x : Bool) : HitRow (w.setCell ⟨fb, 0, none⟩ (.bool x)) h o b fb ab sp k (x, s.2) := by
  refine ⟨hr.row.kept hr.hit _, ?_, ?_, ?_⟩
  · rw [Below.heap_setCell _ _ _ _ (show b ≠ fb by rintro rfl; have := hr.at_; rw [hr.hit] at this; simp at this)]; exact hr.at_
  · have := heap_setCell_same w fb 0 _ 4 (.bool x) hr.hit; simpa using this
  · rw [Below.heap_setCell _ _ _ _ (show ab ≠ fb from hne.symm)]; exact hr.all
theorem HitRow.set_all {w : World} {h o b fb ab : Nat} {sp : SP} {k : Nat} {s : Bool × Bool} (hr : HitRow w h o b fb ab sp k s) (hne : fb ≠ ab) (x : Bool) : HitRow (w.setCell ⟨ab, 0, none⟩ (.bool x)) h o b fb ab sp k (s.1, x) := by
  refine ⟨hr.row.kept hr.all _, ?_, ?_, ?_⟩
  · rw [Below.heap_setCell _ _ _ _ (show b ≠ ab by rintro rfl; have := hr.at_; rw [hr.all] at this; simp at this)]; exact hr.at_
  · rw [Below.heap_setCell _ _ _ _ (show fb ≠ ab from hne)]; exact hr.hit
  · have := heap_setCell_same w ab 0 _ 4 (.bool x) hr.all; simpa using this
theorem HitRow.drewN {w : World} {h o b fb ab : Nat} {sp : SP} {k : Nat} {s : Bool × Bool} (hr : HitRow w h o b fb ab sp k s) (n : Nat) : HitRow (w.drewN n) h o b fb ab sp k s := ⟨hr.row, hr.at_, hr.hit, hr.all⟩
theorem eqFold_f (a b : ByteArray) (ha : a.size ≤ 1099511627776) (hb : b.size ≤ 1099511627776) : fiberutils_EqualFold.f a b = some (eqFold a b) := by
  unfold fiberutils_EqualFold.f
  rw [if_pos ⟨by omega, by omega⟩]
set_option maxHeartbeats 4000000 in
set_option maxRecDepth 100000 in
theorem hit_calls (w : World) (h o b fb ab : Nat) (sp : SP) (k : Nat) (hk : k < sp.length) (s : Bool × Bool) (p v : ByteArray) (hr : HitRow w h o b fb ab sp k s) (hne : fb ≠ ab) (hle : ab ≤ fb)
    (hp : p.size ≤ 1099511627776) (hv : v.size ≤ 1099511627776) (hs : (sp[k]).1.size ≤ 1099511627776 ∧ (sp[k]).2.size ≤ 1099511627776) (hsl : sp.length ≤ 9223372036854775807) :
    Calls Try.prog 54 #[.string p, .string v, .pointer (some ⟨o, 0, none⟩), .pointer (some ⟨b, 0, none⟩), .pointer (some ⟨fb, 0, none⟩), .pointer (some ⟨ab, 0, none⟩)] w
      fun e w' => e = .returned (.bool (hitStep (sp[k]) s p v).1) ∧ HitRow w' h o b fb ab sp k (hitStep (sp[k]) s p v).2 ∧ Below ab w w' := by
  obtain ⟨hho, g, cap, hh, hgo, ho⟩ := hr.row
  have c0 : ∀ n : Nat, (w.drewN n).cell? ⟨o, 0, none⟩ = some (.slice (some ⟨g, 0, none⟩) sp.length cap) := fun n => by rw [cell_of_row (w.drewN n) o 0 _ _ (0, 0) hh]; rfl
  have cb : ∀ n : Nat, (w.drewN n).cell? ⟨b, 0, none⟩ = some (.int .i64 k) := fun n => by rw [cell_of_row (w.drewN n) b 0 _ _ (0, 0) hr.at_]; rfl
  obtain ⟨key, hkey⟩ : ∃ x, (sp[k]).1 = x := ⟨_, rfl⟩
  obtain ⟨val, hval⟩ : ∃ x, (sp[k]).2 = x := ⟨_, rfl⟩
  have hq : sp[k] = (key, val) := by rw [← hkey, ← hval]
  have ck : w.cell? ⟨g, k * 2, none⟩ = some (.string key) := by
    have := World.ownsRow.cellAt ho (k * 2) (by omega)
    rw [flatS_key sp k hk, hkey] at this
    exact this
  have cv : w.cell? ⟨g, k * 2 + 1, none⟩ = some (.string val) := by
    have := World.ownsRow.cellAt ho (k * 2 + 1) (by omega)
    rw [flatS_val sp k hk, hval] at this
    exact this
  rw [hkey, hval] at hs
  rw [hq]
  have hE1 := Lib.hid (eqFold_f key p hs.1 hp)
  have hE2 := Lib.hid (eqFold_f val v hs.2 hv)
  have c00 : w.cell? ⟨o, 0, none⟩ = some (.slice (some ⟨g, 0, none⟩) sp.length cap) := c0 0
  have cb0 : w.cell? ⟨b, 0, none⟩ = some (.int .i64 k) := cb 0
  have HR := Lib.hid hr
  have HVAL := Lib.hid hval
  clear hh ho hkey hval hq hs hr
  cases he : eqFold key p with
  | false =>
    rw [he] at hE1
    have e1 : hitStep (key, val) s p v = (true, s) := by unfold hitStep; rw [if_neg (by rw [he]; simp)]
    rw [e1]
    clear e1 he hE2 cv
    go_enter Try.func54, Try.ntmps54
    go_wp2_with (go_at_call 53; refine (fiberutils_EqualFold.calls key p false _ hE1.out).mono ?_; rintro e w' ⟨rfl, ⟨n1, rfl⟩⟩)
    go_ret
    exact ⟨rfl, HR.out.drewN n1, pw_below_drewN (Below.refl _ _) n1⟩
  | true =>
    rw [he] at hE1
    have e1 : hitStep (key, val) s p v = (false, (true, eqFold val v)) := by unfold hitStep; rw [if_pos he]
    rw [e1]
    obtain ⟨y, hy⟩ : ∃ y, eqFold val v = y := ⟨_, rfl⟩
    rw [hy] at hE2
    rw [hy]
    clear e1 he hy
    have facts : Hid (∀ n1 : Nat, HitRow ((w.drewN n1).setCell ⟨fb, 0, none⟩ (.bool true)) h o b fb ab sp k (true, s.2)) := Lib.hid (fun n1 => (HR.out.drewN n1).set_hit hne true)
    go_enter Try.func54, Try.ntmps54
    go_upto_region 3 with (go_at_call 53; refine (fiberutils_EqualFold.calls key p true _ hE1.out).mono ?_; rintro e w' ⟨rfl, ⟨n1, rfl⟩⟩; have fz := frozen_of_row (w.drewN n1) fb 0 _ _ HR.out.hit; have fc : w.cell? ⟨fb, 0, none⟩ = some (.bool s.1) := (cell_of_row w fb 0 _ _ (0, 0) HR.out.hit).trans rfl)
    obtain ⟨W1, hW1⟩ : ∃ W, (w.drewN n1).setCell ⟨fb, 0, none⟩ (.bool true) = W := ⟨_, rfl⟩
    have hr1 := facts.out n1
    have hbl1 : Below ab w W1 := by rw [← hW1]; exact (pw_below_drewN (Below.refl ab w) n1).setCell (p := ⟨fb, 0, none⟩) hle _
    rw [hW1] at hr1 ⊢
    obtain ⟨hho1, g1, cap1, hh1, hgo1, ho1⟩ := hr1.row
    have d0 : W1.cell? ⟨o, 0, none⟩ = some (.slice (some ⟨g1, 0, none⟩) sp.length cap1) := by rw [cell_of_row W1 o 0 _ _ (0, 0) hh1]; rfl
    have d1 : W1.cell? ⟨b, 0, none⟩ = some (.int .i64 k) := by rw [cell_of_row W1 b 0 _ _ (0, 0) hr1.at_]; rfl
    have d2 : W1.cell? ⟨g1, k * 2 + 1, none⟩ = some (.string val) := by
      have := World.ownsRow.cellAt ho1 (k * 2 + 1) (by omega)
      rw [flatS_val sp k hk, HVAL.out] at this
      exact this
    have HR1 := Lib.hid hr1
    have HBL1 := Lib.hid hbl1
    clear c00 cb0 ck cv c0 cb fz fc hh1 ho1 hr1 hbl1 facts HR hW1
    go_wp2_with (go_at_call 53; refine (fiberutils_EqualFold.calls val v y _ hE2.out).mono ?_; rintro e w' ⟨rfl, ⟨n2, rfl⟩⟩; have fz2 := frozen_of_row (W1.drewN n2) ab 0 _ _ HR1.out.all; have fc2 : W1.cell? ⟨ab, 0, none⟩ = some (.bool s.2) := (cell_of_row W1 ab 0 _ _ (0, 0) HR1.out.all).trans rfl)
    go_ret
    exact ⟨rfl, (HR1.out.drewN n2).set_all hne y, HBL1.out.trans ((pw_below_drewN (Below.refl ab W1) n2).setCell (p := ⟨ab, 0, none⟩) (Nat.le_refl _) _)⟩
theorem below_weaken_m {B C : Nat} {a b : World} (h : B ≤ C) (k : Below C a b) : Below B a b := ⟨k.os, k.tape, k.output, k.size, fun i hi => k.block i (by omega)⟩
set_option maxHeartbeats 4000000 in
set_option maxRecDepth 100000 in
theorem match_calls (a0 a1 : ByteArray) (w : World) (h0 : a0.size ≤ 1099511627776) (h1 : a1.size ≤ 1099511627776) :
    Calls Try.prog 45 #[.string a0, .string a1] w fun e w' => e = .returned (.bool (matchOf a0 a1)) ∧ Below w.heap.size w w' := by
  have hem : a0.toList.isEmpty = (ns a0).isEmpty := by
    have := toList_ne_nil a0
    rw [Go.Proofs.Ytgmjaggkiifdjaa.PrX.prx_ne] at this
    exact Bool.not_inj this
  by_cases z : a0.size = 0
  · have hz : matchOf a0 a1 = true := by unfold matchOf; rw [if_pos z]
    have zb : a0.toList.isEmpty = true := by rw [hem, List.eq_nil_of_length_eq_zero (show (ns a0).length = 0 by rw [ns_length]; exact z)]; rfl
    have zc : (a0.toList == ([] : List UInt8)) = true := by simpa using zb
    rw [hz]
    clear hz hem
    go_enter Try.func45, Try.ntmps45
    go_wp2
    go_ret
    exact ⟨rfl, Below.refl _ _⟩
  · have hz : matchOf a0 a1 = (specOf a0).all (hitOf a1) := by unfold matchOf; rw [if_neg z]
    have zb : a0.toList.isEmpty = false := by
      rw [hem]
      cases hx : ns a0 with
      | nil => have := ns_length a0; rw [hx] at this; exact absurd this.symm z
      | cons x l => rfl
    have zc : (a0.toList == ([] : List UInt8)) = false := by simpa using zb
    rw [hz]
    have hinfo : (Try.prog.info? 83).map (fun i => (i.zero, i.size, i.bytes)) = some (some (.agg #[.string ByteArray.empty, .string ByteArray.empty]), 2, 32) := by kernel_rfl
    obtain ⟨i0, hi, hz0, hz1, hz2⟩ := info_parts hinfo
    obtain ⟨W0, hmk, hown0, hgrow0⟩ := run_make_own (P := Try.prog) w w.heap.size 82 83 i0 (.agg #[.string ByteArray.empty, .string ByteArray.empty]) 2 Try.underlying82 hi hz0 hz1 .i64 .i64 2 (by rw [hz2]; decide) (by decide) (Nat.le_refl _)
    have hmk2 : (Instr.makeSlice 82 (.int .i64 0) (.int .i64 2)).run Try.prog w = .ok (.slice (some ⟨w.heap.size, 0, none⟩) 0 2) W0 := hmk
    clear hmk
    have hgl : w.heap.size < W0.heap.size := own_lt hown0 _ rfl
    have hb0 : Below w.heap.size w W0 := ⟨hgrow0.os, hgrow0.tape, hgrow0.output, by omega, fun k hk => hgrow0.block k hk (by simp)⟩
    have HW0 := Lib.hid hown0
    have HB0 := Lib.hid hb0
    obtain ⟨sp, hsp⟩ : ∃ sp, specOf a0 = sp := ⟨_, rfl⟩
    rw [hsp]
    have HB1 : Hid (Below w.heap.size w (W0.alloc (.cells #[.slice (some ⟨w.heap.size, 0, none⟩) 0 2] 82))) := Lib.hid (hb0.alloc (by omega) _)
    have hin0 : SpRow (W0.alloc (.cells #[.slice (some ⟨w.heap.size, 0, none⟩) 0 2] 82)) w.heap.size W0.heap.size [] :=
      ⟨by omega, w.heap.size, 2, heap_alloc_new W0 _, by omega, hown0.alloc _⟩
    have hfe := forEach_calls 52 #[.pointer (some ⟨W0.heap.size, 0, none⟩)] specStep (fun W i sp => SpRow W w.heap.size W0.heap.size sp ∧ sp.length ≤ i ∧ ∀ q ∈ sp, q.1.size ≤ 1099511627776 ∧ q.2.size ≤ 1099511627776) w.heap.size a0 h0
      (fun W i s n hI => ⟨hI.1.drewN n, hI.2⟩)
      (fun W i s p v hI hi hp hv => by
        refine (put_calls W w.heap.size W0.heap.size s p v hI.1 (by have := hI.2.1; omega) hp (fun q hq => (hI.2.2 q hq).1)).mono ?_
        rintro e w' ⟨rfl, g1, g2⟩
        refine ⟨rfl, ⟨g1, ?_, ?_⟩, g2⟩
        · have := hI.2.1
          unfold specStep
          split
          · simp; omega
          · split
            · simp; omega
            · simp; omega
        · unfold specStep
          split
          · exact hI.2.2
          · split
            · rename_i hlt
              intro q hq
              rcases List.mem_or_eq_of_mem_set hq with hq | rfl
              · exact hI.2.2 q hq
              · refine ⟨?_, hv⟩
                rw [List.getD_eq_getElem?_getD, List.getElem?_eq_getElem hlt]
                exact (hI.2.2 _ (List.getElem_mem hlt)).1
            · intro q hq
              rcases List.mem_append.1 hq with hq | hq
              · exact hI.2.2 q hq
              · rw [List.mem_singleton.1 hq]; exact ⟨hp, hv⟩)
      (fun args W => by first | rfl | kernel_rfl) [] _ ⟨hin0, Nat.le_refl _, fun q hq => by cases hq⟩
    have HFE : Hid (Calls Try.prog 43 #[.string a0, .func (.func 52) #[] #[.pointer (some ⟨W0.heap.size, 0, none⟩)]] (W0.alloc (.cells #[.slice (some ⟨w.heap.size, 0, none⟩) 0 2] 82)) fun e w' => e = .returned (.tuple #[]) ∧ (SpRow w' w.heap.size W0.heap.size sp ∧ (∃ i, sp.length ≤ i) ∧ ∀ q ∈ sp, q.1.size ≤ 1099511627776 ∧ q.2.size ≤ 1099511627776) ∧ Below w.heap.size w w') := Lib.hid (hfe.mono (by
      rintro e w' ⟨rfl, ⟨i, g1, g2, g3⟩, g4⟩
      rw [show foldP specStep a0.size [] (ns a0) = sp from hsp] at g1 g2 g3
      exact ⟨rfl, ⟨g1, ⟨i, g2⟩, g3⟩, HB1.out.trans g4⟩))
    clear hfe hin0 hsp
    have hmf : ∀ (fn : Fn) (first cap : Array Value) (w : World), (Instr.makeFunc fn first cap).run Try.prog w = .ok (.func fn first cap) w := fun _ _ _ _ => rfl
    clear hz hem zb hown0 hb0 hgrow0 hi hz0 hz1 hz2 hinfo
    go_enter Try.func45, Try.ntmps45
    go_upto_region 5 with (go_at_call 43; refine HFE.out.mono ?_; rintro e w1 ⟨rfl, ⟨g1, g2, g3⟩, g4⟩)
    have hlen : sp.length ≤ 9223372036854775807 := by
      obtain ⟨_, g, cap, _, _, ho⟩ := g1
      rcases ho.2 with ⟨e, _⟩ | ⟨_, _, _, e, _, _, hle, hm, _⟩
      · cases e
      · cases e
        have : maxLen ≤ 9223372036854775807 := by decide
        omega
    obtain ⟨ab, hab⟩ : ∃ ab, w1.heap.size = ab := ⟨_, rfl⟩
    have hol : W0.heap.size < ab := by
      obtain ⟨_, g, cap, hh, _, _⟩ := g1
      rw [← hab]
      exact (Array.getElem?_eq_some_iff.1 hh).1
    have hg1 := g1.below ((Below.refl w1.heap.size w1).alloc (Nat.le_refl _) (.cells #[.bool true] 4))
    have hal := heap_alloc_new w1 (.cells #[.bool true] 4)
    have hbl := g4.alloc (by have := g4.size; omega) (.cells #[.bool true] 4)
    rw [hab] at hal
    have HG3 := Lib.hid g3
    clear g1 g2 g3 g4
    go_upto_region 6 with fail
    obtain ⟨W2, hW2⟩ : ∃ W, w1.alloc (.cells #[.bool true] 4) = W := ⟨_, rfl⟩
    rw [hW2] at hg1 hal hbl ⊢
    have HS2 := Lib.hid hg1
    have HA2 : Hid (W2.heap[ab]? = some (.cells #[.bool true] 4 (0, 0))) := Lib.hid hal
    have HB2 := Lib.hid hbl
    obtain ⟨_, g, cap, hh, _, _⟩ := hg1
    have c0 : W2.cell? ⟨W0.heap.size, 0, none⟩ = some (.slice (some ⟨g, 0, none⟩) sp.length cap) := by rw [cell_of_row W2 _ 0 _ _ (0, 0) hh]; rfl
    clear hh hal hbl hW2 hab HFE hmk2
    go_wp2
    clear c0
    go_loopw [4, 7, 8, 17] (fun s4 _ _ iv wi => ∃ k : Nat, s4 = .bool false ∧ iv = .int .i64 k ∧ k ≤ sp.length ∧ Hid (SpRow wi w.heap.size W0.heap.size sp) ∧ Hid (wi.heap[ab]? = some (.cells #[.bool true] 4 (0, 0))) ∧ Hid (Below w.heap.size w wi) ∧ Hid (∀ j (hj : j < sp.length), j < k → hitOf a1 (sp[j]) = true)) (fun _ _ _ iv _ => sp.length - (intOf iv).toNat)
    case atStart => exact ⟨0, rfl, rfl, by omega, HS2, HA2, HB2, Lib.hid (fun j hj h => absurd h (by omega))⟩
    case round =>
      obtain ⟨k, rfl, rfl, hkl, HS, HA, HB, HALL⟩ := hrel
      by_cases hk : k < sp.length
      · have hqs := HG3.out _ (List.getElem_mem hk)
        have hal : ab < wr.heap.size := (Array.getElem?_eq_some_iff.1 HA.out).1
        obtain ⟨b, hb⟩ : ∃ b, wr.heap.size = b := ⟨_, rfl⟩
        obtain ⟨Wb, hWb⟩ : ∃ W, (wr.alloc (.cells #[.int .i64 k] 3)).alloc (.cells #[.bool false] 4) = W := ⟨_, rfl⟩
        have hbl : Below wr.heap.size wr Wb := by
          rw [← hWb]
          exact ((Below.refl _ _).alloc (Nat.le_refl _) _).alloc (by simp) _
        have hin : HitRow Wb w.heap.size W0.heap.size b (b + 1) ab sp k (false, true) := by
          refine ⟨HS.out.below hbl, ?_, ?_, ?_⟩
          · rw [← hWb, ← hb]
            exact blk_alloc (heap_alloc_new wr _) _
          · rw [← hWb, ← hb]
            have := heap_alloc_new (wr.alloc (.cells #[.int .i64 k] 3)) (.cells #[.bool false] 4)
            simpa using this
          · rw [hbl.block ab hal]
            exact HA.out
        obtain ⟨R, hR⟩ : ∃ R, foldP (hitStep (sp[k])) a1.size (false, true) (ns a1) = R := ⟨_, rfl⟩
        have hhit : Hid (hitOf a1 (sp[k]) = (R.1 && R.2)) := Lib.hid (by unfold hitOf; rw [hR])
        have hfe := forEach_calls 54 #[.pointer (some ⟨W0.heap.size, 0, none⟩), .pointer (some ⟨b, 0, none⟩), .pointer (some ⟨b + 1, 0, none⟩), .pointer (some ⟨ab, 0, none⟩)] (hitStep (sp[k])) (fun W i s => HitRow W w.heap.size W0.heap.size b (b + 1) ab sp k s) ab a1 h1
          (fun W i s n hI => hI.drewN n)
          (fun W i s p v hI hi hp hv => hit_calls W w.heap.size W0.heap.size b (b + 1) ab sp k hk s p v hI (by omega) (by omega) hp hv hqs hlen)
          (fun args W => by first | rfl | kernel_rfl) (false, true) Wb hin
        rw [hR] at hfe
        have HFE : Hid (Calls Try.prog 43 #[.string a1, .func (.func 54) #[] #[.pointer (some ⟨W0.heap.size, 0, none⟩), .pointer (some ⟨b, 0, none⟩), .pointer (some ⟨b + 1, 0, none⟩), .pointer (some ⟨ab, 0, none⟩)]] Wb fun e w' => e = .returned (.tuple #[]) ∧ HitRow w' w.heap.size W0.heap.size b (b + 1) ab sp k R ∧ Below w.heap.size w w') := Lib.hid (hfe.mono (by
          rintro e w' ⟨rfl, ⟨i, g1⟩, g2⟩
          refine ⟨rfl, g1, (HB.out.trans ?_).trans (below_weaken_m (by omega) g2)⟩
          exact below_weaken_m (by have := HB.out.size; omega) hbl))
        rw [← hWb] at HFE
        clear hfe hin hbl hqs hR hWb
        obtain ⟨f, y⟩ := R
        go_upto_region 11 with (go_at_call 43; refine HFE.out.mono ?_; rintro e w3 ⟨rfl, g1, g2⟩)
        have cf : w3.cell? ⟨b + 1, 0, none⟩ = some (.bool f) := by rw [cell_of_row w3 _ 0 _ _ (0, 0) g1.hit]; rfl
        have ca : w3.cell? ⟨ab, 0, none⟩ = some (.bool y) := by rw [cell_of_row w3 _ 0 _ _ (0, 0) g1.all]; rfl
        have G1 := Lib.hid g1
        have G2 := Lib.hid g2
        clear g1 g2 HFE
        have no : (f && y) = false → Hid (sp.all (hitOf a1) = false) := fun hfy => Lib.hid (by
          rw [List.all_eq_false]
          exact ⟨sp[k], List.getElem_mem hk, by rw [hhit.out, hfy]; simp⟩)
        cases f with
        | false =>
          have hres := no rfl
          clear no
          go_wp2
          go_ret
          exact ⟨by rw [hres.out]; rfl, G2.out⟩
        | true =>
          cases y with
          | false =>
            have hres := no rfl
            clear no
            go_wp2
            go_ret
            exact ⟨by rw [hres.out]; rfl, G2.out⟩
          | true =>
            clear no
            go_wp2
            go_roundw
            case rel => exact ⟨k + 1, by first | rfl | trivial, by go_num, by omega, Lib.hid G1.out.row, Lib.hid G1.out.all, G2, Lib.hid (fun j hj hjk => by
              rcases Nat.lt_or_ge j k with h | h
              · exact HALL.out j hj h
              · obtain rfl : j = k := by omega
                exact hhit.out)⟩
            case measure => simp [intOf]; omega
      · have hres : Hid (sp.all (hitOf a1) = true) := Lib.hid (by
          rw [List.all_eq_true]
          intro q hq
          obtain ⟨j, hj, rfl⟩ := List.getElem_of_mem hq
          exact HALL.out j hj (by omega))
        have ca : wr.cell? ⟨ab, 0, none⟩ = some (.bool true) := by rw [cell_of_row wr ab 0 _ _ (0, 0) HA.out]; rfl
        go_wp2
        go_ret
        exact ⟨by rw [hres.out]; rfl, HB.out⟩
theorem fiberhelpers_paramsMatch.calls (a0 a1 : ByteArray) (r : Bool) (w : World) (h : fiberhelpers_paramsMatch.f a0 a1 = some r) :
    Calls Try.prog 45 #[.string a0, .string a1] w fun e w' => e = .returned (.bool r) ∧ Below w.heap.size w w' := by
  unfold fiberhelpers_paramsMatch.f at h
  by_cases hb : a0.size ≤ 1099511627776 ∧ a1.size ≤ 1099511627776
  · rw [if_pos hb] at h
    obtain rfl := Option.some.inj h
    exact match_calls a0 a1 w hb.1 hb.2
  · rw [if_neg hb] at h
    cases h
abbrev Sa := S50
def soonB (a b : Sa) : Bool := if a.f1 = b.f1 then (if a.f2 = b.f2 then decide (a.f3 < b.f3) else decide (a.f2 > b.f2)) else decide (a.f1 > b.f1)
def confB (x y : Sa) : Bool := decide (x.f1 = y.f1) && (decide (x.f2 = y.f2) && (decide (x.f3 = y.f3) || !decide (x.f4.size = y.f4.size)))
def badQ (x : Sa) : Bool := decide (x.f1 < -9007199254740992) || decide (9007199254740992 < x.f1)
def insS (x : Sa) (out : List Sa) : List Sa := out.take (out.findIdx (soonB x)) ++ x :: out.drop (out.findIdx (soonB x))
def sortSp : List Sa → List Sa → Option (List Sa)
  | out, [] => some out
  | out, x :: t => if badQ x = true then none else if out.any (confB x) = true then none else sortSp (insS x out) t
def cellsA (x : Sa) : Array Value := #[.string x.f0, .int .i64 x.f1, .int .i64 x.f2, .int .i64 x.f3, .string x.f4]
theorem rdSa_nat (l : List Sa) (i : Nat) (h : i < l.length) : rd_T50 l (i : Int) = l[i] := by
  show l.getD i z50 = l[i]
  rw [List.getD_eq_getElem?_getD, List.getElem?_eq_getElem h]; rfl
theorem sooner_calls (x y : Sa) (w : World) : Calls Try.prog 37 #[.agg (cellsA x), .agg (cellsA y)] w fun e w' => e = .returned (.bool (soonB x y)) ∧ Below w.heap.size w w' := by
  have h : spec_sooner.f x.f0 x.f1 x.f2 x.f3 x.f4 y.f0 y.f1 y.f2 y.f3 y.f4 = some (soonB x y) := by
    unfold spec_sooner.f soonB
    by_cases h1 : x.f1 = y.f1
    · rw [if_pos h1, if_pos h1]
      by_cases h2 : x.f2 = y.f2
      · rw [if_pos h2, if_pos h2]
      · rw [if_neg h2, if_neg h2]
    · rw [if_neg h1, if_neg h1]
  exact spec_sooner.calls x.f0 x.f1 x.f2 x.f3 x.f4 y.f0 y.f1 y.f2 y.f3 y.f4 _ w h
theorem insS_length (x : Sa) (out : List Sa) : (insS x out).length = out.length + 1 := by
  have := List.findIdx_le_length (xs := out) (p := soonB x)
  unfold insS
  rw [List.length_append, List.length_take, List.length_cons, List.length_drop]
  omega
def atJ (x : Sa) (out : List Sa) (j : Nat) : Nat := if out.findIdx (soonB x) < j then out.findIdx (soonB x) else out.length
theorem atJ_yes {x : Sa} {out : List Sa} {j : Nat} (hj : j < out.length) (hs : soonB x out[j] = true) (h : ¬ atJ x out j ≤ j) : atJ x out (j + 1) = j := by
  have h1 : ¬ out.findIdx (soonB x) < j := fun g => h (by rw [atJ, if_pos g]; omega)
  have h2 : out.findIdx (soonB x) ≤ j := Nat.le_of_not_lt (fun g => by have := List.not_of_lt_findIdx g; rw [hs] at this; cases this)
  rw [atJ, if_pos (by omega)]; omega
theorem atJ_old {x : Sa} {out : List Sa} {j : Nat} (hj : j < out.length) (h : atJ x out j ≤ j) : atJ x out (j + 1) = atJ x out j := by
  unfold atJ at h ⊢
  split at h
  · rename_i g; rw [if_pos (by omega), if_pos g]
  · omega
theorem atJ_no {x : Sa} {out : List Sa} {j : Nat} (hj : j < out.length) (hs : ¬ soonB x out[j] = true) : atJ x out (j + 1) = atJ x out j := by
  have : out.findIdx (soonB x) ≠ j := fun e => hs (by
    have hlt : out.findIdx (soonB x) < out.length := by omega
    have := List.findIdx_getElem (w := hlt)
    simp only [e] at this
    exact this)
  unfold atJ
  by_cases g : out.findIdx (soonB x) < j
  · rw [if_pos g, if_pos (by omega)]
  · rw [if_neg g, if_neg (by omega)]
theorem sets5 {w : World} {g : Nat} {p : Sa} {c : Array Value} (h : w.heap[g]? = some (.cells c 50 (0, 0))) (hc : c = #[.string (⟨#[]⟩ : ByteArray), .int .i64 0, .int .i64 0, .int .i64 0, .string (⟨#[]⟩ : ByteArray)] := by rfl) :
    (((((w.setCell ⟨g, 0, none⟩ (.string p.f0)).setCell ⟨g, 1, none⟩ (.int .i64 p.f1)).setCell ⟨g, 2, none⟩ (.int .i64 p.f2)).setCell ⟨g, 3, none⟩ (.int .i64 p.f3)).setCell ⟨g, 4, none⟩ (.string p.f4)).heap[g]? = some (.cells (cellsA p) 50 (0, 0)) := by
  subst hc
  have h1 := heap_setCell_same w g 0 _ 50 (.string p.f0) h
  have h2 := heap_setCell_same _ g 1 _ 50 (.int .i64 p.f1) h1
  have h3 := heap_setCell_same _ g 2 _ 50 (.int .i64 p.f2) h2
  have h4 := heap_setCell_same _ g 3 _ 50 (.int .i64 p.f3) h3
  have h5 := heap_setCell_same _ g 4 _ 50 (.string p.f4) h4
  exact h5
theorem nc_step {p : Sa} {o : List Sa} {j : Nat} (hj : j < o.length) (h : ∀ y ∈ o.take j, confB p y = false) (hn : confB p o[j] = false) : ∀ y ∈ o.take (j + 1), confB p y = false := by
  rw [List.take_succ_eq_append_getElem hj]
  intro y hy
  rcases List.mem_append.1 hy with g | g
  · exact h y g
  · rw [List.mem_singleton] at g; rw [g]; exact hn
theorem atJ_end (x : Sa) (out : List Sa) : atJ x out out.length = out.findIdx (soonB x) := by
  have := List.findIdx_le_length (xs := out) (p := soonB x)
  unfold atJ
  split <;> omega
theorem emptyA_R (w : World) : Kd.R k50 50 (w.alloc (.cells #[] 50)) w.heap.size (fun _ => True) (.slice (some ⟨w.heap.size, 0, none⟩) 0 0) [] :=
  ⟨fun k hk => trivial, [], World.ownsRow_lit (base := w.heap.size) (e := 50) (size := 5) w #[] 0 (Nat.le_refl _) (by unfold maxLen; omega) (by simp), Reps.none _ _⟩
theorem oneA_C {w : World} {g : Nat} {p : Sa} (h : w.heap[g]? = some (.cells (cellsA p) 50 (0, 0))) : Kd.C k50 w (some ⟨g, 0, none⟩) 1 [p] := by
  have hR : Kd.R k50 50 w 0 (fun _ => True) (.slice (some ⟨g, 0, none⟩) 1 1) [p] :=
    ⟨fun k hk => trivial, [.string p.f0, .int .i64 p.f1, .int .i64 p.f2, .int .i64 p.f3, .string p.f4], ⟨rfl, .inr ⟨g, 1, _, rfl, Nat.zero_le _, h, Nat.le_refl _, by unfold maxLen; omega, rfl, rfl⟩⟩, Reps.c5 (k50_mkM w 0 _ p) (Reps.none _ _)⟩
  exact (Kd.R_reads' hR).2.2
theorem cutA (A : Option Addr) (n c m : Nat) (hm : m ≤ n) : ∃ A' : Option Addr, (∀ W : World, (Instr.slice 47 (.slice A n c) (some (.int .i64 (m : Int))) none none).run Try.prog W = .ok (.slice A' (n - m) (c - m)) W) ∧
    ∀ (w : World) (xs : List Sa), n ≤ c → Kd.C k50 w A n xs → Kd.C k50 w A' (n - m) (xs.drop m) := by
  refine ⟨if c = m then A else A.map (·.add (m * 5)), fun W => ?_, fun w xs hc h => ?_⟩
  · have hel : Try.prog.elem 47 = 50 := by simp [Program.elem, Try.underlying47]
    have hu : Try.prog.underlying 47 = some (.slice (Try.prog.elem 47)) := by rw [hel]; exact Try.underlying47
    obtain ⟨inf, hi, hs⟩ := Option.map_eq_some_iff.1 info50
    have hsz : inf.size = 5 := congrArg (fun t => t.2.1) hs
    rw [run_slice_l W 47 A n c hu .i64 (m : Int) (Int.natCast_nonneg _) (by omega), hel]
    simp [sizeOf, typeInfo, hi, hsz, sliced, Result.andThen]
  · obtain rfl : xs.length = n := h.1
    have := Kd.C_drop (k := k50) (c := c) h hm hc
    rw [List.length_drop] at this
    exact this
theorem blkA_lt {w : World} {g : Nat} {o : Obj} (h : w.heap[g]? = some o) : g < w.heap.size := by
  have := Array.getElem?_eq_some_iff.1 h
  exact this.1
theorem bwA {B C : Nat} {a b : World} (h : B ≤ C) (k : Below C a b) : Below B a b := ⟨k.os, k.tape, k.output, k.size, fun i hi => k.block i (by omega)⟩
theorem cellsA_at {w : World} {g : Nat} {x : Sa} (h : w.heap[g]? = some (.cells (cellsA x) 50 (0, 0))) :
    w.cell? ⟨g, 0, none⟩ = some (.string x.f0) ∧ w.cell? ⟨g, 1, none⟩ = some (.int .i64 x.f1) ∧ w.cell? ⟨g, 2, none⟩ = some (.int .i64 x.f2) ∧ w.cell? ⟨g, 3, none⟩ = some (.int .i64 x.f3) ∧ w.cell? ⟨g, 4, none⟩ = some (.string x.f4) :=
  ⟨(blk_cell h 0).trans rfl, (blk_cell h 1).trans rfl, (blk_cell h 2).trans rfl, (blk_cell h 3).trans rfl, (blk_cell h 4).trans rfl⟩
set_option maxHeartbeats 8000000 in
set_option maxRecDepth 100000 in
theorem specSort_calls (A0 : Option Addr) (c0 : Nat) (l : List Sa) (w : World) (hr : Kd.C k50 w A0 l.length l) (hl : l.length ≤ 1000000) :
  Calls Try.prog 20 #[.slice A0 l.length c0] w fun e w' => ∃ v0, e = .returned (.tuple #[v0, .int .i64 (if (sortSp [] l).isSome = true then 1 else 2)]) ∧ Kd.R k50 50 w' w.heap.size (fun _ => True) v0 ((sortSp [] l).getD []) ∧ Below w.heap.size w w' := by
 have HC := Lib.hid hr
 clear hr
 obtain ⟨RES, hRES⟩ : ∃ r, sortSp [] l = r := ⟨_, rfl⟩
 rw [hRES]
 have HRES := Lib.hid hRES
 clear hRES
 obtain ⟨sy, hsy⟩ : ∃ s : Int, (if RES.isSome = true then (1 : Int) else 2) = s := ⟨_, rfl⟩
 obtain ⟨rl, hrl⟩ : ∃ r, RES.getD [] = r := ⟨_, rfl⟩
 rw [hsy, hrl]
 have HSY := Lib.hid hsy
 have HRL := Lib.hid hrl
 clear hsy hrl
 go_enter Try.func20, Try.ntmps20
 go_wp2
 go_loopw [12, 4] (fun iv v4 wr => ∃ (i : Nat) (o : List Sa), iv = .int .i64 i ∧ i ≤ l.length ∧ o.length = i ∧ Hid (Kd.R k50 50 wr w.heap.size (fun _ => True) v4 o) ∧ Hid (sortSp o (l.drop i) = RES) ∧ Hid (Below w.heap.size w wr)) (fun iv _ _ => l.length - (intOf iv).toNat)
 case atStart => exact ⟨0, [], rfl, by omega, rfl, Lib.hid (Kd.R_nil _ _ _ _ _), Lib.hid HRES.out, Lib.hid (Below.refl _ _)⟩
 case round =>
  obtain ⟨i, o, rfl, hi, ho, HR, HS, HX⟩ := hrel
  obtain ⟨Ax, cx, rfl, hcx, hCx⟩ := Kd.R_reads HR.out
  rw [ho] at hcx hCx HR
  have HCX := Lib.hid hCx
  have HLX := Lib.hid hcx
  clear hcx hCx
  by_cases hlt : i < l.length
  ·obtain ⟨p, hpp⟩ : ∃ p, l[i]'hlt = p := ⟨_, rfl⟩
   have hltp : decide ((i : Int) < (l.length : Int)) = true := decide_eq_true (by omega)
   obtain ⟨adp, e0, y0, y1, y2, y3, y4⟩ := at_T50 (Kd.C_below HC.out HX.out) (i : Int) (by omega) (by omega)
   cases e0
   rw [rdSa_nat l _ hlt, hpp] at y0 y1 y2 y3 y4
   simp only [Int.toNat_natCast] at y0 y1 y2 y3 y4
   have hst : sortSp o (l.drop i) = if badQ p = true then none else if o.any (confB p) = true then none else sortSp (insS p o) (l.drop (i + 1)) := by rw [List.drop_eq_getElem_cons hlt, hpp, sortSp]
   have HST := Lib.hid (hst.symm.trans HS.out)
   clear hst
   by_cases hb1 : p.f1 < -9007199254740992
   ·have hb1' : decide (p.f1 < -9007199254740992) = true := decide_eq_true hb1
    have hR : RES = none := by rw [← HST.out, if_pos (by simp [badQ, hb1])]
    obtain rfl : sy = 2 := by rw [← HSY.out, hR]; rfl
    obtain rfl : rl = [] := by rw [← HRL.out, hR]; rfl
    clear hR
    go_wp2_with (first
     | ((with_reducible refine gate_dst (N := 6) rfl ?_); refine box_event ?hg (N := 6) ?hd (cs := #[.string (⟨#[]⟩ : ByteArray), .int .i64 0, .int .i64 0, .int .i64 0, .string (⟨#[]⟩ : ByteArray)]) (t := 50) ?hr ?_; (case hd => rfl); (case hg => rfl); (case hr => first | (go_simp; done) | (go_simp; rfl)); intro gb hg wb hbox hb; have HN := Lib.hid (show Below wr.heap.size wr wb from hb); have GE := Lib.hid (show wr.heap.size ≤ gb by rw [hg]; exact Nat.le_refl _); have BK := Lib.hid hbox; clear hb hbox hg; have b0 := (blk_cell BK.out 0).trans (show _ = some _ from rfl); have b1 := (blk_cell BK.out 1).trans (show _ = some _ from rfl); have b2 := (blk_cell BK.out 2).trans (show _ = some _ from rfl); have b3 := (blk_cell BK.out 3).trans (show _ = some _ from rfl); have b4 := (blk_cell BK.out 4).trans (show _ = some _ from rfl); have f0 := blk_frozen BK.out 0; have f1 := blk_frozen BK.out 1; have f2 := blk_frozen BK.out 2; have f3 := blk_frozen BK.out 3; have f4 := blk_frozen BK.out 4))
    go_ret2
    refine ⟨_, rfl, Kd.R_nil _ _ _ _ _, below_step HX.out (by with_reducible repeat (first | exact HN.out | apply below_alloc | apply pw_below_drewN | apply below_drew1 | refine below_set ?_ GE.out))⟩
   ·have hb1' : decide (p.f1 < -9007199254740992) = false := decide_eq_false hb1
    by_cases hb2 : 9007199254740992 < p.f1
    ·have hb2' : decide (9007199254740992 < p.f1) = true := decide_eq_true hb2
     have hR : RES = none := by rw [← HST.out, if_pos (by simp [badQ, hb2])]
     obtain rfl : sy = 2 := by rw [← HSY.out, hR]; rfl
     obtain rfl : rl = [] := by rw [← HRL.out, hR]; rfl
     clear hR
     go_wp2_with (first
      | ((with_reducible refine gate_dst (N := 6) rfl ?_); refine box_event ?hg (N := 6) ?hd (cs := #[.string (⟨#[]⟩ : ByteArray), .int .i64 0, .int .i64 0, .int .i64 0, .string (⟨#[]⟩ : ByteArray)]) (t := 50) ?hr ?_; (case hd => rfl); (case hg => rfl); (case hr => first | (go_simp; done) | (go_simp; rfl)); intro gb hg wb hbox hb; have HN := Lib.hid (show Below wr.heap.size wr wb from hb); have GE := Lib.hid (show wr.heap.size ≤ gb by rw [hg]; exact Nat.le_refl _); have BK := Lib.hid hbox; clear hb hbox hg; have b0 := (blk_cell BK.out 0).trans (show _ = some _ from rfl); have b1 := (blk_cell BK.out 1).trans (show _ = some _ from rfl); have b2 := (blk_cell BK.out 2).trans (show _ = some _ from rfl); have b3 := (blk_cell BK.out 3).trans (show _ = some _ from rfl); have b4 := (blk_cell BK.out 4).trans (show _ = some _ from rfl); have f0 := blk_frozen BK.out 0; have f1 := blk_frozen BK.out 1; have f2 := blk_frozen BK.out 2; have f3 := blk_frozen BK.out 3; have f4 := blk_frozen BK.out 4))
     go_ret2
     refine ⟨_, rfl, Kd.R_nil _ _ _ _ _, below_step HX.out (by with_reducible repeat (first | exact HN.out | apply below_alloc | apply pw_below_drewN | apply below_drew1 | refine below_set ?_ GE.out))⟩
    ·have hb2' : decide (9007199254740992 < p.f1) = false := decide_eq_false hb2
     go_upto_region 7 with (first
      | ((with_reducible refine gate_dst (N := 6) rfl ?_); refine box_event ?hg (N := 6) ?hd (cs := #[.string (⟨#[]⟩ : ByteArray), .int .i64 0, .int .i64 0, .int .i64 0, .string (⟨#[]⟩ : ByteArray)]) (t := 50) ?hr ?_; (case hd => rfl); (case hg => rfl); (case hr => first | (go_simp; done) | (go_simp; rfl)); intro gb hg wb hbox hb; have HN := Lib.hid (show Below wr.heap.size wr wb from hb); have GE := Lib.hid (show wr.heap.size ≤ gb by rw [hg]; exact Nat.le_refl _); have BK := Lib.hid hbox; clear hb hbox hg; have b0 := (blk_cell BK.out 0).trans (show _ = some _ from rfl); have b1 := (blk_cell BK.out 1).trans (show _ = some _ from rfl); have b2 := (blk_cell BK.out 2).trans (show _ = some _ from rfl); have b3 := (blk_cell BK.out 3).trans (show _ = some _ from rfl); have b4 := (blk_cell BK.out 4).trans (show _ = some _ from rfl); have f0 := blk_frozen BK.out 0; have f1 := blk_frozen BK.out 1; have f2 := blk_frozen BK.out 2; have f3 := blk_frozen BK.out 3; have f4 := blk_frozen BK.out 4))
     obtain ⟨W1, hW1⟩ : ∃ W, W = (((((wb.setCell ⟨gb, 0, none⟩ (.string p.f0)).setCell ⟨gb, 1, none⟩ (.int .i64 p.f1)).setCell ⟨gb, 2, none⟩ (.int .i64 p.f2)).setCell ⟨gb, 3, none⟩ (.int .i64 p.f3)).setCell ⟨gb, 4, none⟩ (.string p.f4)) := ⟨_, rfl⟩
     rw [← hW1]
     have HN1 := Lib.hid (show Below wr.heap.size wr W1 by rw [hW1]; exact (by with_reducible repeat (first | exact HN.out | apply below_alloc | apply pw_below_drewN | apply below_drew1 | refine below_set ?_ GE.out)))
     have HBX := Lib.hid (show W1.heap[gb]? = some (.cells (cellsA p) 50 (0, 0)) by rw [hW1]; exact sets5 BK.out)
     obtain ⟨gx, rfl⟩ : ∃ g, g = gb := ⟨_, rfl⟩
     clear hW1 HN GE BK b0 b1 b2 b3 b4 f0 f1 f2 f3 f4 y0 y1 y2 y3 y4
     have HX1 := Lib.hid (below_step HX.out HN1.out)
     have HC1 := Lib.hid (Kd.C_below HCX.out HN1.out)
     have hbad : badQ p = false := by simp [badQ, hb1, hb2]
     have hst2 := HST.out
     rw [hbad, if_neg (by simp)] at hst2
     have HST2 := Lib.hid hst2
     clear hbad hst2
     go_wp2
     go_loopw [28, 7] (fun jv v7 wi => ∃ (j : Nat), jv = .int .i64 j ∧ j ≤ i ∧ v7 = .int .i64 (atJ p o j : Nat) ∧ Hid (∀ y ∈ o.take j, confB p y = false) ∧ Hid (Below W1.heap.size W1 wi)) (fun jv _ _ => i - (intOf jv).toNat)
     case atStart => exact ⟨0, rfl, by omega, by rw [show atJ p o 0 = i by unfold atJ; rw [if_neg (by omega), ho]], Lib.hid (by simp), Lib.hid (Below.refl _ _)⟩
     case round =>
      obtain ⟨j, rfl, hj, rfl, HNC, HZ⟩ := hrel
      by_cases hlt2 : j < i
      ·have hlt3 : j < o.length := by omega
       obtain ⟨y, hpy⟩ : ∃ p, o[j]'(by omega) = p := ⟨_, rfl⟩
       have hlty : decide ((j : Int) < (i : Int)) = true := decide_eq_true (by omega)
       obtain ⟨ady, e0, y0, y1, y2, y3, y4⟩ := at_T50 (Kd.C_below (Kd.C_below HC1.out HZ.out) (Below.refl _ _)) (j : Int) (by omega) (by omega)
       cases e0
       rw [rdSa_nat o _ (by omega), hpy] at y0 y1 y2 y3 y4
       simp only [Int.toNat_natCast] at y0 y1 y2 y3 y4
       go_upto_region 11 with (first
        | ((with_reducible refine gate_dst (N := 9) rfl ?_); refine box_event ?hg (N := 9) ?hd (cs := #[.string (⟨#[]⟩ : ByteArray), .int .i64 0, .int .i64 0, .int .i64 0, .string (⟨#[]⟩ : ByteArray)]) (t := 50) ?hr ?_; (case hd => rfl); (case hg => rfl); (case hr => first | (go_simp; done) | (go_simp; rfl)); intro gb hg wb hbox hb; have HN := Lib.hid (show Below wr.heap.size wr wb from hb); have GE := Lib.hid (show wr.heap.size ≤ gb by rw [hg]; exact Nat.le_refl _); have BK := Lib.hid hbox; clear hb hbox hg; have b0 := (blk_cell BK.out 0).trans (show _ = some _ from rfl); have b1 := (blk_cell BK.out 1).trans (show _ = some _ from rfl); have b2 := (blk_cell BK.out 2).trans (show _ = some _ from rfl); have b3 := (blk_cell BK.out 3).trans (show _ = some _ from rfl); have b4 := (blk_cell BK.out 4).trans (show _ = some _ from rfl); have f0 := blk_frozen BK.out 0; have f1 := blk_frozen BK.out 1; have f2 := blk_frozen BK.out 2; have f3 := blk_frozen BK.out 3; have f4 := blk_frozen BK.out 4))
       obtain ⟨W5, hW5⟩ : ∃ W, W = (((((wb.setCell ⟨gb, 0, none⟩ (.string y.f0)).setCell ⟨gb, 1, none⟩ (.int .i64 y.f1)).setCell ⟨gb, 2, none⟩ (.int .i64 y.f2)).setCell ⟨gb, 3, none⟩ (.int .i64 y.f3)).setCell ⟨gb, 4, none⟩ (.string y.f4)) := ⟨_, rfl⟩
       rw [← hW5]
       have HN5 := Lib.hid (show Below wr.heap.size wr W5 by rw [hW5]; exact (by with_reducible repeat (first | exact HN.out | apply below_alloc | apply pw_below_drewN | apply below_drew1 | refine below_set ?_ GE.out)))
       have HBY := Lib.hid (show W5.heap[gb]? = some (.cells (cellsA y) 50 (0, 0)) by rw [hW5]; exact sets5 BK.out)
       clear hW5 HN GE BK b0 b1 b2 b3 b4 f0 f1 f2 f3 f4 y0 y1 y2 y3 y4
       obtain ⟨x0, x1, x2, x3, x4⟩ := cellsA_at ((HN5.out.block gx (blkA_lt ((HZ.out.block gx (blkA_lt HBX.out)).trans HBX.out))).trans ((HZ.out.block gx (blkA_lt HBX.out)).trans HBX.out))
       obtain ⟨y0, y1, y2, y3, y4⟩ := cellsA_at HBY.out
       have HSO := Lib.hid (show ∀ W : World, Calls Try.prog 37 #[.agg #[.string p.f0, .int .i64 p.f1, .int .i64 p.f2, .int .i64 p.f3, .string p.f4], .agg #[.string y.f0, .int .i64 y.f1, .int .i64 y.f2, .int .i64 y.f3, .string y.f4]] W fun e w' => e = .returned (.bool (soonB p y)) ∧ Below W.heap.size W w' from fun W => sooner_calls p y W)
       by_cases h1 : p.f1 = y.f1
       ·have k1 : (p.f1 == y.f1) = true := beq_iff_eq.2 h1
        by_cases h2 : p.f2 = y.f2
        ·have k2 : (p.f2 == y.f2) = true := beq_iff_eq.2 h2
         by_cases h3 : p.f3 = y.f3
         ·have k3 : (p.f3 == y.f3) = true := beq_iff_eq.2 h3
          have HCF := Lib.hid (show confB p y = true by simp [confB, h1, h2, h3])
          clear h1 h2 h3
          have hR : RES = none := by rw [← HST2.out, if_pos (List.any_eq_true.2 ⟨y, by rw [← hpy]; exact List.getElem_mem hlt3, HCF.out⟩)]
          obtain rfl : sy = 2 := by rw [← HSY.out, hR]; rfl
          obtain rfl : rl = [] := by rw [← HRL.out, hR]; rfl
          clear hR
          go_wp2
          go_ret2
          exact ⟨_, rfl, Kd.R_nil _ _ _ _ _, below_step HX1.out (below_step HZ.out HN5.out)⟩
         ·have k3 : (p.f3 == y.f3) = false := beq_eq_false_iff_ne.2 h3
          by_cases h4 : p.f4.size = y.f4.size
          ·have k4 : (p.f4.size == y.f4.size) = true := beq_iff_eq.2 h4
           have k5 : (p.f4.size != y.f4.size) = false := bne_eq_false_iff_eq.2 h4
           have HCF := Lib.hid (show confB p y = false by simp [confB, h3, h4])
           clear h1 h2 h3 h4
           go_upto_region 13 with fail
           cases hso : soonB p y with
           | false =>
            go_wp2_with (first
             | (go_at_call 37; refine (HSO.out _).mono ?_; rintro e w6 ⟨rfl, hb6⟩; have HB6 := Lib.hid hb6; clear hb6; rw [hso]))
            exact ⟨⟨j + 1, by simp, by omega, by rw [atJ_no hlt3 (by rw [hpy, hso]; simp)], Lib.hid (nc_step hlt3 HNC.out (by rw [hpy]; exact HCF.out)), Lib.hid (below_step HZ.out (below_step HN5.out HB6.out))⟩, by simp [intOf]; omega⟩
           | true =>
            by_cases hat : (j : Int) < ((atJ p o j : Nat) : Int)
            ·have hat' : decide ((j : Int) < ((atJ p o j : Nat) : Int)) = true := decide_eq_true hat
             have hat2 : ¬ atJ p o j ≤ j := by omega
             go_wp2_with (first
              | (go_at_call 37; refine (HSO.out _).mono ?_; rintro e w6 ⟨rfl, hb6⟩; have HB6 := Lib.hid hb6; clear hb6; rw [hso]))
             exact ⟨⟨j + 1, by simp, by omega, by rw [atJ_yes hlt3 (by rw [hpy]; exact hso) hat2], Lib.hid (nc_step hlt3 HNC.out (by rw [hpy]; exact HCF.out)), Lib.hid (below_step HZ.out (below_step HN5.out HB6.out))⟩, by simp [intOf]; omega⟩
            ·have hat' : decide ((j : Int) < ((atJ p o j : Nat) : Int)) = false := decide_eq_false hat
             have hat2 : atJ p o j ≤ j := by omega
             go_wp2_with (first
              | (go_at_call 37; refine (HSO.out _).mono ?_; rintro e w6 ⟨rfl, hb6⟩; have HB6 := Lib.hid hb6; clear hb6; rw [hso]))
             exact ⟨⟨j + 1, by simp, by omega, by rw [atJ_old hlt3 hat2], Lib.hid (nc_step hlt3 HNC.out (by rw [hpy]; exact HCF.out)), Lib.hid (below_step HZ.out (below_step HN5.out HB6.out))⟩, by simp [intOf]; omega⟩
          ·have k4 : (p.f4.size == y.f4.size) = false := beq_eq_false_iff_ne.2 h4
           have k5 : (p.f4.size != y.f4.size) = true := bne_iff_ne.2 h4
           have HCF := Lib.hid (show confB p y = true by simp [confB, h1, h2, h4])
           clear h1 h2 h3 h4
           have hR : RES = none := by rw [← HST2.out, if_pos (List.any_eq_true.2 ⟨y, by rw [← hpy]; exact List.getElem_mem hlt3, HCF.out⟩)]
           obtain rfl : sy = 2 := by rw [← HSY.out, hR]; rfl
           obtain rfl : rl = [] := by rw [← HRL.out, hR]; rfl
           clear hR
           go_wp2
           go_ret2
           exact ⟨_, rfl, Kd.R_nil _ _ _ _ _, below_step HX1.out (below_step HZ.out HN5.out)⟩
        ·have k2 : (p.f2 == y.f2) = false := beq_eq_false_iff_ne.2 h2
         have HCF := Lib.hid (show confB p y = false by simp [confB, h2])
         clear h1 h2
         go_upto_region 13 with fail
         cases hso : soonB p y with
         | false =>
          go_wp2_with (first
           | (go_at_call 37; refine (HSO.out _).mono ?_; rintro e w6 ⟨rfl, hb6⟩; have HB6 := Lib.hid hb6; clear hb6; rw [hso]))
          exact ⟨⟨j + 1, by simp, by omega, by rw [atJ_no hlt3 (by rw [hpy, hso]; simp)], Lib.hid (nc_step hlt3 HNC.out (by rw [hpy]; exact HCF.out)), Lib.hid (below_step HZ.out (below_step HN5.out HB6.out))⟩, by simp [intOf]; omega⟩
         | true =>
          by_cases hat : (j : Int) < ((atJ p o j : Nat) : Int)
          ·have hat' : decide ((j : Int) < ((atJ p o j : Nat) : Int)) = true := decide_eq_true hat
           have hat2 : ¬ atJ p o j ≤ j := by omega
           go_wp2_with (first
            | (go_at_call 37; refine (HSO.out _).mono ?_; rintro e w6 ⟨rfl, hb6⟩; have HB6 := Lib.hid hb6; clear hb6; rw [hso]))
           exact ⟨⟨j + 1, by simp, by omega, by rw [atJ_yes hlt3 (by rw [hpy]; exact hso) hat2], Lib.hid (nc_step hlt3 HNC.out (by rw [hpy]; exact HCF.out)), Lib.hid (below_step HZ.out (below_step HN5.out HB6.out))⟩, by simp [intOf]; omega⟩
          ·have hat' : decide ((j : Int) < ((atJ p o j : Nat) : Int)) = false := decide_eq_false hat
           have hat2 : atJ p o j ≤ j := by omega
           go_wp2_with (first
            | (go_at_call 37; refine (HSO.out _).mono ?_; rintro e w6 ⟨rfl, hb6⟩; have HB6 := Lib.hid hb6; clear hb6; rw [hso]))
           exact ⟨⟨j + 1, by simp, by omega, by rw [atJ_old hlt3 hat2], Lib.hid (nc_step hlt3 HNC.out (by rw [hpy]; exact HCF.out)), Lib.hid (below_step HZ.out (below_step HN5.out HB6.out))⟩, by simp [intOf]; omega⟩
       ·have k1 : (p.f1 == y.f1) = false := beq_eq_false_iff_ne.2 h1
        have HCF := Lib.hid (show confB p y = false by simp [confB, h1])
        clear h1
        go_upto_region 13 with fail
        cases hso : soonB p y with
        | false =>
         go_wp2_with (first
          | (go_at_call 37; refine (HSO.out _).mono ?_; rintro e w6 ⟨rfl, hb6⟩; have HB6 := Lib.hid hb6; clear hb6; rw [hso]))
         exact ⟨⟨j + 1, by simp, by omega, by rw [atJ_no hlt3 (by rw [hpy, hso]; simp)], Lib.hid (nc_step hlt3 HNC.out (by rw [hpy]; exact HCF.out)), Lib.hid (below_step HZ.out (below_step HN5.out HB6.out))⟩, by simp [intOf]; omega⟩
        | true =>
         by_cases hat : (j : Int) < ((atJ p o j : Nat) : Int)
         ·have hat' : decide ((j : Int) < ((atJ p o j : Nat) : Int)) = true := decide_eq_true hat
          have hat2 : ¬ atJ p o j ≤ j := by omega
          go_wp2_with (first
           | (go_at_call 37; refine (HSO.out _).mono ?_; rintro e w6 ⟨rfl, hb6⟩; have HB6 := Lib.hid hb6; clear hb6; rw [hso]))
          exact ⟨⟨j + 1, by simp, by omega, by rw [atJ_yes hlt3 (by rw [hpy]; exact hso) hat2], Lib.hid (nc_step hlt3 HNC.out (by rw [hpy]; exact HCF.out)), Lib.hid (below_step HZ.out (below_step HN5.out HB6.out))⟩, by simp [intOf]; omega⟩
         ·have hat' : decide ((j : Int) < ((atJ p o j : Nat) : Int)) = false := decide_eq_false hat
          have hat2 : atJ p o j ≤ j := by omega
          go_wp2_with (first
           | (go_at_call 37; refine (HSO.out _).mono ?_; rintro e w6 ⟨rfl, hb6⟩; have HB6 := Lib.hid hb6; clear hb6; rw [hso]))
          exact ⟨⟨j + 1, by simp, by omega, by rw [atJ_old hlt3 hat2], Lib.hid (nc_step hlt3 HNC.out (by rw [hpy]; exact HCF.out)), Lib.hid (below_step HZ.out (below_step HN5.out HB6.out))⟩, by simp [intOf]; omega⟩
      ·obtain rfl : i = j := by omega
       have hq_ : ¬ (i : Int) < (i : Int) := by omega
       go_wp2
       obtain ⟨W6, rfl⟩ : ∃ W, W = wr := ⟨_, rfl⟩
       have E7 := Lib.hid ((HZ.out.block gx (blkA_lt HBX.out)).trans HBX.out)
       have hnc : o.any (confB p) = false := List.any_eq_false.2 (fun y hy => by rw [HNC.out y (by rw [List.take_of_length_le (by omega)]; exact hy)]; simp)
       have hst3 := HST2.out
       rw [hnc, if_neg (by simp)] at hst3
       have HST3 := Lib.hid hst3
       have hat := atJ_end p o
       rw [ho] at hat
       obtain ⟨t, ht⟩ : ∃ t, o.findIdx (soonB p) = t := ⟨_, rfl⟩
       have hti : t ≤ i := by rw [← ht, ← ho]; exact List.findIdx_le_length
       have hins : insS p o = (o.take t ++ [p]) ++ o.drop t := by rw [insS, ht, List.append_assoc]; rfl
       rw [hat, ht]
       have HINS := Lib.hid hins
       have HLEN := Lib.hid (insS_length p o)
       have htc : t ≤ cx := by have := HLX.out; omega
       have HCO := Lib.hid (Kd.C_below HC1.out HZ.out)
       have HCT := Lib.hid (show Kd.C k50 W6 Ax t (o.take t) from by
        have h1 := HCO.out
        rw [← ho] at h1
        have h2 := Kd.C_take h1 (show t ≤ o.length by omega)
        rw [List.length_take, Nat.min_eq_left (by omega)] at h2
        exact h2)
       obtain ⟨A2, hcutA, hcutC⟩ := cutA Ax i cx t hti
       have HCD := Lib.hid (hcutC W6 o HLX.out HCO.out)
       have HXW := Lib.hid (below_step HX1.out HZ.out)
       have hlo : o.length ≤ 1000000 := by omega
       clear hnc hst3 hat ht hins hcutC
       refine start_ (n := 13) (S := fun w' => w'.heap[gx]? = some (.cells (cellsA p) 50 (0, 0))) (ds := []) #[false,false,false,false,false,false,false,false,false,false,false,false,false] (by kernel_rfl) rfl rfl E7.out (fun hHeld => ?_)
       obtain ⟨V0, hV0⟩ : ∃ X, World.drew W6 = X := ⟨_, rfl⟩
       have X0 := Lib.hid (show Below W6.heap.size W6 V0 from by rw [← hV0]; exact below_drew1 (Below.refl _ _))
       rw [hV0] at hHeld ⊢
       clear hV0
       refine pure_ (i := 1) (N := some 72) (v := ?_) (a' := ?_) #[false,true,false,false,false,false,false,false,false,false,false,false,false] rfl rfl (by kernel_rfl) (fun _ _ _ h => h) (Or.inl ⟨by rfl, ?_⟩) ?_ ?_
       rotate_left
       ·intro w'
        go_simp
        with_reducible rfl
       rotate_left
       ·simp only [Act.put, List.setIfInBounds_toArray, List.set_cons_zero, List.set_cons_succ, i64_w, i32_w]
        rfl
       refine pure_ (i := 2) (N := some 73) (v := ?_) (a' := ?_) #[false,true,true,false,false,false,false,false,false,false,false,false,false] rfl rfl (by kernel_rfl) (fun _ _ _ h => h) (Or.inl ⟨by rfl, ?_⟩) ?_ ?_
       rotate_left
       ·intro w'
        go_simp
        with_reducible rfl
       rotate_left
       ·simp only [Act.put, List.setIfInBounds_toArray, List.set_cons_zero, List.set_cons_succ, i64_w, i32_w]
        rfl
       refine pure_ (i := 3) (N := some 74) (v := ?_) (a' := ?_) #[false,true,true,true,false,false,false,false,false,false,false,false,false] rfl rfl (by kernel_rfl) (fun _ _ _ h => h) (Or.inl ⟨by rfl, ?_⟩) ?_ ?_
       rotate_left
       ·intro w'
        go_simp
        with_reducible rfl
       rotate_left
       ·simp only [Act.put, List.setIfInBounds_toArray, List.set_cons_zero, List.set_cons_succ, i64_w, i32_w]
        rfl
       refine take_ (i := 5) (N := some 76) (v := ?_) (a' := ?_) #[false,true,true,true,false,true,false,false,false,false,false,false,false] rfl rfl (by kernel_rfl) (fun _ _ _ h => h) (Or.inl ⟨by rfl, ?_⟩) hHeld ?_ ?_
       rotate_left
       ·rintro w' s0
        obtain ⟨q0_, q1_, q2_, q3_, q4_⟩ := cellsA_at s0
        go_simp
        with_reducible rfl
       rotate_left
       ·simp only [Act.put, List.setIfInBounds_toArray, List.set_cons_zero, List.set_cons_succ, i64_w, i32_w]
        rfl
       refine pure_ (i := 8) (N := some 79) (v := ?_) (a' := ?_) #[false,true,true,true,false,true,false,false,true,false,false,false,false] rfl rfl (by kernel_rfl) (fun _ _ _ h => h) (Or.inl ⟨by rfl, ?_⟩) ?_ ?_
       rotate_left
       ·intro w'
        go_simp
        with_reducible rfl
       rotate_left
       ·simp only [Act.put, List.setIfInBounds_toArray, List.set_cons_zero, List.set_cons_succ, i64_w, i32_w]
        rfl
       refine pure_ (i := 9) (N := some 80) (v := ?_) (a' := ?_) #[false,true,true,true,false,true,false,false,true,true,false,false,false] rfl rfl (by kernel_rfl) (fun _ _ _ h => h) (Or.inl ⟨by rfl, ?_⟩) ?_ ?_
       rotate_left
       ·intro w'
        go_simp
        with_reducible rfl
       rotate_left
       ·simp only [Act.put, List.setIfInBounds_toArray, List.set_cons_zero, List.set_cons_succ, i64_w, i32_w]
        rfl
       refine pure_ (i := 10) (N := some 81) (v := ?_) (a' := ?_) #[false,true,true,true,false,true,false,false,true,true,true,false,false] rfl rfl (by kernel_rfl) (fun _ _ _ h => h) (Or.inl ⟨by rfl, ?_⟩) ?_ ?_
       rotate_left
       ·intro w'
        go_simp
        with_reducible rfl
       rotate_left
       ·simp only [Act.put, List.setIfInBounds_toArray, List.set_cons_zero, List.set_cons_succ, i64_w, i32_w]
        rfl
       refine two_ (i := 0) (j := 6) (Ni := some 71) (Nj := some 77) #[true,true,true,true,false,true,false,false,true,true,true,false,false] #[false,true,true,true,false,true,true,false,true,true,true,false,false] rfl rfl rfl rfl (by kernel_rfl) (by decide) (by decide) (fun K hK => ?_) (fun K hK => ?_)
       ·refine value_ (w1 := ?_) (v := ?_) (by rfl) rfl ?_ ?_
        rotate_left 2
        ·go_simp
         constructor
         ·rfl
         ·rfl
        refine hK.out _ _ ((((Below.refl _ _).alloc (Nat.le_refl _) _).block _ (blkA_lt hHeld)).trans hHeld) (fun hHeld => ?_)
        clear hK K
        refine norm_ (a' := ?_) ?_ ?_
        rotate_left
        ·show Act.put _ (some 71) _ = _
         simp only [Act.put, List.setIfInBounds_toArray, List.set_cons_zero, List.set_cons_succ, i64_w, i32_w]
         rfl
        obtain ⟨V1, hV⟩ : ∃ X, V0.alloc (.cells #[] 50) = X := ⟨_, rfl⟩
        have hb_ : Below V0.heap.size V0 V1 := by rw [← hV]; exact (Below.refl _ _).alloc (Nat.le_refl _) _
        have X1 := Lib.hid (X0.out.trans (bwA X0.out.size hb_))
        have RE1 := Lib.hid (show Kd.R k50 50 V1 W6.heap.size (fun _ => True) (.slice (some ⟨V0.heap.size, 0, none⟩) 0 0) [] from by rw [← hV]; exact Kd.R_lower (emptyA_R V0) X0.out.size)
        rw [hV] at hHeld ⊢
        clear hV hb_
        refine two_ (i := 4) (j := 6) (Ni := some 75) (Nj := some 77) #[true,true,true,true,true,true,false,false,true,true,true,false,false] #[true,true,true,true,false,true,true,false,true,true,true,false,false] rfl rfl rfl rfl (by kernel_rfl) (by decide) (by decide) (fun K hK => ?_) (fun K hK => ?_)
        ·refine Kd.R_append_rows_step k50 (w0 := W6) W6.heap.size (by rfl) (.tmp 71) (.tmp 74) 47 50 (.agg #[(.string ⟨#[]⟩), (.int .i64 0), (.int .i64 0), (.int .i64 0), (.string ⟨#[]⟩)]) 56 rfl Try.underlying47 info50 rfl (by decide) (by omega) _ [] (o.take t) _ _ _ (fun _ => True) (fun _ => False) rfl rfl ?aO ?aR (fun _ _ h => h) (fun _ h => h.elim) ?aF ?aB ?aS ?aL ?_
         (case aO => exact RE1.out)
         (case aR => exact Kd.C_below HCT.out X1.out)
         (case aF => exact fun _ _ => trivial)
         (case aB => exact X1.out)
         (case aS => exact X1.out.size)
         (case aL => simp only [List.length_append, List.length_take, List.length_drop, List.length_cons, List.length_nil]; omega)
         intro u2_ V2 ho_ hb_ hg_ hat_
         try simp only [List.nil_append] at ho_
         have RL2 := Lib.hid ho_
         have X2 := Lib.hid hb_
         refine hK.out _ _ ((X2.out.block _ (blkA_lt E7.out)).trans E7.out) (fun hHeld => ?_)
         clear hK K
         refine norm_ (a' := ?_) ?_ ?_
         rotate_left
         ·show Act.put _ (some 75) _ = _
          simp only [Act.put, List.setIfInBounds_toArray, List.set_cons_zero, List.set_cons_succ, i64_w, i32_w]
          rfl
         clear ho_ hb_ hg_ hat_
         refine one_ (i := 6) (N := some 77) #[true,true,true,true,true,true,true,false,true,true,true,false,false] rfl rfl (by kernel_rfl) (by decide) (fun K hK => ?_)
         refine value_ (w1 := ?_) (v := ?_) (by rfl) rfl ?_ ?_
         rotate_left 2
         ·go_simp
          constructor
          ·rfl
          ·rfl
         refine hK.out _ _ ((((Below.refl _ _).alloc (Nat.le_refl _) _).block _ (blkA_lt hHeld)).trans hHeld) (fun hHeld => ?_)
         clear hK K
         refine norm_ (a' := ?_) ?_ ?_
         rotate_left
         ·show Act.put _ (some 77) _ = _
          simp only [Act.put, List.setIfInBounds_toArray, List.set_cons_zero, List.set_cons_succ, i64_w, i32_w]
          rfl
         obtain ⟨V3, hV⟩ : ∃ X, V2.alloc (.cells #[.string p.f0, .int .i64 p.f1, .int .i64 p.f2, .int .i64 p.f3, .string p.f4] 50) = X := ⟨_, rfl⟩
         have hb_ : Below V2.heap.size V2 V3 := by rw [← hV]; exact (Below.refl _ _).alloc (Nat.le_refl _) _
         have X3 := Lib.hid (X2.out.trans (bwA X2.out.size hb_))
         have PP3 := Lib.hid (show V3.heap[V2.heap.size]? = some (.cells (cellsA p) 50 (0, 0)) from by rw [← hV]; exact heap_alloc_new _ _)
         have RL3 := Lib.hid (Kd.R_below RL2.out hb_)
         rw [hV] at hHeld ⊢
         clear hV hb_
         refine one_ (i := 7) (N := some 78) #[true,true,true,true,true,true,true,true,true,true,true,false,false] rfl rfl (by kernel_rfl) (by decide) (fun K hK => ?_)
         refine Kd.R_append_rows_step k50 (w0 := W6) W6.heap.size (by rfl) (.tmp 75) (.tmp 77) 47 50 (.agg #[(.string ⟨#[]⟩), (.int .i64 0), (.int .i64 0), (.int .i64 0), (.string ⟨#[]⟩)]) 56 rfl Try.underlying47 info50 rfl (by decide) (by omega) _ (o.take t) [p] _ _ _ (fun _ => True) (fun _ => False) rfl rfl ?aO ?aR (fun _ _ h => h) (fun _ h => h.elim) ?aF ?aB ?aS ?aL ?_
         (case aO => exact RL3.out)
         (case aR => exact oneA_C PP3.out)
         (case aF => exact fun _ _ => trivial)
         (case aB => exact X3.out)
         (case aS => exact X3.out.size)
         (case aL => simp only [List.length_append, List.length_take, List.length_drop, List.length_cons, List.length_nil]; omega)
         intro u4_ V4 ho_ hb_ hg_ hat_
         try simp only [List.nil_append] at ho_
         have RL4 := Lib.hid ho_
         have X4 := Lib.hid hb_
         refine hK.out _ _ ((X4.out.block _ (blkA_lt E7.out)).trans E7.out) (fun hHeld => ?_)
         clear hK K
         refine norm_ (a' := ?_) ?_ ?_
         rotate_left
         ·show Act.put _ (some 78) _ = _
          simp only [Act.put, List.setIfInBounds_toArray, List.set_cons_zero, List.set_cons_succ, i64_w, i32_w]
          rfl
         clear ho_ hb_ hg_ hat_
         refine one_ (i := 11) (N := some 82) #[true,true,true,true,true,true,true,true,true,true,true,true,false] rfl rfl (by kernel_rfl) (by decide) (fun K hK => ?_)
         refine Kd.R_append_rows_step k50 (w0 := W6) W6.heap.size (by rfl) (.tmp 78) (.tmp 81) 47 50 (.agg #[(.string ⟨#[]⟩), (.int .i64 0), (.int .i64 0), (.int .i64 0), (.string ⟨#[]⟩)]) 56 rfl Try.underlying47 info50 rfl (by decide) (by omega) _ (o.take t ++ [p]) (o.drop t) _ _ _ (fun _ => True) (fun _ => False) rfl rfl ?aO ?aR (fun _ _ h => h) (fun _ h => h.elim) ?aF ?aB ?aS ?aL ?_
         (case aO => exact RL4.out)
         (case aR => exact Kd.C_below HCD.out X4.out)
         (case aF => exact fun _ _ => trivial)
         (case aB => exact X4.out)
         (case aS => exact X4.out.size)
         (case aL => simp only [List.length_append, List.length_take, List.length_drop, List.length_cons, List.length_nil]; omega)
         intro u5_ V5 ho_ hb_ hg_ hat_
         try simp only [List.nil_append] at ho_
         have RL5 := Lib.hid ho_
         have X5 := Lib.hid hb_
         refine hK.out _ _ ((X5.out.block _ (blkA_lt E7.out)).trans E7.out) (fun hHeld => ?_)
         clear hK K
         refine norm_ (a' := ?_) ?_ ?_
         rotate_left
         ·show Act.put _ (some 82) _ = _
          simp only [Act.put, List.setIfInBounds_toArray, List.set_cons_zero, List.set_cons_succ, i64_w, i32_w]
          rfl
         clear ho_ hb_ hg_ hat_
         refine pure_ (i := 12) (N := some 4) (v := ?_) (a' := ?_) #[true,true,true,true,true,true,true,true,true,true,true,true,true] rfl rfl (by kernel_rfl) (fun _ _ _ h => h) (Or.inl ⟨by rfl, ?_⟩) ?_ ?_
         rotate_left
         ·intro w'
          go_simp
          with_reducible rfl
         rotate_left
         ·simp only [Act.put, List.setIfInBounds_toArray, List.set_cons_zero, List.set_cons_succ, i64_w, i32_w]
          rfl
         refine done_ (by kernel_rfl) ?_
         go_wp2
         exact ⟨⟨i + 1, insS p o, by simp, by omega, by rw [HLEN.out]; omega, Lib.hid (by rw [HINS.out]; exact Kd.R_lower RL5.out HXW.out.size), HST3, Lib.hid (below_step HXW.out X5.out)⟩, by simp [intOf]; omega⟩
        ·refine value_ (w1 := ?_) (v := ?_) (by rfl) rfl ?_ ?_
         rotate_left 2
         ·go_simp
          constructor
          ·rfl
          ·rfl
         refine hK.out _ _ ((((Below.refl _ _).alloc (Nat.le_refl _) _).block _ (blkA_lt hHeld)).trans hHeld) (fun hHeld => ?_)
         clear hK K
         refine norm_ (a' := ?_) ?_ ?_
         rotate_left
         ·show Act.put _ (some 77) _ = _
          simp only [Act.put, List.setIfInBounds_toArray, List.set_cons_zero, List.set_cons_succ, i64_w, i32_w]
          rfl
         obtain ⟨V6, hV⟩ : ∃ X, V1.alloc (.cells #[.string p.f0, .int .i64 p.f1, .int .i64 p.f2, .int .i64 p.f3, .string p.f4] 50) = X := ⟨_, rfl⟩
         have hb_ : Below V1.heap.size V1 V6 := by rw [← hV]; exact (Below.refl _ _).alloc (Nat.le_refl _) _
         have X6 := Lib.hid (X1.out.trans (bwA X1.out.size hb_))
         have PP6 := Lib.hid (show V6.heap[V1.heap.size]? = some (.cells (cellsA p) 50 (0, 0)) from by rw [← hV]; exact heap_alloc_new _ _)
         have RE6 := Lib.hid (Kd.R_below RE1.out hb_)
         have NE6 := Lib.hid (Nat.ne_of_gt (Kd.R_lt RE1.out _ rfl))
         rw [hV] at hHeld ⊢
         clear hV hb_
         refine one_ (i := 4) (N := some 75) #[true,true,true,true,true,true,true,false,true,true,true,false,false] rfl rfl (by kernel_rfl) (by decide) (fun K hK => ?_)
         refine Kd.R_append_rows_step k50 (w0 := W6) W6.heap.size (by rfl) (.tmp 71) (.tmp 74) 47 50 (.agg #[(.string ⟨#[]⟩), (.int .i64 0), (.int .i64 0), (.int .i64 0), (.string ⟨#[]⟩)]) 56 rfl Try.underlying47 info50 rfl (by decide) (by omega) _ [] (o.take t) _ _ _ (fun _ => True) (fun _ => False) rfl rfl ?aO ?aR (fun _ _ h => h) (fun _ h => h.elim) ?aF ?aB ?aS ?aL ?_
         (case aO => exact RE6.out)
         (case aR => exact Kd.C_below HCT.out X6.out)
         (case aF => exact fun _ _ => trivial)
         (case aB => exact X6.out)
         (case aS => exact X6.out.size)
         (case aL => simp only [List.length_append, List.length_take, List.length_drop, List.length_cons, List.length_nil]; omega)
         intro u7_ V7 ho_ hb_ hg_ hat_
         try simp only [List.nil_append] at ho_
         have RL7 := Lib.hid ho_
         have X7 := Lib.hid hb_
         have PP7 := Lib.hid ((hg_.block _ (blkA_lt PP6.out) (fun e => NE6.out (Option.some.inj e))).trans PP6.out)
         refine hK.out _ _ ((X7.out.block _ (blkA_lt E7.out)).trans E7.out) (fun hHeld => ?_)
         clear hK K
         refine norm_ (a' := ?_) ?_ ?_
         rotate_left
         ·show Act.put _ (some 75) _ = _
          simp only [Act.put, List.setIfInBounds_toArray, List.set_cons_zero, List.set_cons_succ, i64_w, i32_w]
          rfl
         clear ho_ hb_ hg_ hat_
         refine one_ (i := 7) (N := some 78) #[true,true,true,true,true,true,true,true,true,true,true,false,false] rfl rfl (by kernel_rfl) (by decide) (fun K hK => ?_)
         refine Kd.R_append_rows_step k50 (w0 := W6) W6.heap.size (by rfl) (.tmp 75) (.tmp 77) 47 50 (.agg #[(.string ⟨#[]⟩), (.int .i64 0), (.int .i64 0), (.int .i64 0), (.string ⟨#[]⟩)]) 56 rfl Try.underlying47 info50 rfl (by decide) (by omega) _ (o.take t) [p] _ _ _ (fun _ => True) (fun _ => False) rfl rfl ?aO ?aR (fun _ _ h => h) (fun _ h => h.elim) ?aF ?aB ?aS ?aL ?_
         (case aO => exact RL7.out)
         (case aR => exact oneA_C PP7.out)
         (case aF => exact fun _ _ => trivial)
         (case aB => exact X7.out)
         (case aS => exact X7.out.size)
         (case aL => simp only [List.length_append, List.length_take, List.length_drop, List.length_cons, List.length_nil]; omega)
         intro u8_ V8 ho_ hb_ hg_ hat_
         try simp only [List.nil_append] at ho_
         have RL8 := Lib.hid ho_
         have X8 := Lib.hid hb_
         refine hK.out _ _ ((X8.out.block _ (blkA_lt E7.out)).trans E7.out) (fun hHeld => ?_)
         clear hK K
         refine norm_ (a' := ?_) ?_ ?_
         rotate_left
         ·show Act.put _ (some 78) _ = _
          simp only [Act.put, List.setIfInBounds_toArray, List.set_cons_zero, List.set_cons_succ, i64_w, i32_w]
          rfl
         clear ho_ hb_ hg_ hat_
         refine one_ (i := 11) (N := some 82) #[true,true,true,true,true,true,true,true,true,true,true,true,false] rfl rfl (by kernel_rfl) (by decide) (fun K hK => ?_)
         refine Kd.R_append_rows_step k50 (w0 := W6) W6.heap.size (by rfl) (.tmp 78) (.tmp 81) 47 50 (.agg #[(.string ⟨#[]⟩), (.int .i64 0), (.int .i64 0), (.int .i64 0), (.string ⟨#[]⟩)]) 56 rfl Try.underlying47 info50 rfl (by decide) (by omega) _ (o.take t ++ [p]) (o.drop t) _ _ _ (fun _ => True) (fun _ => False) rfl rfl ?aO ?aR (fun _ _ h => h) (fun _ h => h.elim) ?aF ?aB ?aS ?aL ?_
         (case aO => exact RL8.out)
         (case aR => exact Kd.C_below HCD.out X8.out)
         (case aF => exact fun _ _ => trivial)
         (case aB => exact X8.out)
         (case aS => exact X8.out.size)
         (case aL => simp only [List.length_append, List.length_take, List.length_drop, List.length_cons, List.length_nil]; omega)
         intro u9_ V9 ho_ hb_ hg_ hat_
         try simp only [List.nil_append] at ho_
         have RL9 := Lib.hid ho_
         have X9 := Lib.hid hb_
         refine hK.out _ _ ((X9.out.block _ (blkA_lt E7.out)).trans E7.out) (fun hHeld => ?_)
         clear hK K
         refine norm_ (a' := ?_) ?_ ?_
         rotate_left
         ·show Act.put _ (some 82) _ = _
          simp only [Act.put, List.setIfInBounds_toArray, List.set_cons_zero, List.set_cons_succ, i64_w, i32_w]
          rfl
         clear ho_ hb_ hg_ hat_
         refine pure_ (i := 12) (N := some 4) (v := ?_) (a' := ?_) #[true,true,true,true,true,true,true,true,true,true,true,true,true] rfl rfl (by kernel_rfl) (fun _ _ _ h => h) (Or.inl ⟨by rfl, ?_⟩) ?_ ?_
         rotate_left
         ·intro w'
          go_simp
          with_reducible rfl
         rotate_left
         ·simp only [Act.put, List.setIfInBounds_toArray, List.set_cons_zero, List.set_cons_succ, i64_w, i32_w]
          rfl
         refine done_ (by kernel_rfl) ?_
         go_wp2
         exact ⟨⟨i + 1, insS p o, by simp, by omega, by rw [HLEN.out]; omega, Lib.hid (by rw [HINS.out]; exact Kd.R_lower RL9.out HXW.out.size), HST3, Lib.hid (below_step HXW.out X9.out)⟩, by simp [intOf]; omega⟩
       ·refine value_ (w1 := ?_) (v := ?_) (by rfl) rfl ?_ ?_
        rotate_left 2
        ·go_simp
         constructor
         ·rfl
         ·rfl
        refine hK.out _ _ ((((Below.refl _ _).alloc (Nat.le_refl _) _).block _ (blkA_lt hHeld)).trans hHeld) (fun hHeld => ?_)
        clear hK K
        refine norm_ (a' := ?_) ?_ ?_
        rotate_left
        ·show Act.put _ (some 77) _ = _
         simp only [Act.put, List.setIfInBounds_toArray, List.set_cons_zero, List.set_cons_succ, i64_w, i32_w]
         rfl
        obtain ⟨V10, hV⟩ : ∃ X, V0.alloc (.cells #[.string p.f0, .int .i64 p.f1, .int .i64 p.f2, .int .i64 p.f3, .string p.f4] 50) = X := ⟨_, rfl⟩
        have hb_ : Below V0.heap.size V0 V10 := by rw [← hV]; exact (Below.refl _ _).alloc (Nat.le_refl _) _
        have X10 := Lib.hid (X0.out.trans (bwA X0.out.size hb_))
        have PP10 := Lib.hid (show V10.heap[V0.heap.size]? = some (.cells (cellsA p) 50 (0, 0)) from by rw [← hV]; exact heap_alloc_new _ _)
        rw [hV] at hHeld ⊢
        clear hV hb_
        refine one_ (i := 0) (N := some 71) #[true,true,true,true,false,true,true,false,true,true,true,false,false] rfl rfl (by kernel_rfl) (by decide) (fun K hK => ?_)
        refine value_ (w1 := ?_) (v := ?_) (by rfl) rfl ?_ ?_
        rotate_left 2
        ·go_simp
         constructor
         ·rfl
         ·rfl
        refine hK.out _ _ ((((Below.refl _ _).alloc (Nat.le_refl _) _).block _ (blkA_lt hHeld)).trans hHeld) (fun hHeld => ?_)
        clear hK K
        refine norm_ (a' := ?_) ?_ ?_
        rotate_left
        ·show Act.put _ (some 71) _ = _
         simp only [Act.put, List.setIfInBounds_toArray, List.set_cons_zero, List.set_cons_succ, i64_w, i32_w]
         rfl
        obtain ⟨V11, hV⟩ : ∃ X, V10.alloc (.cells #[] 50) = X := ⟨_, rfl⟩
        have hb_ : Below V10.heap.size V10 V11 := by rw [← hV]; exact (Below.refl _ _).alloc (Nat.le_refl _) _
        have X11 := Lib.hid (X10.out.trans (bwA X10.out.size hb_))
        have RE11 := Lib.hid (show Kd.R k50 50 V11 W6.heap.size (fun _ => True) (.slice (some ⟨V10.heap.size, 0, none⟩) 0 0) [] from by rw [← hV]; exact Kd.R_lower (emptyA_R V10) X10.out.size)
        have PP11 := Lib.hid ((hb_.block _ (blkA_lt PP10.out)).trans PP10.out)
        have NE11 := Lib.hid (Nat.ne_of_lt (blkA_lt PP10.out))
        rw [hV] at hHeld ⊢
        clear hV hb_
        refine one_ (i := 4) (N := some 75) #[true,true,true,true,true,true,true,false,true,true,true,false,false] rfl rfl (by kernel_rfl) (by decide) (fun K hK => ?_)
        refine Kd.R_append_rows_step k50 (w0 := W6) W6.heap.size (by rfl) (.tmp 71) (.tmp 74) 47 50 (.agg #[(.string ⟨#[]⟩), (.int .i64 0), (.int .i64 0), (.int .i64 0), (.string ⟨#[]⟩)]) 56 rfl Try.underlying47 info50 rfl (by decide) (by omega) _ [] (o.take t) _ _ _ (fun _ => True) (fun _ => False) rfl rfl ?aO ?aR (fun _ _ h => h) (fun _ h => h.elim) ?aF ?aB ?aS ?aL ?_
        (case aO => exact RE11.out)
        (case aR => exact Kd.C_below HCT.out X11.out)
        (case aF => exact fun _ _ => trivial)
        (case aB => exact X11.out)
        (case aS => exact X11.out.size)
        (case aL => simp only [List.length_append, List.length_take, List.length_drop, List.length_cons, List.length_nil]; omega)
        intro u12_ V12 ho_ hb_ hg_ hat_
        try simp only [List.nil_append] at ho_
        have RL12 := Lib.hid ho_
        have X12 := Lib.hid hb_
        have PP12 := Lib.hid ((hg_.block _ (blkA_lt PP11.out) (fun e => NE11.out (Option.some.inj e))).trans PP11.out)
        refine hK.out _ _ ((X12.out.block _ (blkA_lt E7.out)).trans E7.out) (fun hHeld => ?_)
        clear hK K
        refine norm_ (a' := ?_) ?_ ?_
        rotate_left
        ·show Act.put _ (some 75) _ = _
         simp only [Act.put, List.setIfInBounds_toArray, List.set_cons_zero, List.set_cons_succ, i64_w, i32_w]
         rfl
        clear ho_ hb_ hg_ hat_
        refine one_ (i := 7) (N := some 78) #[true,true,true,true,true,true,true,true,true,true,true,false,false] rfl rfl (by kernel_rfl) (by decide) (fun K hK => ?_)
        refine Kd.R_append_rows_step k50 (w0 := W6) W6.heap.size (by rfl) (.tmp 75) (.tmp 77) 47 50 (.agg #[(.string ⟨#[]⟩), (.int .i64 0), (.int .i64 0), (.int .i64 0), (.string ⟨#[]⟩)]) 56 rfl Try.underlying47 info50 rfl (by decide) (by omega) _ (o.take t) [p] _ _ _ (fun _ => True) (fun _ => False) rfl rfl ?aO ?aR (fun _ _ h => h) (fun _ h => h.elim) ?aF ?aB ?aS ?aL ?_
        (case aO => exact RL12.out)
        (case aR => exact oneA_C PP12.out)
        (case aF => exact fun _ _ => trivial)
        (case aB => exact X12.out)
        (case aS => exact X12.out.size)
        (case aL => simp only [List.length_append, List.length_take, List.length_drop, List.length_cons, List.length_nil]; omega)
        intro u13_ V13 ho_ hb_ hg_ hat_
        try simp only [List.nil_append] at ho_
        have RL13 := Lib.hid ho_
        have X13 := Lib.hid hb_
        refine hK.out _ _ ((X13.out.block _ (blkA_lt E7.out)).trans E7.out) (fun hHeld => ?_)
        clear hK K
        refine norm_ (a' := ?_) ?_ ?_
        rotate_left
        ·show Act.put _ (some 78) _ = _
         simp only [Act.put, List.setIfInBounds_toArray, List.set_cons_zero, List.set_cons_succ, i64_w, i32_w]
         rfl
        clear ho_ hb_ hg_ hat_
        refine one_ (i := 11) (N := some 82) #[true,true,true,true,true,true,true,true,true,true,true,true,false] rfl rfl (by kernel_rfl) (by decide) (fun K hK => ?_)
        refine Kd.R_append_rows_step k50 (w0 := W6) W6.heap.size (by rfl) (.tmp 78) (.tmp 81) 47 50 (.agg #[(.string ⟨#[]⟩), (.int .i64 0), (.int .i64 0), (.int .i64 0), (.string ⟨#[]⟩)]) 56 rfl Try.underlying47 info50 rfl (by decide) (by omega) _ (o.take t ++ [p]) (o.drop t) _ _ _ (fun _ => True) (fun _ => False) rfl rfl ?aO ?aR (fun _ _ h => h) (fun _ h => h.elim) ?aF ?aB ?aS ?aL ?_
        (case aO => exact RL13.out)
        (case aR => exact Kd.C_below HCD.out X13.out)
        (case aF => exact fun _ _ => trivial)
        (case aB => exact X13.out)
        (case aS => exact X13.out.size)
        (case aL => simp only [List.length_append, List.length_take, List.length_drop, List.length_cons, List.length_nil]; omega)
        intro u14_ V14 ho_ hb_ hg_ hat_
        try simp only [List.nil_append] at ho_
        have RL14 := Lib.hid ho_
        have X14 := Lib.hid hb_
        refine hK.out _ _ ((X14.out.block _ (blkA_lt E7.out)).trans E7.out) (fun hHeld => ?_)
        clear hK K
        refine norm_ (a' := ?_) ?_ ?_
        rotate_left
        ·show Act.put _ (some 82) _ = _
         simp only [Act.put, List.setIfInBounds_toArray, List.set_cons_zero, List.set_cons_succ, i64_w, i32_w]
         rfl
        clear ho_ hb_ hg_ hat_
        refine pure_ (i := 12) (N := some 4) (v := ?_) (a' := ?_) #[true,true,true,true,true,true,true,true,true,true,true,true,true] rfl rfl (by kernel_rfl) (fun _ _ _ h => h) (Or.inl ⟨by rfl, ?_⟩) ?_ ?_
        rotate_left
        ·intro w'
         go_simp
         with_reducible rfl
        rotate_left
        ·simp only [Act.put, List.setIfInBounds_toArray, List.set_cons_zero, List.set_cons_succ, i64_w, i32_w]
         rfl
        refine done_ (by kernel_rfl) ?_
        go_wp2
        exact ⟨⟨i + 1, insS p o, by simp, by omega, by rw [HLEN.out]; omega, Lib.hid (by rw [HINS.out]; exact Kd.R_lower RL14.out HXW.out.size), HST3, Lib.hid (below_step HXW.out X14.out)⟩, by simp [intOf]; omega⟩
  ·obtain rfl : i = l.length := by omega
   have hq_ : ¬ (l.length : Int) < (l.length : Int) := by omega
   have hs := HS.out
   rw [List.drop_of_length_le (Nat.le_refl _), sortSp] at hs
   obtain rfl : sy = 1 := by rw [← HSY.out, ← hs]; rfl
   obtain rfl : rl = o := by rw [← HRL.out, ← hs]; rfl
   clear hs
   go_wp2
   go_ret2
   exact ⟨_, rfl, HR.out, HX.out⟩
def zzStep (most : Int) (outs : List ByteArray) (p v : ByteArray) : Bool × List ByteArray := (decide (most < 0) || decide (((outs.length + 2 : Nat) : Int) < wrap64 (2 * most)), outs ++ [p, v])
def zzOf (a0 : ByteArray) (most : Int) : List ByteArray := if most = 0 then [] else foldP (zzStep most) a0.size [] (ns a0)
def fiberhelpers_ZzParams.f (a0 : ByteArray) (most : Int) : Option (List ByteArray) := if a0.size ≤ 1099511627776 then some (zzOf a0 most) else none
end Go.Proofs.Ytgmjaggkiifdjaa.Given
namespace Go.Proofs.Ytgmjaggkiifdjaa.Lex
open Go.Proofs.YtgmjaggkiifdjaaW.PrintLast
def lexPart (md : Region.Mode) (ops : Array Oper) : Nat → Nat → Array Bool → Bool
  | 0, _, _ => true
  | m + 1, k, listed => (Region.ready md ops listed).contains k && Region.free md ops listed k && lexPart md ops m (k + 1) (listed.setIfInBounds k true)
def mark : Nat → Nat → Array Bool → Array Bool
  | 0, _, listed => listed
  | m + 1, k, listed => mark m (k + 1) (listed.setIfInBounds k true)
theorem lex_part (md : Region.Mode) (ops : Array Oper) : ∀ (m r k : Nat) (listed : Array Bool), lexPart md ops m k listed = true → Region.lexFrom md ops r (k + m) (mark m k listed) = true → Region.lexFrom md ops (m + r) k listed = true
  | 0, r, k, listed, _, h => by rw [Nat.zero_add]; exact h
  | m + 1, r, k, listed, h1, h2 => by
    rw [show m + 1 + r = (m + r) + 1 by omega]
    simp only [lexPart, Bool.and_eq_true] at h1
    simp only [Region.lexFrom, Bool.and_eq_true]
    refine ⟨h1.1, lex_part md ops m r (k + 1) _ h1.2 ?_⟩
    rw [show k + 1 + m = k + (m + 1) by omega]
    exact h2
def at_ (k : Nat) : Array Bool := (List.replicate k true ++ List.replicate (132 - k) false).toArray
theorem part0 : lexPart .any (opsOf Try.f47 8) 11 0 (at_ 0) = true := by kernel_rfl
theorem mark0 : mark 11 0 (at_ 0) = at_ 11 := by kernel_rfl
theorem part1 : lexPart .any (opsOf Try.f47 8) 11 11 (at_ 11) = true := by kernel_rfl
theorem mark1 : mark 11 11 (at_ 11) = at_ 22 := by kernel_rfl
theorem part2 : lexPart .any (opsOf Try.f47 8) 11 22 (at_ 22) = true := by kernel_rfl
theorem mark2 : mark 11 22 (at_ 22) = at_ 33 := by kernel_rfl
theorem part3 : lexPart .any (opsOf Try.f47 8) 11 33 (at_ 33) = true := by kernel_rfl
theorem mark3 : mark 11 33 (at_ 33) = at_ 44 := by kernel_rfl
theorem part4 : lexPart .any (opsOf Try.f47 8) 11 44 (at_ 44) = true := by kernel_rfl
theorem mark4 : mark 11 44 (at_ 44) = at_ 55 := by kernel_rfl
theorem part5 : lexPart .any (opsOf Try.f47 8) 11 55 (at_ 55) = true := by kernel_rfl
theorem mark5 : mark 11 55 (at_ 55) = at_ 66 := by kernel_rfl
theorem part6 : lexPart .any (opsOf Try.f47 8) 11 66 (at_ 66) = true := by kernel_rfl
theorem mark6 : mark 11 66 (at_ 66) = at_ 77 := by kernel_rfl
theorem part7 : lexPart .any (opsOf Try.f47 8) 11 77 (at_ 77) = true := by kernel_rfl
theorem mark7 : mark 11 77 (at_ 77) = at_ 88 := by kernel_rfl
theorem part8 : lexPart .any (opsOf Try.f47 8) 11 88 (at_ 88) = true := by kernel_rfl
theorem mark8 : mark 11 88 (at_ 88) = at_ 99 := by kernel_rfl
theorem part9 : lexPart .any (opsOf Try.f47 8) 11 99 (at_ 99) = true := by kernel_rfl
theorem mark9 : mark 11 99 (at_ 99) = at_ 110 := by kernel_rfl
theorem part10 : lexPart .any (opsOf Try.f47 8) 11 110 (at_ 110) = true := by kernel_rfl
theorem mark10 : mark 11 110 (at_ 110) = at_ 121 := by kernel_rfl
theorem part11 : lexPart .any (opsOf Try.f47 8) 11 121 (at_ 121) = true := by kernel_rfl
theorem mark11 : mark 11 121 (at_ 121) = at_ 132 := by kernel_rfl
theorem last : Region.lexFrom .any (opsOf Try.f47 8) 0 132 (at_ 132) = true := by kernel_rfl
theorem sel : Region.noSelect (opsOf Try.f47 8) = true := by kernel_rfl
theorem size : (opsOf Try.f47 8).size = 132 := by kernel_rfl
theorem start : Array.replicate 132 false = at_ 0 := by kernel_rfl
theorem from11 : Region.lexFrom .any (opsOf Try.f47 8) 11 121 (at_ 121) = true := lex_part .any (opsOf Try.f47 8) 11 0 121 (at_ 121) part11 (mark11 ▸ last)
theorem from10 : Region.lexFrom .any (opsOf Try.f47 8) 22 110 (at_ 110) = true := lex_part .any (opsOf Try.f47 8) 11 11 110 (at_ 110) part10 (mark10 ▸ from11)
theorem from9 : Region.lexFrom .any (opsOf Try.f47 8) 33 99 (at_ 99) = true := lex_part .any (opsOf Try.f47 8) 11 22 99 (at_ 99) part9 (mark9 ▸ from10)
theorem from8 : Region.lexFrom .any (opsOf Try.f47 8) 44 88 (at_ 88) = true := lex_part .any (opsOf Try.f47 8) 11 33 88 (at_ 88) part8 (mark8 ▸ from9)
theorem from7 : Region.lexFrom .any (opsOf Try.f47 8) 55 77 (at_ 77) = true := lex_part .any (opsOf Try.f47 8) 11 44 77 (at_ 77) part7 (mark7 ▸ from8)
theorem from6 : Region.lexFrom .any (opsOf Try.f47 8) 66 66 (at_ 66) = true := lex_part .any (opsOf Try.f47 8) 11 55 66 (at_ 66) part6 (mark6 ▸ from7)
theorem from5 : Region.lexFrom .any (opsOf Try.f47 8) 77 55 (at_ 55) = true := lex_part .any (opsOf Try.f47 8) 11 66 55 (at_ 55) part5 (mark5 ▸ from6)
theorem from4 : Region.lexFrom .any (opsOf Try.f47 8) 88 44 (at_ 44) = true := lex_part .any (opsOf Try.f47 8) 11 77 44 (at_ 44) part4 (mark4 ▸ from5)
theorem from3 : Region.lexFrom .any (opsOf Try.f47 8) 99 33 (at_ 33) = true := lex_part .any (opsOf Try.f47 8) 11 88 33 (at_ 33) part3 (mark3 ▸ from4)
theorem from2 : Region.lexFrom .any (opsOf Try.f47 8) 110 22 (at_ 22) = true := lex_part .any (opsOf Try.f47 8) 11 99 22 (at_ 22) part2 (mark2 ▸ from3)
theorem from1 : Region.lexFrom .any (opsOf Try.f47 8) 121 11 (at_ 11) = true := lex_part .any (opsOf Try.f47 8) 11 110 11 (at_ 11) part1 (mark1 ▸ from2)
theorem from0 : Region.lexFrom .any (opsOf Try.f47 8) 132 0 (at_ 0) = true := lex_part .any (opsOf Try.f47 8) 11 121 0 (at_ 0) part0 (mark0 ▸ from1)
theorem lex8 : Region.lexB .any (opsOf Try.f47 8) = true := by
  unfold Region.lexB
  rw [sel, size, start, from0]
  rfl
end Go.Proofs.Ytgmjaggkiifdjaa.Lex
namespace Go.Proofs.Ytgmjaggkiifdjaa.QA
open Go.Proofs.Ytgmjaggkiifdjaa.Given
open Go.Proofs.Ytgmjaggkiifdjaa.PrX
open Go.RowKit Go.Proofs.YtgmjaggkiifdjaaW.PrintWords Go.Proofs.YtgmjaggkiifdjaaW.PrintLast Go.Proofs.YtgmjaggkiifdjaaW.PrintMore
def laws_told.f (a0 : Bool) (a1 : Int) : Option (Bool) := if a1 = 2 then (some true) else (some (a0 == (a1 == 1)))
def fiberhelpers_ZzMatch.f (a0 : ByteArray) (a1 : ByteArray) : Option (Bool) := (fiberhelpers_paramsMatch.f a0 a1).bind fun t176 => (some t176)
def impl_ParamsMatch.f (a0 : ByteArray) (a1 : ByteArray) : Option (Bool) := (fiberhelpers_ZzMatch.f a0 a1).bind fun t177 => (some t177)
end Go.Proofs.Ytgmjaggkiifdjaa.QA
