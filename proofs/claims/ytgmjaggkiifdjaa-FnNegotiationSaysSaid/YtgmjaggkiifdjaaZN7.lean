/- Texts of this claim, one behind the other (merged by wip/prune.py of this repo, without what the proof does not use): GvRow, GParams, GZzParams, QA19, GEqFold, GMatchP, GMatch, GHit, GMatchM, QA20, LParL. -/
import Derived.Test.YtgmjaggkiifdjaaZN1
import Derived.Test.YtgmjaggkiifdjaaZN2
import Derived.Test.YtgmjaggkiifdjaaZN3
import Derived.Test.YtgmjaggkiifdjaaZN4
import Derived.Test.YtgmjaggkiifdjaaZN6
import Derived.Below
import Derived.BigQuiet
import Derived.Deep.LoopGhost
import Derived.Deep.QuietTactic
import Derived.KernelRfl
import Derived.Laws.BytesArg
import Derived.Laws.MakeOwn
import Derived.Laws.OwnMore
import Derived.Laws.RangeAny
import Derived.Laws.RangeString
import Derived.Laws.Slices
import Derived.Lib.ConvBytes
import Derived.Lib.Hide
import Derived.Lib.TrimU
import Derived.Outline
import Derived.OwnWalk
import Derived.RowKit3
import Derived.Tactics
import Derived.Test.YtgmjaggkiifdjaaProg
import Derived.WalkKit
import Derived.WalkLawsBesides
import Derived.WalkMore
import Derived.WalkSpells
import Derived.WideLaws
set_option linter.unusedVariables false
set_option linter.unusedSimpArgs false
namespace Go.Proofs.Ytgmjaggkiifdjaa.Gv
open Go.RowKit Go.Proofs.YtgmjaggkiifdjaaW.PrintWords Go.Proofs.YtgmjaggkiifdjaaW.PrintLast Go.Proofs.YtgmjaggkiifdjaaW.PrintMore Go.Proofs.Ytgmjaggkiifdjaa.Base
def Br (w : World) (e : TypeId) (g : Nat) (xs : List Int) : Prop :=
  ∃ cur fr, w.heap[g]? = some (.cells cur e fr) ∧ (∀ j, j < xs.length → cur[j]? = some (.int .u8 (xs.getD j 0))) ∧ ∀ j, j < xs.length → ¬ (fr.1 ≤ j ∧ j < fr.2)
theorem Br.cell {w : World} {e : TypeId} {g : Nat} {xs : List Int} (h : Br w e g xs) (j : Nat) (hj : j < xs.length) : w.cell? ⟨g, j, none⟩ = some (.int .u8 (xs.getD j 0)) := by
  obtain ⟨cur, fr, hb, hc, _⟩ := h
  simp only [World.cell?, hb]
  exact hc j hj
theorem Br.reads {w : World} {e : TypeId} {g : Nat} {xs : List Int} (h : Br w e g xs) (hl : xs.length ≤ 9223372036854775807) : ReadsOf (Value.int .u8) 0 w (some ⟨g, 0, none⟩) xs.length xs :=
  ⟨rfl, hl, fun _ => ⟨_, rfl, fun j hj => by rw [add_plain]; exact h.cell j hj⟩⟩
theorem Br.C {w : World} {e : TypeId} {g : Nat} {xs : List Int} (h : Br w e g xs) (hl : xs.length ≤ 9223372036854775807) : Kd.C (Kd.int .u8) w (some ⟨g, 0, none⟩) xs.length xs :=
  Kd.C_of_reads (d := (0 : Int)) (h1 := fun _ => rfl) (h.reads hl)
theorem wpList_index_tab {P : Program} {ops : Array Oper} {rest : List Oper} {o : Oper} {a : Act} {w : World} {Q : Exit → Act → World → Prop} (hgd : o.guard = none) (t : TypeId) (x i : Operand) (ho : o.op = .index t x i)
    (S : ByteArray) (n : Int) (k : IntKind) (hx : a.eval x = .string S) (hi : a.eval i = .int k n) (ht : P.underlying t = some .string) (h0 : 0 ≤ n) (h1 : n < S.size) (v : Int) (hv : bt S n = v)
    (h : wpList P ops Q rest (a.put o.dst (.int .u8 v)) w) : wpList P ops Q (o :: rest) a w :=
  wpList_plain hgd fun _ hK => by
    unfold Oper.wp execOp
    have hn : n.toNat < S.size := by omega
    have hb : ((S[n.toNat]'hn).toNat : Int) = v := by rw [← hv]; exact bt_at S n hn
    have hr : (Instr.index t (.string S) (.int k n)).run P w = .ok (.int .u8 v) w := by
      rw [← hb]
      simp [Instr.index, asIntOf, run_underlying ht, h0, hn]
    simp only [ho, hx, hi, Sem.run_bind, hr, Result.andThen_ok, Sem.run_pure]
    exact hK _ _ h
def TabIs (S : ByteArray) (f : Int → Int) : Prop := S.size = 256 ∧ ∀ n : Fin 256, bt S ((n.val : Nat) : Int) = f ((n.val : Nat) : Int)
instance (S : ByteArray) (f : Int → Int) : Decidable (TabIs S f) := inferInstanceAs (Decidable (_ ∧ _))
end Go.Proofs.Ytgmjaggkiifdjaa.Gv
namespace Go.Proofs.Ytgmjaggkiifdjaa.Given
open Go.RowKit Go.Proofs.YtgmjaggkiifdjaaW.PrintWords Go.Proofs.YtgmjaggkiifdjaaW.PrintLast Go.Proofs.YtgmjaggkiifdjaaW.PrintMore Go.Proofs.Ytgmjaggkiifdjaa.Base Go.Proofs.Ytgmjaggkiifdjaa.Gv Go.Proofs.Ytgmjaggkiifdjaa.QA
def tokB (c : Int) : Bool := (Go.bits .or .u64 (Go.bits .and .u64 (shl .u64 1 c) 288068722172624896) (Go.bits .and .u64 (shl .u64 1 ((c - 64) % 256)) 6341068274398134270)) != 0
theorem tok_is (c : Int) (h : 0 ≤ c) : fiberhelpers_validHeaderFieldByte.f c = some (tokB c) := by
  unfold fiberhelpers_validHeaderFieldByte.f
  rw [if_pos h]
  rfl
def tokN : List Int → Nat
  | [] => 0
  | c :: r => if tokB c = true then 1 + tokN r else 0
theorem tokN_le (xs : List Int) : tokN xs ≤ xs.length := by
  induction xs with
  | nil => exact Nat.le_refl _
  | cons c r ih =>
    rw [tokN, List.length_cons]
    split <;> omega
theorem tokN_at (xs : List Int) : ∀ k, k < tokN xs → tokB (xs.getD k 0) = true := by
  induction xs with
  | nil => intro k h; simp [tokN] at h
  | cons c r ih =>
    intro k h
    rw [tokN] at h
    split at h
    · cases k with
      | zero => simpa using ‹tokB c = true›
      | succ k => simpa using ih k (by omega)
    · omega
theorem tokN_end (xs : List Int) (h : tokN xs < xs.length) : tokB (xs.getD (tokN xs) 0) = false := by
  induction xs with
  | nil => simp [tokN] at h
  | cons c r ih =>
    rw [tokN] at h ⊢
    split at h
    · rename_i hc
      rw [if_pos hc, Nat.add_comm, List.getD_cons_succ]
      exact ih (by simp only [List.length_cons] at h; omega)
    · rename_i hc
      rw [if_neg hc]
      simpa using hc
theorem tokN_pos (xs : List Int) (h0 : 0 < xs.length) (h : tokB (xs.getD 0 0) = true) : 1 ≤ tokN xs := by
  cases xs with
  | nil => simp at h0
  | cons c r => rw [tokN, if_pos (by simpa using h)]; omega
theorem p_drop_cons (xs : List Int) (k : Nat) (h : k < xs.length) : xs.drop k = xs.getD k 0 :: xs.drop (k + 1) := by
  rw [List.drop_eq_getElem_cons h, List.getD_eq_getElem?_getD, List.getElem?_eq_getElem h]; rfl
theorem getD_drop (xs : List Int) (m k : Nat) : (xs.drop m).getD k 0 = xs.getD (m + k) 0 := by
  rw [List.getD_eq_getElem?_getD, List.getD_eq_getElem?_getD, List.getElem?_drop]
def quoN : Bool → List Int → Nat
  | _, [] => 0
  | esc, c :: r => if c = 34 ∧ esc = false then 0 else 1 + quoN (c == 92 && !esc) r
theorem quoN_le (xs : List Int) : ∀ e, quoN e xs ≤ xs.length := by
  induction xs with
  | nil => intro e; exact Nat.le_refl _
  | cons c r ih =>
    intro e
    have := ih (c == 92 && !e)
    rw [quoN, List.length_cons]
    split <;> omega
def oneU (u : List Int) : Option (List Int × List Int × List Int) :=
  if tokN u = 0 then none
  else if u.length ≤ tokN u + 1 ∨ u.getD (tokN u) 0 ≠ 61 then none
  else if u.getD (tokN u + 1) 0 = 34 then
    (if tokN u + 2 + quoN false (u.drop (tokN u + 2)) < u.length then
      some (u.take (tokN u), (u.drop (tokN u + 2)).take (quoN false (u.drop (tokN u + 2))), u.drop (tokN u + 2 + quoN false (u.drop (tokN u + 2)) + 1))
    else none)
  else if tokN (u.drop (tokN u + 1)) = 0 then none
  else some (u.take (tokN u), (u.drop (tokN u + 1)).take (tokN (u.drop (tokN u + 1))), u.drop (tokN u + 1 + tokN (u.drop (tokN u + 1))))
def oneP (xs : List Int) : Option (List Int × List Int × List Int) :=
  if (ltrim xs).length = 0 ∨ (ltrim xs).getD 0 0 ≠ 59 then none else oneU (ltrim ((ltrim xs).drop 1))
def foldP {σ : Type} (step : σ → ByteArray → ByteArray → Bool × σ) : Nat → σ → List Int → σ
  | 0, s, _ => s
  | f + 1, s, xs => match oneP xs with
    | none => s
    | some (p, v, rest) => if (step s (strOfNums p) (strOfNums v)).1 = true then foldP step f (step s (strOfNums p) (strOfNums v)).2 rest else (step s (strOfNums p) (strOfNums v)).2
theorem strOf_ns (s : ByteArray) : strOfNums (ns s) = s := ns_inj (ns_strOfNums (fun x hx => ns_range s x hx))
section
variable {σ : Type} {step : σ → ByteArray → ByteArray → Bool × σ}
theorem fold_none {f : Nat} {s : σ} {xs : List Int} (h : oneP xs = none) : foldP step f s xs = s := by
  cases f with
  | zero => rfl
  | succ f => rw [foldP, h]
theorem fold_some {f : Nat} {s : σ} {xs : List Int} {P V R : ByteArray} (h : oneP xs = some (ns P, ns V, ns R)) : foldP step (f + 1) s xs = if (step s P V).1 = true then foldP step f (step s P V).2 (ns R) else (step s P V).2 := by
  rw [foldP, h]
  simp only [strOf_ns]
end
theorem p_ltrim_mem {xs : List Int} {x : Int} (h : x ∈ ltrim xs) : x ∈ xs := by
  unfold ltrim at h
  exact List.dropWhile_sublist _ |>.mem h
theorem p_ltrim_le (xs : List Int) : (ltrim xs).length ≤ xs.length := by
  unfold ltrim
  induction xs with
  | nil => simp
  | cons x xs ih =>
    rw [List.dropWhile_cons]
    split
    · simp only [List.length_cons]; omega
    · exact Nat.le_refl _
theorem trim_at (x : ByteArray) (hx : x.size ≤ 4611686018427387904) : ∃ t : ByteArray, (∃ k, fiberutils_TrimLeft.f k x 32 = some t) ∧ t.size ≤ x.size ∧ ns t = ltrim (ns x) := by
  have hr : ∀ y ∈ ltrim (ns x), 0 ≤ y ∧ y ≤ 255 := fun y hy => ns_range x y (p_ltrim_mem hy)
  have hns : ns (strOfNums (ltrim (ns x))) = ltrim (ns x) := ns_strOfNums hr
  refine ⟨_, trimL x hx, ?_, hns⟩
  have := p_ltrim_le (ns x)
  rw [← hns, ns_length, ns_length] at this
  exact this
theorem ns_from (u : ByteArray) (i : Nat) : ns (u.extract i u.size) = (ns u).drop i := by
  rw [ns_extract]
  refine List.take_of_length_le ?_
  rw [List.length_drop, ns_length]
  omega
theorem ns_to (u : ByteArray) (i : Nat) : ns (u.extract 0 i) = (ns u).take i := by
  rw [ns_extract, List.drop_zero, Nat.sub_zero]
theorem p_below_drewN {o n : Nat} {w w' : World} (h : Below o (w.drewN n) w') : Below o w w' := (pw_below_drewN (Below.refl o w) n).trans h
theorem one_of {x t u : ByteArray} (ht : ns t = ltrim (ns x)) (h0 : 0 < t.size) (h1 : (ns t).getD 0 0 = 59) (hu : ns u = ltrim (ns (t.extract 1 t.size))) : oneP (ns x) = oneU (ns u) := by
  have hl := ns_length t
  unfold oneP
  rw [← ht, if_neg (fun h => h.elim (fun h => by omega) (fun h => h h1)), hu, ns_from]
theorem oneU_n0 {u : List Int} (h : tokN u = 0) : oneU u = none := by rw [oneU, if_pos h]
theorem oneU_eq {u : List Int} {N : Nat} (hN : tokN u = N) (h : u.length ≤ N + 1 ∨ u.getD N 0 ≠ 61) : oneU u = none := by
  unfold oneU
  rw [hN]
  split <;> first | rfl | rw [if_pos h]
theorem oneU_q {u : List Int} {N Q : Nat} (hN : tokN u = N) (h0 : N ≠ 0) (h1 : N + 1 < u.length) (h2 : u.getD N 0 = 61) (h3 : u.getD (N + 1) 0 = 34) (hQ : quoN false (u.drop (N + 2)) = Q) :
    oneU u = if N + 2 + Q < u.length then some (u.take N, (u.drop (N + 2)).take Q, u.drop (N + 2 + Q + 1)) else none := by
  unfold oneU
  rw [hN, if_neg h0, if_neg (fun h => h.elim (fun h => by omega) (fun h => h h2)), if_pos h3, hQ]
theorem oneU_t {u : List Int} {N M : Nat} (hN : tokN u = N) (h0 : N ≠ 0) (h1 : N + 1 < u.length) (h2 : u.getD N 0 = 61) (h3 : u.getD (N + 1) 0 ≠ 34) (hM : tokN (u.drop (N + 1)) = M) :
    oneU u = if M = 0 then none else some (u.take N, (u.drop (N + 1)).take M, u.drop (N + 1 + M)) := by
  unfold oneU
  rw [hN, if_neg h0, if_neg (fun h => h.elim (fun h => by omega) (fun h => h h2)), if_neg h3, hM]
theorem ns_mid (u : ByteArray) (i n : Nat) : ns (u.extract i (i + n)) = ((ns u).drop i).take n := by
  rw [ns_extract, Nat.add_sub_cancel_left]
set_option maxHeartbeats 16000000 in
set_option maxRecDepth 100000 in
theorem forEach_calls {σ : Type} (F : Nat) (caps : Array Value) (step : σ → ByteArray → ByteArray → Bool × σ) (Inv : World → Nat → σ → Prop) (o : Nat) (a0 : ByteArray) (hbd : a0.size ≤ 1099511627776)
  (hdrew : ∀ W i s n, Inv W i s → Inv (W.drewN n) i s)
  (hstep : ∀ W i s p v, Inv W i s → i < 1099511627776 → p.size ≤ 1099511627776 → v.size ≤ 1099511627776 → Calls Try.prog F (#[.string p, .string v] ++ caps) W fun e W' => e = .returned (.bool (step s p v).1) ∧ Inv W' (i + 1) (step s p v).2 ∧ Below o W W')
  (hcf : ∀ (args : Array Value) (W : World), (callFunc F args).run Try.prog W = .ok (.enter F args) W) (s0 : σ) (w : World) (h0 : Inv w 0 s0) :
  Calls Try.prog 43 #[.string a0, .func (.func F) #[] caps] w fun e w' => e = .returned (.tuple #[]) ∧ (∃ i, Inv w' i (foldP step a0.size s0 (ns a0))) ∧ Below o w w' := by
 obtain ⟨FIN, hFIN⟩ : ∃ R, foldP step a0.size s0 (ns a0) = R := ⟨_, rfl⟩
 rw [hFIN]
 have HF0 := Lib.hid hFIN
 have HDR := Lib.hid hdrew
 have HST := Lib.hid hstep
 have HI0 := Lib.hid h0
 clear hFIN hdrew hstep h0
 go_enter Try.func43, Try.ntmps43
 go_wp2
 go_loopw [0, 4, 5, 6, 7, 8, 9] (fun hd _ _ _ _ _ _ wr => ∃ (x : ByteArray) (s : σ) (i f : Nat), hd = .string x ∧ Hid (x.size ≤ f) ∧ x.size + i ≤ a0.size ∧ Hid (Inv wr i s) ∧ Hid (Below o w wr) ∧ Hid (foldP step f s (ns x) = FIN)) (fun hd _ _ _ _ _ _ _ => match hd with | .string x => x.size | _ => 0)
 case atStart => exact ⟨a0, s0, 0, a0.size, rfl, Lib.hid (Nat.le_refl _), by simp, HI0, Lib.hid (Below.refl _ _), HF0⟩
 case round =>
  obtain ⟨x, s, i, f, rfl, HF, hcount, HI, HBL, HE⟩ := hrel
  have stop : Hid (oneP (ns x) = none → s = (FIN : σ)) := Lib.hid (fun h => by rw [← HE.out, fold_none h])
  by_cases hx0 : 0 < x.size
  ·obtain ⟨f, rfl⟩ : ∃ g, f = g + 1 := ⟨f - 1, by have := HF.out; omega⟩
   obtain ⟨t, ⟨kt, htr⟩, hts, hnt⟩ := trim_at x (by omega)
   have HTR := Lib.hid htr
   have HNT := Lib.hid hnt
   have htb : t.size ≤ 1099511627776 := by omega
   have HTS := Lib.hid hts
   clear htr hnt hts
   go_upto_region 2 with (go_at_call 49; refine (fiberutils_TrimLeft.calls kt x 32 t _ HTR.out).mono ?_; rintro e w' ⟨rfl, ⟨n1, rfl⟩⟩)
   by_cases d1 : 0 < t.size
   ·obtain ⟨c0, hc0⟩ : ∃ c, (ns t).getD 0 0 = c := ⟨_, rfl⟩
    have e0 : ((t[0]'d1).toNat : Int) = c0 := (bt_at t 0 d1).trans ((bt_ns t 0).trans hc0)
    have zt : ((t.size : Int) == 0) = false := beq_eq_false_iff_ne.2 (by omega)
    by_cases d2 : c0 = 59
    ·subst d2
     obtain ⟨u, ⟨ku, hur⟩, hus, hnu⟩ := trim_at (t.extract 1 t.size) (by rw [ByteArray.size_extract]; omega)
     have hus2 : u.size < x.size := by rw [ByteArray.size_extract] at hus; have := HTS.out; omega
     have HUR := Lib.hid hur
     have HU : Hid (oneP (ns x) = oneU (ns u)) := Lib.hid (one_of HNT.out d1 hc0 hnu)
     have hub : u.size ≤ 1099511627776 := by omega
     have HU2 := Lib.hid hus2
     clear hur hnu hus hc0 hus2
     go_upto_region 5 with (first
      | (go_at_call 49; refine (fiberutils_TrimLeft.calls ku (t.extract 1 t.size) 32 u _ HUR.out).mono ?_; rintro e w' ⟨rfl, ⟨n2, rfl⟩⟩))
     obtain ⟨N, hN⟩ : ∃ N, tokN (ns u) = N := ⟨_, rfl⟩
     have HN := Lib.hid hN
     have hul := ns_length u
     by_cases e1 : 0 < u.size
     ·obtain ⟨c1, hc1⟩ : ∃ c, (ns u).getD 0 0 = c := ⟨_, rfl⟩
      have e1v : ((u[0]'e1).toNat : Int) = c1 := (bt_at u 0 e1).trans ((bt_ns u 0).trans hc1)
      have zu : ((u.size : Int) == 0) = false := beq_eq_false_iff_ne.2 (by omega)
      have c1r : 0 ≤ c1 := by rw [← e1v]; exact Int.natCast_nonneg _
      by_cases e2 : tokB c1 = true
      ·have HV1 : Hid (fiberhelpers_validHeaderFieldByte.f c1 = some true) := Lib.hid (by rw [tok_is c1 c1r, e2])
       have hN1 : 1 ≤ N := by rw [← hN]; exact tokN_pos _ (by omega) (by rw [hc1]; exact e2)
       have hNu : N ≤ u.size := by rw [← hN, ← hul]; exact tokN_le _
       have HAT : Hid (∀ k, k < N → tokB ((ns u).getD k 0) = true) := Lib.hid (fun k hk => tokN_at _ k (by rw [hN]; exact hk))
       have HEND : Hid (N < u.size → tokB ((ns u).getD N 0) = false) := Lib.hid (fun h => by have := tokN_end (ns u) (by rw [hN, hul]; exact h); rwa [hN] at this)
       have HUL := Lib.hid hul
       clear hN hul hc1 e2 c1r
       go_wp2_with (go_at_call 51; refine (fiberhelpers_validHeaderFieldByte.calls c1 true _ HV1.out).mono ?_; rintro e w' ⟨rfl, ⟨n3, rfl⟩⟩)
       clear e1v zu
       go_loopw [4] (fun n wi => ∃ k : Nat, n = .int .i64 k ∧ 1 ≤ k ∧ k ≤ N ∧ Hid (Inv wi i s) ∧ Hid (Below o w wi)) (fun n _ => u.size - (intOf n).toNat)
       case atStart => exact ⟨1, by go_num, by omega, hN1, Lib.hid (by repeat (first | exact HI.out | apply HDR.out)), Lib.hid (by repeat (first | exact HBL.out | apply pw_below_drewN))⟩
       case round =>
        obtain ⟨k, rfl, hk1, hkN, HI2, HB2⟩ := hrel
        by_cases hk : k < u.size
        ·obtain ⟨c, hc⟩ : ∃ c, (ns u).getD k 0 = c := ⟨_, rfl⟩
         have ev : ((u[k]'hk).toNat : Int) = c := (bt_at u (k : Int) hk).trans ((bt_ns u k).trans hc)
         have cr : 0 ≤ c := by rw [← ev]; exact Int.natCast_nonneg _
         by_cases ht : tokB c = true
         ·have hlt : k < N := by
           rcases Nat.lt_or_ge k N with h | h
           ·exact h
           ·obtain rfl : k = N := by omega
            have := HEND.out hk
            rw [hc, ht] at this
            cases this
          have HV : Hid (fiberhelpers_validHeaderFieldByte.f c = some true) := Lib.hid (by rw [tok_is c cr, ht])
          clear hc ht cr
          go_wp2_with (go_at_call 51; refine (fiberhelpers_validHeaderFieldByte.calls c true _ HV.out).mono ?_; rintro e w' ⟨rfl, ⟨n3, rfl⟩⟩)
          go_roundw
          case rel => exact ⟨k + 1, by go_num, by omega, by omega, Lib.hid (by repeat (first | exact HI2.out | apply HDR.out)), Lib.hid (by repeat (first | exact HB2.out | apply pw_below_drewN))⟩
          case measure => simp [intOf]; omega
         ·rw [Bool.not_eq_true] at ht
          obtain rfl : k = N := by
           rcases Nat.lt_or_ge k N with h | h
           ·have := HAT.out k h
            rw [hc, ht] at this
            cases this
           ·omega
          have HV : Hid (fiberhelpers_validHeaderFieldByte.f c = some false) := Lib.hid (by rw [tok_is c cr, ht])
          by_cases g1 : k + 1 < u.size
          ·have zg : (k : Int) < (u.size : Int) - 1 := by omega
           have k0 : k ≠ 0 := by omega
           obtain ⟨c2, hc2⟩ : ∃ c, (ns u).getD (k + 1) 0 = c := ⟨_, rfl⟩
           have ev2 : ((u[k + 1]'g1).toNat : Int) = c2 := (bt_at u ((k + 1 : Nat) : Int) g1).trans ((bt_ns u (k + 1)).trans hc2)
           by_cases g2 : c = 61
           ·subst g2
            by_cases g3 : c2 = 34
            ·subst g3
             obtain ⟨Q, hQ⟩ : ∃ Q, quoN false ((ns u).drop (k + 2)) = Q := ⟨_, rfl⟩
             have hQl : k + 2 + Q ≤ u.size := by
              have := quoN_le ((ns u).drop (k + 2)) false
              rw [hQ, List.length_drop, HUL.out] at this
              omega
             have HQ := Lib.hid hQ
             have HONE : Hid (oneU (ns u) = if k + 2 + Q < u.size then some ((ns u).take k, ((ns u).drop (k + 2)).take Q, (ns u).drop (k + 2 + Q + 1)) else none) := Lib.hid (by
              have := oneU_q HN.out k0 (by rw [HUL.out]; exact g1) hc hc2 hQ
              rwa [HUL.out] at this)
             clear hQ hc hc2 ht cr
             go_wp2_with (go_at_call 51; refine (fiberhelpers_validHeaderFieldByte.calls 61 false _ HV.out).mono ?_; rintro e w' ⟨rfl, ⟨n4, rfl⟩⟩)
             clear ev ev2
             go_loopw [4, 6, 7] (fun nn fo es wi => ∃ (p : Nat) (esc : Bool), nn = .int .i64 p ∧ fo = .bool false ∧ es = .bool esc ∧ k + 2 ≤ p ∧ p ≤ k + 2 + Q ∧ Hid (p + quoN esc ((ns u).drop p) = k + 2 + Q) ∧ Hid (Inv wi i s) ∧ Hid (Below o w wi)) (fun nn _ _ _ => u.size - (intOf nn).toNat)
             case atStart => exact ⟨k + 2, false, by go_num, rfl, rfl, by omega, by omega, Lib.hid (by rw [HQ.out]), Lib.hid (by repeat (first | exact HI2.out | apply HDR.out)), Lib.hid (by repeat (first | exact HB2.out | apply pw_below_drewN))⟩
             case round =>
              obtain ⟨p, esc, rfl, rfl, rfl, hp1, hp2, HS, HI3, HB3⟩ := hrel
              by_cases hp : p < u.size
              ·obtain ⟨c3, hc3⟩ : ∃ c, (ns u).getD p 0 = c := ⟨_, rfl⟩
               have ev3 : ((u[p]'hp).toNat : Int) = c3 := (bt_at u (p : Int) hp).trans ((bt_ns u p).trans hc3)
               have HS3 : Hid (p + quoN esc (c3 :: (ns u).drop (p + 1)) = k + 2 + Q) := Lib.hid (by rw [← hc3, ← p_drop_cons (ns u) p (by rw [HUL.out]; exact hp)]; exact HS.out)
               clear hc3 HS
               by_cases b1 : c3 = 34
               ·subst b1
                cases esc with
                | false =>
                 have hpe : p = k + 2 + Q := by have := HS3.out; rw [quoN, if_pos ⟨rfl, rfl⟩] at this; omega
                 subst hpe
                 obtain ⟨b, s', hsv⟩ : ∃ b s', step s (u.extract 0 k) (u.extract (k + 1 + 1) (k + 2 + Q)) = (b, s') := ⟨_, _, rfl⟩
                 have HON : Hid (oneP (ns x) = some (ns (u.extract 0 k), ns (u.extract (k + 1 + 1) (k + 2 + Q)), ns (u.extract (k + 2 + Q + 1) u.size))) := Lib.hid (by
        have hv : ns (u.extract (k + 1 + 1) (k + 2 + Q)) = ((ns u).drop (k + 2)).take Q := ns_mid u (k + 2) Q
        rw [HU.out, HONE.out, if_pos hp, ns_to, hv, ns_from])
                 have HFO : Hid ((if b = true then foldP step f s' (ns (u.extract (k + 2 + Q + 1) u.size)) else s') = FIN) := Lib.hid (by
                  have := HE.out
                  rw [fold_some HON.out, hsv] at this
                  exact this)
                 have HCA : Hid (∀ W, Inv W i s → Calls Try.prog F (#[.string (u.extract 0 k), .string (u.extract (k + 1 + 1) (k + 2 + Q))] ++ caps) W fun e W' => e = .returned (.bool b) ∧ Inv W' (i + 1) s' ∧ Below o W W') := Lib.hid (fun W h => by
                  have := HST.out W i s (u.extract 0 k) (u.extract (k + 1 + 1) (k + 2 + Q)) h (by omega) (by rw [ByteArray.size_extract]; omega) (by rw [ByteArray.size_extract]; omega)
                  rw [hsv] at this
                  exact this)
                 have hrs : (u.extract (k + 2 + Q + 1) u.size).size < x.size ∧ (u.extract (k + 2 + Q + 1) u.size).size ≤ f ∧ (u.extract (k + 2 + Q + 1) u.size).size + (i + 1) ≤ a0.size := by
                  have h1 := HU2.out
                  have h2 := HF.out
                  rw [ByteArray.size_extract]
                  omega
                 have HRS := Lib.hid hrs
                 clear hsv hrs
                 cases b with
                 | false =>
                  go_wp2_with (refine (HCA.out _ (by repeat (first | exact HI3.out | apply HDR.out))).mono ?_; rintro e w' ⟨rfl, q1, q2⟩)
                  refine bodyPost_ret (results_none rfl _ _ _) rfl ?_
                  have hfin : Hid (s' = FIN) := Lib.hid (by have := HFO.out; rwa [if_neg (by simp)] at this)
                  exact ⟨rfl, ⟨i + 1, hfin.out ▸ q1⟩, HB3.out.trans (by first | exact q2 | exact p_below_drewN q2)⟩
                 | true =>
                  have hgo : Hid (foldP step f s' (ns (u.extract (k + 2 + Q + 1) u.size)) = FIN) := Lib.hid (by have := HFO.out; rwa [if_pos rfl] at this)
                  go_wp2_with (refine (HCA.out _ (by repeat (first | exact HI3.out | apply HDR.out))).mono ?_; rintro e w' ⟨rfl, q1, q2⟩)
                  go_roundw
                  case rel => exact ⟨u.extract (k + 2 + Q + 1) u.size, s', i + 1, f, by go_num, Lib.hid HRS.out.2.1, HRS.out.2.2, Lib.hid q1, Lib.hid (HB3.out.trans (by first | exact q2 | exact p_below_drewN q2)), hgo⟩
                  case measure => exact HRS.out.1
                | true =>
                 have HS4 : Hid (p + 1 + quoN false ((ns u).drop (p + 1)) = k + 2 + Q) := Lib.hid (by have := HS3.out; rw [quoN, if_neg (by simp)] at this; simp at this; omega)
                 have hp3 : p + 1 ≤ k + 2 + Q := by have := HS4.out; omega
                 go_wp2
                 go_roundw
                 case rel => exact ⟨p + 1, false, by go_num, by first | rfl | trivial, by first | rfl | trivial, by omega, hp3, HS4, Lib.hid (by repeat (first | exact HI3.out | apply HDR.out)), Lib.hid (by repeat (first | exact HB3.out | apply pw_below_drewN))⟩
                 case measure => simp [intOf]; omega
               ·have b1b : (c3 == 34) = false := beq_eq_false_iff_ne.2 b1
                have HS4 : Hid (p + 1 + quoN (c3 == 92 && !esc) ((ns u).drop (p + 1)) = k + 2 + Q) := Lib.hid (by have := HS3.out; rw [quoN, if_neg (fun h => b1 h.1)] at this; omega)
                have hp3 : p + 1 ≤ k + 2 + Q := by have := HS4.out; omega
                cases b2 : (c3 == 92) with
                | false =>
                 rw [b2, Bool.false_and] at HS4
                 go_wp2
                 go_roundw
                 case rel => exact ⟨p + 1, false, by go_num, by first | rfl | trivial, by first | rfl | trivial, by omega, hp3, HS4, Lib.hid (by repeat (first | exact HI3.out | apply HDR.out)), Lib.hid (by repeat (first | exact HB3.out | apply pw_below_drewN))⟩
                 case measure => simp [intOf]; omega
                | true =>
                 rw [b2, Bool.true_and] at HS4
                 go_wp2
                 go_roundw
                 case rel => exact ⟨p + 1, !esc, by go_num, by first | rfl | trivial, by first | rfl | trivial, by omega, hp3, HS4, Lib.hid (by repeat (first | exact HI3.out | apply HDR.out)), Lib.hid (by repeat (first | exact HB3.out | apply pw_below_drewN))⟩
                 case measure => simp [intOf]; omega
              ·have hpe : p = k + 2 + Q := by omega
               have hnone : Hid (s = FIN) := Lib.hid (stop.out (HU.out.trans (HONE.out.trans (if_neg (by omega)))))
               go_wp2
               refine bodyPost_ret (results_none rfl _ _ _) rfl ?_
               exact ⟨rfl, ⟨i, hnone.out ▸ (by repeat (first | exact HI3.out | apply HDR.out))⟩, (by repeat (first | exact HB3.out | apply pw_below_drewN))⟩
            ·have g3b : (c2 == 34) = false := beq_eq_false_iff_ne.2 g3
             have c2r : 0 ≤ c2 := by rw [← ev2]; exact Int.natCast_nonneg _
             obtain ⟨M, hM⟩ : ∃ M, tokN ((ns u).drop (k + 1)) = M := ⟨_, rfl⟩
             have HM := Lib.hid hM
             have HONE : Hid (oneU (ns u) = if M = 0 then none else some ((ns u).take k, ((ns u).drop (k + 1)).take M, (ns u).drop (k + 1 + M))) := Lib.hid (oneU_t HN.out k0 (by rw [HUL.out]; exact g1) hc (by rw [hc2]; exact g3) hM)
             have hdl : ((ns u).drop (k + 1)).length = u.size - (k + 1) := by rw [List.length_drop, HUL.out]
             by_cases t2 : tokB c2 = true
             ·have hM1 : 1 ≤ M := by rw [← hM]; exact tokN_pos _ (by omega) (by rw [getD_drop, Nat.add_zero, hc2]; exact t2)
              have hMl : k + 1 + M ≤ u.size := by have := tokN_le ((ns u).drop (k + 1)); rw [hM, hdl] at this; omega
              have HAT2 : Hid (∀ p, k + 1 ≤ p → p < k + 1 + M → tokB ((ns u).getD p 0) = true) := Lib.hid (fun p h1 h2 => by
               have := tokN_at ((ns u).drop (k + 1)) (p - (k + 1)) (by rw [hM]; omega)
               rwa [getD_drop, show k + 1 + (p - (k + 1)) = p by omega] at this)
              have HEND2 : Hid (k + 1 + M < u.size → tokB ((ns u).getD (k + 1 + M) 0) = false) := Lib.hid (fun h => by
               have := tokN_end ((ns u).drop (k + 1)) (by rw [hM, hdl]; omega)
               rwa [hM, getD_drop] at this)
              have HV2 : Hid (fiberhelpers_validHeaderFieldByte.f c2 = some true) := Lib.hid (by rw [tok_is c2 c2r, t2])
              clear hM hdl hc hc2 ht cr c2r t2 g3
              go_upto_region 25 with (go_at_call 51; refine (fiberhelpers_validHeaderFieldByte.calls 61 false _ HV.out).mono ?_; rintro e w' ⟨rfl, ⟨n4, rfl⟩⟩)
              go_wp2_with (go_at_call 51; refine (fiberhelpers_validHeaderFieldByte.calls c2 true _ HV2.out).mono ?_; rintro e w' ⟨rfl, ⟨n4, rfl⟩⟩)
              clear ev ev2 g3b
              go_loopw [4] (fun nn wi => ∃ p : Nat, nn = .int .i64 p ∧ k + 2 ≤ p ∧ p ≤ k + 1 + M ∧ Hid (Inv wi i s) ∧ Hid (Below o w wi)) (fun nn _ => u.size - (intOf nn).toNat)
              case atStart => exact ⟨k + 2, by go_num, by omega, by omega, Lib.hid (by repeat (first | exact HI2.out | apply HDR.out)), Lib.hid (by repeat (first | exact HB2.out | apply pw_below_drewN))⟩
              case round =>
               obtain ⟨p, rfl, hp1, hp2, HI3, HB3⟩ := hrel
               have goes : p = k + 1 + M → Hid (∃ b s', step s (u.extract 0 k) (u.extract (k + 1) p) = (b, s') ∧ ((if b = true then foldP step f s' (ns (u.extract p u.size)) else s') = FIN) ∧ (∀ W, Inv W i s → Calls Try.prog F (#[.string (u.extract 0 k), .string (u.extract (k + 1) p)] ++ caps) W fun e W' => e = .returned (.bool b) ∧ Inv W' (i + 1) s' ∧ Below o W W') ∧ ((u.extract p u.size).size < x.size ∧ (u.extract p u.size).size ≤ f ∧ (u.extract p u.size).size + (i + 1) ≤ a0.size)) := by
                rintro rfl
                refine Lib.hid ⟨_, _, rfl, ?_, ?_, ?_⟩
                ·have := HE.out
                 rw [fold_some (P := u.extract 0 k) (V := u.extract (k + 1) (k + 1 + M)) (R := u.extract (k + 1 + M) u.size) (by rw [HU.out, HONE.out, if_neg (by omega), ns_to, ns_mid, ns_from])] at this
                 exact this
                ·intro W h
                 exact HST.out W i s (u.extract 0 k) (u.extract (k + 1) (k + 1 + M)) h (by omega) (by rw [ByteArray.size_extract]; omega) (by rw [ByteArray.size_extract]; omega)
                ·have h1 := HU2.out
                 have h2 := HF.out
                 rw [ByteArray.size_extract]
                 omega
               by_cases hp : p < u.size
               ·obtain ⟨c3, hc3⟩ : ∃ c, (ns u).getD p 0 = c := ⟨_, rfl⟩
                have ev3 : ((u[p]'hp).toNat : Int) = c3 := (bt_at u (p : Int) hp).trans ((bt_ns u p).trans hc3)
                have cr3 : 0 ≤ c3 := by rw [← ev3]; exact Int.natCast_nonneg _
                by_cases ht3 : tokB c3 = true
                ·have hlt : p < k + 1 + M := by
                  rcases Nat.lt_or_ge p (k + 1 + M) with h | h
                  ·exact h
                  ·obtain rfl : p = k + 1 + M := by omega
                   have := HEND2.out hp
                   rw [hc3, ht3] at this
                   cases this
                 have HV3 : Hid (fiberhelpers_validHeaderFieldByte.f c3 = some true) := Lib.hid (by rw [tok_is c3 cr3, ht3])
                 clear hc3 ht3 cr3 goes
                 go_wp2_with (go_at_call 51; refine (fiberhelpers_validHeaderFieldByte.calls c3 true _ HV3.out).mono ?_; rintro e w' ⟨rfl, ⟨n4, rfl⟩⟩)
                 go_roundw
                 case rel => exact ⟨p + 1, by go_num, by omega, by omega, Lib.hid (by repeat (first | exact HI3.out | apply HDR.out)), Lib.hid (by repeat (first | exact HB3.out | apply pw_below_drewN))⟩
                 case measure => simp [intOf]; omega
                ·rw [Bool.not_eq_true] at ht3
                 have hpe : p = k + 1 + M := by
                  rcases Nat.lt_or_ge p (k + 1 + M) with h | h
                  ·have := HAT2.out p (by omega) h
                   rw [hc3, ht3] at this
                   cases this
                  ·omega
                 have HV3 : Hid (fiberhelpers_validHeaderFieldByte.f c3 = some false) := Lib.hid (by rw [tok_is c3 cr3, ht3])
                 have GO := goes hpe
                 clear hc3 ht3 cr3 goes hpe
                 obtain ⟨b, s', _, hfo, hca, hrs⟩ := GO.out
                 have HFO := Lib.hid hfo
                 have HCA := Lib.hid hca
                 have HRS := Lib.hid hrs
                 clear hfo hca hrs GO
                 cases b with
                 | false =>
                  go_wp2_with (first | (go_at_call 51; refine (fiberhelpers_validHeaderFieldByte.calls c3 false _ HV3.out).mono ?_; rintro e w' ⟨rfl, ⟨n4, rfl⟩⟩) | (refine (HCA.out _ (by repeat (first | exact HI3.out | apply HDR.out))).mono ?_; rintro e w' ⟨rfl, q1, q2⟩))
                  refine bodyPost_ret (results_none rfl _ _ _) rfl ?_
                  have hfin : Hid (s' = FIN) := Lib.hid (by have := HFO.out; rwa [if_neg (by simp)] at this)
                  exact ⟨rfl, ⟨i + 1, hfin.out ▸ q1⟩, HB3.out.trans (by first | exact q2 | exact p_below_drewN q2)⟩
                 | true =>
                  have hgo : Hid (foldP step f s' (ns (u.extract p u.size)) = FIN) := Lib.hid (by have := HFO.out; rwa [if_pos rfl] at this)
                  go_wp2_with (first | (go_at_call 51; refine (fiberhelpers_validHeaderFieldByte.calls c3 false _ HV3.out).mono ?_; rintro e w' ⟨rfl, ⟨n4, rfl⟩⟩) | (refine (HCA.out _ (by repeat (first | exact HI3.out | apply HDR.out))).mono ?_; rintro e w' ⟨rfl, q1, q2⟩))
                  go_roundw
                  case rel => exact ⟨u.extract p u.size, s', i + 1, f, by go_num, Lib.hid HRS.out.2.1, HRS.out.2.2, Lib.hid q1, Lib.hid (HB3.out.trans (by first | exact q2 | exact p_below_drewN q2)), hgo⟩
                  case measure => exact HRS.out.1
               ·have hpe : p = k + 1 + M := by omega
                have GO := goes hpe
                clear goes hpe
                obtain ⟨b, s', _, hfo, hca, hrs⟩ := GO.out
                have HFO := Lib.hid hfo
                have HCA := Lib.hid hca
                have HRS := Lib.hid hrs
                clear hfo hca hrs GO
                cases b with
                | false =>
                 go_wp2_with (refine (HCA.out _ (by repeat (first | exact HI3.out | apply HDR.out))).mono ?_; rintro e w' ⟨rfl, q1, q2⟩)
                 refine bodyPost_ret (results_none rfl _ _ _) rfl ?_
                 have hfin : Hid (s' = FIN) := Lib.hid (by have := HFO.out; rwa [if_neg (by simp)] at this)
                 exact ⟨rfl, ⟨i + 1, hfin.out ▸ q1⟩, HB3.out.trans (by first | exact q2 | exact p_below_drewN q2)⟩
                | true =>
                 have hgo : Hid (foldP step f s' (ns (u.extract p u.size)) = FIN) := Lib.hid (by have := HFO.out; rwa [if_pos rfl] at this)
                 go_wp2_with (refine (HCA.out _ (by repeat (first | exact HI3.out | apply HDR.out))).mono ?_; rintro e w' ⟨rfl, q1, q2⟩)
                 go_roundw
                 case rel => exact ⟨u.extract p u.size, s', i + 1, f, by go_num, Lib.hid HRS.out.2.1, HRS.out.2.2, Lib.hid q1, Lib.hid (HB3.out.trans (by first | exact q2 | exact p_below_drewN q2)), hgo⟩
                 case measure => exact HRS.out.1
             ·rw [Bool.not_eq_true] at t2
              have HV2 : Hid (fiberhelpers_validHeaderFieldByte.f c2 = some false) := Lib.hid (by rw [tok_is c2 c2r, t2])
              have hM0 : M = 0 := by
               rcases Nat.eq_zero_or_pos M with h | h
               ·exact h
               ·have := tokN_at ((ns u).drop (k + 1)) 0 (by rw [hM]; exact h)
                rw [getD_drop, Nat.add_zero, hc2, t2] at this
                cases this
              have hnone : Hid (s = FIN) := Lib.hid (stop.out (HU.out.trans (HONE.out.trans (if_pos hM0))))
              clear hM hdl hc hc2 ht cr c2r t2 g3
              go_upto_region 25 with (go_at_call 51; refine (fiberhelpers_validHeaderFieldByte.calls 61 false _ HV.out).mono ?_; rintro e w' ⟨rfl, ⟨n4, rfl⟩⟩)
              go_wp2_with (go_at_call 51; refine (fiberhelpers_validHeaderFieldByte.calls c2 false _ HV2.out).mono ?_; rintro e w' ⟨rfl, ⟨n4, rfl⟩⟩)
              refine bodyPost_ret (results_none rfl _ _ _) rfl ?_
              exact ⟨rfl, ⟨i, hnone.out ▸ (by repeat (first | exact HI2.out | apply HDR.out))⟩, (by repeat (first | exact HB2.out | apply pw_below_drewN))⟩
           ·have g2b : (c != 61) = true := bne_iff_ne.2 g2
            have hnone : Hid (s = FIN) := Lib.hid (stop.out (HU.out.trans (oneU_eq HN.out (.inr (by rw [hc]; exact g2)))))
            go_wp2_with (go_at_call 51; refine (fiberhelpers_validHeaderFieldByte.calls c false _ HV.out).mono ?_; rintro e w' ⟨rfl, ⟨n4, rfl⟩⟩)
            refine bodyPost_ret (results_none rfl _ _ _) rfl ?_
            exact ⟨rfl, ⟨i, hnone.out ▸ (by repeat (first | exact HI2.out | apply HDR.out))⟩, (by repeat (first | exact HB2.out | apply pw_below_drewN))⟩
          ·have hnone : Hid (s = FIN) := Lib.hid (stop.out (HU.out.trans (oneU_eq HN.out (.inl (by rw [HUL.out]; omega)))))
           go_wp2_with (go_at_call 51; refine (fiberhelpers_validHeaderFieldByte.calls c false _ HV.out).mono ?_; rintro e w' ⟨rfl, ⟨n3, rfl⟩⟩)
           refine bodyPost_ret (results_none rfl _ _ _) rfl ?_
           exact ⟨rfl, ⟨i, hnone.out ▸ (by repeat (first | exact HI2.out | apply HDR.out))⟩, (by repeat (first | exact HB2.out | apply pw_below_drewN))⟩
        ·obtain rfl : k = N := by omega
         have hnone : Hid (s = FIN) := Lib.hid (stop.out (HU.out.trans (oneU_eq HN.out (.inl (by rw [HUL.out]; omega)))))
         go_wp2
         refine bodyPost_ret (results_none rfl _ _ _) rfl ?_
         exact ⟨rfl, ⟨i, hnone.out ▸ (by repeat (first | exact HI2.out | apply HDR.out))⟩, (by repeat (first | exact HB2.out | apply pw_below_drewN))⟩
      ·have HV1 : Hid (fiberhelpers_validHeaderFieldByte.f c1 = some false) := Lib.hid (by rw [tok_is c1 c1r]; simpa using e2)
       have hnone : Hid (s = FIN) := Lib.hid (stop.out (HU.out.trans (oneU_n0 (by
        cases hh : ns u with
        | nil => rfl
        | cons y r => rw [tokN, if_neg (by rw [hh] at hc1; simp at hc1; rw [hc1]; exact e2)]))))
       go_wp2_with (go_at_call 51; refine (fiberhelpers_validHeaderFieldByte.calls c1 false _ HV1.out).mono ?_; rintro e w' ⟨rfl, ⟨n3, rfl⟩⟩)
       refine bodyPost_ret (results_none rfl _ _ _) rfl ?_
       exact ⟨rfl, ⟨i, hnone.out ▸ (by repeat (first | exact HI.out | apply HDR.out))⟩, (by repeat (first | exact HBL.out | apply pw_below_drewN))⟩
     ·have hnone : Hid (s = FIN) := Lib.hid (stop.out (HU.out.trans (oneU_n0 (by rw [List.eq_nil_of_length_eq_zero (show (ns u).length = 0 by omega)]; rfl))))
      have zu : ((u.size : Int) == 0) = true := beq_iff_eq.2 (by omega)
      go_wp2
      refine bodyPost_ret (results_none rfl _ _ _) rfl ?_
      exact ⟨rfl, ⟨i, hnone.out ▸ (by repeat (first | exact HI.out | apply HDR.out))⟩, (by repeat (first | exact HBL.out | apply pw_below_drewN))⟩
    ·have hnone : Hid (s = FIN) := Lib.hid (stop.out (by unfold oneP; rw [← HNT.out, if_pos (.inr (by rw [hc0]; exact d2))]))
     have d2b : (c0 != 59) = true := bne_iff_ne.2 d2
     go_wp2
     refine bodyPost_ret (results_none rfl _ _ _) rfl ?_
     exact ⟨rfl, ⟨i, hnone.out ▸ (by repeat (first | exact HI.out | apply HDR.out))⟩, (by repeat (first | exact HBL.out | apply pw_below_drewN))⟩
   ·have hnone : Hid (s = FIN) := Lib.hid (stop.out (by unfold oneP; rw [← HNT.out, if_pos (.inl (by rw [ns_length]; omega))]))
    have zt : ((t.size : Int) == 0) = true := beq_iff_eq.2 (by omega)
    go_wp2
    refine bodyPost_ret (results_none rfl _ _ _) rfl ?_
    exact ⟨rfl, ⟨i, hnone.out ▸ (by repeat (first | exact HI.out | apply HDR.out))⟩, (by repeat (first | exact HBL.out | apply pw_below_drewN))⟩
  ·have hnone : Hid (s = FIN) := Lib.hid (stop.out (by
    have hl := p_ltrim_le (ns x)
    rw [ns_length] at hl
    unfold oneP
    rw [if_pos (.inl (by omega))]))
   clear stop
   go_wp2
   go_end0
   exact ⟨rfl, ⟨i, hnone.out ▸ HI.out⟩, HBL.out⟩
end Go.Proofs.Ytgmjaggkiifdjaa.Given
namespace Go.Proofs.Ytgmjaggkiifdjaa.Given
open Go.RowKit Go.Proofs.YtgmjaggkiifdjaaW.PrintWords Go.Proofs.YtgmjaggkiifdjaaW.PrintLast Go.Proofs.YtgmjaggkiifdjaaW.PrintMore Go.Proofs.Ytgmjaggkiifdjaa.Base Go.Proofs.Ytgmjaggkiifdjaa.Gv Go.Proofs.Ytgmjaggkiifdjaa.QA
def zzStep (most : Int) (outs : List ByteArray) (p v : ByteArray) : Bool × List ByteArray := (decide (most < 0) || decide (((outs.length + 2 : Nat) : Int) < wrap64 (2 * most)), outs ++ [p, v])
def ZzRow (w : World) (b o : Nat) (most : Int) (outs : List ByteArray) : Prop :=
  b < o ∧ o < w.heap.size ∧ w.heap[b]? = some (.cells #[.int .i64 most] 3 (0, 0)) ∧ ∃ v, w.heap[o]? = some (.cells #[v] 22 (0, 0)) ∧ w.ownsRow (o + 1) 9 1 v outs.length (encs Value.string outs)
set_option maxHeartbeats 2000000 in
set_option maxRecDepth 100000 in
theorem zzPush_calls (w : World) (b o : Nat) (most : Int) (outs : List ByteArray) (s t : ByteArray) (h : ZzRow w b o most outs) (hlen : (outs.length + 2) * 16 ≤ 140737488355328) :
    Calls Try.prog 44 #[.string s, .string t, .pointer (some ⟨o, 0, none⟩), .pointer (some ⟨b, 0, none⟩)] w fun e w' => e = .returned (.bool (zzStep most outs s t).1) ∧ ZzRow w' b o most (zzStep most outs s t).2 ∧ Below o w w' := by
  obtain ⟨hbo, h1, hb0, v, hh, ho⟩ := h
  have hinfo : (Try.prog.info? 9).map (fun i => (i.zero, i.size, i.bytes)) = some (some (.string ByteArray.empty), 1, 16) := by kernel_rfl
  obtain ⟨i0, hi, hz0, hz1, hz2⟩ := info_parts hinfo
  have c0 : w.cell? ⟨o, 0, none⟩ = some v := by rw [cell_of_row w o 0 _ _ (0, 0) hh]; rfl
  have HO := Lib.hid ho
  have HH := Lib.hid hh
  have HB0 := Lib.hid hb0
  obtain ⟨R, hR⟩ : ∃ R, zzStep most outs s t = R := ⟨_, rfl⟩
  rw [hR]
  have HRS := Lib.hid hR
  clear ho hh hb0 hR
  go_enter Try.func44, Try.ntmps44
  go_upto_region 2 with (at_builtin; refine wpList_append_own _ rfl _ _ 22 rfl (o + 1) 9 i0 (.string ByteArray.empty) 1 16 Try.underlying22 hi hz0 hz1 hz2 rfl (by decide) _ _ _ rfl (HO.out.alloc _) ⟨w.heap.size, 0, none⟩ 2 2 [.string s, .string t] rfl rfl ?c1 ?c2 ?c3 ?c4 ?c5 ?_)
  case c1 =>
    intro j u hj
    match j, hj with
    | 0, hj => simp at hj; subst hj; simp [Addr.add]
    | 1, hj => simp at hj; subst hj; simp [Addr.add]
  case c2 =>
    intro u hu
    simp only [List.mem_cons, List.not_mem_nil, or_false] at hu
    rcases hu with rfl | rfl <;> rfl
  case c3 => unfold maxLen; omega
  case c4 => exact hlen
  case c5 => simp; omega
  intro v' w2 hown' hgrow _
  have hvb : ∀ k, k ≤ o → some k ≠ v.ownBlock := fun k hk e => by have := own_base HO.out k e.symm; omega
  have hold : ∀ k, k ≤ o → w2.heap[k]? = w.heap[k]? := fun k hk => by
    rw [hgrow.block k (by simp; omega) (hvb k hk)]
    exact Below.heap_alloc _ _ _ (by omega)
  have hb2 : w2.heap[o]? = some (.cells #[v] 22 (0, 0)) := by rw [hold o (Nat.le_refl _)]; exact HH.out
  have d0 : w2.cell? ⟨o, 0, none⟩ = some v := by rw [cell_of_row w2 o 0 _ _ (0, 0) hb2]; rfl
  have f0 : w2.frozen? ⟨o, 0, none⟩ = false := frozen_of_row _ _ 0 _ _ hb2
  obtain ⟨g, cap, rfl⟩ : ∃ g cap, v' = .slice (some ⟨g, 0, none⟩) (outs.length + 2) cap := by
    rcases hown'.2 with ⟨_, h0⟩ | ⟨g, cap, cur, hv, _⟩
    · omega
    · exact ⟨g, cap, hv⟩
  have hbw2 : Below o w w2 := by
    refine ⟨hgrow.os, hgrow.tape, hgrow.output, ?_, fun k hk => hold k (by omega)⟩
    have := hgrow.size
    simp at this
    omega
  have hbb : w2.heap[b]? = some (.cells #[.int .i64 most] 3 (0, 0)) := by rw [hold b (by omega)]; exact HB0.out
  have HOW := Lib.hid hown'
  have HB2 := Lib.hid hb2
  have HW2 := Lib.hid hbw2
  have HBB := Lib.hid hbb
  obtain ⟨W3, hW3⟩ : ∃ W, w2.setCell ⟨o, 0, none⟩ (.slice (some ⟨g, 0, none⟩) (outs.length + 2) cap) = W := ⟨_, rfl⟩
  have HFIN : Hid (ZzRow W3 b o most (outs ++ [s, t]) ∧ Below o w W3 ∧ W3.cell? ⟨o, 0, none⟩ = some (.slice (some ⟨g, 0, none⟩) (outs.length + 2) cap) ∧ W3.cell? ⟨b, 0, none⟩ = some (.int .i64 most)) := Lib.hid (by
    rw [← hW3]
    have hsame := heap_setCell_same w2 o 0 _ 22 (.slice (some ⟨g, 0, none⟩) (outs.length + 2) cap) HB2.out
    have hsb : (w2.setCell ⟨o, 0, none⟩ (.slice (some ⟨g, 0, none⟩) (outs.length + 2) cap)).heap[b]? = some (.cells #[.int .i64 most] 3 (0, 0)) := by
      rw [Below.heap_setCell _ _ _ _ (show b ≠ o by omega)]; exact HBB.out
    have hso : (w2.setCell ⟨o, 0, none⟩ (.slice (some ⟨g, 0, none⟩) (outs.length + 2) cap)).heap[o]? = some (.cells #[.slice (some ⟨g, 0, none⟩) (outs.length + 2) cap] 22 (0, 0)) := by simpa using hsame
    refine ⟨⟨hbo, by rw [World.size_setCell]; have := HW2.out.size; omega, hsb, .slice (some ⟨g, 0, none⟩) (outs.length + 2) cap, hso, ?_⟩, HW2.out.setCell (p := ⟨o, 0, none⟩) (Nat.le_refl _) _, ?_, ?_⟩
    · have hm := own_move (w1 := w2.setCell ⟨o, 0, none⟩ (.slice (some ⟨g, 0, none⟩) (outs.length + 2) cap)) HOW.out (fun k hk => Below.heap_setCell _ _ _ _ (by have := own_base HOW.out k hk; show k ≠ o; omega))
      rw [encs_append, List.length_append]
      exact hm
    · rw [cell_of_row _ o 0 _ _ (0, 0) hso]; rfl
    · rw [cell_of_row _ b 0 _ _ (0, 0) hsb]; rfl)
  clear hown' hb2 hbw2 hgrow hold hvb hi hz0 hz1 hz2 hinfo hbb
  go_upto_region 2 with fail
  try rw [hW3]
  obtain ⟨r1, r2, r3, r4⟩ := HFIN.out
  have R1 := Lib.hid r1
  have R2 := Lib.hid r2
  clear r1 r2 hW3 d0 f0 HFIN c0
  by_cases hm : most < 0
  · have hz : R = (true, outs ++ [s, t]) := by rw [← HRS.out]; unfold zzStep; rw [decide_eq_true hm]; rfl
    subst hz
    go_wp2
    go_ret
    exact ⟨rfl, R1.out, R2.out⟩
  · by_cases hl : ((outs.length + 2 : Nat) : Int) < wrap64 (2 * most)
    · have hz : R = (true, outs ++ [s, t]) := by rw [← HRS.out]; unfold zzStep; rw [decide_eq_false hm, decide_eq_true hl]; rfl
      have hl2 : (outs.length : Int) + 2 < wrap64 (2 * most) := by omega
      subst hz
      go_wp2
      go_ret
      exact ⟨by first | rfl | simp [hl2], R1.out, R2.out⟩
    · have hz : R = (false, outs ++ [s, t]) := by rw [← HRS.out]; unfold zzStep; rw [decide_eq_false hm, decide_eq_false hl]; rfl
      have hl2 : ¬ ((outs.length : Int) + 2 < wrap64 (2 * most)) := by omega
      subst hz
      go_wp2
      go_ret
      exact ⟨by first | rfl | simp [hl2], R1.out, R2.out⟩
theorem ZzRow.drewN {w : World} {b o : Nat} {most : Int} {outs : List ByteArray} (h : ZzRow w b o most outs) (k : Nat) : ZzRow (w.drewN k) b o most outs := h
def zzOf (a0 : ByteArray) (most : Int) : List ByteArray := if most = 0 then [] else foldP (zzStep most) a0.size [] (ns a0)
def fiberhelpers_ZzParams.f (a0 : ByteArray) (most : Int) : Option (List ByteArray) := if a0.size ≤ 1099511627776 then some (zzOf a0 most) else none
set_option maxHeartbeats 2000000 in
set_option maxRecDepth 100000 in
theorem zzParams_calls (a0 : ByteArray) (most : Int) (w : World) (h0 : a0.size ≤ 1099511627776) :
    Calls Try.prog 29 #[.string a0, .int .i64 most] w fun e w' => ∃ v, e = .returned v ∧ Kd.R Kd.string 9 w' w.heap.size (fun _ => True) v (zzOf a0 most) ∧ Below w.heap.size w w' := by
  have hmf : ∀ (fn : Fn) (first cap : Array Value) (w : World), (Instr.makeFunc fn first cap).run Try.prog w = .ok (.func fn first cap) w := fun _ _ _ _ => rfl
  obtain ⟨W, hW⟩ : ∃ W, (w.alloc (.cells #[.int .i64 most] 3)).alloc (.cells #[.slice none 0 0] 22) = W := ⟨_, rfl⟩
  have hsz : W.heap.size = w.heap.size + 2 := by rw [← hW]; simp
  have hb : Hid (W.heap[w.heap.size]? = some (.cells #[.int .i64 most] 3 (0, 0))) := Lib.hid (by rw [← hW]; exact blk_alloc (heap_alloc_new w _) _)
  have ho : Hid (W.heap[w.heap.size + 1]? = some (.cells #[.slice none 0 0] 22 (0, 0))) := Lib.hid (by
    rw [← hW]
    have := heap_alloc_new (w.alloc (.cells #[.int .i64 most] 3)) (.cells #[.slice none 0 0] 22)
    simpa using this)
  have hbl : Hid (Below w.heap.size w W) := Lib.hid (by rw [← hW]; exact ((Below.refl _ _).alloc (Nat.le_refl _) _).alloc (by simp) _)
  by_cases hm : most = 0
  · subst hm
    have hz : zzOf a0 0 = [] := by unfold zzOf; rw [if_pos rfl]
    rw [hz]
    have cb : W.cell? ⟨w.heap.size, 0, none⟩ = some (.int .i64 0) := by rw [cell_of_row W _ 0 _ _ (0, 0) hb.out]; rfl
    clear hz
    go_enter Try.func29, Try.ntmps29
    go_wp2
    go_ret
    exact ⟨_, rfl, Kd.R_nil _ _ _ _ _, hbl.out⟩
  · have hz : zzOf a0 most = foldP (zzStep most) a0.size [] (ns a0) := by unfold zzOf; rw [if_neg hm]
    rw [hz]
    have cb : W.cell? ⟨w.heap.size, 0, none⟩ = some (.int .i64 most) := by rw [cell_of_row W _ 0 _ _ (0, 0) hb.out]; rfl
    have hmb : (most == 0) = false := beq_eq_false_iff_ne.2 hm
    have hfe := forEach_calls 44 #[.pointer (some ⟨w.heap.size + 1, 0, none⟩), .pointer (some ⟨w.heap.size, 0, none⟩)] (zzStep most) (fun W i outs => ZzRow W w.heap.size (w.heap.size + 1) most outs ∧ outs.length = 2 * i) (w.heap.size + 1) a0 h0
      (fun W i s n hI => ⟨hI.1.drewN n, hI.2⟩)
      (fun W i s p v hI hi hp hv => by
        refine (zzPush_calls W w.heap.size (w.heap.size + 1) most s p v hI.1 (by have := hI.2; omega)).mono ?_
        rintro e w' ⟨rfl, g1, g2⟩
        refine ⟨rfl, ⟨g1, ?_⟩, g2⟩
        have := hI.2
        unfold zzStep
        simp
        omega)
      (fun args W => by first | rfl | kernel_rfl) [] W ⟨⟨by omega, by omega, hb.out, .slice none 0 0, ho.out, own_nil _ _ _ _⟩, rfl⟩
    obtain ⟨R, hR⟩ : ∃ R, foldP (zzStep most) a0.size [] (ns a0) = R := ⟨_, rfl⟩
    rw [hR] at hfe ⊢
    have HFE := Lib.hid hfe
    clear hz hR hfe hm
    go_enter Try.func29, Try.ntmps29
    go_wp2_with (
      go_at_call 43
      refine HFE.out.mono ?_
      rintro e w' ⟨rfl, ⟨i, hr, _⟩, hb2⟩
      obtain ⟨_, hlt, _, v, hh, hown⟩ := hr
      have c0 : w'.cell? ⟨w.heap.size + 1, 0, none⟩ = some v := by rw [cell_of_row w' _ 0 _ _ (0, 0) hh]; rfl
      have HR := Lib.hid (Kd.R_of_own (h1 := fun _ => rfl) (ok := fun _ => True) (own_weaken hown (show w.heap.size ≤ w.heap.size + 1 + 1 by omega)) (fun _ _ => trivial))
      have HB := Lib.hid hb2
      clear hh hown hb2 hlt)
    go_ret
    exact ⟨_, rfl, HR.out, hbl.out.trans ⟨HB.out.os, HB.out.tape, HB.out.output, HB.out.size, fun i hi => HB.out.block i (by omega)⟩⟩
theorem fiberhelpers_ZzParams.calls (a0 : ByteArray) (a1 : Int) (r1 : List ByteArray) (w : World) (h : fiberhelpers_ZzParams.f a0 a1 = some r1) :
    Calls Try.prog 29 #[.string a0, .int .i64 a1] w fun e w' => ∃ v0_ : Value, e = .returned v0_ ∧ Kd.R Kd.string 9 w' w.heap.size (fun _ => True) v0_ r1 ∧ Below w.heap.size w w' := by
  unfold fiberhelpers_ZzParams.f at h
  by_cases hb : a0.size ≤ 1099511627776
  · rw [if_pos hb] at h
    obtain rfl := Option.some.inj h
    exact zzParams_calls a0 a1 w hb
  · rw [if_neg hb] at h
    cases h
end Go.Proofs.Ytgmjaggkiifdjaa.Given
namespace Go.Proofs.Ytgmjaggkiifdjaa.QA
open Go.Proofs.Ytgmjaggkiifdjaa.Given
open Go.Proofs.Ytgmjaggkiifdjaa.PrX
open Go.RowKit Go.Proofs.YtgmjaggkiifdjaaW.PrintWords Go.Proofs.YtgmjaggkiifdjaaW.PrintLast Go.Proofs.YtgmjaggkiifdjaaW.PrintMore
def impl_Params.l0 : Nat → List ByteArray → List (S36) → Int → Option ((List (S36)))
  | 0, _, _, _ => none
  | k + 1, x5, x6, x7 => if (wrap64 (x7 + 1)) < (x5.length : Int) then (if 0 ≤ x7 then (if x7 < (x5.length : Int) then (if 0 ≤ (wrap64 (x7 + 1)) then (if x6.length < 4398046511104 then (impl_Params.l0 k x5 (x6 ++ [(⟨rdOf ByteArray.empty x5 x7, rdOf ByteArray.empty x5 (wrap64 (x7 + 1))⟩ : S36)]) (wrap64 (x7 + 2))) else (none)) else (none)) else (none)) else (none)) else (some x6)
def impl_Params.f (k : Nat) (a0 : ByteArray) (a1 : Int) : Option ((List (S36))) := (fiberhelpers_ZzParams.f a0 a1).bind fun t168 => (impl_Params.l0 k t168 ([] : List (S36)) 0)
def impl_Params.T6 : Bool × List (List Nat × List Nat) := (true, [([], []), ([], []), ([], []), ([1, 2], [1, 2]), ([3], [3]), ([], []), ([], []), ([6], [6]), ([5, 7], [5, 7]), ([8], [8]), ([4, 9], [4, 9]), ([10], [10]), ([0, 11], [0, 11]), ([12, 12, 0, 1, 2, 3, 4, 5, 6, 7, 8, 9, 10, 11, 12], [0, 12])])
def impl_Params.B6 : List Nat := [0, 0, 0, 6, 14, 0, 0, 64, 224, 480, 1022, 2046, 4095, 8191]
theorem impl_Params.tab6 : rtab .any (opsOf Try.f12 6) = impl_Params.T6 := by kernel_rfl
theorem impl_Params.bits6 : waitsOk impl_Params.T6.2 impl_Params.B6 = true := by kernel_rfl
set_option maxHeartbeats 8000000 in
set_option maxRecDepth 100000 in
theorem impl_Params.calls (k : Nat) (a0 : ByteArray) (a1 : Int) (r : List (S36)) (w : World) (h : impl_Params.f k a0 a1 = some r) :
    Calls Try.prog 12 #[.string a0, .int .i64 a1] w fun e w' => ∃ v0_ : Value, e = .returned (v0_) ∧ Kd.R k36 36 w' w.heap.size (fun _ => True) v0_ r ∧ Below w.heap.size w w' := by
  have hu36 := Try.underlying36
  have HB := Aside0.mk (Below.refl w.heap.size w)
  have H : ((fiberhelpers_ZzParams.f a0 a1).bind fun t168 => (impl_Params.l0 k t168 ([] : List (S36)) 0)) = some r := h
  clear h
  replace H := Option.bind_eq_some_iff.mp H
  obtain ⟨t168, A30, H⟩ := H
  replace H : (impl_Params.l0 k t168 ([] : List (S36)) 0) = some r := H
  have A3 := Aside0.mk A30
  clear A30
  have H' := Aside0.mk H
  clear H
  go_enter Try.func12, Try.ntmps12
  go_wp2_with (first | ((with_reducible refine gate_callee (f := 29) rfl ?_); refine goesL_ (some 10) rfl rfl Try.func29 (by kernel_rfl) rfl #[.string a0, .int .i64 a1] rfl (by (try simp only [List.map_toArray, List.map_cons, List.map_nil]); first | done | rfl | (simp only [List.length_drop, List.length_take]; rfl)) ?_; (with_reducible refine (fiberhelpers_ZzParams.calls a0 a1 t168 _ A3.out).mono ?_); rintro e w4 ⟨v169, rfl, ho0, hb⟩; refine ⟨_, rfl, ?_⟩; have n0_ := Aside0.mk (Kd.R_lower ho0 (below_size (by repeat (first | (with_reducible first | exact HB.out | apply below_alloc | apply pw_below_drewN | apply below_drew1) | exact HB.out)))); have n1_ := Aside0.mk (below_step (by repeat (first | (with_reducible first | exact HB.out | apply below_alloc | apply pw_below_drewN | apply below_drew1) | exact HB.out)) hb); clear HB; have HO170 := n0_; have HB := n1_; clear n0_ n1_; (try clear hb); (try clear hb2); (try clear hk); (try clear hi); (try clear ho0)))
  go_loopg [6, 7] k (fun kq v6 v7 w' => ∃ (x6_1 : List (S36)) (x7_1 : Int), v7 = .int .i64 x7_1 ∧ Aside0 (impl_Params.l0 kq t168 x6_1 x7_1 = some r) ∧ Aside0 (kq ≤ k) ∧ Aside0 (Kd.R Kd.string 9 w' w.heap.size (fun _ => True) v169 t168) ∧ Aside0 (Kd.R k36 36 w' w.heap.size (fun _ => True) v6 x6_1) ∧ Aside0 (Below w.heap.size w w'))
  case atStart => exact ⟨(([] : List (S36))), (0), (by first | rfl | (simp; done) | (rw [prx_ne]; first | done | rfl) | (simp [*]; done)), H', ⟨Nat.le_refl _⟩, ⟨by (with_reducible repeat (first | apply Kd.R_alloc | apply Kd.R_drewN | apply Kd.R_drew)); exact HO170.out⟩, ⟨by first | exact Kd.R_nil _ _ _ _ _ | exact Kd.N_nil _ _ _ _ _ | exact Kd.V_nil _ _ _ _ _ | exact Kd.Q_nil _ _ _ _ _ | exact Kd.S_nil _ _ _ _ _⟩, ⟨by repeat (first | (with_reducible first | exact HB.out | apply below_alloc | apply pw_below_drewN | apply below_drew1) | exact HB.out)⟩⟩
  case round =>
    clear H'
    try clear c1
    try clear c2
    try clear p2
    obtain ⟨x6_1, x7_1, rfl, HA, HK1, HO_5, HO_6, HB⟩ := hrel
    cases gk with
    | zero => exact absurd HA.out (by simp [impl_Params.l0])
    | succ k1 =>
      have H := HA.out
      clear HA
      simp only [impl_Params.l0] at H
      by_cases c5 : (wrap64 (x7_1 + 1)) < (t168.length : Int)
      · rw [if_pos c5] at H
        have c5b0 : decide ((wrap64 (x7_1 + 1)) < (t168.length : Int)) = true := decide_eq_true c5
        clear c5
        by_cases c6 : 0 ≤ x7_1
        · rw [if_pos c6] at H
          have c6b0 : decide (0 ≤ x7_1) = true := decide_eq_true c6
          clear c6
          by_cases c7 : x7_1 < (t168.length : Int)
          · rw [if_pos c7] at H
            have c7b0 : decide (x7_1 < (t168.length : Int)) = true := decide_eq_true c7
            clear c7
            obtain ⟨ji8, hji8⟩ : ∃ j_ : Int, (wrap64 (x7_1 + 1)) = j_ := ⟨_, rfl⟩
            replace H : (if 0 ≤ (ji8) then (if x6_1.length < 4398046511104 then (impl_Params.l0 k1 t168 (x6_1 ++ [(⟨rdOf ByteArray.empty t168 x7_1, rdOf ByteArray.empty t168 (ji8)⟩ : S36)]) (wrap64 (x7_1 + 2))) else (none)) else (none)) = some r := by first | (rw [hji8] at H; exact H) | (simp only [hji8] at H ⊢; exact H)
            (try rw [hji8] at c5b0)
            have hji8w : (IntKind.i64.wrap (x7_1 + 1)) = ji8 := (i64_w _).trans hji8
            by_cases c9 : 0 ≤ (ji8)
            · rw [if_pos c9] at H
              have c9b0 : decide (0 ≤ (ji8)) = true := decide_eq_true c9
              clear c9
              by_cases c10 : x6_1.length < 4398046511104
              · rw [if_pos c10] at H
                have LMc10 := Aside0.mk c10
                clear c10
                obtain ⟨y173, hy173⟩ : ∃ y_ : List (S36), y_ = (x6_1 ++ [(⟨rdOf ByteArray.empty t168 x7_1, rdOf ByteArray.empty t168 (ji8)⟩ : S36)]) := ⟨_, rfl⟩
                replace H : (impl_Params.l0 k1 t168 y173 (wrap64 (x7_1 + 2))) = some r := by first | (rw [hy173]; with_reducible exact H) | (have H2_ := (Option.bind_some _ _).symm.trans H; rw [hy173]; with_reducible exact H2_) | (have H2_ := (Option.bind_some _ _).symm.trans H; with_reducible exact H2_) | with_reducible exact H | (rw [hy173]; exact H) | exact H
                have Ny173 := Aside0.mk hy173
                clear hy173
                have H' := Aside0.mk H
                clear H
                obtain ⟨Ao11, co11, eo11⟩ := Kd.R_slice HO_5.out
                subst eo11
                try go_wp2
                have n0_ := Aside0.mk (Kd.R_drew HO_5.out)
                have n1_ := Aside0.mk (Kd.R_drew HO_6.out)
                have n2_ := Aside0.mk (below_drew1 HB.out)
                clear HO_5
                clear HO_6
                clear HB
                have HO_5 := n0_
                have HO_6 := n1_
                have HB := n2_
                clear n0_ n1_ n2_
                have p171 : 0 ≤ (x7_1 : Int) := of_decide_eq_true (by first | (with_reducible assumption) | assumption)
                have q171 : x7_1 < (t168.length : Int) := of_decide_eq_true (by first | (with_reducible assumption) | assumption)
                obtain ⟨ad171, e171, hx171_0⟩ := Kd.at_string (Kd.R_reads' HO_5.out).2.2 x7_1 p171 q171
                cases e171
                replace p171 := eq_true p171
                replace q171 := eq_true q171
                have p172 : 0 ≤ ((ji8) : Int) := of_decide_eq_true (by first | (with_reducible assumption) | assumption)
                have q172 : (ji8) < (t168.length : Int) := of_decide_eq_true (by first | (with_reducible assumption) | assumption)
                obtain ⟨ad172, e172, hx172_0⟩ := Kd.at_string (Kd.R_reads' HO_5.out).2.2 (ji8) p172 q172
                obtain rfl : ad171 = ad172 := (by injection e172)
                replace p172 := eq_true p172
                replace q172 := eq_true q172
                refine start_ (n := 14) (S := fun w' => w'.cell? (ad171.add (x7_1).toNat) = some (.string (rdOf ByteArray.empty t168 x7_1)) ∧ w'.cell? (ad171.add ((ji8)).toNat) = some (.string (rdOf ByteArray.empty t168 (ji8)))) (ds := [11, 12]) #[false,false,false,false,false,false,false,false,false,false,false,false,false,false] (by kernel_rfl) rfl rfl ⟨hx171_0, hx172_0⟩ (fun hHeld => ?_); refine with_tabW impl_Params.tab6 impl_Params.bits6 (fun HT_ HW_ => ?_)
                generalize wr.drew = w12 at HO_5 HO_6 HB hx171_0 hx172_0 hHeld ⊢
                refine pure_ (i := 0) (N := some 18) (v := ?_) (a' := ?_) #[true,false,false,false,false,false,false,false,false,false,false,false,false,false] rfl rfl (any_of HT_.out (by kernel_rfl)) (fun _ _ _ h => h) (Or.inl ⟨by rfl, ?_⟩) ?_ ?_
                rotate_left
                · intro w'
                  go_simp
                  with_reducible rfl
                rotate_left
                · simp only [Act.put, List.setIfInBounds_toArray, List.set_cons_zero, List.set_cons_succ, i64_w, i32_w]
                  rfl
                refine pure_ (i := 1) (N := some 19) (v := ?_) (a' := ?_) #[true,true,false,false,false,false,false,false,false,false,false,false,false,false] rfl rfl (any_of HT_.out (by kernel_rfl)) (fun _ _ _ h => h) (Or.inl ⟨by rfl, ?_⟩) ?_ ?_
                rotate_left
                · intro w'
                  go_simp
                  with_reducible rfl
                rotate_left
                · simp only [Act.put, List.setIfInBounds_toArray, List.set_cons_zero, List.set_cons_succ, i64_w, i32_w]
                  rfl
                refine pure_ (i := 2) (N := some 20) (v := ?_) (a' := ?_) #[true,true,true,false,false,false,false,false,false,false,false,false,false,false] rfl rfl (any_of HT_.out (by kernel_rfl)) (fun _ _ _ h => h) (Or.inl ⟨by rfl, ?_⟩) ?_ ?_
                rotate_left
                · intro w'
                  go_simp
                  with_reducible rfl
                rotate_left
                · simp only [Act.put, List.setIfInBounds_toArray, List.set_cons_zero, List.set_cons_succ, i64_w, i32_w]
                  rfl
                refine pure_ (i := 3) (N := some 21) (v := ?_) (a' := ?_) #[true,true,true,true,false,false,false,false,false,false,false,false,false,false] rfl rfl (any_of HT_.out (by kernel_rfl)) (fun _ _ _ h => h) (Or.inl ⟨by rfl, ?_⟩) ?_ ?_
                rotate_left
                · intro w'
                  go_simp
                  with_reducible rfl
                rotate_left
                · simp only [Act.put, List.setIfInBounds_toArray, List.set_cons_zero, List.set_cons_succ, i64_w, i32_w]
                  rfl
                refine pure_ (i := 5) (N := some 23) (v := ?_) (a' := ?_) #[true,true,true,true,false,true,false,false,false,false,false,false,false,false] rfl rfl (any_of HT_.out (by kernel_rfl)) (fun _ _ _ h => h) (Or.inl ⟨by rfl, ?_⟩) ?_ ?_
                rotate_left
                · intro w'
                  go_simp
                  with_reducible rfl
                rotate_left
                · simp only [Act.put, List.setIfInBounds_toArray, List.set_cons_zero, List.set_cons_succ, i64_w, i32_w]
                  rfl
                refine pure_ (i := 6) (N := some 24) (v := ?_) (a' := ?_) #[true,true,true,true,false,true,true,false,false,false,false,false,false,false] rfl rfl (any_of HT_.out (by kernel_rfl)) (fun _ _ _ h => h) (Or.inl ⟨by rfl, ?_⟩) ?_ ?_
                rotate_left
                · intro w'
                  go_simp
                  with_reducible rfl
                rotate_left
                · simp only [Act.put, List.setIfInBounds_toArray, List.set_cons_zero, List.set_cons_succ, i64_w, i32_w]
                  rfl
                refine pure_ (i := 7) (N := some 25) (v := ?_) (a' := ?_) #[true,true,true,true,false,true,true,true,false,false,false,false,false,false] rfl rfl (any_of HT_.out (by kernel_rfl)) (fun _ _ _ h => h) (Or.inl ⟨by rfl, ?_⟩) ?_ ?_
                rotate_left
                · intro w'
                  go_simp
                  with_reducible rfl
                rotate_left
                · simp only [Act.put, List.setIfInBounds_toArray, List.set_cons_zero, List.set_cons_succ, i64_w, i32_w]
                  rfl
                refine pure_ (i := 8) (N := some 26) (v := ?_) (a' := ?_) #[true,true,true,true,false,true,true,true,true,false,false,false,false,false] rfl rfl (any_of HT_.out (by kernel_rfl)) (fun _ _ _ h => h) (Or.inl ⟨by rfl, ?_⟩) ?_ ?_
                rotate_left
                · intro w'
                  go_simp
                  with_reducible rfl
                rotate_left
                · simp only [Act.put, List.setIfInBounds_toArray, List.set_cons_zero, List.set_cons_succ, i64_w, i32_w]
                  rfl
                refine take_ (i := 4) (N := some 22) (v := ?_) (a' := ?_) #[true,true,true,true,true,true,true,true,true,false,false,false,false,false] rfl rfl (take_ofW HT_.out HW_.out (by kernel_rfl)) (fun _ _ _ h => h) (Or.inl ⟨by rfl, ?_⟩) hHeld ?_ ?_
                rotate_left
                · rintro w' ⟨s0, s1⟩
                  go_simp
                  with_reducible rfl
                rotate_left
                · simp only [Act.put, List.setIfInBounds_toArray, List.set_cons_zero, List.set_cons_succ, i64_w, i32_w]
                  rfl
                refine take_ (i := 9) (N := some 27) (v := ?_) (a' := ?_) #[true,true,true,true,true,true,true,true,true,true,false,false,false,false] rfl rfl (take_ofW HT_.out HW_.out (by kernel_rfl)) (fun _ _ _ h => h) (Or.inl ⟨by rfl, ?_⟩) hHeld ?_ ?_
                rotate_left
                · rintro w' ⟨s0, s1⟩
                  go_simp
                  with_reducible rfl
                rotate_left
                · simp only [Act.put, List.setIfInBounds_toArray, List.set_cons_zero, List.set_cons_succ, i64_w, i32_w]
                  rfl
                refine pure_ (i := 10) (N := some 28) (v := ?_) (a' := ?_) #[true,true,true,true,true,true,true,true,true,true,true,false,false,false] rfl rfl (any_of HT_.out (by kernel_rfl)) (fun _ _ _ h => h) (Or.inl ⟨by rfl, ?_⟩) ?_ ?_
                rotate_left
                · intro w'
                  go_simp
                  with_reducible rfl
                rotate_left
                · simp only [Act.put, List.setIfInBounds_toArray, List.set_cons_zero, List.set_cons_succ, i64_w, i32_w]
                  rfl
                refine last_ (i := 11) (N := some 29) #[true,true,true,true,true,true,true,true,true,true,true,true,false,false] rfl rfl (one_of HT_.out (by kernel_rfl)) (by decide) (fun K hK => ?_)
                refine value_ (w1 := ?_) (v := ?_) (by rfl) rfl ?_ ?_
                rotate_left 2
                · go_simp
                  constructor
                  · rfl
                  · rfl
                refine hK.out _ _ ?_
                clear hK K
                refine norm_ (a' := ?_) ?_ ?_
                rotate_left
                · show Act.put _ (some 29) _ = _
                  simp only [Act.put, List.setIfInBounds_toArray, List.set_cons_zero, List.set_cons_succ, i64_w, i32_w]
                  rfl
                refine last_ (i := 12) (N := some 30) #[true,true,true,true,true,true,true,true,true,true,true,true,true,false] rfl rfl (one_of HT_.out (by kernel_rfl)) (by decide) (fun K hK => ?_)
                refine Kd.R_append_step k36 (w0 := w) w.heap.size (by rfl) (.tmp 18) (.tmp 29) 33 36 (.agg #[(.string ⟨#[]⟩), (.string ⟨#[]⟩)]) 32 rfl Try.underlying33 info36 rfl (by decide) (by omega) u6 x6_1 (⟨rdOf ByteArray.empty t168 x7_1, rdOf ByteArray.empty t168 (ji8)⟩ : S36) [.string (rdOf ByteArray.empty t168 x7_1), .string (rdOf ByteArray.empty t168 (ji8))] (fun _ => True) (fun _ => False) rfl rfl ?aP (fun _ hk => hk.elim) ?aF ?aO ?aB ?aS ?aL ?_
                (case aP => exact k36_mkM _ _ _ (⟨rdOf ByteArray.empty t168 x7_1, rdOf ByteArray.empty t168 (ji8)⟩ : S36))
                (case aB => exact (by repeat (first | (with_reducible first | exact HB.out | apply below_alloc | apply pw_below_drewN | apply below_drew1) | exact HB.out)))
                (case aF => exact (fun _ _ => trivial))
                (case aO => exact (by (with_reducible repeat (first | apply Kd.R_alloc | apply Kd.R_drewN | apply Kd.R_drew)); exact HO_6.out))
                (case aS => exact (below_size (by repeat (first | (with_reducible first | exact HB.out | apply below_alloc | apply pw_below_drewN | apply below_drew1) | exact HB.out))))
                (case aL => have := LMc10.out; omega)
                intro v174 w13 ho hb hg hat
                rw [← Ny173.out] at ho
                have n0_ := Aside0.mk (Kd.R_over' (by (with_reducible repeat (first | apply Kd.R_alloc | apply Kd.R_drewN | apply Kd.R_drew)); exact HO_5.out) (Kd.R_typed (by (with_reducible repeat (first | apply Kd.R_alloc | apply Kd.R_drewN | apply Kd.R_drew)); exact HO_6.out)) (by decide) hg)
                have n1_ := Aside0.mk (hb)
                have n2_ := Aside0.mk (ho)
                clear HO_5
                clear HB
                clear HO_6
                have HO_5 := n0_
                have HB := n1_
                have HO175 := n2_
                clear n0_ n1_ n2_
                clear ho hb hg hat
                refine hK.out _ _ ?_
                clear hK K
                refine norm_ (a' := ?_) ?_ ?_
                rotate_left
                · show Act.put _ (some 30) _ = _
                  simp only [Act.put, List.setIfInBounds_toArray, List.set_cons_zero, List.set_cons_succ, i64_w, i32_w]
                  rfl
                refine pure_ (i := 13) (N := some 6) (v := ?_) (a' := ?_) #[true,true,true,true,true,true,true,true,true,true,true,true,true,true] rfl rfl (any_of HT_.out (by kernel_rfl)) (fun _ _ _ h => h) (Or.inl ⟨by rfl, ?_⟩) ?_ ?_
                rotate_left
                · intro w'
                  go_simp
                  with_reducible rfl
                rotate_left
                · simp only [Act.put, List.setIfInBounds_toArray, List.set_cons_zero, List.set_cons_succ, i64_w, i32_w]
                  rfl
                refine done_ (done_of HT_.out (by kernel_rfl)) ?_
                try go_wp2
                go_roundg k1
                case measure => have := HK1.out; omega
                case rel => exact ⟨(y173), (wrap64 (x7_1 + 2)), (by first | rfl | (simp; done) | (rw [prx_ne]; first | done | rfl) | (simp [*]; done)), H', ⟨by have := HK1.out; omega⟩, ⟨by (with_reducible repeat (first | apply Kd.R_alloc | apply Kd.R_drewN | apply Kd.R_drew)); exact HO_5.out⟩, ⟨by (with_reducible repeat (first | apply Kd.R_alloc | apply Kd.R_drewN | apply Kd.R_drew)); exact HO175.out⟩, ⟨by repeat (first | (with_reducible first | exact HB.out | apply below_alloc | apply pw_below_drewN | apply below_drew1) | exact HB.out)⟩⟩
              · rw [if_neg c10] at H
                exact absurd H (by simp)
            · rw [if_neg c9] at H
              exact absurd H (by simp)
          · rw [if_neg c7] at H
            exact absurd H (by simp)
        · rw [if_neg c6] at H
          exact absurd H (by simp)
      · rw [if_neg c5] at H
        have c5b0 : decide ((wrap64 (x7_1 + 1)) < (t168.length : Int)) = false := decide_eq_false c5
        clear c5
        obtain rfl := Option.some.inj H
        obtain ⟨Ao14, co14, eo14⟩ := Kd.R_slice HO_5.out
        subst eo14
        go_wp2
        go_ret
        exact ⟨_, by first | rfl | (simp [errW_none, errW_some] <;> rfl) | (simp [*, errW_none, errW_some] <;> rfl), by (with_reducible repeat (first | apply Kd.R_alloc | apply Kd.R_drewN | apply Kd.R_drew)); exact HO_6.out, by repeat (first | (with_reducible first | exact HB.out | apply below_alloc | apply pw_below_drewN | apply below_drew1) | exact HB.out)⟩
end Go.Proofs.Ytgmjaggkiifdjaa.QA
namespace Go.Proofs.Ytgmjaggkiifdjaa.Given
open Go.RowKit Go.Proofs.YtgmjaggkiifdjaaW.PrintWords Go.Proofs.YtgmjaggkiifdjaaW.PrintLast Go.Proofs.YtgmjaggkiifdjaaW.PrintMore Go.Proofs.Ytgmjaggkiifdjaa.Base Go.Proofs.Ytgmjaggkiifdjaa.Gv
def eqFold (a b : ByteArray) : Bool := decide ((ns a).map up = (ns b).map up)
def fiberutils_EqualFold.f (a0 a1 : ByteArray) : Option Bool := if a0.size ≤ 4611686018427387904 ∧ a1.size ≤ 4611686018427387904 then some (eqFold a0 a1) else none
section
variable {P : Program} {C : World → Prop} {a : Act} {o : Oper}
theorem quiet_index_tab {K : Act → Prop} (t : TypeId) (x i : Operand) (ho : o.op = .index t x i)
    (S : ByteArray) (n : Int) (k : IntKind) (hx : a.eval x = .string S) (hi : a.eval i = .int k n) (ht : P.underlying t = some .string) (h0 : 0 ≤ n) (h1 : n < S.size) (v : Int) (hv : bt S n = v)
    (hk : K (a.put o.dst (.int .u8 v))) : o.quiet P a C K := by
  refine ⟨_, fun w _ => ?_, hk⟩
  have hn : n.toNat < S.size := by omega
  have hb : ((S[n.toNat]'hn).toNat : Int) = v := by rw [← hv]; exact bt_at S n hn
  have hr : (Instr.index t (.string S) (.int k n)).run P w = .ok (.int .u8 v) w := by
    rw [← hb]
    simp [Instr.index, asIntOf, run_underlying ht, h0, hn]
  have he : (execOp a.eval o).run P w = .ok (.value (.int .u8 v)) w := by
    unfold execOp
    simp only [ho, hx, hi, Sem.run_bind, hr, Result.andThen_ok, Sem.run_pure]
  unfold Oper.quietAt
  rw [he]
  exact ⟨rfl, rfl⟩
theorem quiet_index_fn {K : Act → Prop} (t : TypeId) (x i : Operand) (ho : o.op = .index t x i)
    (S : ByteArray) (n : Int) (k : IntKind) (hx : a.eval x = .string S) (hi : a.eval i = .int k n) (ht : P.underlying t = some .string) (h0 : 0 ≤ n) (h1 : n ≤ 255) (f : Int → Int) (hv : TabIs S f)
    (hk : K (a.put o.dst (.int .u8 (f n)))) : o.quiet P a C K := by
  obtain ⟨m, rfl⟩ := Int.eq_ofNat_of_zero_le h0
  exact quiet_index_tab t x i ho S _ k hx hi ht h0 (by rw [hv.1]; omega) _ (hv.2 ⟨m, by omega⟩) hk
end
theorem drop_cons_ (xs : List Int) (k : Nat) (h : k < xs.length) : xs.drop k = xs.getD k 0 :: xs.drop (k + 1) := by
  rw [List.drop_eq_getElem_cons h, List.getD_eq_getElem?_getD, List.getElem?_eq_getElem h]; rfl
set_option maxHeartbeats 4000000 in
set_option maxRecDepth 100000 in
theorem eqFold_calls (a0 a1 : ByteArray) (w : World) (hbd : a0.size ≤ 4611686018427387904) (hbd1 : a1.size ≤ 4611686018427387904) :
    Calls Try.prog 53 #[.string a0, .string a1] w fun e w' => e = .returned (.bool (eqFold a0 a1)) ∧ Drawn0 w w' := by
  obtain ⟨r, hr⟩ : ∃ r, eqFold a0 a1 = r := ⟨_, rfl⟩
  rw [hr]
  have HR := Lib.hid hr
  clear hr
  by_cases hs : a0.size = a1.size
  · obtain ⟨n, hn⟩ : ∃ n, a0.size = n := ⟨_, rfl⟩
    have hn1 : a1.size = n := by omega
    have HT : Hid (((ns a0).drop n).map up = ((ns a1).drop n).map up) := Lib.hid (by
      rw [List.drop_eq_nil_of_le (by rw [ns_length]; omega), List.drop_eq_nil_of_le (by rw [ns_length]; omega)])
    clear hs
    go_enter Try.func53, Try.ntmps53
    go_wp2
    go_loopw [5] (fun i wi => ∃ (j : Int) (m : Nat), wi = w.drewN m ∧ i = .int .i64 j ∧ -1 ≤ j ∧ j < n ∧ Hid (((ns a0).drop (j + 1).toNat).map up = ((ns a1).drop (j + 1).toNat).map up)) (fun i _ => (intOf i + 1).toNat)
    case atStart => exact ⟨(n : Int) - 1, 0, rfl, by go_num, by omega, by omega, Lib.hid (by rw [show ((n : Int) - 1 + 1).toNat = n by omega]; exact HT.out)⟩
    case round =>
      obtain ⟨j, m, rfl, rfl, hj1, hj2, HS⟩ := hrel
      by_cases hj : 0 ≤ j
      · obtain ⟨k, rfl⟩ := Int.eq_ofNat_of_zero_le hj
        have hk : k < n := by omega
        obtain ⟨c, hc⟩ : ∃ c, (ns a0).getD k 0 = c := ⟨_, rfl⟩
        obtain ⟨d, hd⟩ : ∃ d, (ns a1).getD k 0 = d := ⟨_, rfl⟩
        have hbc := Lib.hid ((bt_ns a0 k).trans hc)
        have hbd := Lib.hid ((bt_ns a1 k).trans hd)
        have hcr : 0 ≤ c ∧ c ≤ 255 := by
          refine ns_range a0 c ?_
          rw [← hc, List.getD_eq_getElem?_getD, List.getElem?_eq_getElem (by rw [ns_length]; omega)]
          exact List.getElem_mem _
        have hdr : 0 ≤ d ∧ d ≤ 255 := by
          refine ns_range a1 d ?_
          rw [← hd, List.getD_eq_getElem?_getD, List.getElem?_eq_getElem (by rw [ns_length]; omega)]
          exact List.getElem_mem _
        have HC := Lib.hid (drop_cons_ (ns a0) k (by rw [ns_length]; omega))
        have HD := Lib.hid (drop_cons_ (ns a1) k (by rw [ns_length]; omega))
        have Hc := Lib.hid hc
        have Hd := Lib.hid hd
        clear hc hd
        by_cases he : up c = up d
        · have heb : (up c != up d) = false := bne_eq_false_iff_eq.2 he
          have HS2 : Hid (((ns a0).drop (((k : Int) - 1 + 1).toNat)).map up = ((ns a1).drop (((k : Int) - 1 + 1).toNat)).map up) := Lib.hid (by
            have h := HS.out
            rw [show ((k : Int) + 1).toNat = k + 1 by omega] at h
            rw [show ((k : Int) - 1 + 1).toNat = k by omega, HC.out, HD.out, List.map_cons, List.map_cons, h, Hc.out, Hd.out, he])
          clear he
          go_wp2
          refine wp_region_quiet_lit (by kernel_rfl) (by kernel_rfl) ?_
          repeat (first
            | (go_big_quiet_want; refine quiet_index_tab 9 _ _ rfl a0 (k : Int) .i64 rfl rfl Try.underlying9 (by omega) (by omega) c hbc.out ?_; go_simp; go_big_quiet_on)
            | (go_big_quiet_want; refine quiet_index_tab 9 _ _ rfl a1 (k : Int) .i64 rfl rfl Try.underlying9 (by omega) (by omega) d hbd.out ?_; go_simp; go_big_quiet_on)
            | (go_big_quiet_want; refine quiet_index_fn 9 _ _ rfl _ c .u8 rfl rfl Try.underlying9 hcr.1 hcr.2 up ?tb ?_; (case tb => decide +kernel); go_simp; go_big_quiet_on)
            | (go_big_quiet_want; refine quiet_index_fn 9 _ _ rfl _ d .u8 rfl rfl Try.underlying9 hdr.1 hdr.2 up ?tb ?_; (case tb => decide +kernel); go_simp; go_big_quiet_on)
            | go_big_quiet_step (fail))
          refine wpQuiet_nil ?_
          rintro _ ⟨nq, rfl⟩
          try go_wp2
          go_roundw
          case rel => exact ⟨(k : Int) - 1, m + nq, rfl, by go_num, by omega, by omega, HS2⟩
          case measure => first | (simp [intOf]; done) | (simp [intOf]; omega)
        · have heb : (up c != up d) = true := bne_iff_ne.2 he
          have hrf : r = false := by
            rw [← HR.out]
            refine decide_eq_false (fun e => he ?_)
            have e1 := congrArg (fun l => l.getD k 0) e
            simp only [List.getD_eq_getElem?_getD, List.getElem?_map] at e1
            rw [List.getElem?_eq_getElem (by rw [ns_length]; omega), List.getElem?_eq_getElem (by rw [ns_length]; omega)] at e1
            have h1 := Hc.out
            have h2 := Hd.out
            rw [List.getD_eq_getElem?_getD, List.getElem?_eq_getElem (by rw [ns_length]; omega)] at h1 h2
            simp only [Option.map_some, Option.getD_some] at e1 h1 h2
            rw [← h1, ← h2]; exact e1
          subst hrf
          clear he
          go_wp2
          refine wp_region_quiet_lit (by kernel_rfl) (by kernel_rfl) ?_
          repeat (first
            | (go_big_quiet_want; refine quiet_index_tab 9 _ _ rfl a0 (k : Int) .i64 rfl rfl Try.underlying9 (by omega) (by omega) c hbc.out ?_; go_simp; go_big_quiet_on)
            | (go_big_quiet_want; refine quiet_index_tab 9 _ _ rfl a1 (k : Int) .i64 rfl rfl Try.underlying9 (by omega) (by omega) d hbd.out ?_; go_simp; go_big_quiet_on)
            | (go_big_quiet_want; refine quiet_index_fn 9 _ _ rfl _ c .u8 rfl rfl Try.underlying9 hcr.1 hcr.2 up ?tb ?_; (case tb => decide +kernel); go_simp; go_big_quiet_on)
            | (go_big_quiet_want; refine quiet_index_fn 9 _ _ rfl _ d .u8 rfl rfl Try.underlying9 hdr.1 hdr.2 up ?tb ?_; (case tb => decide +kernel); go_simp; go_big_quiet_on)
            | go_big_quiet_step (fail))
          refine wpQuiet_nil ?_
          rintro _ ⟨nq, rfl⟩
          try go_wp2
          go_ret
          exact ⟨rfl, by repeat (first | exact Drawn0.refl _ | exact ⟨_, rfl⟩ | apply Drawn0.step)⟩
      · have hrt : r = true := by
          rw [← HR.out]
          have h := HS.out
          rw [show (j + 1).toNat = 0 by omega] at h
          exact decide_eq_true h
        subst hrt
        go_wp2
        go_ret
        exact ⟨rfl, by repeat (first | exact Drawn0.refl _ | exact ⟨_, rfl⟩ | apply Drawn0.step)⟩
  · have hrf : r = false := by
      rw [← HR.out]
      refine decide_eq_false (fun e => hs ?_)
      have := congrArg List.length e
      simpa [ns_length] using this
    subst hrf
    go_enter Try.func53, Try.ntmps53
    go_wp2
    go_ret
    exact ⟨rfl, Drawn0.refl _⟩
theorem fiberutils_EqualFold.calls (a0 a1 : ByteArray) (r : Bool) (w : World) (h : fiberutils_EqualFold.f a0 a1 = some r) :
    Calls Try.prog 53 #[.string a0, .string a1] w fun e w' => e = .returned (.bool r) ∧ Drawn0 w w' := by
  unfold fiberutils_EqualFold.f at h
  by_cases hb : a0.size ≤ 4611686018427387904 ∧ a1.size ≤ 4611686018427387904
  · rw [if_pos hb] at h
    obtain rfl := Option.some.inj h
    exact eqFold_calls a0 a1 w hb.1 hb.2
  · rw [if_neg hb] at h
    cases h
end Go.Proofs.Ytgmjaggkiifdjaa.Given
namespace Go.Proofs.Ytgmjaggkiifdjaa.Given
open Go.RowKit Go.Proofs.YtgmjaggkiifdjaaW.PrintWords Go.Proofs.YtgmjaggkiifdjaaW.PrintLast Go.Proofs.YtgmjaggkiifdjaaW.PrintMore Go.Proofs.Ytgmjaggkiifdjaa.Base Go.Proofs.Ytgmjaggkiifdjaa.Gv
abbrev SP := List (ByteArray × ByteArray)
def noP : ByteArray × ByteArray := (⟨#[]⟩, ⟨#[]⟩)
def findF (p : ByteArray) : SP → Nat
  | [] => 0
  | q :: r => if eqFold p q.1 = true then 0 else 1 + findF p r
theorem findF_le (p : ByteArray) (sp : SP) : findF p sp ≤ sp.length := by
  induction sp with
  | nil => exact Nat.le_refl _
  | cons q r ih => rw [findF, List.length_cons]; split <;> omega
theorem findF_not (p : ByteArray) (sp : SP) : ∀ k (h : k < sp.length), k < findF p sp → eqFold p (sp[k]).1 = false := by
  induction sp with
  | nil => intro k h; simp at h
  | cons q r ih =>
    intro k h hk
    rw [findF] at hk
    split at hk
    · omega
    · rename_i hq
      cases k with
      | zero => simpa using hq
      | succ k => exact ih k (by simpa using h) (by omega)
theorem findF_at (p : ByteArray) (sp : SP) (h : findF p sp < sp.length) : eqFold p (sp[findF p sp]).1 = true := by
  induction sp with
  | nil => simp at h
  | cons q r ih =>
    by_cases hq : eqFold p q.1 = true
    · have e : findF p (q :: r) = 0 := by rw [findF, if_pos hq]
      simp only [e]
      exact hq
    · have e : findF p (q :: r) = findF p r + 1 := by rw [findF, if_neg hq, Nat.add_comm]
      simp only [e, List.getElem_cons_succ]
      exact ih (by rw [e, List.length_cons] at h; omega)
def specStep (sp : SP) (p v : ByteArray) : Bool × SP :=
  if p.toList = ([113] : List UInt8) ∨ p.toList = ([81] : List UInt8) then (false, sp)
  else if findF p sp < sp.length then (false, sp.set (findF p sp) ((sp.getD (findF p sp) noP).1, v))
  else (true, sp ++ [(p, v)])
def hitStep (q : ByteArray × ByteArray) (s : Bool × Bool) (p v : ByteArray) : Bool × (Bool × Bool) :=
  if eqFold q.1 p = true then (false, (true, eqFold q.2 v)) else (true, s)
def hitOf (a1 : ByteArray) (q : ByteArray × ByteArray) : Bool := (foldP (hitStep q) a1.size (false, true) (ns a1)).1 && (foldP (hitStep q) a1.size (false, true) (ns a1)).2
def specOf (a0 : ByteArray) : SP := foldP specStep a0.size [] (ns a0)
def matchOf (a0 a1 : ByteArray) : Bool := if a0.size = 0 then true else (specOf a0).all (hitOf a1)
def fiberhelpers_paramsMatch.f (a0 a1 : ByteArray) : Option Bool := if a0.size ≤ 1099511627776 ∧ a1.size ≤ 1099511627776 then some (matchOf a0 a1) else none
def flatS (sp : SP) : List Value := sp.flatMap fun p => [.string p.1, .string p.2]
theorem flatS_append (a b : SP) : flatS (a ++ b) = flatS a ++ flatS b := by unfold flatS; rw [List.flatMap_append]
theorem flatS_cons (q : ByteArray × ByteArray) (r : SP) : flatS (q :: r) = .string q.1 :: .string q.2 :: flatS r := by
  unfold flatS; rw [List.flatMap_cons]; rfl
theorem flatS_key (sp : SP) : ∀ (i : Nat) (h : i < sp.length), (flatS sp)[i * 2]? = some (.string (sp[i]).1) := by
  induction sp with
  | nil => intro i h; simp at h
  | cons q r ih =>
    intro i h
    rw [flatS_cons]
    cases i with
    | zero => rfl
    | succ i => rw [show (i + 1) * 2 = i * 2 + 1 + 1 by omega, List.getElem?_cons_succ, List.getElem?_cons_succ]; exact ih i (by simpa using h)
theorem flatS_val (sp : SP) : ∀ (i : Nat) (h : i < sp.length), (flatS sp)[i * 2 + 1]? = some (.string (sp[i]).2) := by
  induction sp with
  | nil => intro i h; simp at h
  | cons q r ih =>
    intro i h
    rw [flatS_cons]
    cases i with
    | zero => rfl
    | succ i => rw [show (i + 1) * 2 + 1 = i * 2 + 1 + 1 + 1 by omega, List.getElem?_cons_succ, List.getElem?_cons_succ]; exact ih i (by simpa using h)
theorem flatS_set (sp : SP) (v : ByteArray) : ∀ (i : Nat) (h : i < sp.length), (flatS sp).set (i * 2 + 1) (.string v) = flatS (sp.set i ((sp[i]).1, v)) := by
  induction sp with
  | nil => intro i h; simp at h
  | cons q r ih =>
    intro i h
    cases i with
    | zero => rfl
    | succ i =>
      rw [flatS_cons, show (i + 1) * 2 + 1 = i * 2 + 1 + 1 + 1 by omega, List.set_cons_succ, List.set_cons_succ, ih i (by simpa using h)]
      rfl
def SpRow (w : World) (h o : Nat) (sp : SP) : Prop :=
  h ≤ o ∧ ∃ g cap, w.heap[o]? = some (.cells #[.slice (some ⟨g, 0, none⟩) sp.length cap] 82 (0, 0)) ∧ g ≠ o ∧ w.ownsRow h 83 2 (.slice (some ⟨g, 0, none⟩) sp.length cap) sp.length (flatS sp)
theorem SpRow.drewN {w : World} {h o : Nat} {sp : SP} (hr : SpRow w h o sp) (k : Nat) : SpRow (w.drewN k) h o sp := hr
open Go.Proofs.Ytgmjaggkiifdjaa.QA
set_option maxHeartbeats 4000000 in
set_option maxRecDepth 100000 in
theorem put_calls (w : World) (h o : Nat) (sp : SP) (p v : ByteArray) (hr : SpRow w h o sp) (hlen : (sp.length + 1) * 32 ≤ 140737488355328) (hp : p.size ≤ 1099511627776) (hs : ∀ q ∈ sp, q.1.size ≤ 1099511627776) :
    Calls Try.prog 52 #[.string p, .string v, .pointer (some ⟨o, 0, none⟩)] w fun e w' => e = .returned (.bool (specStep sp p v).1) ∧ SpRow w' h o (specStep sp p v).2 ∧ Below h w w' := by
  by_cases q1 : p.toList = ([113] : List UInt8)
  · have e1 : specStep sp p v = (false, sp) := by unfold specStep; rw [if_pos (.inl q1)]
    rw [e1]
    have q1b : (p.toList == ([113] : List UInt8)) = true := beq_iff_eq.2 q1
    have HR := Lib.hid hr
    clear hr hs e1 q1
    go_enter Try.func52, Try.ntmps52
    go_wp2
    go_ret
    exact ⟨rfl, HR.out, Below.refl _ _⟩
  · by_cases q2 : p.toList = ([81] : List UInt8)
    · have e1 : specStep sp p v = (false, sp) := by unfold specStep; rw [if_pos (.inr q2)]
      rw [e1]
      have q1b : (p.toList == ([113] : List UInt8)) = false := beq_eq_false_iff_ne.2 q1
      have q2b : (p.toList == ([81] : List UInt8)) = true := beq_iff_eq.2 q2
      have HR := Lib.hid hr
      clear hr hs e1 q1 q2
      go_enter Try.func52, Try.ntmps52
      go_wp2
      go_ret
      exact ⟨rfl, HR.out, Below.refl _ _⟩
    · have e1 : specStep sp p v = if findF p sp < sp.length then (false, sp.set (findF p sp) ((sp.getD (findF p sp) noP).1, v)) else (true, sp ++ [(p, v)]) := by
        unfold specStep; rw [if_neg (fun e => e.elim q1 q2)]
      rw [e1]
      have q1b : (p.toList == ([113] : List UInt8)) = false := beq_eq_false_iff_ne.2 q1
      have q2b : (p.toList == ([81] : List UInt8)) = false := beq_eq_false_iff_ne.2 q2
      obtain ⟨N, hN⟩ : ∃ N, findF p sp = N := ⟨_, rfl⟩
      have hNl : N ≤ sp.length := by rw [← hN]; exact findF_le _ _
      have HNOT : Hid (∀ k (hk : k < sp.length), k < N → fiberutils_EqualFold.f p (sp[k]).1 = some false) := Lib.hid (fun k hk hkn => by
        unfold fiberutils_EqualFold.f
        rw [if_pos ⟨by omega, by have := hs _ (List.getElem_mem hk); omega⟩, findF_not p sp k hk (by rw [hN]; exact hkn)])
      have HAT : Hid (∀ (hk : N < sp.length), fiberutils_EqualFold.f p (sp[N]).1 = some true) := Lib.hid (fun hk => by
        unfold fiberutils_EqualFold.f
        have := findF_at p sp (by rw [hN]; exact hk)
        simp only [hN] at this
        rw [if_pos ⟨by omega, by have := hs _ (List.getElem_mem hk); omega⟩, this])
      rw [hN]
      obtain ⟨hho, g, cap, hh, hgo, ho⟩ := hr
      have hgb : h ≤ g := own_base ho g rfl
      have hol : o < w.heap.size := (Array.getElem?_eq_some_iff.1 hh).1
      have hcap : sp.length ≤ cap := own_cap ho
      have hcapm : cap ≤ maxLen := by
        rcases ho.2 with ⟨e, _⟩ | ⟨_, _, _, e, _, _, _, hm, _⟩
        · cases e
        · cases e; exact hm
      have c0 : ∀ n : Nat, (w.drewN n).cell? ⟨o, 0, none⟩ = some (.slice (some ⟨g, 0, none⟩) sp.length cap) := fun n => by rw [cell_of_row (w.drewN n) o 0 _ _ (0, 0) hh]; rfl
      have HO := Lib.hid ho
      have HH := Lib.hid hh
      have hkeys : Hid (∀ k (hk : k < sp.length) (n : Nat), (w.drewN n).cell? ⟨g, k * 2, none⟩ = some (.string (sp[k]).1)) := Lib.hid (fun k hk n => by
        have := World.ownsRow.cellAt ho (k * 2) (by omega)
        rw [flatS_key sp k hk] at this
        exact this)
      have hsl : (sp.length : Int) ≤ 4398046511104 := by omega
      have hinfo : (Try.prog.info? 83).map (fun i => (i.zero, i.size, i.bytes)) = some (some (.agg #[.string ByteArray.empty, .string ByteArray.empty]), 2, 32) := by kernel_rfl
      obtain ⟨i0, hi, hz0, hz1, hz2⟩ := info_parts hinfo
      obtain ⟨r, hres⟩ : ∃ r, (if N < sp.length then (false, sp.set N ((sp.getD N noP).1, v)) else (true, sp ++ [(p, v)])) = r := ⟨_, rfl⟩
      rw [hres]
      have HRES := Lib.hid hres
      clear e1 q1 q2 hN ho hh hs hres
      go_enter Try.func52, Try.ntmps52
      have c00 : w.cell? ⟨o, 0, none⟩ = some (.slice (some ⟨g, 0, none⟩) sp.length cap) := c0 0
      have C0 := Lib.hid c0
      clear c0
      go_wp2
      go_loopw [5, 6, 15] (fun s5 _ iv wi => ∃ (k m : Nat), s5 = .bool false ∧ wi = w.drewN m ∧ iv = .int .i64 k ∧ k ≤ N) (fun _ _ iv _ => sp.length - (intOf iv).toNat)
      case atStart => exact ⟨0, 0, rfl, rfl, rfl, by omega⟩
      case round =>
        obtain ⟨k, m, rfl, rfl, rfl, hkN⟩ := hrel
        have c1 := C0.out m
        clear c00
        by_cases hk : k < sp.length
        · obtain ⟨key, hkey⟩ : ∃ key, (sp[k]).1 = key := ⟨_, rfl⟩
          have c2 := hkeys.out k hk m
          rw [hkey] at c2
          by_cases hkn : k < N
          · have HE : Hid (fiberutils_EqualFold.f p key = some false) := Lib.hid (by rw [← hkey]; exact HNOT.out k hk hkn)
            clear hkey
            go_wp2_with (go_at_call 53; refine (fiberutils_EqualFold.calls p key false _ HE.out).mono ?_; rintro e w' ⟨rfl, ⟨n1, rfl⟩⟩)
            go_roundw
            case rel => exact ⟨k + 1, m + n1, by first | rfl | trivial, by first | rfl | simp, by go_num, by omega⟩
            case measure => simp [intOf]; omega
          · obtain rfl : k = N := by omega
            have HE : Hid (fiberutils_EqualFold.f p key = some true) := Lib.hid (by rw [← hkey]; exact HAT.out hk)
            have hfz : Hid (∀ n : Nat, (w.drewN n).frozen? ⟨g, k * 2 + 1, none⟩ = false) := Lib.hid (fun n => World.ownsRow.frozenAt (w := w.drewN n) HO.out (k * 2 + 1))
            have C0' := C0
            have c5 : w.cell? ⟨g, k * 2 + 1, none⟩ = some (.string (sp[k]).2) := by
              have := World.ownsRow.cellAt HO.out (k * 2 + 1) (by omega)
              rw [flatS_val sp k hk] at this
              exact this
            have C5 := Lib.hid c5
            clear c5
            clear hkey
            go_wp2_with (go_at_call 53; refine (fiberutils_EqualFold.calls p key true _ HE.out).mono ?_; rintro e w' ⟨rfl, ⟨n1, rfl⟩⟩; have fz := hfz.out (m + n1); have c4 := C0'.out (m + n1); have c5 := C5.out)
            go_ret
            have hr2 : r = (false, sp.set k ((sp.getD k noP).1, v)) := by rw [← HRES.out, if_pos hk]
            subst hr2
            refine ⟨rfl, ⟨hho, g, cap, ?_, hgo, ?_⟩, (pw_below_drewN (Below.refl h w) (m + n1)).setCell (p := ⟨g, k * 2 + 1, none⟩) hgb _⟩
            · rw [List.length_set, Below.heap_setCell _ _ _ _ (show o ≠ g from fun e => hgo e.symm)]
              exact HH.out
            · have hst := World.ownsRow.stored (w := w.drewN (m + n1)) HO.out (k * 2 + 1) (.string v)
              rw [flatS_set sp v k hk] at hst
              rw [List.length_set, List.getD_eq_getElem?_getD, List.getElem?_eq_getElem hk]
              exact hst.1
        · obtain rfl : k = sp.length := by omega
          have HOm : Hid ((w.drewN m).ownsRow h 83 2 (.slice (some ⟨g, 0, none⟩) sp.length cap) sp.length (flatS sp)) := HO
          have hr2 : r = (true, sp ++ [(p, v)]) := by rw [← HRES.out, if_neg (by omega)]
          subst hr2
          go_wp2_with (at_builtin; refine wpList_append_own _ rfl _ _ 82 rfl h 83 i0 (.agg #[.string ByteArray.empty, .string ByteArray.empty]) 2 32 Try.underlying82 hi hz0 hz1 hz2 rfl (by decide) _ _ _ rfl (HOm.out.alloc _) ⟨w.heap.size, 0, none⟩ 1 1 [.string p, .string v] rfl rfl ?c1 ?c2 ?c3 ?c4 ?c5 ?_)
          case c1 =>
            intro j u hj
            obtain ⟨W, hW⟩ : ∃ W, w.drewN m = W := ⟨_, rfl⟩
            have hz : w.heap.size = W.heap.size := by rw [← hW]; rfl
            rw [hW, hz]
            match j, hj with
            | 0, hj => simp at hj; subst hj; simp [Addr.add]
            | 1, hj => simp at hj; subst hj; simp [Addr.add]
          case c2 =>
            intro u hu
            simp only [List.mem_cons, List.not_mem_nil, or_false] at hu
            rcases hu with rfl | rfl <;> rfl
          case c3 => unfold maxLen; omega
          case c4 => exact hlen
          case c5 => simp; omega
          intro v' w2 hown' hgrow _
          have hold : ∀ k, k < w.heap.size → k ≠ g → w2.heap[k]? = w.heap[k]? := fun k hk hkg => by
            rw [hgrow.block k (by simp; omega) (by simp [Value.ownBlock]; exact hkg)]
            exact Below.heap_alloc _ _ _ (by simpa using hk)
          have hb2 : w2.heap[o]? = some (.cells #[.slice (some ⟨g, 0, none⟩) sp.length cap] 82 (0, 0)) := by rw [hold o hol (fun e => hgo e.symm)]; exact HH.out
          have d0 : w2.cell? ⟨o, 0, none⟩ = some (.slice (some ⟨g, 0, none⟩) sp.length cap) := by rw [cell_of_row w2 o 0 _ _ (0, 0) hb2]; rfl
          have f0 : w2.frozen? ⟨o, 0, none⟩ = false := frozen_of_row _ _ 0 _ _ hb2
          obtain ⟨g', cap', hv', hg'⟩ : ∃ g' cap', v' = .slice (some ⟨g', 0, none⟩) (sp.length + 1) cap' ∧ ∃ cur, w2.heap[g']? = some (.cells cur 83 (0, 0)) := by
            rcases hown'.2 with ⟨_, h0⟩ | ⟨g', cap', cur, hv, _, hg, _⟩
            · omega
            · exact ⟨g', cap', hv, cur, hg⟩
          subst hv'
          have hgo' : g' ≠ o := by
            rintro rfl
            obtain ⟨cur, hcur⟩ := hg'
            rw [hb2] at hcur
            simp at hcur
          have hbw2 : Below h w w2 := by
            refine ⟨hgrow.os, hgrow.tape, hgrow.output, ?_, fun k hk => hold k (by omega) (by omega)⟩
            have := hgrow.size
            simp at this
            omega
          have HOW := Lib.hid hown'
          have HB2 := Lib.hid hb2
          have HW2 := Lib.hid hbw2
          have HGO := Lib.hid hgo'
          clear hown' hb2 hbw2 hgrow hold hi hz0 hz1 hz2 hinfo hg' hgo'
          go_wp2
          go_ret
          refine ⟨rfl, ⟨hho, g', cap', ?_, HGO.out, ?_⟩, HW2.out.setCell (p := ⟨o, 0, none⟩) hho _⟩
          · have := heap_setCell_same w2 o 0 _ 82 (.slice (some ⟨g', 0, none⟩) (sp.length + 1) cap') HB2.out
            rw [List.length_append, List.length_singleton]
            simpa using this
          · have hm := own_move (w1 := w2.setCell ⟨o, 0, none⟩ (.slice (some ⟨g', 0, none⟩) (sp.length + 1) cap')) HOW.out (fun k hk => Below.heap_setCell _ _ _ _ (by
              have : g' = k := by simpa [Value.ownBlock] using hk
              rw [← this]; exact HGO.out))
            rw [flatS_append, List.length_append, List.length_singleton]
            exact hm
theorem SpRow.kept {w : World} {h o c : Nat} {sp : SP} {cs : Array Value} (hr : SpRow w h o sp) (hc : w.heap[c]? = some (.cells cs 4 (0, 0))) (u : Value) : SpRow (w.setCell ⟨c, 0, none⟩ u) h o sp := by
  obtain ⟨h1, g, cap, hh, hgo, ho⟩ := hr
  have hoc : o ≠ c := by rintro rfl; rw [hh] at hc; simp at hc
  refine ⟨h1, g, cap, ?_, hgo, ?_⟩
  · rw [Below.heap_setCell _ _ _ _ hoc]; exact hh
  · exact own_setCell ho (own_ne ho hc (by decide)) u
theorem SpRow.below {w w' : World} {h o : Nat} {sp : SP} (hr : SpRow w h o sp) (hb : Below w.heap.size w w') : SpRow w' h o sp := by
  obtain ⟨h1, g, cap, hh, hgo, ho⟩ := hr
  have hol : o < w.heap.size := (Array.getElem?_eq_some_iff.1 hh).1
  exact ⟨h1, g, cap, by rw [hb.block o hol]; exact hh, hgo, pw_own_below ho hb⟩
structure HitRow (w : World) (h o b fb ab : Nat) (sp : SP) (k : Nat) (s : Bool × Bool) : Prop where
  row : SpRow w h o sp
  at_ : w.heap[b]? = some (.cells #[.int .i64 k] 3 (0, 0))
  hit : w.heap[fb]? = some (.cells #[.bool s.1] 4 (0, 0))
  all : w.heap[ab]? = some (.cells #[.bool s.2] 4 (0, 0))
theorem HitRow.set_hit {w : World} {h o b fb ab : Nat} {sp : SP} {k : Nat} {s : Bool × Bool} (hr : HitRow w h o b fb ab sp k s) (hne : fb ≠ ab) (x : Bool) : HitRow (w.setCell ⟨fb, 0, none⟩ (.bool x)) h o b fb ab sp k (x, s.2) := by
  refine ⟨hr.row.kept hr.hit _, ?_, ?_, ?_⟩
  · rw [Below.heap_setCell _ _ _ _ (show b ≠ fb by rintro rfl; have := hr.at_; rw [hr.hit] at this; simp at this)]; exact hr.at_
  · have := heap_setCell_same w fb 0 _ 4 (.bool x) hr.hit; simpa using this
  · rw [Below.heap_setCell _ _ _ _ (show ab ≠ fb from hne.symm)]; exact hr.all
theorem HitRow.set_all {w : World} {h o b fb ab : Nat} {sp : SP} {k : Nat} {s : Bool × Bool} (hr : HitRow w h o b fb ab sp k s) (hne : fb ≠ ab) (x : Bool) : HitRow (w.setCell ⟨ab, 0, none⟩ (.bool x)) h o b fb ab sp k (s.1, x) := by
  refine ⟨hr.row.kept hr.all _, ?_, ?_, ?_⟩
  · rw [Below.heap_setCell _ _ _ _ (show b ≠ ab by rintro rfl; have := hr.at_; rw [hr.all] at this; simp at this)]; exact hr.at_
  · rw [Below.heap_setCell _ _ _ _ (show fb ≠ ab from hne)]; exact hr.hit
  · have := heap_setCell_same w ab 0 _ 4 (.bool x) hr.all; simpa using this
theorem HitRow.drewN {w : World} {h o b fb ab : Nat} {sp : SP} {k : Nat} {s : Bool × Bool} (hr : HitRow w h o b fb ab sp k s) (n : Nat) : HitRow (w.drewN n) h o b fb ab sp k s := ⟨hr.row, hr.at_, hr.hit, hr.all⟩
theorem eqFold_f (a b : ByteArray) (ha : a.size ≤ 1099511627776) (hb : b.size ≤ 1099511627776) : fiberutils_EqualFold.f a b = some (eqFold a b) := by
  unfold fiberutils_EqualFold.f
  rw [if_pos ⟨by omega, by omega⟩]
set_option maxHeartbeats 4000000 in
set_option maxRecDepth 100000 in
theorem hit_calls (w : World) (h o b fb ab : Nat) (sp : SP) (k : Nat) (hk : k < sp.length) (s : Bool × Bool) (p v : ByteArray) (hr : HitRow w h o b fb ab sp k s) (hne : fb ≠ ab) (hle : ab ≤ fb)
    (hp : p.size ≤ 1099511627776) (hv : v.size ≤ 1099511627776) (hs : (sp[k]).1.size ≤ 1099511627776 ∧ (sp[k]).2.size ≤ 1099511627776) (hsl : sp.length ≤ 9223372036854775807) :
    Calls Try.prog 54 #[.string p, .string v, .pointer (some ⟨o, 0, none⟩), .pointer (some ⟨b, 0, none⟩), .pointer (some ⟨fb, 0, none⟩), .pointer (some ⟨ab, 0, none⟩)] w
      fun e w' => e = .returned (.bool (hitStep (sp[k]) s p v).1) ∧ HitRow w' h o b fb ab sp k (hitStep (sp[k]) s p v).2 ∧ Below ab w w' := by
  obtain ⟨hho, g, cap, hh, hgo, ho⟩ := hr.row
  have c0 : ∀ n : Nat, (w.drewN n).cell? ⟨o, 0, none⟩ = some (.slice (some ⟨g, 0, none⟩) sp.length cap) := fun n => by rw [cell_of_row (w.drewN n) o 0 _ _ (0, 0) hh]; rfl
  have cb : ∀ n : Nat, (w.drewN n).cell? ⟨b, 0, none⟩ = some (.int .i64 k) := fun n => by rw [cell_of_row (w.drewN n) b 0 _ _ (0, 0) hr.at_]; rfl
  obtain ⟨key, hkey⟩ : ∃ x, (sp[k]).1 = x := ⟨_, rfl⟩
  obtain ⟨val, hval⟩ : ∃ x, (sp[k]).2 = x := ⟨_, rfl⟩
  have hq : sp[k] = (key, val) := by rw [← hkey, ← hval]
  have ck : w.cell? ⟨g, k * 2, none⟩ = some (.string key) := by
    have := World.ownsRow.cellAt ho (k * 2) (by omega)
    rw [flatS_key sp k hk, hkey] at this
    exact this
  have cv : w.cell? ⟨g, k * 2 + 1, none⟩ = some (.string val) := by
    have := World.ownsRow.cellAt ho (k * 2 + 1) (by omega)
    rw [flatS_val sp k hk, hval] at this
    exact this
  rw [hkey, hval] at hs
  rw [hq]
  have hE1 := Lib.hid (eqFold_f key p hs.1 hp)
  have hE2 := Lib.hid (eqFold_f val v hs.2 hv)
  have c00 : w.cell? ⟨o, 0, none⟩ = some (.slice (some ⟨g, 0, none⟩) sp.length cap) := c0 0
  have cb0 : w.cell? ⟨b, 0, none⟩ = some (.int .i64 k) := cb 0
  have HR := Lib.hid hr
  have HVAL := Lib.hid hval
  clear hh ho hkey hval hq hs hr
  cases he : eqFold key p with
  | false =>
    rw [he] at hE1
    have e1 : hitStep (key, val) s p v = (true, s) := by unfold hitStep; rw [if_neg (by rw [he]; simp)]
    rw [e1]
    clear e1 he hE2 cv
    go_enter Try.func54, Try.ntmps54
    go_wp2_with (go_at_call 53; refine (fiberutils_EqualFold.calls key p false _ hE1.out).mono ?_; rintro e w' ⟨rfl, ⟨n1, rfl⟩⟩)
    go_ret
    exact ⟨rfl, HR.out.drewN n1, pw_below_drewN (Below.refl _ _) n1⟩
  | true =>
    rw [he] at hE1
    have e1 : hitStep (key, val) s p v = (false, (true, eqFold val v)) := by unfold hitStep; rw [if_pos he]
    rw [e1]
    obtain ⟨y, hy⟩ : ∃ y, eqFold val v = y := ⟨_, rfl⟩
    rw [hy] at hE2
    rw [hy]
    clear e1 he hy
    have facts : Hid (∀ n1 : Nat, HitRow ((w.drewN n1).setCell ⟨fb, 0, none⟩ (.bool true)) h o b fb ab sp k (true, s.2)) := Lib.hid (fun n1 => (HR.out.drewN n1).set_hit hne true)
    go_enter Try.func54, Try.ntmps54
    go_upto_region 3 with (go_at_call 53; refine (fiberutils_EqualFold.calls key p true _ hE1.out).mono ?_; rintro e w' ⟨rfl, ⟨n1, rfl⟩⟩; have fz := frozen_of_row (w.drewN n1) fb 0 _ _ HR.out.hit; have fc : w.cell? ⟨fb, 0, none⟩ = some (.bool s.1) := (cell_of_row w fb 0 _ _ (0, 0) HR.out.hit).trans rfl)
    obtain ⟨W1, hW1⟩ : ∃ W, (w.drewN n1).setCell ⟨fb, 0, none⟩ (.bool true) = W := ⟨_, rfl⟩
    have hr1 := facts.out n1
    have hbl1 : Below ab w W1 := by rw [← hW1]; exact (pw_below_drewN (Below.refl ab w) n1).setCell (p := ⟨fb, 0, none⟩) hle _
    rw [hW1] at hr1 ⊢
    obtain ⟨hho1, g1, cap1, hh1, hgo1, ho1⟩ := hr1.row
    have d0 : W1.cell? ⟨o, 0, none⟩ = some (.slice (some ⟨g1, 0, none⟩) sp.length cap1) := by rw [cell_of_row W1 o 0 _ _ (0, 0) hh1]; rfl
    have d1 : W1.cell? ⟨b, 0, none⟩ = some (.int .i64 k) := by rw [cell_of_row W1 b 0 _ _ (0, 0) hr1.at_]; rfl
    have d2 : W1.cell? ⟨g1, k * 2 + 1, none⟩ = some (.string val) := by
      have := World.ownsRow.cellAt ho1 (k * 2 + 1) (by omega)
      rw [flatS_val sp k hk, HVAL.out] at this
      exact this
    have HR1 := Lib.hid hr1
    have HBL1 := Lib.hid hbl1
    clear c00 cb0 ck cv c0 cb fz fc hh1 ho1 hr1 hbl1 facts HR hW1
    go_wp2_with (go_at_call 53; refine (fiberutils_EqualFold.calls val v y _ hE2.out).mono ?_; rintro e w' ⟨rfl, ⟨n2, rfl⟩⟩; have fz2 := frozen_of_row (W1.drewN n2) ab 0 _ _ HR1.out.all; have fc2 : W1.cell? ⟨ab, 0, none⟩ = some (.bool s.2) := (cell_of_row W1 ab 0 _ _ (0, 0) HR1.out.all).trans rfl)
    go_ret
    exact ⟨rfl, (HR1.out.drewN n2).set_all hne y, HBL1.out.trans ((pw_below_drewN (Below.refl ab W1) n2).setCell (p := ⟨ab, 0, none⟩) (Nat.le_refl _) _)⟩
theorem below_weaken_m {B C : Nat} {a b : World} (h : B ≤ C) (k : Below C a b) : Below B a b := ⟨k.os, k.tape, k.output, k.size, fun i hi => k.block i (by omega)⟩
set_option maxHeartbeats 4000000 in
set_option maxRecDepth 100000 in
theorem match_calls (a0 a1 : ByteArray) (w : World) (h0 : a0.size ≤ 1099511627776) (h1 : a1.size ≤ 1099511627776) :
    Calls Try.prog 45 #[.string a0, .string a1] w fun e w' => e = .returned (.bool (matchOf a0 a1)) ∧ Below w.heap.size w w' := by
  have hem : a0.toList.isEmpty = (ns a0).isEmpty := by
    have := toList_ne_nil a0
    rw [Go.Proofs.Ytgmjaggkiifdjaa.PrX.prx_ne] at this
    exact Bool.not_inj this
  by_cases z : a0.size = 0
  · have hz : matchOf a0 a1 = true := by unfold matchOf; rw [if_pos z]
    have zb : a0.toList.isEmpty = true := by rw [hem, List.eq_nil_of_length_eq_zero (show (ns a0).length = 0 by rw [ns_length]; exact z)]; rfl
    have zc : (a0.toList == ([] : List UInt8)) = true := by simpa using zb
    rw [hz]
    clear hz hem
    go_enter Try.func45, Try.ntmps45
    go_wp2
    go_ret
    exact ⟨rfl, Below.refl _ _⟩
  · have hz : matchOf a0 a1 = (specOf a0).all (hitOf a1) := by unfold matchOf; rw [if_neg z]
    have zb : a0.toList.isEmpty = false := by
      rw [hem]
      cases hx : ns a0 with
      | nil => have := ns_length a0; rw [hx] at this; exact absurd this.symm z
      | cons x l => rfl
    have zc : (a0.toList == ([] : List UInt8)) = false := by simpa using zb
    rw [hz]
    have hinfo : (Try.prog.info? 83).map (fun i => (i.zero, i.size, i.bytes)) = some (some (.agg #[.string ByteArray.empty, .string ByteArray.empty]), 2, 32) := by kernel_rfl
    obtain ⟨i0, hi, hz0, hz1, hz2⟩ := info_parts hinfo
    obtain ⟨W0, hmk, hown0, hgrow0⟩ := run_make_own (P := Try.prog) w w.heap.size 82 83 i0 (.agg #[.string ByteArray.empty, .string ByteArray.empty]) 2 Try.underlying82 hi hz0 hz1 .i64 .i64 2 (by rw [hz2]; decide) (by decide) (Nat.le_refl _)
    have hmk2 : (Instr.makeSlice 82 (.int .i64 0) (.int .i64 2)).run Try.prog w = .ok (.slice (some ⟨w.heap.size, 0, none⟩) 0 2) W0 := hmk
    clear hmk
    have hgl : w.heap.size < W0.heap.size := own_lt hown0 _ rfl
    have hb0 : Below w.heap.size w W0 := ⟨hgrow0.os, hgrow0.tape, hgrow0.output, by omega, fun k hk => hgrow0.block k hk (by simp)⟩
    have HW0 := Lib.hid hown0
    have HB0 := Lib.hid hb0
    obtain ⟨sp, hsp⟩ : ∃ sp, specOf a0 = sp := ⟨_, rfl⟩
    rw [hsp]
    have HB1 : Hid (Below w.heap.size w (W0.alloc (.cells #[.slice (some ⟨w.heap.size, 0, none⟩) 0 2] 82))) := Lib.hid (hb0.alloc (by omega) _)
    have hin0 : SpRow (W0.alloc (.cells #[.slice (some ⟨w.heap.size, 0, none⟩) 0 2] 82)) w.heap.size W0.heap.size [] :=
      ⟨by omega, w.heap.size, 2, heap_alloc_new W0 _, by omega, hown0.alloc _⟩
    have hfe := forEach_calls 52 #[.pointer (some ⟨W0.heap.size, 0, none⟩)] specStep (fun W i sp => SpRow W w.heap.size W0.heap.size sp ∧ sp.length ≤ i ∧ ∀ q ∈ sp, q.1.size ≤ 1099511627776 ∧ q.2.size ≤ 1099511627776) w.heap.size a0 h0
      (fun W i s n hI => ⟨hI.1.drewN n, hI.2⟩)
      (fun W i s p v hI hi hp hv => by
        refine (put_calls W w.heap.size W0.heap.size s p v hI.1 (by have := hI.2.1; omega) hp (fun q hq => (hI.2.2 q hq).1)).mono ?_
        rintro e w' ⟨rfl, g1, g2⟩
        refine ⟨rfl, ⟨g1, ?_, ?_⟩, g2⟩
        · have := hI.2.1
          unfold specStep
          split
          · simp; omega
          · split
            · simp; omega
            · simp; omega
        · unfold specStep
          split
          · exact hI.2.2
          · split
            · rename_i hlt
              intro q hq
              rcases List.mem_or_eq_of_mem_set hq with hq | rfl
              · exact hI.2.2 q hq
              · refine ⟨?_, hv⟩
                rw [List.getD_eq_getElem?_getD, List.getElem?_eq_getElem hlt]
                exact (hI.2.2 _ (List.getElem_mem hlt)).1
            · intro q hq
              rcases List.mem_append.1 hq with hq | hq
              · exact hI.2.2 q hq
              · rw [List.mem_singleton.1 hq]; exact ⟨hp, hv⟩)
      (fun args W => by first | rfl | kernel_rfl) [] _ ⟨hin0, Nat.le_refl _, fun q hq => by cases hq⟩
    have HFE : Hid (Calls Try.prog 43 #[.string a0, .func (.func 52) #[] #[.pointer (some ⟨W0.heap.size, 0, none⟩)]] (W0.alloc (.cells #[.slice (some ⟨w.heap.size, 0, none⟩) 0 2] 82)) fun e w' => e = .returned (.tuple #[]) ∧ (SpRow w' w.heap.size W0.heap.size sp ∧ (∃ i, sp.length ≤ i) ∧ ∀ q ∈ sp, q.1.size ≤ 1099511627776 ∧ q.2.size ≤ 1099511627776) ∧ Below w.heap.size w w') := Lib.hid (hfe.mono (by
      rintro e w' ⟨rfl, ⟨i, g1, g2, g3⟩, g4⟩
      rw [show foldP specStep a0.size [] (ns a0) = sp from hsp] at g1 g2 g3
      exact ⟨rfl, ⟨g1, ⟨i, g2⟩, g3⟩, HB1.out.trans g4⟩))
    clear hfe hin0 hsp
    have hmf : ∀ (fn : Fn) (first cap : Array Value) (w : World), (Instr.makeFunc fn first cap).run Try.prog w = .ok (.func fn first cap) w := fun _ _ _ _ => rfl
    clear hz hem zb hown0 hb0 hgrow0 hi hz0 hz1 hz2 hinfo
    go_enter Try.func45, Try.ntmps45
    go_upto_region 5 with (go_at_call 43; refine HFE.out.mono ?_; rintro e w1 ⟨rfl, ⟨g1, g2, g3⟩, g4⟩)
    have hlen : sp.length ≤ 9223372036854775807 := by
      obtain ⟨_, g, cap, _, _, ho⟩ := g1
      rcases ho.2 with ⟨e, _⟩ | ⟨_, _, _, e, _, _, hle, hm, _⟩
      · cases e
      · cases e
        have : maxLen ≤ 9223372036854775807 := by decide
        omega
    obtain ⟨ab, hab⟩ : ∃ ab, w1.heap.size = ab := ⟨_, rfl⟩
    have hol : W0.heap.size < ab := by
      obtain ⟨_, g, cap, hh, _, _⟩ := g1
      rw [← hab]
      exact (Array.getElem?_eq_some_iff.1 hh).1
    have hg1 := g1.below ((Below.refl w1.heap.size w1).alloc (Nat.le_refl _) (.cells #[.bool true] 4))
    have hal := heap_alloc_new w1 (.cells #[.bool true] 4)
    have hbl := g4.alloc (by have := g4.size; omega) (.cells #[.bool true] 4)
    rw [hab] at hal
    have HG3 := Lib.hid g3
    clear g1 g2 g3 g4
    go_upto_region 6 with fail
    obtain ⟨W2, hW2⟩ : ∃ W, w1.alloc (.cells #[.bool true] 4) = W := ⟨_, rfl⟩
    rw [hW2] at hg1 hal hbl ⊢
    have HS2 := Lib.hid hg1
    have HA2 : Hid (W2.heap[ab]? = some (.cells #[.bool true] 4 (0, 0))) := Lib.hid hal
    have HB2 := Lib.hid hbl
    obtain ⟨_, g, cap, hh, _, _⟩ := hg1
    have c0 : W2.cell? ⟨W0.heap.size, 0, none⟩ = some (.slice (some ⟨g, 0, none⟩) sp.length cap) := by rw [cell_of_row W2 _ 0 _ _ (0, 0) hh]; rfl
    clear hh hal hbl hW2 hab HFE hmk2
    go_wp2
    clear c0
    go_loopw [4, 7, 8, 17] (fun s4 _ _ iv wi => ∃ k : Nat, s4 = .bool false ∧ iv = .int .i64 k ∧ k ≤ sp.length ∧ Hid (SpRow wi w.heap.size W0.heap.size sp) ∧ Hid (wi.heap[ab]? = some (.cells #[.bool true] 4 (0, 0))) ∧ Hid (Below w.heap.size w wi) ∧ Hid (∀ j (hj : j < sp.length), j < k → hitOf a1 (sp[j]) = true)) (fun _ _ _ iv _ => sp.length - (intOf iv).toNat)
    case atStart => exact ⟨0, rfl, rfl, by omega, HS2, HA2, HB2, Lib.hid (fun j hj h => absurd h (by omega))⟩
    case round =>
      obtain ⟨k, rfl, rfl, hkl, HS, HA, HB, HALL⟩ := hrel
      by_cases hk : k < sp.length
      · have hqs := HG3.out _ (List.getElem_mem hk)
        have hal : ab < wr.heap.size := (Array.getElem?_eq_some_iff.1 HA.out).1
        obtain ⟨b, hb⟩ : ∃ b, wr.heap.size = b := ⟨_, rfl⟩
        obtain ⟨Wb, hWb⟩ : ∃ W, (wr.alloc (.cells #[.int .i64 k] 3)).alloc (.cells #[.bool false] 4) = W := ⟨_, rfl⟩
        have hbl : Below wr.heap.size wr Wb := by
          rw [← hWb]
          exact ((Below.refl _ _).alloc (Nat.le_refl _) _).alloc (by simp) _
        have hin : HitRow Wb w.heap.size W0.heap.size b (b + 1) ab sp k (false, true) := by
          refine ⟨HS.out.below hbl, ?_, ?_, ?_⟩
          · rw [← hWb, ← hb]
            exact blk_alloc (heap_alloc_new wr _) _
          · rw [← hWb, ← hb]
            have := heap_alloc_new (wr.alloc (.cells #[.int .i64 k] 3)) (.cells #[.bool false] 4)
            simpa using this
          · rw [hbl.block ab hal]
            exact HA.out
        obtain ⟨R, hR⟩ : ∃ R, foldP (hitStep (sp[k])) a1.size (false, true) (ns a1) = R := ⟨_, rfl⟩
        have hhit : Hid (hitOf a1 (sp[k]) = (R.1 && R.2)) := Lib.hid (by unfold hitOf; rw [hR])
        have hfe := forEach_calls 54 #[.pointer (some ⟨W0.heap.size, 0, none⟩), .pointer (some ⟨b, 0, none⟩), .pointer (some ⟨b + 1, 0, none⟩), .pointer (some ⟨ab, 0, none⟩)] (hitStep (sp[k])) (fun W i s => HitRow W w.heap.size W0.heap.size b (b + 1) ab sp k s) ab a1 h1
          (fun W i s n hI => hI.drewN n)
          (fun W i s p v hI hi hp hv => hit_calls W w.heap.size W0.heap.size b (b + 1) ab sp k hk s p v hI (by omega) (by omega) hp hv hqs hlen)
          (fun args W => by first | rfl | kernel_rfl) (false, true) Wb hin
        rw [hR] at hfe
        have HFE : Hid (Calls Try.prog 43 #[.string a1, .func (.func 54) #[] #[.pointer (some ⟨W0.heap.size, 0, none⟩), .pointer (some ⟨b, 0, none⟩), .pointer (some ⟨b + 1, 0, none⟩), .pointer (some ⟨ab, 0, none⟩)]] Wb fun e w' => e = .returned (.tuple #[]) ∧ HitRow w' w.heap.size W0.heap.size b (b + 1) ab sp k R ∧ Below w.heap.size w w') := Lib.hid (hfe.mono (by
          rintro e w' ⟨rfl, ⟨i, g1⟩, g2⟩
          refine ⟨rfl, g1, (HB.out.trans ?_).trans (below_weaken_m (by omega) g2)⟩
          exact below_weaken_m (by have := HB.out.size; omega) hbl))
        rw [← hWb] at HFE
        clear hfe hin hbl hqs hR hWb
        obtain ⟨f, y⟩ := R
        go_upto_region 11 with (go_at_call 43; refine HFE.out.mono ?_; rintro e w3 ⟨rfl, g1, g2⟩)
        have cf : w3.cell? ⟨b + 1, 0, none⟩ = some (.bool f) := by rw [cell_of_row w3 _ 0 _ _ (0, 0) g1.hit]; rfl
        have ca : w3.cell? ⟨ab, 0, none⟩ = some (.bool y) := by rw [cell_of_row w3 _ 0 _ _ (0, 0) g1.all]; rfl
        have G1 := Lib.hid g1
        have G2 := Lib.hid g2
        clear g1 g2 HFE
        have no : (f && y) = false → Hid (sp.all (hitOf a1) = false) := fun hfy => Lib.hid (by
          rw [List.all_eq_false]
          exact ⟨sp[k], List.getElem_mem hk, by rw [hhit.out, hfy]; simp⟩)
        cases f with
        | false =>
          have hres := no rfl
          clear no
          go_wp2
          go_ret
          exact ⟨by rw [hres.out]; rfl, G2.out⟩
        | true =>
          cases y with
          | false =>
            have hres := no rfl
            clear no
            go_wp2
            go_ret
            exact ⟨by rw [hres.out]; rfl, G2.out⟩
          | true =>
            clear no
            go_wp2
            go_roundw
            case rel => exact ⟨k + 1, by first | rfl | trivial, by go_num, by omega, Lib.hid G1.out.row, Lib.hid G1.out.all, G2, Lib.hid (fun j hj hjk => by
              rcases Nat.lt_or_ge j k with h | h
              · exact HALL.out j hj h
              · obtain rfl : j = k := by omega
                exact hhit.out)⟩
            case measure => simp [intOf]; omega
      · have hres : Hid (sp.all (hitOf a1) = true) := Lib.hid (by
          rw [List.all_eq_true]
          intro q hq
          obtain ⟨j, hj, rfl⟩ := List.getElem_of_mem hq
          exact HALL.out j hj (by omega))
        have ca : wr.cell? ⟨ab, 0, none⟩ = some (.bool true) := by rw [cell_of_row wr ab 0 _ _ (0, 0) HA.out]; rfl
        go_wp2
        go_ret
        exact ⟨by rw [hres.out]; rfl, HB.out⟩
theorem fiberhelpers_paramsMatch.calls (a0 a1 : ByteArray) (r : Bool) (w : World) (h : fiberhelpers_paramsMatch.f a0 a1 = some r) :
    Calls Try.prog 45 #[.string a0, .string a1] w fun e w' => e = .returned (.bool r) ∧ Below w.heap.size w w' := by
  unfold fiberhelpers_paramsMatch.f at h
  by_cases hb : a0.size ≤ 1099511627776 ∧ a1.size ≤ 1099511627776
  · rw [if_pos hb] at h
    obtain rfl := Option.some.inj h
    exact match_calls a0 a1 w hb.1 hb.2
  · rw [if_neg hb] at h
    cases h
end Go.Proofs.Ytgmjaggkiifdjaa.Given
namespace Go.Proofs.Ytgmjaggkiifdjaa.QA
open Go.Proofs.Ytgmjaggkiifdjaa.Given
open Go.Proofs.Ytgmjaggkiifdjaa.PrX
open Go.RowKit Go.Proofs.YtgmjaggkiifdjaaW.PrintWords Go.Proofs.YtgmjaggkiifdjaaW.PrintLast Go.Proofs.YtgmjaggkiifdjaaW.PrintMore
def laws_told.f (a0 : Bool) (a1 : Int) : Option (Bool) := if a1 = 2 then (some true) else (some (a0 == (a1 == 1)))
set_option maxHeartbeats 8000000 in
set_option maxRecDepth 100000 in
theorem laws_told.calls (a0 : Bool) (a1 : Int) (r : Bool) (w : World) (h : laws_told.f a0 a1 = some r) :
    Calls Try.prog 13 #[.bool a0, .int .i64 a1] w fun e w' => e = .returned (.bool r) ∧ Drawn0 w w' := by
  have H : (if a1 = 2 then (some true) else (some (a0 == (a1 == 1)))) = some r := h
  clear h
  by_cases c3 : a1 = 2
  · rw [if_pos c3] at H
    have c3b0 : (a1 == 2) = true := beq_iff_eq.mpr c3
    have c3b1 : (a1 != 2) = false := bne_eq_false_iff_eq.mpr c3
    clear c3
    obtain rfl := Option.some.inj H
    go_enter Try.func13, Try.ntmps13
    go_wp2
    go_ret
    exact ⟨by first | rfl | (simp; done) | (rw [prx_ne]; first | done | rfl) | (simp [*]; done), by repeat (first | exact Drawn0.refl _ | apply Drawn0.step)⟩
  · rw [if_neg c3] at H
    have c3b0 : (a1 == 2) = false := beq_eq_false_iff_ne.mpr c3
    have c3b1 : (a1 != 2) = true := bne_iff_ne.mpr c3
    obtain rfl := Option.some.inj H
    go_enter Try.func13, Try.ntmps13
    go_wp2
    go_ret
    exact ⟨by first | rfl | (simp; done) | (rw [prx_ne]; first | done | rfl) | (simp [*]; done), by repeat (first | exact Drawn0.refl _ | apply Drawn0.step)⟩
def fiberhelpers_ZzMatch.f (a0 : ByteArray) (a1 : ByteArray) : Option (Bool) := (fiberhelpers_paramsMatch.f a0 a1).bind fun t176 => (some t176)
set_option maxHeartbeats 8000000 in
set_option maxRecDepth 100000 in
theorem fiberhelpers_ZzMatch.calls (a0 : ByteArray) (a1 : ByteArray) (r : Bool) (w : World) (h : fiberhelpers_ZzMatch.f a0 a1 = some r) :
    Calls Try.prog 30 #[.string a0, .string a1] w fun e w' => e = .returned (.bool r) ∧ Below w.heap.size w w' := by
  have HB := Aside0.mk (Below.refl w.heap.size w)
  have H : ((fiberhelpers_paramsMatch.f a0 a1).bind fun t176 => (some t176)) = some r := h
  clear h
  replace H := Option.bind_eq_some_iff.mp H
  obtain ⟨t176, A30, H⟩ := H
  replace H : (some t176) = some r := H
  have A3 := Aside0.mk A30
  clear A30
  obtain rfl := Option.some.inj H
  go_enter Try.func30, Try.ntmps30
  go_wp2_with (first | ((with_reducible refine gate_callee (f := 45) rfl ?_); refine goesL_ (some 7) rfl rfl Try.func45 (by kernel_rfl) rfl #[.string a0, .string a1] rfl (by (try simp only [List.map_toArray, List.map_cons, List.map_nil]); first | done | rfl | (simp only [List.length_drop, List.length_take]; rfl)) ?_; (with_reducible refine (fiberhelpers_paramsMatch.calls a0 a1 t176 _ A3.out).mono ?_); rintro e w4 ⟨rfl, hb⟩; refine ⟨_, rfl, ?_⟩; have n0_ := Aside0.mk (below_step (by repeat (first | (with_reducible first | exact HB.out | apply below_alloc | apply pw_below_drewN | apply below_drew1) | exact HB.out)) hb); clear HB; have HB := n0_; clear n0_; (try clear hb); (try clear hb2); (try clear hk); (try clear hi)))
  go_ret
  exact ⟨by first | rfl | (simp [errW_none, errW_some] <;> rfl) | (simp [*, errW_none, errW_some] <;> rfl), by repeat (first | (with_reducible first | exact HB.out | apply below_alloc | apply pw_below_drewN | apply below_drew1) | exact HB.out)⟩
def impl_ParamsMatch.f (a0 : ByteArray) (a1 : ByteArray) : Option (Bool) := (fiberhelpers_ZzMatch.f a0 a1).bind fun t177 => (some t177)
set_option maxHeartbeats 8000000 in
set_option maxRecDepth 100000 in
theorem impl_ParamsMatch.calls (a0 : ByteArray) (a1 : ByteArray) (r : Bool) (w : World) (h : impl_ParamsMatch.f a0 a1 = some r) :
    Calls Try.prog 14 #[.string a0, .string a1] w fun e w' => e = .returned (.bool r) ∧ Below w.heap.size w w' := by
  have HB := Aside0.mk (Below.refl w.heap.size w)
  have H : ((fiberhelpers_ZzMatch.f a0 a1).bind fun t177 => (some t177)) = some r := h
  clear h
  replace H := Option.bind_eq_some_iff.mp H
  obtain ⟨t177, A30, H⟩ := H
  replace H : (some t177) = some r := H
  have A3 := Aside0.mk A30
  clear A30
  obtain rfl := Option.some.inj H
  go_enter Try.func14, Try.ntmps14
  go_wp2_with (first | ((with_reducible refine gate_callee (f := 30) rfl ?_); refine goesL_ (some 7) rfl rfl Try.func30 (by kernel_rfl) rfl #[.string a0, .string a1] rfl (by (try simp only [List.map_toArray, List.map_cons, List.map_nil]); first | done | rfl | (simp only [List.length_drop, List.length_take]; rfl)) ?_; (with_reducible refine (fiberhelpers_ZzMatch.calls a0 a1 t177 _ A3.out).mono ?_); rintro e w4 ⟨rfl, hb⟩; refine ⟨_, rfl, ?_⟩; have n0_ := Aside0.mk (below_step (by repeat (first | (with_reducible first | exact HB.out | apply below_alloc | apply pw_below_drewN | apply below_drew1) | exact HB.out)) hb); clear HB; have HB := n0_; clear n0_; (try clear hb); (try clear hb2); (try clear hk); (try clear hi)))
  go_ret
  exact ⟨by first | rfl | (simp [errW_none, errW_some] <;> rfl) | (simp [*, errW_none, errW_some] <;> rfl), by repeat (first | (with_reducible first | exact HB.out | apply below_alloc | apply pw_below_drewN | apply below_drew1) | exact HB.out)⟩
end Go.Proofs.Ytgmjaggkiifdjaa.QA
namespace Go.Proofs.Ytgmjaggkiifdjaa.Given
open Go.RowKit Go.Proofs.YtgmjaggkiifdjaaW.PrintWords Go.Proofs.YtgmjaggkiifdjaaW.PrintLast Go.Proofs.YtgmjaggkiifdjaaW.PrintMore Go.Proofs.Ytgmjaggkiifdjaa.Base Go.Proofs.Ytgmjaggkiifdjaa.Gv
def parL : Nat → List Int → SP
  | 0, _ => []
  | f + 1, xs => match oneP xs with
    | none => []
    | some (p, v, rest) => (strOfNums p, strOfNums v) :: parL f rest
def runL {σ : Type} (step : σ → ByteArray → ByteArray → Bool × σ) : σ → SP → σ
  | s, [] => s
  | s, x :: t => if (step s x.1 x.2).1 = true then runL step (step s x.1 x.2).2 t else (step s x.1 x.2).2
theorem fold_run {σ : Type} (step : σ → ByteArray → ByteArray → Bool × σ) : ∀ (f : Nat) (s : σ) (xs : List Int), foldP step f s xs = runL step s (parL f xs)
  | 0, s, xs => rfl
  | f + 1, s, xs => by
    rw [foldP, parL]
    cases h : oneP xs with
    | none => rfl
    | some r =>
      obtain ⟨p, v, rest⟩ := r
      simp only
      rw [runL]
      split
      · exact fold_run step f _ rest
      · rfl
def hitL (lb : SP) (q : ByteArray × ByteArray) : Bool := match lb.find? (fun p => eqFold q.1 p.1) with
  | some p => eqFold q.2 p.2
  | none => false
theorem run_hit (q : ByteArray × ByteArray) : ∀ (l : SP), (runL (hitStep q) (false, true) l).1 = (l.find? (fun p => eqFold q.1 p.1)).isSome ∧ ((runL (hitStep q) (false, true) l).1 && (runL (hitStep q) (false, true) l).2) = hitL l q
  | [] => ⟨rfl, rfl⟩
  | x :: t => by
    have ih := run_hit q t
    by_cases h : eqFold q.1 x.1 = true
    · have e : hitStep q (false, true) x.1 x.2 = (false, (true, eqFold q.2 x.2)) := by rw [hitStep, if_pos h]
      rw [runL, e, if_neg (by simp)]
      unfold hitL
      rw [List.find?_cons_of_pos (p := fun p : ByteArray × ByteArray => eqFold q.1 p.1) h]
      exact ⟨rfl, by simp⟩
    · have e : hitStep q (false, true) x.1 x.2 = (true, (false, true)) := by rw [hitStep, if_neg h]
      rw [runL, e, if_pos rfl]
      unfold hitL at ih ⊢
      rw [List.find?_cons_of_neg (p := fun p : ByteArray × ByteArray => eqFold q.1 p.1) h]
      exact ih
theorem hitOf_is (a1 : ByteArray) (q : ByteArray × ByteArray) : hitOf a1 q = hitL (parL a1.size (ns a1)) q := by
  unfold hitOf
  rw [fold_run]
  exact (run_hit q _).2
def isQ (p : ByteArray) : Bool := decide (p.toList = ([113] : List UInt8) ∨ p.toList = ([81] : List UInt8))
def wantL (l : SP) : SP := l.takeWhile fun p => !isQ p.1
def dupL : SP → SP → Bool
  | _, [] => false
  | acc, p :: t => acc.any (fun q => eqFold p.1 q.1) || dupL (acc ++ [p]) t
theorem findF_any (p : ByteArray) : ∀ sp : SP, sp.any (fun q => eqFold p q.1) = false → ¬ findF p sp < sp.length
  | [], _ => by simp [findF]
  | q :: r, h => by
    rw [List.any_cons, Bool.or_eq_false_iff] at h
    rw [findF, if_neg (by rw [h.1]; simp), List.length_cons]
    have := findF_any p r h.2
    omega
theorem run_spec : ∀ (l acc : SP), dupL acc (wantL l) = false → runL specStep acc l = acc ++ wantL l
  | [], acc, _ => by simp [runL, wantL]
  | x :: t, acc, h => by
    by_cases hq : isQ x.1 = true
    · have e : specStep acc x.1 x.2 = (false, acc) := by rw [specStep, if_pos (by simpa [isQ] using hq)]
      rw [runL, e, if_neg (by simp), wantL, List.takeWhile_cons_of_neg (by simp [hq]), List.append_nil]
    · have ew : wantL (x :: t) = x :: wantL t := by rw [wantL, List.takeWhile_cons_of_pos (by simp [hq])]; rfl
      rw [ew, dupL, Bool.or_eq_false_iff] at h
      have e : specStep acc x.1 x.2 = (true, acc ++ [(x.1, x.2)]) := by
        rw [specStep, if_neg (by simpa [isQ] using hq), if_neg (findF_any _ _ h.1)]
      rw [runL, e, if_pos rfl, ew, run_spec t _ h.2, List.append_assoc]
      rfl
theorem matchOf_is (a0 a1 : ByteArray) (h : dupL [] (wantL (parL a0.size (ns a0))) = false) : matchOf a0 a1 = (wantL (parL a0.size (ns a0))).all (hitL (parL a1.size (ns a1))) := by
  unfold matchOf
  split
  · rename_i h0
    rw [h0]
    rfl
  · unfold specOf
    rw [fold_run, run_spec _ _ h, List.nil_append]
    congr 1
    funext q
    exact hitOf_is a1 q
end Go.Proofs.Ytgmjaggkiifdjaa.Given
