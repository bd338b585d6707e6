/- forEachParameter over any closure: the parameters of a list, told one by one till the closure stops. -/
import Derived.Test.YtkbmababljcabaaGvRow
import Derived.Test.YtkbmababljcabaaLTrimL
import Derived.Test.YtkbmababljcabaaQA3
import Derived.Laws.OwnMore
import Derived.WalkMore
set_option linter.unusedVariables false
namespace Go.Proofs.Ytkbmababljcabaa.Given
open Go.RowKit Go.Proofs.YtkbmababljcabaaW.PrintWords Go.Proofs.YtkbmababljcabaaW.PrintLast Go.Proofs.YtkbmababljcabaaW.PrintMore Go.Proofs.Ytkbmababljcabaa.Base Go.Proofs.Ytkbmababljcabaa.Gv Go.Proofs.Ytkbmababljcabaa.QA

/-- Whether a byte may stand in a token, as the code asks it. -/
def tokB (c : Int) : Bool := (Go.bits .or .u64 (Go.bits .and .u64 (shl .u64 1 c) 288068722172624896) (Go.bits .and .u64 (shl .u64 1 ((c - 64) % 256)) 6341068274398134270)) != 0
theorem tok_is (c : Int) (h : 0 ≤ c) : fiberhelpers_validHeaderFieldByte.f c = some (tokB c) := by
  unfold fiberhelpers_validHeaderFieldByte.f
  rw [if_pos h]
  rfl
/-- How many token bytes stand at the beginning. -/
def tokN : List Int → Nat
  | [] => 0
  | c :: r => if tokB c = true then 1 + tokN r else 0
theorem tokN_le (xs : List Int) : tokN xs ≤ xs.length := by
  induction xs with
  | nil => exact Nat.le_refl _
  | cons c r ih =>
    rw [tokN, List.length_cons]
    split <;> omega
theorem tokN_at (xs : List Int) : ∀ k, k < tokN xs → tokB (xs.getD k 0) = true := by
  induction xs with
  | nil => intro k h; simp [tokN] at h
  | cons c r ih =>
    intro k h
    rw [tokN] at h
    split at h
    · cases k with
      | zero => simpa using ‹tokB c = true›
      | succ k => simpa using ih k (by omega)
    · omega
theorem tokN_end (xs : List Int) (h : tokN xs < xs.length) : tokB (xs.getD (tokN xs) 0) = false := by
  induction xs with
  | nil => simp [tokN] at h
  | cons c r ih =>
    rw [tokN] at h ⊢
    split at h
    · rename_i hc
      rw [if_pos hc, Nat.add_comm, List.getD_cons_succ]
      exact ih (by simp only [List.length_cons] at h; omega)
    · rename_i hc
      rw [if_neg hc]
      simpa using hc
theorem tokN_pos (xs : List Int) (h0 : 0 < xs.length) (h : tokB (xs.getD 0 0) = true) : 1 ≤ tokN xs := by
  cases xs with
  | nil => simp at h0
  | cons c r => rw [tokN, if_pos (by simpa using h)]; omega
theorem p_drop_cons (xs : List Int) (k : Nat) (h : k < xs.length) : xs.drop k = xs.getD k 0 :: xs.drop (k + 1) := by
  rw [List.drop_eq_getElem_cons h, List.getD_eq_getElem?_getD, List.getElem?_eq_getElem h]; rfl
theorem getD_drop (xs : List Int) (m k : Nat) : (xs.drop m).getD k 0 = xs.getD (m + k) 0 := by
  rw [List.getD_eq_getElem?_getD, List.getD_eq_getElem?_getD, List.getElem?_drop]
/-- How far a quoted text reaches: to a quote that is not escaped, or to the end. -/
def quoN : Bool → List Int → Nat
  | _, [] => 0
  | esc, c :: r => if c = 34 ∧ esc = false then 0 else 1 + quoN (c == 92 && !esc) r
theorem quoN_le (xs : List Int) : ∀ e, quoN e xs ≤ xs.length := by
  induction xs with
  | nil => intro e; exact Nat.le_refl _
  | cons c r ih =>
    intro e
    have := ih (c == 92 && !e)
    rw [quoN, List.length_cons]
    split <;> omega
def oneU (u : List Int) : Option (List Int × List Int × List Int) :=
  if tokN u = 0 then none
  else if u.length ≤ tokN u + 1 ∨ u.getD (tokN u) 0 ≠ 61 then none
  else if u.getD (tokN u + 1) 0 = 34 then
    (if tokN u + 2 + quoN false (u.drop (tokN u + 2)) < u.length then
      some (u.take (tokN u), (u.drop (tokN u + 2)).take (quoN false (u.drop (tokN u + 2))), u.drop (tokN u + 2 + quoN false (u.drop (tokN u + 2)) + 1))
    else none)
  else if tokN (u.drop (tokN u + 1)) = 0 then none
  else some (u.take (tokN u), (u.drop (tokN u + 1)).take (tokN (u.drop (tokN u + 1))), u.drop (tokN u + 1 + tokN (u.drop (tokN u + 1))))
/-- The first parameter of a list: its name, its value, and what stands behind it. -/
def oneP (xs : List Int) : Option (List Int × List Int × List Int) :=
  if (ltrim xs).length = 0 ∨ (ltrim xs).getD 0 0 ≠ 59 then none else oneU (ltrim ((ltrim xs).drop 1))
/-- What a closure makes of the parameters, one by one, till it stops. -/
def foldP {σ : Type} (step : σ → ByteArray → ByteArray → Bool × σ) : Nat → σ → List Int → σ
  | 0, s, _ => s
  | f + 1, s, xs => match oneP xs with
    | none => s
    | some (p, v, rest) => if (step s (strOfNums p) (strOfNums v)).1 = true then foldP step f (step s (strOfNums p) (strOfNums v)).2 rest else (step s (strOfNums p) (strOfNums v)).2
theorem strOf_ns (s : ByteArray) : strOfNums (ns s) = s := ns_inj (ns_strOfNums (fun x hx => ns_range s x hx))
section
variable {σ : Type} {step : σ → ByteArray → ByteArray → Bool × σ}
theorem fold_none {f : Nat} {s : σ} {xs : List Int} (h : oneP xs = none) : foldP step f s xs = s := by
  cases f with
  | zero => rfl
  | succ f => rw [foldP, h]
theorem fold_some {f : Nat} {s : σ} {xs : List Int} {P V R : ByteArray} (h : oneP xs = some (ns P, ns V, ns R)) : foldP step (f + 1) s xs = if (step s P V).1 = true then foldP step f (step s P V).2 (ns R) else (step s P V).2 := by
  rw [foldP, h]
  simp only [strOf_ns]
end
theorem p_ltrim_mem {xs : List Int} {x : Int} (h : x ∈ ltrim xs) : x ∈ xs := by
  unfold ltrim at h
  exact List.dropWhile_sublist _ |>.mem h
theorem p_ltrim_le (xs : List Int) : (ltrim xs).length ≤ xs.length := by
  unfold ltrim
  induction xs with
  | nil => simp
  | cons x xs ih =>
    rw [List.dropWhile_cons]
    split
    · simp only [List.length_cons]; omega
    · exact Nat.le_refl _
theorem trim_at (x : ByteArray) (hx : x.size ≤ 4611686018427387904) : ∃ t : ByteArray, (∃ k, fiberutils_TrimLeft.f k x 32 = some t) ∧ t.size ≤ x.size ∧ ns t = ltrim (ns x) := by
  have hr : ∀ y ∈ ltrim (ns x), 0 ≤ y ∧ y ≤ 255 := fun y hy => ns_range x y (p_ltrim_mem hy)
  have hns : ns (strOfNums (ltrim (ns x))) = ltrim (ns x) := ns_strOfNums hr
  refine ⟨_, trimL x hx, ?_, hns⟩
  have := p_ltrim_le (ns x)
  rw [← hns, ns_length, ns_length] at this
  exact this
theorem ns_from (u : ByteArray) (i : Nat) : ns (u.extract i u.size) = (ns u).drop i := by
  rw [ns_extract]
  refine List.take_of_length_le ?_
  rw [List.length_drop, ns_length]
  omega
theorem ns_to (u : ByteArray) (i : Nat) : ns (u.extract 0 i) = (ns u).take i := by
  rw [ns_extract, List.drop_zero, Nat.sub_zero]
theorem p_below_drewN {o n : Nat} {w w' : World} (h : Below o (w.drewN n) w') : Below o w w' := (pw_below_drewN (Below.refl o w) n).trans h
/-- What stands behind the semicolon and blanks: all that a round asks of it. -/
theorem one_of {x t u : ByteArray} (ht : ns t = ltrim (ns x)) (h0 : 0 < t.size) (h1 : (ns t).getD 0 0 = 59) (hu : ns u = ltrim (ns (t.extract 1 t.size))) : oneP (ns x) = oneU (ns u) := by
  have hl := ns_length t
  unfold oneP
  rw [← ht, if_neg (fun h => h.elim (fun h => by omega) (fun h => h h1)), hu, ns_from]
theorem oneU_n0 {u : List Int} (h : tokN u = 0) : oneU u = none := by rw [oneU, if_pos h]
theorem oneU_eq {u : List Int} {N : Nat} (hN : tokN u = N) (h : u.length ≤ N + 1 ∨ u.getD N 0 ≠ 61) : oneU u = none := by
  unfold oneU
  rw [hN]
  split <;> first | rfl | rw [if_pos h]
theorem oneU_q {u : List Int} {N Q : Nat} (hN : tokN u = N) (h0 : N ≠ 0) (h1 : N + 1 < u.length) (h2 : u.getD N 0 = 61) (h3 : u.getD (N + 1) 0 = 34) (hQ : quoN false (u.drop (N + 2)) = Q) :
    oneU u = if N + 2 + Q < u.length then some (u.take N, (u.drop (N + 2)).take Q, u.drop (N + 2 + Q + 1)) else none := by
  unfold oneU
  rw [hN, if_neg h0, if_neg (fun h => h.elim (fun h => by omega) (fun h => h h2)), if_pos h3, hQ]
theorem oneU_t {u : List Int} {N M : Nat} (hN : tokN u = N) (h0 : N ≠ 0) (h1 : N + 1 < u.length) (h2 : u.getD N 0 = 61) (h3 : u.getD (N + 1) 0 ≠ 34) (hM : tokN (u.drop (N + 1)) = M) :
    oneU u = if M = 0 then none else some (u.take N, (u.drop (N + 1)).take M, u.drop (N + 1 + M)) := by
  unfold oneU
  rw [hN, if_neg h0, if_neg (fun h => h.elim (fun h => by omega) (fun h => h h2)), if_neg h3, hM]
theorem ns_mid (u : ByteArray) (i n : Nat) : ns (u.extract i (i + n)) = ((ns u).drop i).take n := by
  rw [ns_extract, Nat.add_sub_cancel_left]
set_option maxHeartbeats 16000000 in
set_option maxRecDepth 100000 in
theorem forEach_calls {σ : Type} (F : Nat) (caps : Array Value) (step : σ → ByteArray → ByteArray → Bool × σ) (Inv : World → Nat → σ → Prop) (o : Nat) (a0 : ByteArray) (hbd : a0.size ≤ 1099511627776)
    (hdrew : ∀ W i s n, Inv W i s → Inv (W.drewN n) i s)
    (hstep : ∀ W i s p v, Inv W i s → i < 1099511627776 → p.size ≤ 1099511627776 → v.size ≤ 1099511627776 → Calls Try.prog F (#[.string p, .string v] ++ caps) W fun e W' => e = .returned (.bool (step s p v).1) ∧ Inv W' (i + 1) (step s p v).2 ∧ Below o W W')
    (hcf : ∀ (args : Array Value) (W : World), (callFunc F args).run Try.prog W = .ok (.enter F args) W) (s0 : σ) (w : World) (h0 : Inv w 0 s0) :
    Calls Try.prog 71 #[.string a0, .func (.func F) #[] caps] w fun e w' => e = .returned (.tuple #[]) ∧ (∃ i, Inv w' i (foldP step a0.size s0 (ns a0))) ∧ Below o w w' := by
  obtain ⟨FIN, hFIN⟩ : ∃ R, foldP step a0.size s0 (ns a0) = R := ⟨_, rfl⟩
  rw [hFIN]
  have HF0 := Lib.hid hFIN
  have HDR := Lib.hid hdrew
  have HST := Lib.hid hstep
  have HI0 := Lib.hid h0
  clear hFIN hdrew hstep h0
  go_enter Try.func71, Try.ntmps71
  go_wp2
  go_loopw [0, 4, 5, 6, 7, 8, 9] (fun hd _ _ _ _ _ _ wr => ∃ (x : ByteArray) (s : σ) (i f : Nat), hd = .string x ∧ Hid (x.size ≤ f) ∧ x.size + i ≤ a0.size ∧ Hid (Inv wr i s) ∧ Hid (Below o w wr) ∧ Hid (foldP step f s (ns x) = FIN)) (fun hd _ _ _ _ _ _ _ => match hd with | .string x => x.size | _ => 0)
  case atStart => exact ⟨a0, s0, 0, a0.size, rfl, Lib.hid (Nat.le_refl _), by simp, HI0, Lib.hid (Below.refl _ _), HF0⟩
  case round =>
    obtain ⟨x, s, i, f, rfl, HF, hcount, HI, HBL, HE⟩ := hrel
    have stop : Hid (oneP (ns x) = none → s = (FIN : σ)) := Lib.hid (fun h => by rw [← HE.out, fold_none h])
    by_cases hx0 : 0 < x.size
    · obtain ⟨f, rfl⟩ : ∃ g, f = g + 1 := ⟨f - 1, by have := HF.out; omega⟩
      obtain ⟨t, ⟨kt, htr⟩, hts, hnt⟩ := trim_at x (by omega)
      have HTR := Lib.hid htr
      have HNT := Lib.hid hnt
      have htb : t.size ≤ 1099511627776 := by omega
      have HTS := Lib.hid hts
      clear htr hnt hts
      go_upto_region 2 with (go_at_call 79; refine (fiberutils_TrimLeft.calls kt x 32 t _ HTR.out).mono ?_; rintro e w' ⟨rfl, ⟨n1, rfl⟩⟩)
      by_cases d1 : 0 < t.size
      · obtain ⟨c0, hc0⟩ : ∃ c, (ns t).getD 0 0 = c := ⟨_, rfl⟩
        have e0 : ((t[0]'d1).toNat : Int) = c0 := (bt_at t 0 d1).trans ((bt_ns t 0).trans hc0)
        have zt : ((t.size : Int) == 0) = false := beq_eq_false_iff_ne.2 (by omega)
        by_cases d2 : c0 = 59
        · subst d2
          obtain ⟨u, ⟨ku, hur⟩, hus, hnu⟩ := trim_at (t.extract 1 t.size) (by rw [ByteArray.size_extract]; omega)
          have hus2 : u.size < x.size := by rw [ByteArray.size_extract] at hus; have := HTS.out; omega
          have HUR := Lib.hid hur
          have HU : Hid (oneP (ns x) = oneU (ns u)) := Lib.hid (one_of HNT.out d1 hc0 hnu)
          have hub : u.size ≤ 1099511627776 := by omega
          have HU2 := Lib.hid hus2
          clear hur hnu hus hc0 hus2
          go_upto_region 5 with (first
            | (go_at_call 79; refine (fiberutils_TrimLeft.calls ku (t.extract 1 t.size) 32 u _ HUR.out).mono ?_; rintro e w' ⟨rfl, ⟨n2, rfl⟩⟩))
          obtain ⟨N, hN⟩ : ∃ N, tokN (ns u) = N := ⟨_, rfl⟩
          have HN := Lib.hid hN
          have hul := ns_length u
          by_cases e1 : 0 < u.size
          · obtain ⟨c1, hc1⟩ : ∃ c, (ns u).getD 0 0 = c := ⟨_, rfl⟩
            have e1v : ((u[0]'e1).toNat : Int) = c1 := (bt_at u 0 e1).trans ((bt_ns u 0).trans hc1)
            have zu : ((u.size : Int) == 0) = false := beq_eq_false_iff_ne.2 (by omega)
            have c1r : 0 ≤ c1 := by rw [← e1v]; exact Int.natCast_nonneg _
            by_cases e2 : tokB c1 = true
            · have HV1 : Hid (fiberhelpers_validHeaderFieldByte.f c1 = some true) := Lib.hid (by rw [tok_is c1 c1r, e2])
              have hN1 : 1 ≤ N := by rw [← hN]; exact tokN_pos _ (by omega) (by rw [hc1]; exact e2)
              have hNu : N ≤ u.size := by rw [← hN, ← hul]; exact tokN_le _
              have HAT : Hid (∀ k, k < N → tokB ((ns u).getD k 0) = true) := Lib.hid (fun k hk => tokN_at _ k (by rw [hN]; exact hk))
              have HEND : Hid (N < u.size → tokB ((ns u).getD N 0) = false) := Lib.hid (fun h => by have := tokN_end (ns u) (by rw [hN, hul]; exact h); rwa [hN] at this)
              have HUL := Lib.hid hul
              clear hN hul hc1 e2 c1r
              go_wp2_with (go_at_call 84; refine (fiberhelpers_validHeaderFieldByte.calls c1 true _ HV1.out).mono ?_; rintro e w' ⟨rfl, ⟨n3, rfl⟩⟩)
              clear e1v zu
              go_loopw [4] (fun n wi => ∃ k : Nat, n = .int .i64 k ∧ 1 ≤ k ∧ k ≤ N ∧ Hid (Inv wi i s) ∧ Hid (Below o w wi)) (fun n _ => u.size - (intOf n).toNat)
              case atStart => exact ⟨1, by go_num, by omega, hN1, Lib.hid (by repeat (first | exact HI.out | apply HDR.out)), Lib.hid (by repeat (first | exact HBL.out | apply pw_below_drewN))⟩
              case round =>
                obtain ⟨k, rfl, hk1, hkN, HI2, HB2⟩ := hrel
                by_cases hk : k < u.size
                · obtain ⟨c, hc⟩ : ∃ c, (ns u).getD k 0 = c := ⟨_, rfl⟩
                  have ev : ((u[k]'hk).toNat : Int) = c := (bt_at u (k : Int) hk).trans ((bt_ns u k).trans hc)
                  have cr : 0 ≤ c := by rw [← ev]; exact Int.natCast_nonneg _
                  by_cases ht : tokB c = true
                  · have hlt : k < N := by
                      rcases Nat.lt_or_ge k N with h | h
                      · exact h
                      · obtain rfl : k = N := by omega
                        have := HEND.out hk
                        rw [hc, ht] at this
                        cases this
                    have HV : Hid (fiberhelpers_validHeaderFieldByte.f c = some true) := Lib.hid (by rw [tok_is c cr, ht])
                    clear hc ht cr
                    go_wp2_with (go_at_call 84; refine (fiberhelpers_validHeaderFieldByte.calls c true _ HV.out).mono ?_; rintro e w' ⟨rfl, ⟨n3, rfl⟩⟩)
                    go_roundw
                    case rel => exact ⟨k + 1, by go_num, by omega, by omega, Lib.hid (by repeat (first | exact HI2.out | apply HDR.out)), Lib.hid (by repeat (first | exact HB2.out | apply pw_below_drewN))⟩
                    case measure => simp [intOf]; omega
                  · rw [Bool.not_eq_true] at ht
                    obtain rfl : k = N := by
                      rcases Nat.lt_or_ge k N with h | h
                      · have := HAT.out k h
                        rw [hc, ht] at this
                        cases this
                      · omega
                    have HV : Hid (fiberhelpers_validHeaderFieldByte.f c = some false) := Lib.hid (by rw [tok_is c cr, ht])
                    by_cases g1 : k + 1 < u.size
                    · have zg : (k : Int) < (u.size : Int) - 1 := by omega
                      have k0 : k ≠ 0 := by omega
                      obtain ⟨c2, hc2⟩ : ∃ c, (ns u).getD (k + 1) 0 = c := ⟨_, rfl⟩
                      have ev2 : ((u[k + 1]'g1).toNat : Int) = c2 := (bt_at u ((k + 1 : Nat) : Int) g1).trans ((bt_ns u (k + 1)).trans hc2)
                      by_cases g2 : c = 61
                      · subst g2
                        by_cases g3 : c2 = 34
                        · subst g3
                          obtain ⟨Q, hQ⟩ : ∃ Q, quoN false ((ns u).drop (k + 2)) = Q := ⟨_, rfl⟩
                          have hQl : k + 2 + Q ≤ u.size := by
                            have := quoN_le ((ns u).drop (k + 2)) false
                            rw [hQ, List.length_drop, HUL.out] at this
                            omega
                          have HQ := Lib.hid hQ
                          have HONE : Hid (oneU (ns u) = if k + 2 + Q < u.size then some ((ns u).take k, ((ns u).drop (k + 2)).take Q, (ns u).drop (k + 2 + Q + 1)) else none) := Lib.hid (by
                            have := oneU_q HN.out k0 (by rw [HUL.out]; exact g1) hc hc2 hQ
                            rwa [HUL.out] at this)
                          clear hQ hc hc2 ht cr
                          go_wp2_with (go_at_call 84; refine (fiberhelpers_validHeaderFieldByte.calls 61 false _ HV.out).mono ?_; rintro e w' ⟨rfl, ⟨n4, rfl⟩⟩)
                          clear ev ev2
                          go_loopw [4, 6, 7] (fun nn fo es wi => ∃ (p : Nat) (esc : Bool), nn = .int .i64 p ∧ fo = .bool false ∧ es = .bool esc ∧ k + 2 ≤ p ∧ p ≤ k + 2 + Q ∧ Hid (p + quoN esc ((ns u).drop p) = k + 2 + Q) ∧ Hid (Inv wi i s) ∧ Hid (Below o w wi)) (fun nn _ _ _ => u.size - (intOf nn).toNat)
                          case atStart => exact ⟨k + 2, false, by go_num, rfl, rfl, by omega, by omega, Lib.hid (by rw [HQ.out]), Lib.hid (by repeat (first | exact HI2.out | apply HDR.out)), Lib.hid (by repeat (first | exact HB2.out | apply pw_below_drewN))⟩
                          case round =>
                            obtain ⟨p, esc, rfl, rfl, rfl, hp1, hp2, HS, HI3, HB3⟩ := hrel
                            by_cases hp : p < u.size
                            · obtain ⟨c3, hc3⟩ : ∃ c, (ns u).getD p 0 = c := ⟨_, rfl⟩
                              have ev3 : ((u[p]'hp).toNat : Int) = c3 := (bt_at u (p : Int) hp).trans ((bt_ns u p).trans hc3)
                              have HS3 : Hid (p + quoN esc (c3 :: (ns u).drop (p + 1)) = k + 2 + Q) := Lib.hid (by rw [← hc3, ← p_drop_cons (ns u) p (by rw [HUL.out]; exact hp)]; exact HS.out)
                              clear hc3 HS
                              by_cases b1 : c3 = 34
                              · subst b1
                                cases esc with
                                | false =>
                                  have hpe : p = k + 2 + Q := by have := HS3.out; rw [quoN, if_pos ⟨rfl, rfl⟩] at this; omega
                                  subst hpe
                                  obtain ⟨b, s', hsv⟩ : ∃ b s', step s (u.extract 0 k) (u.extract (k + 1 + 1) (k + 2 + Q)) = (b, s') := ⟨_, _, rfl⟩
                                  have HON : Hid (oneP (ns x) = some (ns (u.extract 0 k), ns (u.extract (k + 1 + 1) (k + 2 + Q)), ns (u.extract (k + 2 + Q + 1) u.size))) := Lib.hid (by
                have hv : ns (u.extract (k + 1 + 1) (k + 2 + Q)) = ((ns u).drop (k + 2)).take Q := ns_mid u (k + 2) Q
                rw [HU.out, HONE.out, if_pos hp, ns_to, hv, ns_from])
                                  have HFO : Hid ((if b = true then foldP step f s' (ns (u.extract (k + 2 + Q + 1) u.size)) else s') = FIN) := Lib.hid (by
                                    have := HE.out
                                    rw [fold_some HON.out, hsv] at this
                                    exact this)
                                  have HCA : Hid (∀ W, Inv W i s → Calls Try.prog F (#[.string (u.extract 0 k), .string (u.extract (k + 1 + 1) (k + 2 + Q))] ++ caps) W fun e W' => e = .returned (.bool b) ∧ Inv W' (i + 1) s' ∧ Below o W W') := Lib.hid (fun W h => by
                                    have := HST.out W i s (u.extract 0 k) (u.extract (k + 1 + 1) (k + 2 + Q)) h (by omega) (by rw [ByteArray.size_extract]; omega) (by rw [ByteArray.size_extract]; omega)
                                    rw [hsv] at this
                                    exact this)
                                  have hrs : (u.extract (k + 2 + Q + 1) u.size).size < x.size ∧ (u.extract (k + 2 + Q + 1) u.size).size ≤ f ∧ (u.extract (k + 2 + Q + 1) u.size).size + (i + 1) ≤ a0.size := by
                                    have h1 := HU2.out
                                    have h2 := HF.out
                                    rw [ByteArray.size_extract]
                                    omega
                                  have HRS := Lib.hid hrs
                                  clear hsv hrs
                                  cases b with
                                  | false =>
                                    go_wp2_with (refine (HCA.out _ (by repeat (first | exact HI3.out | apply HDR.out))).mono ?_; rintro e w' ⟨rfl, q1, q2⟩)
                                    refine bodyPost_ret (results_none rfl _ _ _) rfl ?_
                                    have hfin : Hid (s' = FIN) := Lib.hid (by have := HFO.out; rwa [if_neg (by simp)] at this)
                                    exact ⟨rfl, ⟨i + 1, hfin.out ▸ q1⟩, HB3.out.trans (by first | exact q2 | exact p_below_drewN q2)⟩
                                  | true =>
                                    have hgo : Hid (foldP step f s' (ns (u.extract (k + 2 + Q + 1) u.size)) = FIN) := Lib.hid (by have := HFO.out; rwa [if_pos rfl] at this)
                                    go_wp2_with (refine (HCA.out _ (by repeat (first | exact HI3.out | apply HDR.out))).mono ?_; rintro e w' ⟨rfl, q1, q2⟩)
                                    go_roundw
                                    case rel => exact ⟨u.extract (k + 2 + Q + 1) u.size, s', i + 1, f, by go_num, Lib.hid HRS.out.2.1, HRS.out.2.2, Lib.hid q1, Lib.hid (HB3.out.trans (by first | exact q2 | exact p_below_drewN q2)), hgo⟩
                                    case measure => exact HRS.out.1
                                | true =>
                                  have HS4 : Hid (p + 1 + quoN false ((ns u).drop (p + 1)) = k + 2 + Q) := Lib.hid (by have := HS3.out; rw [quoN, if_neg (by simp)] at this; simp at this; omega)
                                  have hp3 : p + 1 ≤ k + 2 + Q := by have := HS4.out; omega
                                  go_wp2
                                  go_roundw
                                  case rel => exact ⟨p + 1, false, by go_num, by first | rfl | trivial, by first | rfl | trivial, by omega, hp3, HS4, Lib.hid (by repeat (first | exact HI3.out | apply HDR.out)), Lib.hid (by repeat (first | exact HB3.out | apply pw_below_drewN))⟩
                                  case measure => simp [intOf]; omega
                              · have b1b : (c3 == 34) = false := beq_eq_false_iff_ne.2 b1
                                have HS4 : Hid (p + 1 + quoN (c3 == 92 && !esc) ((ns u).drop (p + 1)) = k + 2 + Q) := Lib.hid (by have := HS3.out; rw [quoN, if_neg (fun h => b1 h.1)] at this; omega)
                                have hp3 : p + 1 ≤ k + 2 + Q := by have := HS4.out; omega
                                cases b2 : (c3 == 92) with
                                | false =>
                                  rw [b2, Bool.false_and] at HS4
                                  go_wp2
                                  go_roundw
                                  case rel => exact ⟨p + 1, false, by go_num, by first | rfl | trivial, by first | rfl | trivial, by omega, hp3, HS4, Lib.hid (by repeat (first | exact HI3.out | apply HDR.out)), Lib.hid (by repeat (first | exact HB3.out | apply pw_below_drewN))⟩
                                  case measure => simp [intOf]; omega
                                | true =>
                                  rw [b2, Bool.true_and] at HS4
                                  go_wp2
                                  go_roundw
                                  case rel => exact ⟨p + 1, !esc, by go_num, by first | rfl | trivial, by first | rfl | trivial, by omega, hp3, HS4, Lib.hid (by repeat (first | exact HI3.out | apply HDR.out)), Lib.hid (by repeat (first | exact HB3.out | apply pw_below_drewN))⟩
                                  case measure => simp [intOf]; omega
                            · have hpe : p = k + 2 + Q := by omega
                              have hnone : Hid (s = FIN) := Lib.hid (stop.out (HU.out.trans (HONE.out.trans (if_neg (by omega)))))
                              go_wp2
                              refine bodyPost_ret (results_none rfl _ _ _) rfl ?_
                              exact ⟨rfl, ⟨i, hnone.out ▸ (by repeat (first | exact HI3.out | apply HDR.out))⟩, (by repeat (first | exact HB3.out | apply pw_below_drewN))⟩
                        · have g3b : (c2 == 34) = false := beq_eq_false_iff_ne.2 g3
                          have c2r : 0 ≤ c2 := by rw [← ev2]; exact Int.natCast_nonneg _
                          obtain ⟨M, hM⟩ : ∃ M, tokN ((ns u).drop (k + 1)) = M := ⟨_, rfl⟩
                          have HM := Lib.hid hM
                          have HONE : Hid (oneU (ns u) = if M = 0 then none else some ((ns u).take k, ((ns u).drop (k + 1)).take M, (ns u).drop (k + 1 + M))) := Lib.hid (oneU_t HN.out k0 (by rw [HUL.out]; exact g1) hc (by rw [hc2]; exact g3) hM)
                          have hdl : ((ns u).drop (k + 1)).length = u.size - (k + 1) := by rw [List.length_drop, HUL.out]
                          by_cases t2 : tokB c2 = true
                          · have hM1 : 1 ≤ M := by rw [← hM]; exact tokN_pos _ (by omega) (by rw [getD_drop, Nat.add_zero, hc2]; exact t2)
                            have hMl : k + 1 + M ≤ u.size := by have := tokN_le ((ns u).drop (k + 1)); rw [hM, hdl] at this; omega
                            have HAT2 : Hid (∀ p, k + 1 ≤ p → p < k + 1 + M → tokB ((ns u).getD p 0) = true) := Lib.hid (fun p h1 h2 => by
                              have := tokN_at ((ns u).drop (k + 1)) (p - (k + 1)) (by rw [hM]; omega)
                              rwa [getD_drop, show k + 1 + (p - (k + 1)) = p by omega] at this)
                            have HEND2 : Hid (k + 1 + M < u.size → tokB ((ns u).getD (k + 1 + M) 0) = false) := Lib.hid (fun h => by
                              have := tokN_end ((ns u).drop (k + 1)) (by rw [hM, hdl]; omega)
                              rwa [hM, getD_drop] at this)
                            have HV2 : Hid (fiberhelpers_validHeaderFieldByte.f c2 = some true) := Lib.hid (by rw [tok_is c2 c2r, t2])
                            clear hM hdl hc hc2 ht cr c2r t2 g3
                            go_upto_region 25 with (go_at_call 84; refine (fiberhelpers_validHeaderFieldByte.calls 61 false _ HV.out).mono ?_; rintro e w' ⟨rfl, ⟨n4, rfl⟩⟩)
                            go_wp2_with (go_at_call 84; refine (fiberhelpers_validHeaderFieldByte.calls c2 true _ HV2.out).mono ?_; rintro e w' ⟨rfl, ⟨n4, rfl⟩⟩)
                            clear ev ev2 g3b
                            go_loopw [4] (fun nn wi => ∃ p : Nat, nn = .int .i64 p ∧ k + 2 ≤ p ∧ p ≤ k + 1 + M ∧ Hid (Inv wi i s) ∧ Hid (Below o w wi)) (fun nn _ => u.size - (intOf nn).toNat)
                            case atStart => exact ⟨k + 2, by go_num, by omega, by omega, Lib.hid (by repeat (first | exact HI2.out | apply HDR.out)), Lib.hid (by repeat (first | exact HB2.out | apply pw_below_drewN))⟩
                            case round =>
                              obtain ⟨p, rfl, hp1, hp2, HI3, HB3⟩ := hrel
                              have goes : p = k + 1 + M → Hid (∃ b s', step s (u.extract 0 k) (u.extract (k + 1) p) = (b, s') ∧ ((if b = true then foldP step f s' (ns (u.extract p u.size)) else s') = FIN) ∧ (∀ W, Inv W i s → Calls Try.prog F (#[.string (u.extract 0 k), .string (u.extract (k + 1) p)] ++ caps) W fun e W' => e = .returned (.bool b) ∧ Inv W' (i + 1) s' ∧ Below o W W') ∧ ((u.extract p u.size).size < x.size ∧ (u.extract p u.size).size ≤ f ∧ (u.extract p u.size).size + (i + 1) ≤ a0.size)) := by
                                rintro rfl
                                refine Lib.hid ⟨_, _, rfl, ?_, ?_, ?_⟩
                                · have := HE.out
                                  rw [fold_some (P := u.extract 0 k) (V := u.extract (k + 1) (k + 1 + M)) (R := u.extract (k + 1 + M) u.size) (by rw [HU.out, HONE.out, if_neg (by omega), ns_to, ns_mid, ns_from])] at this
                                  exact this
                                · intro W h
                                  exact HST.out W i s (u.extract 0 k) (u.extract (k + 1) (k + 1 + M)) h (by omega) (by rw [ByteArray.size_extract]; omega) (by rw [ByteArray.size_extract]; omega)
                                · have h1 := HU2.out
                                  have h2 := HF.out
                                  rw [ByteArray.size_extract]
                                  omega
                              by_cases hp : p < u.size
                              · obtain ⟨c3, hc3⟩ : ∃ c, (ns u).getD p 0 = c := ⟨_, rfl⟩
                                have ev3 : ((u[p]'hp).toNat : Int) = c3 := (bt_at u (p : Int) hp).trans ((bt_ns u p).trans hc3)
                                have cr3 : 0 ≤ c3 := by rw [← ev3]; exact Int.natCast_nonneg _
                                by_cases ht3 : tokB c3 = true
                                · have hlt : p < k + 1 + M := by
                                    rcases Nat.lt_or_ge p (k + 1 + M) with h | h
                                    · exact h
                                    · obtain rfl : p = k + 1 + M := by omega
                                      have := HEND2.out hp
                                      rw [hc3, ht3] at this
                                      cases this
                                  have HV3 : Hid (fiberhelpers_validHeaderFieldByte.f c3 = some true) := Lib.hid (by rw [tok_is c3 cr3, ht3])
                                  clear hc3 ht3 cr3 goes
                                  go_wp2_with (go_at_call 84; refine (fiberhelpers_validHeaderFieldByte.calls c3 true _ HV3.out).mono ?_; rintro e w' ⟨rfl, ⟨n4, rfl⟩⟩)
                                  go_roundw
                                  case rel => exact ⟨p + 1, by go_num, by omega, by omega, Lib.hid (by repeat (first | exact HI3.out | apply HDR.out)), Lib.hid (by repeat (first | exact HB3.out | apply pw_below_drewN))⟩
                                  case measure => simp [intOf]; omega
                                · rw [Bool.not_eq_true] at ht3
                                  have hpe : p = k + 1 + M := by
                                    rcases Nat.lt_or_ge p (k + 1 + M) with h | h
                                    · have := HAT2.out p (by omega) h
                                      rw [hc3, ht3] at this
                                      cases this
                                    · omega
                                  have HV3 : Hid (fiberhelpers_validHeaderFieldByte.f c3 = some false) := Lib.hid (by rw [tok_is c3 cr3, ht3])
                                  have GO := goes hpe
                                  clear hc3 ht3 cr3 goes hpe
                                  obtain ⟨b, s', _, hfo, hca, hrs⟩ := GO.out
                                  have HFO := Lib.hid hfo
                                  have HCA := Lib.hid hca
                                  have HRS := Lib.hid hrs
                                  clear hfo hca hrs GO
                                  cases b with
                                  | false =>
                                    go_wp2_with (first | (go_at_call 84; refine (fiberhelpers_validHeaderFieldByte.calls c3 false _ HV3.out).mono ?_; rintro e w' ⟨rfl, ⟨n4, rfl⟩⟩) | (refine (HCA.out _ (by repeat (first | exact HI3.out | apply HDR.out))).mono ?_; rintro e w' ⟨rfl, q1, q2⟩))
                                    refine bodyPost_ret (results_none rfl _ _ _) rfl ?_
                                    have hfin : Hid (s' = FIN) := Lib.hid (by have := HFO.out; rwa [if_neg (by simp)] at this)
                                    exact ⟨rfl, ⟨i + 1, hfin.out ▸ q1⟩, HB3.out.trans (by first | exact q2 | exact p_below_drewN q2)⟩
                                  | true =>
                                    have hgo : Hid (foldP step f s' (ns (u.extract p u.size)) = FIN) := Lib.hid (by have := HFO.out; rwa [if_pos rfl] at this)
                                    go_wp2_with (first | (go_at_call 84; refine (fiberhelpers_validHeaderFieldByte.calls c3 false _ HV3.out).mono ?_; rintro e w' ⟨rfl, ⟨n4, rfl⟩⟩) | (refine (HCA.out _ (by repeat (first | exact HI3.out | apply HDR.out))).mono ?_; rintro e w' ⟨rfl, q1, q2⟩))
                                    go_roundw
                                    case rel => exact ⟨u.extract p u.size, s', i + 1, f, by go_num, Lib.hid HRS.out.2.1, HRS.out.2.2, Lib.hid q1, Lib.hid (HB3.out.trans (by first | exact q2 | exact p_below_drewN q2)), hgo⟩
                                    case measure => exact HRS.out.1
                              · have hpe : p = k + 1 + M := by omega
                                have GO := goes hpe
                                clear goes hpe
                                obtain ⟨b, s', _, hfo, hca, hrs⟩ := GO.out
                                have HFO := Lib.hid hfo
                                have HCA := Lib.hid hca
                                have HRS := Lib.hid hrs
                                clear hfo hca hrs GO
                                cases b with
                                | false =>
                                  go_wp2_with (refine (HCA.out _ (by repeat (first | exact HI3.out | apply HDR.out))).mono ?_; rintro e w' ⟨rfl, q1, q2⟩)
                                  refine bodyPost_ret (results_none rfl _ _ _) rfl ?_
                                  have hfin : Hid (s' = FIN) := Lib.hid (by have := HFO.out; rwa [if_neg (by simp)] at this)
                                  exact ⟨rfl, ⟨i + 1, hfin.out ▸ q1⟩, HB3.out.trans (by first | exact q2 | exact p_below_drewN q2)⟩
                                | true =>
                                  have hgo : Hid (foldP step f s' (ns (u.extract p u.size)) = FIN) := Lib.hid (by have := HFO.out; rwa [if_pos rfl] at this)
                                  go_wp2_with (refine (HCA.out _ (by repeat (first | exact HI3.out | apply HDR.out))).mono ?_; rintro e w' ⟨rfl, q1, q2⟩)
                                  go_roundw
                                  case rel => exact ⟨u.extract p u.size, s', i + 1, f, by go_num, Lib.hid HRS.out.2.1, HRS.out.2.2, Lib.hid q1, Lib.hid (HB3.out.trans (by first | exact q2 | exact p_below_drewN q2)), hgo⟩
                                  case measure => exact HRS.out.1
                          · rw [Bool.not_eq_true] at t2
                            have HV2 : Hid (fiberhelpers_validHeaderFieldByte.f c2 = some false) := Lib.hid (by rw [tok_is c2 c2r, t2])
                            have hM0 : M = 0 := by
                              rcases Nat.eq_zero_or_pos M with h | h
                              · exact h
                              · have := tokN_at ((ns u).drop (k + 1)) 0 (by rw [hM]; exact h)
                                rw [getD_drop, Nat.add_zero, hc2, t2] at this
                                cases this
                            have hnone : Hid (s = FIN) := Lib.hid (stop.out (HU.out.trans (HONE.out.trans (if_pos hM0))))
                            clear hM hdl hc hc2 ht cr c2r t2 g3
                            go_upto_region 25 with (go_at_call 84; refine (fiberhelpers_validHeaderFieldByte.calls 61 false _ HV.out).mono ?_; rintro e w' ⟨rfl, ⟨n4, rfl⟩⟩)
                            go_wp2_with (go_at_call 84; refine (fiberhelpers_validHeaderFieldByte.calls c2 false _ HV2.out).mono ?_; rintro e w' ⟨rfl, ⟨n4, rfl⟩⟩)
                            refine bodyPost_ret (results_none rfl _ _ _) rfl ?_
                            exact ⟨rfl, ⟨i, hnone.out ▸ (by repeat (first | exact HI2.out | apply HDR.out))⟩, (by repeat (first | exact HB2.out | apply pw_below_drewN))⟩
                      · have g2b : (c != 61) = true := bne_iff_ne.2 g2
                        have hnone : Hid (s = FIN) := Lib.hid (stop.out (HU.out.trans (oneU_eq HN.out (.inr (by rw [hc]; exact g2)))))
                        go_wp2_with (go_at_call 84; refine (fiberhelpers_validHeaderFieldByte.calls c false _ HV.out).mono ?_; rintro e w' ⟨rfl, ⟨n4, rfl⟩⟩)
                        refine bodyPost_ret (results_none rfl _ _ _) rfl ?_
                        exact ⟨rfl, ⟨i, hnone.out ▸ (by repeat (first | exact HI2.out | apply HDR.out))⟩, (by repeat (first | exact HB2.out | apply pw_below_drewN))⟩
                    · have hnone : Hid (s = FIN) := Lib.hid (stop.out (HU.out.trans (oneU_eq HN.out (.inl (by rw [HUL.out]; omega)))))
                      go_wp2_with (go_at_call 84; refine (fiberhelpers_validHeaderFieldByte.calls c false _ HV.out).mono ?_; rintro e w' ⟨rfl, ⟨n3, rfl⟩⟩)
                      refine bodyPost_ret (results_none rfl _ _ _) rfl ?_
                      exact ⟨rfl, ⟨i, hnone.out ▸ (by repeat (first | exact HI2.out | apply HDR.out))⟩, (by repeat (first | exact HB2.out | apply pw_below_drewN))⟩
                · obtain rfl : k = N := by omega
                  have hnone : Hid (s = FIN) := Lib.hid (stop.out (HU.out.trans (oneU_eq HN.out (.inl (by rw [HUL.out]; omega)))))
                  go_wp2
                  refine bodyPost_ret (results_none rfl _ _ _) rfl ?_
                  exact ⟨rfl, ⟨i, hnone.out ▸ (by repeat (first | exact HI2.out | apply HDR.out))⟩, (by repeat (first | exact HB2.out | apply pw_below_drewN))⟩
            · have HV1 : Hid (fiberhelpers_validHeaderFieldByte.f c1 = some false) := Lib.hid (by rw [tok_is c1 c1r]; simpa using e2)
              have hnone : Hid (s = FIN) := Lib.hid (stop.out (HU.out.trans (oneU_n0 (by
                cases hh : ns u with
                | nil => rfl
                | cons y r => rw [tokN, if_neg (by rw [hh] at hc1; simp at hc1; rw [hc1]; exact e2)]))))
              go_wp2_with (go_at_call 84; refine (fiberhelpers_validHeaderFieldByte.calls c1 false _ HV1.out).mono ?_; rintro e w' ⟨rfl, ⟨n3, rfl⟩⟩)
              refine bodyPost_ret (results_none rfl _ _ _) rfl ?_
              exact ⟨rfl, ⟨i, hnone.out ▸ (by repeat (first | exact HI.out | apply HDR.out))⟩, (by repeat (first | exact HBL.out | apply pw_below_drewN))⟩
          · have hnone : Hid (s = FIN) := Lib.hid (stop.out (HU.out.trans (oneU_n0 (by rw [List.eq_nil_of_length_eq_zero (show (ns u).length = 0 by omega)]; rfl))))
            have zu : ((u.size : Int) == 0) = true := beq_iff_eq.2 (by omega)
            go_wp2
            refine bodyPost_ret (results_none rfl _ _ _) rfl ?_
            exact ⟨rfl, ⟨i, hnone.out ▸ (by repeat (first | exact HI.out | apply HDR.out))⟩, (by repeat (first | exact HBL.out | apply pw_below_drewN))⟩
        · have hnone : Hid (s = FIN) := Lib.hid (stop.out (by unfold oneP; rw [← HNT.out, if_pos (.inr (by rw [hc0]; exact d2))]))
          have d2b : (c0 != 59) = true := bne_iff_ne.2 d2
          go_wp2
          refine bodyPost_ret (results_none rfl _ _ _) rfl ?_
          exact ⟨rfl, ⟨i, hnone.out ▸ (by repeat (first | exact HI.out | apply HDR.out))⟩, (by repeat (first | exact HBL.out | apply pw_below_drewN))⟩
      · have hnone : Hid (s = FIN) := Lib.hid (stop.out (by unfold oneP; rw [← HNT.out, if_pos (.inl (by rw [ns_length]; omega))]))
        have zt : ((t.size : Int) == 0) = true := beq_iff_eq.2 (by omega)
        go_wp2
        refine bodyPost_ret (results_none rfl _ _ _) rfl ?_
        exact ⟨rfl, ⟨i, hnone.out ▸ (by repeat (first | exact HI.out | apply HDR.out))⟩, (by repeat (first | exact HBL.out | apply pw_below_drewN))⟩
    · have hnone : Hid (s = FIN) := Lib.hid (stop.out (by
        have hl := p_ltrim_le (ns x)
        rw [ns_length] at hl
        unfold oneP
        rw [if_pos (.inl (by omega))]))
      clear stop
      go_wp2
      go_end0
      exact ⟨rfl, ⟨i, hnone.out ▸ HI.out⟩, HBL.out⟩
end Go.Proofs.Ytkbmababljcabaa.Given
