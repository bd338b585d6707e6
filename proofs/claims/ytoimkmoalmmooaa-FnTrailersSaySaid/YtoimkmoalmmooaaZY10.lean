/- Texts of this claim, one behind the other (merged by wip/prune.py of this repo, without what the proof does not use): GTrSpec, HApp2, HUpd, HSet, HNhk, HNhk2, HInit, HPeek. -/
import Derived.Test.YtoimkmoalmmooaaZY3
import Derived.Test.YtoimkmoalmmooaaZY9
set_option linter.unusedVariables false
set_option linter.unusedSimpArgs false
namespace Go.Proofs.Ytoimkmoalmmooaa.Own
open Go.RowKit Go.Proofs.YtoimkmoalmmooaaW.PrintWords Go.Proofs.YtoimkmoalmmooaaW.PrintLast Go.Proofs.YtoimkmoalmmooaaW.PrintMore Go.Proofs.Ytoimkmoalmmooaa.Base Go.Proofs.Ytoimkmoalmmooaa.Gv Go.Proofs.Ytoimkmoalmmooaa.Given Go.Proofs.Ytoimkmoalmmooaa.QA
def skeyOf (x : SSt) : ByteArray := strOfNums (nk (ns x.f1))
def specStep (L : List SP) (x : SSt) : Option (SAn × List SP) :=
  if x.f0 = 0 ∨ x.f0 = 1 then
    if badS (skeyOf x) = 2 then none else if isPrinted x.f2 = false then none else if x.f2 = ⟨#[]⟩ then none else if x.f0 = 0 ∧ 1 < (allS L (skeyOf x)).length then none
    else if badS (skeyOf x) = 0 then some (⟨⟨#[]⟩, true, 0, [], []⟩, if x.f0 = 0 then setS (skeyOf x) x.f2 L else L ++ [⟨skeyOf x, x.f2⟩])
    else some (⟨⟨#[]⟩, false, 0, [], []⟩, L)
  else if x.f0 = 2 then if wordS x.f1 = true then some (⟨⟨#[]⟩, false, 0, [], []⟩, withoutS L (skeyOf x)) else none
  else if x.f0 = 3 then if wordS x.f1 = true then some (⟨(allS L (skeyOf x)).headD ⟨#[]⟩, false, 0, [], []⟩, L) else none
  else if x.f0 = 7 then some (⟨⟨#[]⟩, false, 0, [], L⟩, L)
  else if x.f0 = 8 then some (⟨⟨#[]⟩, decide ((L.length : Int) = 0), 0, [], []⟩, L)
  else if x.f0 = 11 then some (⟨⟨#[]⟩, false, 0, [], []⟩, [])
  else none
def specRun : List SP → List SAn → List SSt → Option (List SAn)
  | _, acc, [] => some acc
  | L, acc, x :: r => match specStep L x with
    | none => none
    | some (a, L') => specRun L' (acc ++ [a]) r
def SpecT (w : World) : Option (List SAn) → Ending → World → Prop
  | none, e, w' => e = .returned (.tuple #[.slice none 0 0, .int .i64 2]) ∧ Below w.heap.size w w'
  | some acc, e, w' => ∃ A c, e = .returned (.tuple #[.slice A acc.length c, .int .i64 1]) ∧ acc.length ≤ c ∧ Kd.C k68 w' A acc.length acc ∧ Below w.heap.size w w'
theorem setS_length (key v : ByteArray) : ∀ H : List SP, (setS key v H).length ≤ H.length + 1
  | [] => by simp [setS]
  | p :: t => by
    rw [setS]
    split
    · simp
    · have := setS_length key v t; simp only [List.length_cons]; omega
theorem pairS_C {w : World} {g : Nat} {a b : ByteArray} (h : w.heap[g]? = some (.cells #[.string a, .string b] 72 (0, 0))) : Kd.C k72 w (some ⟨g, 0, none⟩) 1 [(⟨a, b⟩ : SP)] := by
  have hR : Kd.R k72 72 w 0 (fun _ => True) (.slice (some ⟨g, 0, none⟩) 1 1) [(⟨a, b⟩ : SP)] :=
    ⟨fun k hk => trivial, [.string a, .string b], ⟨rfl, .inr ⟨g, 1, _, rfl, Nat.zero_le _, h, Nat.le_refl _, by unfold maxLen; omega, rfl, rfl⟩⟩, Reps.c2 (k72_mkM w 0 _ (⟨a, b⟩ : SP)) (Reps.none _ _)⟩
  exact (Kd.R_reads' hR).2.2
theorem cells5 {w : World} {g T : Nat} {u0 u1 u2 u3 u4 : Value} (h : w.heap[g]? = some (.cells #[u0, u1, u2, u3, u4] T (0, 0))) :
    w.cell? ⟨g, 0, none⟩ = some u0 ∧ w.cell? ⟨g, 1, none⟩ = some u1 ∧ w.cell? ⟨g, 2, none⟩ = some u2 ∧ w.cell? ⟨g, 3, none⟩ = some u3 ∧ w.cell? ⟨g, 4, none⟩ = some u4 ∧ w.frozen? ⟨g, 0, none⟩ = false ∧ w.frozen? ⟨g, 1, none⟩ = false ∧ w.frozen? ⟨g, 2, none⟩ = false ∧ w.frozen? ⟨g, 3, none⟩ = false ∧ w.frozen? ⟨g, 4, none⟩ = false :=
  ⟨(cell_of_row w g 0 _ _ (0, 0) h).trans rfl, (cell_of_row w g 1 _ _ (0, 0) h).trans rfl, (cell_of_row w g 2 _ _ (0, 0) h).trans rfl, (cell_of_row w g 3 _ _ (0, 0) h).trans rfl, (cell_of_row w g 4 _ _ (0, 0) h).trans rfl, frozen_of_row w g 0 _ _ h, frozen_of_row w g 1 _ _ h, frozen_of_row w g 2 _ _ h, frozen_of_row w g 3 _ _ h, frozen_of_row w g 4 _ _ h⟩
structure SpS (w : World) (lv ov : Value) (L : List SP) (acc : List SAn) (wr : World) : Prop where
  l : Kd.R k72 72 wr w.heap.size (fun _ => True) lv L
  o : Kd.R k68 68 wr w.heap.size (fun _ => True) ov acc
  b : Below w.heap.size w wr
theorem SpS.step {w wr w1 : World} {lv ov : Value} {L : List SP} {acc : List SAn} (h : SpS w lv ov L acc wr) (hb : Below wr.heap.size wr w1) : SpS w lv ov L acc w1 :=
  ⟨Kd.R_below h.l hb, Kd.R_below h.o hb, h.b.trans ⟨hb.os, hb.tape, hb.output, hb.size, fun i hi => hb.block i (Nat.lt_of_lt_of_le hi h.b.size)⟩⟩
theorem bwk {B C : Nat} {a b : World} (h : B ≤ C) (k : Below C a b) : Below B a b := ⟨k.os, k.tape, k.output, k.size, fun i hi => k.block i (by omega)⟩
theorem two_newS (W : World) (o1 o2 : Obj) : ((W.alloc o1).alloc o2).heap[W.heap.size]? = some o1 ∧ ((W.alloc o1).alloc o2).heap[W.heap.size + 1]? = some o2 ∧ Below W.heap.size W ((W.alloc o1).alloc o2) := by
  have hb : Below W.heap.size W (W.alloc o1) := (Below.refl _ _).alloc (Nat.le_refl _) _
  have hs : (W.alloc o1).heap.size = W.heap.size + 1 := by simp
  have hb2 : Below (W.alloc o1).heap.size (W.alloc o1) ((W.alloc o1).alloc o2) := (Below.refl _ _).alloc (Nat.le_refl _) _
  refine ⟨(hb2.block _ (by omega)).trans (heap_alloc_new W o1), ?_, hb.trans (bwk (by omega) hb2)⟩
  rw [← hs]
  exact heap_alloc_new _ _
theorem rdSt_nat (l : List SSt) (i : Nat) (h : i < l.length) : rd_T66 l (i : Int) = l[i] := by
  unfold rd_T66
  simp [List.getD_eq_getElem?_getD, h]
theorem SpS.put {w W w1 : World} {lv ov v1 : Value} {L : List SP} {acc : List SAn} {a : SAn} (h : SpS w lv ov L acc W) (ho : Kd.R k68 68 w1 w.heap.size (fun _ => True) v1 (acc ++ [a])) (hb : Below w.heap.size w w1) (hg : W.grownBy w1 ov.ownBlock) : SpS w lv v1 L (acc ++ [a]) w1 :=
  ⟨Kd.R_over' h.l (Kd.R_typed h.o) (by decide) hg, ho, hb⟩
set_option maxHeartbeats 6000000 in
set_option maxRecDepth 100000 in
theorem specT_calls (w : World) (A0 : Option Addr) (c0 : Nat) (xs : List SSt) (hr : Kd.C k66 w A0 xs.length xs) (hN : xs.length ≤ 1000) (hz : ∀ x ∈ xs, x.f1.size ≤ 1000000 ∧ x.f2.size ≤ 1000000) (R : Option (List SAn)) (hR : specRun [] [] xs = R) :
  Calls Try.prog 23 #[.slice A0 xs.length c0] w fun e w' => SpecT w R e w' := by
 have HC := Lib.hid hr
 have HZ := Lib.hid hz
 have HRR := Lib.hid hR
 obtain ⟨N, hNN⟩ : ∃ n, xs.length = n := ⟨_, rfl⟩
 rw [hNN] at hN ⊢
 have HN := Lib.hid hNN
 clear hr hz hR hNN
 go_enter Try.func23, Try.ntmps23
 go_wp2
 go_loopw [4, 5, 13] (fun lv ov iv wr => ∃ (i : Nat) (L : List SP) (acc : List SAn), iv = .int .i64 i ∧ i ≤ N ∧ Hid (specRun L acc (xs.drop i) = R) ∧ Hid (L.length ≤ i ∧ acc.length ≤ i) ∧ Hid (SpS w lv ov L acc wr)) (fun _ _ iv _ => N - (intOf iv).toNat)
 case atStart => exact ⟨0, [], [], rfl, by omega, Lib.hid (by rw [List.drop_zero]; exact HRR.out), Lib.hid (by simp), Lib.hid ⟨Kd.R_nil _ _ _ _ _, Kd.R_nil _ _ _ _ _, Below.refl _ _⟩⟩
 case round =>
  obtain ⟨i, L, acc, rfl, hi, HGO, HLN, HM⟩ := hrel
  by_cases hlt : i < N
  ·have hlx : i < xs.length := by have := HN.out; omega
   obtain ⟨x, hx⟩ : ∃ x, xs[i] = x := ⟨_, rfl⟩
   have hdr : xs.drop i = x :: xs.drop (i + 1) := by rw [List.drop_eq_getElem_cons hlx, hx]
   obtain ⟨z1, z2⟩ := HZ.out x (by rw [← hx]; exact List.getElem_mem hlx)
   obtain ⟨ad, e0, y0, y1, y2, y3, y4⟩ := at_T66 (Kd.C_below HC.out (bwk (Nat.le_refl _) HM.out.b)) (i : Int) (by omega) (by omega)
   have hA0 := HC.out
   cases e0
   rw [rdSt_nat _ _ hlx, hx] at y0 y1 y2 y3 y4
   simp only [Int.toNat_natCast] at y0 y1 y2 y3 y4
   have hgo := HGO.out
   rw [hdr, specRun] at hgo
   have HGO2 := Lib.hid hgo
   have hlt' : decide ((i : Int) < (N : Int)) = true := decide_eq_true (by omega)
   obtain ⟨A1, c1, hlv, hc1, hC1⟩ := Kd.R_reads HM.out.l
   subst hlv
   have HC1 := Lib.hid hC1
   have HC1c := Lib.hid hc1
   obtain ⟨key, hkey⟩ : ∃ key, skeyOf x = key := ⟨_, rfl⟩
   obtain ⟨bd, hbd⟩ : ∃ bd, badS key = bd := ⟨_, rfl⟩
   have hnk : spec_NormalKey.f x.f1 = some key := by rw [← hkey]; exact if_pos (by omega)
   have HNK := Lib.hid (fun W => spec_NormalKey.calls x.f1 key W hnk)
   obtain ⟨kb, hkb⟩ := badS_ends x.f1 (by omega)
   have hkb2 := hkb kb (Nat.le_refl _)
   rw [show strOfNums (nk (ns x.f1)) = key from hkey, hbd] at hkb2
   have HBD := Lib.hid (fun W => spec_BadTrailer.calls kb x.f1 bd W hkb2)
   have HKEY := Lib.hid hkey
   have HBDE := Lib.hid hbd
   obtain ⟨W2, hW2⟩ : ∃ X, (wr.alloc (.cells #[.int .i64 x.f0, .string x.f1, .string x.f2, .int .i64 x.f3, .int .i64 x.f4] 66)).alloc (.cells #[.string ⟨#[]⟩, .bool false, .int .i64 0, .slice none 0 0, .slice none 0 0] 68) = X := ⟨_, rfl⟩
   have hn := two_newS wr (.cells #[.int .i64 x.f0, .string x.f1, .string x.f2, .int .i64 x.f3, .int .i64 x.f4] 66) (.cells #[.string ⟨#[]⟩, .bool false, .int .i64 0, .slice none 0 0, .slice none 0 0] 68)
   rw [hW2] at hn
   obtain ⟨p7, p8, hb2⟩ := hn
   have HW2 := Lib.hid hW2
   have HB2 := Lib.hid hb2
   have P7 := Lib.hid p7
   have P8 := Lib.hid p8
   have s1 := (cell_of_row W2 wr.heap.size 1 _ _ (0, 0) p7).trans rfl
   clear hW2 hb2 p7 p8 hlx hx hdr hA0 hgo hC1 hc1 hkey hbd hnk hkb hkb2
   go_upto_region 7 with (fail)
   rw [HW2.out]
   go_upto_region 9 with (first
    | (go_at_call 31; refine (HNK.out _).mono ?_; rintro e w3 ⟨rfl, hb3⟩; have HB3 := Lib.hid (HB2.out.trans (bwk HB2.out.size hb3)); have P73 := Lib.hid ((hb3.block _ (blk_lt P7.out)).trans P7.out); have P83 := Lib.hid ((hb3.block _ (blk_lt P8.out)).trans P8.out); have s13 := (cell_of_row w3 wr.heap.size 1 _ _ (0, 0) P73.out).trans rfl; clear hb3)
    | (go_at_call 32; refine (HBD.out _).mono ?_; rintro e w4 ⟨rfl, hb4⟩; have HB4 := Lib.hid (HB3.out.trans (bwk HB3.out.size hb4)); have P74 := Lib.hid ((hb4.block _ (blk_lt P73.out)).trans P73.out); have P84 := Lib.hid ((hb4.block _ (blk_lt P83.out)).trans P83.out); clear hb4))
   clear s1 s13 y0 y1 y2 y3 y4
   have HM4 := Lib.hid (HM.out.step HB4.out)
   have HC4 := Lib.hid (Kd.C_below HC1.out HB4.out)
   have q0 := (cell_of_row w4 wr.heap.size 0 _ _ (0, 0) P74.out).trans rfl
   have q1 := (cell_of_row w4 wr.heap.size 1 _ _ (0, 0) P74.out).trans rfl
   have q2 := (cell_of_row w4 wr.heap.size 2 _ _ (0, 0) P74.out).trans rfl
   obtain ⟨a0, a1, a2, a3, a4, f0, f1, f2, f3, f4⟩ := cells5 (P84.out)
   clear HB2 HB3 P7 P8 P73 P83
   have HX := Lib.hid (Below.refl w4.heap.size w4)
   obtain ⟨P, hP⟩ : ∃ b, isPrinted x.f2 = b := ⟨_, rfl⟩
   obtain ⟨kp, hkp⟩ := sprinted_ends x.f2 (by omega)
   have hkp2 := hkp kp (Nat.le_refl _)
   rw [hP] at hkp2
   have HPR := Lib.hid (fun W => spec_printed.calls kp x.f2 P W hkp2)
   obtain ⟨WD, hWD⟩ : ∃ b, wordS x.f1 = b := ⟨_, rfl⟩
   obtain ⟨kw, hkw⟩ := wordS_ends x.f1 (by omega)
   have hkw2 := hkw kw (Nat.le_refl _)
   rw [hWD] at hkw2
   have HWD := Lib.hid (fun W => spec_word.calls kw x.f1 WD W hkw2)
   have HPE := Lib.hid hP
   have HWE := Lib.hid hWD
   clear hP hkp hkp2 hWD hkw hkw2
   by_cases hd : x.f0 = 11
   ·have HD := Lib.hid hd
    rw [hd] at q0
    clear hd
    go_upto_region 34 with (fail)
    have hst : specStep L x = some (⟨⟨#[]⟩, false, 0, [], []⟩, []) := by unfold specStep; rw [HD.out]; rfl
    have HST := Lib.hid hst
    clear hst
    go_wp2_with (first | (
     at_builtin
     refine Kd.R_append k68 (w0 := w) w.heap.size rfl (.tmp 112) (.tmp 114) 46 68 (.agg #[(.string ⟨#[]⟩), (.bool false), (.int .i64 0), (.slice none 0 0), (.slice none 0 0)]) 80 rfl Try.underlying46 info68 rfl (by decide) (by omega) _ acc (⟨⟨#[]⟩, false, 0, [], []⟩ : SAn) [.string ⟨#[]⟩, .bool false, .int .i64 0, .slice none 0 0, .slice none 0 0] (fun _ => True) (fun k => some k ≠ u5.ownBlock) rfl (by first | (go_simp; done) | (go_simp; rfl)) ?aP (fun k hk => ⟨trivial, hk⟩) ?aF ?aO ?aB ?aS ?aL ?_
     (case aP => exact k68_mkM _ _ _ (⟨⟨#[]⟩, false, 0, [], []⟩ : SAn) (Kd.R_nil _ _ _ _ _) (Kd.R_nil _ _ _ _ _))
     (case aF => exact fun _ _ => trivial)
     (case aO => exact (⟨Kd.R_nil _ _ _ _ _, HM4.out.o, HM4.out.b⟩ : SpS w (.slice none 0 0) u5 [] acc w4).o)
     (case aB => exact (⟨Kd.R_nil _ _ _ _ _, HM4.out.o, HM4.out.b⟩ : SpS w (.slice none 0 0) u5 [] acc w4).b)
     (case aS => exact (⟨Kd.R_nil _ _ _ _ _, HM4.out.o, HM4.out.b⟩ : SpS w (.slice none 0 0) u5 [] acc w4).b.size)
     (case aL => have := HLN.out.2; omega)
     intro v9 w9 ho9 hb9 hg9 hat9
     have M9 := Lib.hid ((⟨Kd.R_nil _ _ _ _ _, HM4.out.o, HM4.out.b⟩ : SpS w (.slice none 0 0) u5 [] acc w4).put ho9 hb9 hg9)
     clear ho9 hb9 hg9 hat9))
    have g := HGO2.out
    rw [HST.out] at g
    exact ⟨⟨i + 1, _, _, by simp, by omega, Lib.hid g, Lib.hid ⟨by simp, by rw [List.length_append, List.length_singleton]; have := HLN.out.2; omega⟩, M9⟩, by simp [intOf]; omega⟩
   by_cases hd7 : x.f0 = 7
   ·have HD := Lib.hid hd7
    rw [hd7] at q0
    clear hd hd7
    go_upto_region 34 with (fail)
    obtain ⟨W6, hW6⟩ : ∃ X, w4.setCell ⟨wr.heap.size + 1, 4, none⟩ (.slice A1 L.length c1) = X := ⟨_, rfl⟩
    have e8 := heap_setCell_same w4 (wr.heap.size + 1) 4 _ _ (.slice A1 L.length c1) (P84.out)
    have e7 := (Below.heap_setCell w4 ⟨wr.heap.size + 1, 4, none⟩ (.slice A1 L.length c1) wr.heap.size (Nat.ne_of_lt (Nat.lt_succ_self _))).trans (P74.out)
    have hb6 : Below wr.heap.size wr W6 := by rw [← hW6]; exact (HB4.out.trans (bwk HB4.out.size (by repeat (first | (with_reducible first | exact HX.out | apply below_alloc | apply pw_below_drewN | apply below_drew1) | exact HX.out)))).setCell (Nat.le_succ _) _
    rw [hW6] at e8 e7 ⊢
    clear q0 q1 q2 a0 a1 a2 a3 a4 f0 f1 f2 f3 f4
    obtain ⟨a0, a1, a2, a3, a4, f0, f1, f2, f3, f4⟩ := cells5 (e8)
    have q0 := (cell_of_row W6 wr.heap.size 0 _ _ (0, 0) e7).trans rfl
    have q2 := (cell_of_row W6 wr.heap.size 2 _ _ (0, 0) e7).trans rfl
    have E8 := Lib.hid e8
    have E7 := Lib.hid e7
    have HB6 := Lib.hid hb6
    clear e8 e7 hb6 hW6
    have hst : specStep L x = some (⟨⟨#[]⟩, false, 0, [], L⟩, L) := by unfold specStep; rw [HD.out]; rfl
    have HST := Lib.hid hst
    clear hst
    go_wp2_with (first | (
     at_builtin
     refine Kd.R_append k68 (w0 := w) w.heap.size rfl (.tmp 112) (.tmp 114) 46 68 (.agg #[(.string ⟨#[]⟩), (.bool false), (.int .i64 0), (.slice none 0 0), (.slice none 0 0)]) 80 rfl Try.underlying46 info68 rfl (by decide) (by omega) _ acc (⟨⟨#[]⟩, false, 0, [], L⟩ : SAn) [.string ⟨#[]⟩, .bool false, .int .i64 0, .slice none 0 0, .slice A1 L.length c1] (fun _ => True) (fun k => some k ≠ u5.ownBlock) rfl (by first | (go_simp; done) | (go_simp; rfl)) ?aP (fun k hk => ⟨trivial, hk⟩) ?aF ?aO ?aB ?aS ?aL ?_
     (case aP => exact k68_mkM _ _ _ (⟨⟨#[]⟩, false, 0, [], L⟩ : SAn) (Kd.R_nil _ _ _ _ _) (Kd.R_mono (Kd.R_apart' (HM.out.step HB6.out).l (Kd.R_typed (HM.out.step HB6.out).o) (by decide)) (fun _ h => h.2)))
     (case aF => exact fun _ _ => trivial)
     (case aO => exact (HM.out.step HB6.out).o)
     (case aB => exact (HM.out.step HB6.out).b)
     (case aS => exact (HM.out.step HB6.out).b.size)
     (case aL => have := HLN.out.2; omega)
     intro v9 w9 ho9 hb9 hg9 hat9
     have M9 := Lib.hid ((HM.out.step HB6.out).put ho9 hb9 hg9)
     clear ho9 hb9 hg9 hat9))
    have g := HGO2.out
    rw [HST.out] at g
    exact ⟨⟨i + 1, _, _, by simp, by omega, Lib.hid g, Lib.hid ⟨by have := HLN.out.1; omega, by rw [List.length_append, List.length_singleton]; have := HLN.out.2; omega⟩, M9⟩, by simp [intOf]; omega⟩
   by_cases hd8 : x.f0 = 8
   ·have HD := Lib.hid hd8
    rw [hd8] at q0
    clear hd hd7 hd8
    by_cases cL : (L.length : Int) = 0
    ·have CL := Lib.hid cL
     have cL2 : decide ((L.length : Int) = 0) = true := decide_eq_true cL
     have CL2 := Lib.hid cL2
     have cL3 : ((L.length : Int) == 0) = true := beq_iff_eq.mpr cL
     clear cL cL2
     go_upto_region 34 with (fail)
     obtain ⟨W6, hW6⟩ : ∃ X, w4.setCell ⟨wr.heap.size + 1, 1, none⟩ (.bool true) = X := ⟨_, rfl⟩
     have e8 := heap_setCell_same w4 (wr.heap.size + 1) 1 _ _ (.bool true) (P84.out)
     have e7 := (Below.heap_setCell w4 ⟨wr.heap.size + 1, 1, none⟩ (.bool true) wr.heap.size (Nat.ne_of_lt (Nat.lt_succ_self _))).trans (P74.out)
     have hb6 : Below wr.heap.size wr W6 := by rw [← hW6]; exact (HB4.out.trans (bwk HB4.out.size (by repeat (first | (with_reducible first | exact HX.out | apply below_alloc | apply pw_below_drewN | apply below_drew1) | exact HX.out)))).setCell (Nat.le_succ _) _
     rw [hW6] at e8 e7 ⊢
     clear q0 q1 q2 a0 a1 a2 a3 a4 f0 f1 f2 f3 f4
     obtain ⟨a0, a1, a2, a3, a4, f0, f1, f2, f3, f4⟩ := cells5 (e8)
     have q0 := (cell_of_row W6 wr.heap.size 0 _ _ (0, 0) e7).trans rfl
     have q2 := (cell_of_row W6 wr.heap.size 2 _ _ (0, 0) e7).trans rfl
     have E8 := Lib.hid e8
     have E7 := Lib.hid e7
     have HB6 := Lib.hid hb6
     clear e8 e7 hb6 hW6
     have hst : specStep L x = some (⟨⟨#[]⟩, true, 0, [], []⟩, L) := by unfold specStep; rw [HD.out, CL2.out]; rfl
     have HST := Lib.hid hst
     clear hst
     go_wp2_with (first | (
      at_builtin
      refine Kd.R_append k68 (w0 := w) w.heap.size rfl (.tmp 112) (.tmp 114) 46 68 (.agg #[(.string ⟨#[]⟩), (.bool false), (.int .i64 0), (.slice none 0 0), (.slice none 0 0)]) 80 rfl Try.underlying46 info68 rfl (by decide) (by omega) _ acc (⟨⟨#[]⟩, true, 0, [], []⟩ : SAn) [.string ⟨#[]⟩, .bool true, .int .i64 0, .slice none 0 0, .slice none 0 0] (fun _ => True) (fun k => some k ≠ u5.ownBlock) rfl (by first | (go_simp; done) | (go_simp; rfl)) ?aP (fun k hk => ⟨trivial, hk⟩) ?aF ?aO ?aB ?aS ?aL ?_
      (case aP => exact k68_mkM _ _ _ (⟨⟨#[]⟩, true, 0, [], []⟩ : SAn) (Kd.R_nil _ _ _ _ _) (Kd.R_nil _ _ _ _ _))
      (case aF => exact fun _ _ => trivial)
      (case aO => exact (HM.out.step HB6.out).o)
      (case aB => exact (HM.out.step HB6.out).b)
      (case aS => exact (HM.out.step HB6.out).b.size)
      (case aL => have := HLN.out.2; omega)
      intro v9 w9 ho9 hb9 hg9 hat9
      have M9 := Lib.hid ((HM.out.step HB6.out).put ho9 hb9 hg9)
      clear ho9 hb9 hg9 hat9))
     have g := HGO2.out
     rw [HST.out] at g
     exact ⟨⟨i + 1, _, _, by simp, by omega, Lib.hid g, Lib.hid ⟨by have := HLN.out.1; omega, by rw [List.length_append, List.length_singleton]; have := HLN.out.2; omega⟩, M9⟩, by simp [intOf]; omega⟩
    ·have CL := Lib.hid cL
     have cL2 : decide ((L.length : Int) = 0) = false := decide_eq_false cL
     have CL2 := Lib.hid cL2
     have cL3 : ((L.length : Int) == 0) = false := beq_eq_false_iff_ne.mpr cL
     clear cL2
     go_upto_region 34 with (fail)
     obtain ⟨W6, hW6⟩ : ∃ X, w4.setCell ⟨wr.heap.size + 1, 1, none⟩ (.bool false) = X := ⟨_, rfl⟩
     have e8 := heap_setCell_same w4 (wr.heap.size + 1) 1 _ _ (.bool false) (P84.out)
     have e7 := (Below.heap_setCell w4 ⟨wr.heap.size + 1, 1, none⟩ (.bool false) wr.heap.size (Nat.ne_of_lt (Nat.lt_succ_self _))).trans (P74.out)
     have hb6 : Below wr.heap.size wr W6 := by rw [← hW6]; exact (HB4.out.trans (bwk HB4.out.size (by repeat (first | (with_reducible first | exact HX.out | apply below_alloc | apply pw_below_drewN | apply below_drew1) | exact HX.out)))).setCell (Nat.le_succ _) _
     rw [hW6] at e8 e7 ⊢
     clear q0 q1 q2 a0 a1 a2 a3 a4 f0 f1 f2 f3 f4
     obtain ⟨a0, a1, a2, a3, a4, f0, f1, f2, f3, f4⟩ := cells5 (e8)
     have q0 := (cell_of_row W6 wr.heap.size 0 _ _ (0, 0) e7).trans rfl
     have q2 := (cell_of_row W6 wr.heap.size 2 _ _ (0, 0) e7).trans rfl
     have E8 := Lib.hid e8
     have E7 := Lib.hid e7
     have HB6 := Lib.hid hb6
     clear e8 e7 hb6 hW6
     have hst : specStep L x = some (⟨⟨#[]⟩, false, 0, [], []⟩, L) := by unfold specStep; rw [HD.out, CL2.out]; rfl
     have HST := Lib.hid hst
     clear hst
     go_wp2_with (first | (
      at_builtin
      refine Kd.R_append k68 (w0 := w) w.heap.size rfl (.tmp 112) (.tmp 114) 46 68 (.agg #[(.string ⟨#[]⟩), (.bool false), (.int .i64 0), (.slice none 0 0), (.slice none 0 0)]) 80 rfl Try.underlying46 info68 rfl (by decide) (by omega) _ acc (⟨⟨#[]⟩, false, 0, [], []⟩ : SAn) [.string ⟨#[]⟩, .bool false, .int .i64 0, .slice none 0 0, .slice none 0 0] (fun _ => True) (fun k => some k ≠ u5.ownBlock) rfl (by first | (go_simp; done) | (go_simp; rfl)) ?aP (fun k hk => ⟨trivial, hk⟩) ?aF ?aO ?aB ?aS ?aL ?_
      (case aP => exact k68_mkM _ _ _ (⟨⟨#[]⟩, false, 0, [], []⟩ : SAn) (Kd.R_nil _ _ _ _ _) (Kd.R_nil _ _ _ _ _))
      (case aF => exact fun _ _ => trivial)
      (case aO => exact (HM.out.step HB6.out).o)
      (case aB => exact (HM.out.step HB6.out).b)
      (case aS => exact (HM.out.step HB6.out).b.size)
      (case aL => have := HLN.out.2; omega)
      intro v9 w9 ho9 hb9 hg9 hat9
      have M9 := Lib.hid ((HM.out.step HB6.out).put ho9 hb9 hg9)
      clear ho9 hb9 hg9 hat9))
     have g := HGO2.out
     rw [HST.out] at g
     exact ⟨⟨i + 1, _, _, by simp, by omega, Lib.hid g, Lib.hid ⟨by have := HLN.out.1; omega, by rw [List.length_append, List.length_singleton]; have := HLN.out.2; omega⟩, M9⟩, by simp [intOf]; omega⟩
   by_cases hd2 : x.f0 = 2
   ·have HD := Lib.hid hd2
    rw [hd2] at q0
    clear hd hd7 hd8 hd2
    cases WD with
    | false =>
     go_wp2_with (go_at_call 36; refine (HWD.out _).mono ?_; rintro e w' ⟨rfl, ⟨n, rfl⟩⟩)
     have hst : specStep L x = none := by unfold specStep; rw [HD.out, HWE.out]; rfl
     have g := HGO2.out
     rw [hst] at g
     go_ret2
     rw [← g]
     exact ⟨rfl, (HM4.out.step (by repeat (first | (with_reducible first | exact HX.out | apply below_alloc | apply pw_below_drewN | apply below_drew1) | exact HX.out))).b⟩
    | true =>
     obtain ⟨kx, hkx⟩ := withoutS_ends L key (by have := HLN.out.1; omega)
     have HWO := Lib.hid (fun W (h : Kd.C k72 W A1 L.length L) => spec_without.calls kx A1 c1 L key _ W h HC1c.out (hkx kx (Nat.le_refl _)))
     clear hkx
     go_upto_region 34 with (first
      | (go_at_call 36; refine (HWD.out _).mono ?_; rintro e w' ⟨rfl, ⟨n, rfl⟩⟩)
      | (go_at_call 37; refine (HWO.out _ (Kd.C_below HC4.out (by repeat (first | (with_reducible first | exact HX.out | apply below_alloc | apply pw_below_drewN | apply below_drew1) | exact HX.out)))).mono ?_; rintro e w5 ⟨v0, rfl, hR, hb5⟩; obtain ⟨A9, c9, rfl⟩ := Kd.R_slice hR; have HRN := Lib.hid (Kd.R_lower hR (HM4.out.step (by repeat (first | (with_reducible first | exact HX.out | apply below_alloc | apply pw_below_drewN | apply below_drew1) | exact HX.out))).b.size); have HX2 := Lib.hid (below_step (by repeat (first | (with_reducible first | exact HX.out | apply below_alloc | apply pw_below_drewN | apply below_drew1) | exact HX.out)) hb5); clear HX; have HX := HX2; clear HX2; have p7_ := (HX.out.block _ (blk_lt P74.out)).trans P74.out; have p8_ := (HX.out.block _ (blk_lt P84.out)).trans P84.out; have q0 := (cell_of_row w5 wr.heap.size 0 _ _ (0, 0) p7_).trans rfl; have q1 := (cell_of_row w5 wr.heap.size 1 _ _ (0, 0) p7_).trans rfl; have q2 := (cell_of_row w5 wr.heap.size 2 _ _ (0, 0) p7_).trans rfl; obtain ⟨a0, a1, a2, a3, a4, f0, f1, f2, f3, f4⟩ := cells5 p8_; clear p7_ p8_ hb5; clear hR))
     have hst : specStep L x = some (⟨⟨#[]⟩, false, 0, [], []⟩, withoutS L key) := by unfold specStep; rw [HD.out, HWE.out, HKEY.out]; rfl
     have HST := Lib.hid hst
     clear hst
     go_wp2_with (first | (
      at_builtin
      refine Kd.R_append k68 (w0 := w) w.heap.size rfl (.tmp 112) (.tmp 114) 46 68 (.agg #[(.string ⟨#[]⟩), (.bool false), (.int .i64 0), (.slice none 0 0), (.slice none 0 0)]) 80 rfl Try.underlying46 info68 rfl (by decide) (by omega) _ acc (⟨⟨#[]⟩, false, 0, [], []⟩ : SAn) [.string ⟨#[]⟩, .bool false, .int .i64 0, .slice none 0 0, .slice none 0 0] (fun _ => True) (fun k => some k ≠ u5.ownBlock) rfl (by first | (go_simp; done) | (go_simp; rfl)) ?aP (fun k hk => ⟨trivial, hk⟩) ?aF ?aO ?aB ?aS ?aL ?_
      (case aP => exact k68_mkM _ _ _ (⟨⟨#[]⟩, false, 0, [], []⟩ : SAn) (Kd.R_nil _ _ _ _ _) (Kd.R_nil _ _ _ _ _))
      (case aF => exact fun _ _ => trivial)
      (case aO => exact (⟨HRN.out, (HM4.out.step HX.out).o, (HM4.out.step HX.out).b⟩ : SpS w _ u5 (withoutS L key) acc w5).o)
      (case aB => exact (⟨HRN.out, (HM4.out.step HX.out).o, (HM4.out.step HX.out).b⟩ : SpS w _ u5 (withoutS L key) acc w5).b)
      (case aS => exact (⟨HRN.out, (HM4.out.step HX.out).o, (HM4.out.step HX.out).b⟩ : SpS w _ u5 (withoutS L key) acc w5).b.size)
      (case aL => have := HLN.out.2; omega)
      intro v9 w9 ho9 hb9 hg9 hat9
      have M9 := Lib.hid ((⟨HRN.out, (HM4.out.step HX.out).o, (HM4.out.step HX.out).b⟩ : SpS w _ u5 (withoutS L key) acc w5).put ho9 hb9 hg9)
      clear ho9 hb9 hg9 hat9))
     have g := HGO2.out
     rw [HST.out] at g
     exact ⟨⟨i + 1, _, _, by simp, by omega, Lib.hid g, Lib.hid ⟨by have := HLN.out.1; have q_ : (withoutS L key).length ≤ L.length := List.length_filter_le _ _; omega, by rw [List.length_append, List.length_singleton]; have := HLN.out.2; omega⟩, M9⟩, by simp [intOf]; omega⟩
   by_cases hd3 : x.f0 = 3
   ·have HD := Lib.hid hd3
    rw [hd3] at q0
    clear hd hd7 hd8 hd2 hd3
    cases WD with
    | false =>
     go_wp2_with (go_at_call 36; refine (HWD.out _).mono ?_; rintro e w' ⟨rfl, ⟨n, rfl⟩⟩)
     have hst : specStep L x = none := by unfold specStep; rw [HD.out, HWE.out]; rfl
     have g := HGO2.out
     rw [hst] at g
     go_ret2
     rw [← g]
     exact ⟨rfl, (HM4.out.step (by repeat (first | (with_reducible first | exact HX.out | apply below_alloc | apply pw_below_drewN | apply below_drew1) | exact HX.out))).b⟩
    | true =>
     obtain ⟨kx, hkx⟩ := firstS_ends L key (by have := HLN.out.1; omega)
     obtain ⟨T, hT⟩ : ∃ T, (allS L key).headD ⟨#[]⟩ = T := ⟨_, rfl⟩
     rw [hT] at hkx
     have HT := Lib.hid hT
     have HFO := Lib.hid (fun W (h : Kd.C k72 W A1 L.length L) => spec_firstOf.calls kx A1 c1 L key T W h HC1c.out (hkx kx (Nat.le_refl _)))
     clear hkx hT
     go_upto_region 34 with (first
      | (go_at_call 36; refine (HWD.out _).mono ?_; rintro e w' ⟨rfl, ⟨n, rfl⟩⟩)
      | (go_at_call 38; refine (HFO.out _ (Kd.C_below HC4.out (by repeat (first | (with_reducible first | exact HX.out | apply below_alloc | apply pw_below_drewN | apply below_drew1) | exact HX.out)))).mono ?_; rintro e w5 ⟨rfl, hb5⟩; have HX2 := Lib.hid (below_step (by repeat (first | (with_reducible first | exact HX.out | apply below_alloc | apply pw_below_drewN | apply below_drew1) | exact HX.out)) hb5); clear HX; have HX := HX2; clear HX2; have p7_ := (HX.out.block _ (blk_lt P74.out)).trans P74.out; have p8_ := (HX.out.block _ (blk_lt P84.out)).trans P84.out; have q0 := (cell_of_row w5 wr.heap.size 0 _ _ (0, 0) p7_).trans rfl; have q1 := (cell_of_row w5 wr.heap.size 1 _ _ (0, 0) p7_).trans rfl; have q2 := (cell_of_row w5 wr.heap.size 2 _ _ (0, 0) p7_).trans rfl; obtain ⟨a0, a1, a2, a3, a4, f0, f1, f2, f3, f4⟩ := cells5 p8_; clear p7_ p8_ hb5))
     obtain ⟨W6, hW6⟩ : ∃ X, w5.setCell ⟨wr.heap.size + 1, 0, none⟩ (.string T) = X := ⟨_, rfl⟩
     have e8 := heap_setCell_same w5 (wr.heap.size + 1) 0 _ _ (.string T) ((HX.out.block _ (blk_lt P84.out)).trans P84.out)
     have e7 := (Below.heap_setCell w5 ⟨wr.heap.size + 1, 0, none⟩ (.string T) wr.heap.size (Nat.ne_of_lt (Nat.lt_succ_self _))).trans ((HX.out.block _ (blk_lt P74.out)).trans P74.out)
     have hb6 : Below wr.heap.size wr W6 := by rw [← hW6]; exact (HB4.out.trans (bwk HB4.out.size (by repeat (first | (with_reducible first | exact HX.out | apply below_alloc | apply pw_below_drewN | apply below_drew1) | exact HX.out)))).setCell (Nat.le_succ _) _
     rw [hW6] at e8 e7 ⊢
     clear q0 q1 q2 a0 a1 a2 a3 a4 f0 f1 f2 f3 f4
     obtain ⟨a0, a1, a2, a3, a4, f0, f1, f2, f3, f4⟩ := cells5 (e8)
     have q0 := (cell_of_row W6 wr.heap.size 0 _ _ (0, 0) e7).trans rfl
     have q2 := (cell_of_row W6 wr.heap.size 2 _ _ (0, 0) e7).trans rfl
     have E8 := Lib.hid e8
     have E7 := Lib.hid e7
     have HB6 := Lib.hid hb6
     clear e8 e7 hb6 hW6
     have hst : specStep L x = some (⟨T, false, 0, [], []⟩, L) := by unfold specStep; rw [HD.out, HWE.out, HKEY.out, HT.out]; rfl
     have HST := Lib.hid hst
     clear hst
     go_wp2_with (first | (
      at_builtin
      refine Kd.R_append k68 (w0 := w) w.heap.size rfl (.tmp 112) (.tmp 114) 46 68 (.agg #[(.string ⟨#[]⟩), (.bool false), (.int .i64 0), (.slice none 0 0), (.slice none 0 0)]) 80 rfl Try.underlying46 info68 rfl (by decide) (by omega) _ acc (⟨T, false, 0, [], []⟩ : SAn) [.string T, .bool false, .int .i64 0, .slice none 0 0, .slice none 0 0] (fun _ => True) (fun k => some k ≠ u5.ownBlock) rfl (by first | (go_simp; done) | (go_simp; rfl)) ?aP (fun k hk => ⟨trivial, hk⟩) ?aF ?aO ?aB ?aS ?aL ?_
      (case aP => exact k68_mkM _ _ _ (⟨T, false, 0, [], []⟩ : SAn) (Kd.R_nil _ _ _ _ _) (Kd.R_nil _ _ _ _ _))
      (case aF => exact fun _ _ => trivial)
      (case aO => exact (HM.out.step HB6.out).o)
      (case aB => exact (HM.out.step HB6.out).b)
      (case aS => exact (HM.out.step HB6.out).b.size)
      (case aL => have := HLN.out.2; omega)
      intro v9 w9 ho9 hb9 hg9 hat9
      have M9 := Lib.hid ((HM.out.step HB6.out).put ho9 hb9 hg9)
      clear ho9 hb9 hg9 hat9))
     have g := HGO2.out
     rw [HST.out] at g
     exact ⟨⟨i + 1, _, _, by simp, by omega, Lib.hid g, Lib.hid ⟨by have := HLN.out.1; omega, by rw [List.length_append, List.length_singleton]; have := HLN.out.2; omega⟩, M9⟩, by simp [intOf]; omega⟩
   by_cases hd0 : x.f0 = 0
   ·have HD := Lib.hid hd0
    rw [hd0] at q0
    clear hd hd7 hd8 hd2 hd3 hd0
    by_cases b2 : bd = 2
    ·subst b2
     go_wp2
     have hst : specStep L x = none := by unfold specStep; rw [if_pos (.inl HD.out), HKEY.out, HBDE.out, if_pos rfl]
     have g := HGO2.out
     rw [hst] at g
     go_ret2
     rw [← g]
     exact ⟨rfl, (HM4.out.step (by repeat (first | (with_reducible first | exact HX.out | apply below_alloc | apply pw_below_drewN | apply below_drew1) | exact HX.out))).b⟩
    ·have b2' : (bd == 2) = false := beq_eq_false_iff_ne.mpr b2
     have B2 := Lib.hid b2
     clear b2
     cases P with
     | false =>
      go_wp2_with (go_at_call 33; refine (HPR.out _).mono ?_; rintro e w' ⟨rfl, ⟨n, rfl⟩⟩)
      have hst : specStep L x = none := by unfold specStep; rw [if_pos (.inl HD.out), HKEY.out, HBDE.out, if_neg B2.out, HPE.out, if_pos rfl]
      have g := HGO2.out
      rw [hst] at g
      go_ret2
      rw [← g]
      exact ⟨rfl, (HM4.out.step (by repeat (first | (with_reducible first | exact HX.out | apply below_alloc | apply pw_below_drewN | apply below_drew1) | exact HX.out))).b⟩
     | true =>
      by_cases e2 : x.f2 = ⟨#[]⟩
      ·have E2 := Lib.hid e2
       have e21 : (x.f2.toList == (⟨#[]⟩ : ByteArray).toList) = true := by rw [e2]; exact beq_self_eq_true _
       have e22 : x.f2.toList.isEmpty = true := by rw [e2, show (⟨#[]⟩ : ByteArray).toList = [] from Lib.toList_data _]; rfl
       have e23 : (x.f2.toList == []) = true := by rw [e2, show (⟨#[]⟩ : ByteArray).toList = [] from Lib.toList_data _]; rfl
       clear e2
       go_wp2_with (go_at_call 33; refine (HPR.out _).mono ?_; rintro e w' ⟨rfl, ⟨n, rfl⟩⟩)
       have hst : specStep L x = none := by unfold specStep; rw [if_pos (.inl HD.out), HKEY.out, HBDE.out, if_neg B2.out, HPE.out, if_neg (by decide), if_pos E2.out]
       have g := HGO2.out
       rw [hst] at g
       go_ret2
       rw [← g]
       exact ⟨rfl, (HM4.out.step (by repeat (first | (with_reducible first | exact HX.out | apply below_alloc | apply pw_below_drewN | apply below_drew1) | exact HX.out))).b⟩
      ·have E2 := Lib.hid e2
       have e21 : (x.f2.toList == (⟨#[]⟩ : ByteArray).toList) = false := beq_eq_false_iff_ne.mpr (fun h => e2 ((toList_eq_iff _ _).1 h))
       have e22 : x.f2.toList.isEmpty = false := by cases h : x.f2.toList with | nil => exact absurd ((toList_eq_iff _ ⟨#[]⟩).1 (by rw [h, Lib.toList_data])) e2 | cons _ _ => rfl
       have e23 : (x.f2.toList == []) = false := by cases h : x.f2.toList with | nil => exact absurd ((toList_eq_iff _ ⟨#[]⟩).1 (by rw [h, Lib.toList_data])) e2 | cons _ _ => rfl
       clear e2
       obtain ⟨kx, hkx⟩ := allS_ends L key (by have := HLN.out.1; omega)
       obtain ⟨vs, hvs⟩ : ∃ vs, allS L key = vs := ⟨_, rfl⟩
       rw [hvs] at hkx
       have HVS := Lib.hid hvs
       have HAL := Lib.hid (fun W (h : Kd.C k72 W A1 L.length L) => spec_allOf.calls kx A1 c1 L key vs W h HC1c.out (hkx kx (Nat.le_refl _)))
       clear hkx hvs
       by_cases c3 : 1 < vs.length
       ·have c3' : (1 : Int) < (vs.length : Int) := by omega
        go_wp2_with (first | (go_at_call 33; refine (HPR.out _).mono ?_; rintro e w' ⟨rfl, ⟨n, rfl⟩⟩) | (go_at_call 34; refine (HAL.out _ (Kd.C_below HC4.out (by repeat (first | (with_reducible first | exact HX.out | apply below_alloc | apply pw_below_drewN | apply below_drew1) | exact HX.out)))).mono ?_; rintro e w5 ⟨v0, rfl, hR, hb5⟩; obtain ⟨A9, c9, rfl⟩ := Kd.R_slice hR; have HX2 := Lib.hid (below_step (by repeat (first | (with_reducible first | exact HX.out | apply below_alloc | apply pw_below_drewN | apply below_drew1) | exact HX.out)) hb5); clear HX; have HX := HX2; clear HX2; have p7_ := (HX.out.block _ (blk_lt P74.out)).trans P74.out; have p8_ := (HX.out.block _ (blk_lt P84.out)).trans P84.out; have q0 := (cell_of_row w5 wr.heap.size 0 _ _ (0, 0) p7_).trans rfl; have q1 := (cell_of_row w5 wr.heap.size 1 _ _ (0, 0) p7_).trans rfl; have q2 := (cell_of_row w5 wr.heap.size 2 _ _ (0, 0) p7_).trans rfl; obtain ⟨a0, a1, a2, a3, a4, f0, f1, f2, f3, f4⟩ := cells5 p8_; clear p7_ p8_ hb5; clear hR))
        have hst : specStep L x = none := by unfold specStep; rw [if_pos (.inl HD.out), HKEY.out, HBDE.out, if_neg B2.out, HPE.out, if_neg (by decide), if_neg E2.out, HVS.out, if_pos ⟨HD.out, by assumption⟩]
        have g := HGO2.out
        rw [hst] at g
        go_ret2
        rw [← g]
        exact ⟨rfl, (HM4.out.step (by repeat (first | (with_reducible first | exact HX.out | apply below_alloc | apply pw_below_drewN | apply below_drew1) | exact HX.out))).b⟩
       ·have c3' : ¬ (1 : Int) < (vs.length : Int) := by omega
        have C3 := Lib.hid c3
        clear c3
        by_cases b0 : bd = 0
        ·subst b0
         go_upto_region 16 with (first | (go_at_call 33; refine (HPR.out _).mono ?_; rintro e w' ⟨rfl, ⟨n, rfl⟩⟩) | (go_at_call 34; refine (HAL.out _ (Kd.C_below HC4.out (by repeat (first | (with_reducible first | exact HX.out | apply below_alloc | apply pw_below_drewN | apply below_drew1) | exact HX.out)))).mono ?_; rintro e w5 ⟨v0, rfl, hR, hb5⟩; obtain ⟨A9, c9, rfl⟩ := Kd.R_slice hR; have HX2 := Lib.hid (below_step (by repeat (first | (with_reducible first | exact HX.out | apply below_alloc | apply pw_below_drewN | apply below_drew1) | exact HX.out)) hb5); clear HX; have HX := HX2; clear HX2; have p7_ := (HX.out.block _ (blk_lt P74.out)).trans P74.out; have p8_ := (HX.out.block _ (blk_lt P84.out)).trans P84.out; have q0 := (cell_of_row w5 wr.heap.size 0 _ _ (0, 0) p7_).trans rfl; have q1 := (cell_of_row w5 wr.heap.size 1 _ _ (0, 0) p7_).trans rfl; have q2 := (cell_of_row w5 wr.heap.size 2 _ _ (0, 0) p7_).trans rfl; obtain ⟨a0, a1, a2, a3, a4, f0, f1, f2, f3, f4⟩ := cells5 p8_; clear p7_ p8_ hb5; clear hR))
         obtain ⟨W6, hW6⟩ : ∃ X, w5.setCell ⟨wr.heap.size + 1, 1, none⟩ (.bool true) = X := ⟨_, rfl⟩
         have e8 := heap_setCell_same w5 (wr.heap.size + 1) 1 _ _ (.bool true) ((HX.out.block _ (blk_lt P84.out)).trans P84.out)
         have e7 := (Below.heap_setCell w5 ⟨wr.heap.size + 1, 1, none⟩ (.bool true) wr.heap.size (Nat.ne_of_lt (Nat.lt_succ_self _))).trans ((HX.out.block _ (blk_lt P74.out)).trans P74.out)
         have hb6 : Below wr.heap.size wr W6 := by rw [← hW6]; exact (HB4.out.trans (bwk HB4.out.size (by repeat (first | (with_reducible first | exact HX.out | apply below_alloc | apply pw_below_drewN | apply below_drew1) | exact HX.out)))).setCell (Nat.le_succ _) _
         rw [hW6] at e8 e7 ⊢
         clear q0 q1 q2 a0 a1 a2 a3 a4 f0 f1 f2 f3 f4
         obtain ⟨a0, a1, a2, a3, a4, f0, f1, f2, f3, f4⟩ := cells5 (e8)
         have q0 := (cell_of_row W6 wr.heap.size 0 _ _ (0, 0) e7).trans rfl
         have q2 := (cell_of_row W6 wr.heap.size 2 _ _ (0, 0) e7).trans rfl
         have E8 := Lib.hid e8
         have E7 := Lib.hid e7
         have HB6 := Lib.hid hb6
         clear e8 e7 hb6 hW6
         rw [HD.out] at q0
         have HST6 := Lib.hid (specSet_calls W6 A1 c1 L key x.f2 (Kd.C_below HC1.out HB6.out) (by have := HLN.out.1; omega))
         go_upto_region 34 with (go_at_call 35; refine HST6.out.mono ?_; rintro e w7 ⟨v0, rfl, hR, hb7⟩; obtain ⟨A9, c9, rfl⟩ := Kd.R_slice hR; have HRN := Lib.hid (Kd.R_lower hR (HM.out.step HB6.out).b.size); have M7 := Lib.hid ((HM.out.step HB6.out).step hb7); have HX7 := Lib.hid hb7; have e8_ := (HX7.out.block _ (blk_lt E8.out)).trans E8.out; obtain ⟨a0, a1, a2, a3, a4, f0, f1, f2, f3, f4⟩ := cells5 e8_; clear e8_ hb7; clear hR)
         have hst : specStep L x = some (⟨⟨#[]⟩, true, 0, [], []⟩, setS key x.f2 L) := by unfold specStep; rw [if_pos (.inl HD.out), HKEY.out, HBDE.out, if_neg B2.out, HPE.out, if_neg (by decide), if_neg E2.out, HVS.out, if_neg (fun h => C3.out h.2), if_pos rfl, if_pos HD.out]
         have HST := Lib.hid hst
         clear hst
         go_wp2_with (first | (
          at_builtin
          refine Kd.R_append k68 (w0 := w) w.heap.size rfl (.tmp 112) (.tmp 114) 46 68 (.agg #[(.string ⟨#[]⟩), (.bool false), (.int .i64 0), (.slice none 0 0), (.slice none 0 0)]) 80 rfl Try.underlying46 info68 rfl (by decide) (by omega) _ acc (⟨⟨#[]⟩, true, 0, [], []⟩ : SAn) [.string ⟨#[]⟩, .bool true, .int .i64 0, .slice none 0 0, .slice none 0 0] (fun _ => True) (fun k => some k ≠ u5.ownBlock) rfl (by first | (go_simp; done) | (go_simp; rfl)) ?aP (fun k hk => ⟨trivial, hk⟩) ?aF ?aO ?aB ?aS ?aL ?_
          (case aP => exact k68_mkM _ _ _ (⟨⟨#[]⟩, true, 0, [], []⟩ : SAn) (Kd.R_nil _ _ _ _ _) (Kd.R_nil _ _ _ _ _))
          (case aF => exact fun _ _ => trivial)
          (case aO => exact (⟨HRN.out, M7.out.o, M7.out.b⟩ : SpS w _ u5 (setS key x.f2 L) acc w7).o)
          (case aB => exact (⟨HRN.out, M7.out.o, M7.out.b⟩ : SpS w _ u5 (setS key x.f2 L) acc w7).b)
          (case aS => exact (⟨HRN.out, M7.out.o, M7.out.b⟩ : SpS w _ u5 (setS key x.f2 L) acc w7).b.size)
          (case aL => have := HLN.out.2; omega)
          intro v9 w9 ho9 hb9 hg9 hat9
          have M9 := Lib.hid ((⟨HRN.out, M7.out.o, M7.out.b⟩ : SpS w _ u5 (setS key x.f2 L) acc w7).put ho9 hb9 hg9)
          clear ho9 hb9 hg9 hat9))
         have g := HGO2.out
         rw [HST.out] at g
         exact ⟨⟨i + 1, _, _, by simp, by omega, Lib.hid g, Lib.hid ⟨by have := HLN.out.1; have := setS_length key x.f2 L; omega, by rw [List.length_append, List.length_singleton]; have := HLN.out.2; omega⟩, M9⟩, by simp [intOf]; omega⟩
        ·have b0' : (bd == 0) = false := beq_eq_false_iff_ne.mpr b0
         have B0 := Lib.hid b0
         clear b0
         go_upto_region 16 with (first | (go_at_call 33; refine (HPR.out _).mono ?_; rintro e w' ⟨rfl, ⟨n, rfl⟩⟩) | (go_at_call 34; refine (HAL.out _ (Kd.C_below HC4.out (by repeat (first | (with_reducible first | exact HX.out | apply below_alloc | apply pw_below_drewN | apply below_drew1) | exact HX.out)))).mono ?_; rintro e w5 ⟨v0, rfl, hR, hb5⟩; obtain ⟨A9, c9, rfl⟩ := Kd.R_slice hR; have HX2 := Lib.hid (below_step (by repeat (first | (with_reducible first | exact HX.out | apply below_alloc | apply pw_below_drewN | apply below_drew1) | exact HX.out)) hb5); clear HX; have HX := HX2; clear HX2; have p7_ := (HX.out.block _ (blk_lt P74.out)).trans P74.out; have p8_ := (HX.out.block _ (blk_lt P84.out)).trans P84.out; have q0 := (cell_of_row w5 wr.heap.size 0 _ _ (0, 0) p7_).trans rfl; have q1 := (cell_of_row w5 wr.heap.size 1 _ _ (0, 0) p7_).trans rfl; have q2 := (cell_of_row w5 wr.heap.size 2 _ _ (0, 0) p7_).trans rfl; obtain ⟨a0, a1, a2, a3, a4, f0, f1, f2, f3, f4⟩ := cells5 p8_; clear p7_ p8_ hb5; clear hR))
         obtain ⟨W6, hW6⟩ : ∃ X, w5.setCell ⟨wr.heap.size + 1, 1, none⟩ (.bool false) = X := ⟨_, rfl⟩
         have e8 := heap_setCell_same w5 (wr.heap.size + 1) 1 _ _ (.bool false) ((HX.out.block _ (blk_lt P84.out)).trans P84.out)
         have e7 := (Below.heap_setCell w5 ⟨wr.heap.size + 1, 1, none⟩ (.bool false) wr.heap.size (Nat.ne_of_lt (Nat.lt_succ_self _))).trans ((HX.out.block _ (blk_lt P74.out)).trans P74.out)
         have hb6 : Below wr.heap.size wr W6 := by rw [← hW6]; exact (HB4.out.trans (bwk HB4.out.size (by repeat (first | (with_reducible first | exact HX.out | apply below_alloc | apply pw_below_drewN | apply below_drew1) | exact HX.out)))).setCell (Nat.le_succ _) _
         rw [hW6] at e8 e7 ⊢
         clear q0 q1 q2 a0 a1 a2 a3 a4 f0 f1 f2 f3 f4
         obtain ⟨a0, a1, a2, a3, a4, f0, f1, f2, f3, f4⟩ := cells5 (e8)
         have q0 := (cell_of_row W6 wr.heap.size 0 _ _ (0, 0) e7).trans rfl
         have q2 := (cell_of_row W6 wr.heap.size 2 _ _ (0, 0) e7).trans rfl
         have E8 := Lib.hid e8
         have E7 := Lib.hid e7
         have HB6 := Lib.hid hb6
         clear e8 e7 hb6 hW6
         rw [HD.out] at q0
         go_upto_region 34 with (fail)
         have hst : specStep L x = some (⟨⟨#[]⟩, false, 0, [], []⟩, L) := by unfold specStep; rw [if_pos (.inl HD.out), HKEY.out, HBDE.out, if_neg B2.out, HPE.out, if_neg (by decide), if_neg E2.out, HVS.out, if_neg (fun h => C3.out h.2), if_neg B0.out]
         have HST := Lib.hid hst
         clear hst
         go_wp2_with (first | (
          at_builtin
          refine Kd.R_append k68 (w0 := w) w.heap.size rfl (.tmp 112) (.tmp 114) 46 68 (.agg #[(.string ⟨#[]⟩), (.bool false), (.int .i64 0), (.slice none 0 0), (.slice none 0 0)]) 80 rfl Try.underlying46 info68 rfl (by decide) (by omega) _ acc (⟨⟨#[]⟩, false, 0, [], []⟩ : SAn) [.string ⟨#[]⟩, .bool false, .int .i64 0, .slice none 0 0, .slice none 0 0] (fun _ => True) (fun k => some k ≠ u5.ownBlock) rfl (by first | (go_simp; done) | (go_simp; rfl)) ?aP (fun k hk => ⟨trivial, hk⟩) ?aF ?aO ?aB ?aS ?aL ?_
          (case aP => exact k68_mkM _ _ _ (⟨⟨#[]⟩, false, 0, [], []⟩ : SAn) (Kd.R_nil _ _ _ _ _) (Kd.R_nil _ _ _ _ _))
          (case aF => exact fun _ _ => trivial)
          (case aO => exact (HM.out.step HB6.out).o)
          (case aB => exact (HM.out.step HB6.out).b)
          (case aS => exact (HM.out.step HB6.out).b.size)
          (case aL => have := HLN.out.2; omega)
          intro v9 w9 ho9 hb9 hg9 hat9
          have M9 := Lib.hid ((HM.out.step HB6.out).put ho9 hb9 hg9)
          clear ho9 hb9 hg9 hat9))
         have g := HGO2.out
         rw [HST.out] at g
         exact ⟨⟨i + 1, _, _, by simp, by omega, Lib.hid g, Lib.hid ⟨by have := HLN.out.1; omega, by rw [List.length_append, List.length_singleton]; have := HLN.out.2; omega⟩, M9⟩, by simp [intOf]; omega⟩
   by_cases hd1 : x.f0 = 1
   ·have HD := Lib.hid hd1
    rw [hd1] at q0
    clear hd hd7 hd8 hd2 hd3 hd1 hd0
    by_cases b2 : bd = 2
    ·subst b2
     go_wp2
     have hst : specStep L x = none := by unfold specStep; rw [if_pos (.inr HD.out), HKEY.out, HBDE.out, if_pos rfl]
     have g := HGO2.out
     rw [hst] at g
     go_ret2
     rw [← g]
     exact ⟨rfl, (HM4.out.step (by repeat (first | (with_reducible first | exact HX.out | apply below_alloc | apply pw_below_drewN | apply below_drew1) | exact HX.out))).b⟩
    ·have b2' : (bd == 2) = false := beq_eq_false_iff_ne.mpr b2
     have B2 := Lib.hid b2
     clear b2
     cases P with
     | false =>
      go_wp2_with (go_at_call 33; refine (HPR.out _).mono ?_; rintro e w' ⟨rfl, ⟨n, rfl⟩⟩)
      have hst : specStep L x = none := by unfold specStep; rw [if_pos (.inr HD.out), HKEY.out, HBDE.out, if_neg B2.out, HPE.out, if_pos rfl]
      have g := HGO2.out
      rw [hst] at g
      go_ret2
      rw [← g]
      exact ⟨rfl, (HM4.out.step (by repeat (first | (with_reducible first | exact HX.out | apply below_alloc | apply pw_below_drewN | apply below_drew1) | exact HX.out))).b⟩
     | true =>
      by_cases e2 : x.f2 = ⟨#[]⟩
      ·have E2 := Lib.hid e2
       have e21 : (x.f2.toList == (⟨#[]⟩ : ByteArray).toList) = true := by rw [e2]; exact beq_self_eq_true _
       have e22 : x.f2.toList.isEmpty = true := by rw [e2, show (⟨#[]⟩ : ByteArray).toList = [] from Lib.toList_data _]; rfl
       have e23 : (x.f2.toList == []) = true := by rw [e2, show (⟨#[]⟩ : ByteArray).toList = [] from Lib.toList_data _]; rfl
       clear e2
       go_wp2_with (go_at_call 33; refine (HPR.out _).mono ?_; rintro e w' ⟨rfl, ⟨n, rfl⟩⟩)
       have hst : specStep L x = none := by unfold specStep; rw [if_pos (.inr HD.out), HKEY.out, HBDE.out, if_neg B2.out, HPE.out, if_neg (by decide), if_pos E2.out]
       have g := HGO2.out
       rw [hst] at g
       go_ret2
       rw [← g]
       exact ⟨rfl, (HM4.out.step (by repeat (first | (with_reducible first | exact HX.out | apply below_alloc | apply pw_below_drewN | apply below_drew1) | exact HX.out))).b⟩
      ·have E2 := Lib.hid e2
       have e21 : (x.f2.toList == (⟨#[]⟩ : ByteArray).toList) = false := beq_eq_false_iff_ne.mpr (fun h => e2 ((toList_eq_iff _ _).1 h))
       have e22 : x.f2.toList.isEmpty = false := by cases h : x.f2.toList with | nil => exact absurd ((toList_eq_iff _ ⟨#[]⟩).1 (by rw [h, Lib.toList_data])) e2 | cons _ _ => rfl
       have e23 : (x.f2.toList == []) = false := by cases h : x.f2.toList with | nil => exact absurd ((toList_eq_iff _ ⟨#[]⟩).1 (by rw [h, Lib.toList_data])) e2 | cons _ _ => rfl
       clear e2
       by_cases b0 : bd = 0
       ·subst b0
        go_upto_region 16 with (go_at_call 33; refine (HPR.out _).mono ?_; rintro e w' ⟨rfl, ⟨n, rfl⟩⟩)
        obtain ⟨W6, hW6⟩ : ∃ X, (w4.drewN n).setCell ⟨wr.heap.size + 1, 1, none⟩ (.bool true) = X := ⟨_, rfl⟩
        have e8 := heap_setCell_same (w4.drewN n) (wr.heap.size + 1) 1 _ _ (.bool true) (((pw_below_drewN (Below.refl w4.heap.size w4) n).block _ (blk_lt P84.out)).trans P84.out)
        have e7 := (Below.heap_setCell (w4.drewN n) ⟨wr.heap.size + 1, 1, none⟩ (.bool true) wr.heap.size (Nat.ne_of_lt (Nat.lt_succ_self _))).trans (((pw_below_drewN (Below.refl w4.heap.size w4) n).block _ (blk_lt P74.out)).trans P74.out)
        have hb6 : Below wr.heap.size wr W6 := by rw [← hW6]; exact (HB4.out.trans (bwk HB4.out.size (by repeat (first | (with_reducible first | exact HX.out | apply below_alloc | apply pw_below_drewN | apply below_drew1) | exact HX.out)))).setCell (Nat.le_succ _) _
        rw [hW6] at e8 e7 ⊢
        clear q0 q1 q2 a0 a1 a2 a3 a4 f0 f1 f2 f3 f4
        obtain ⟨a0, a1, a2, a3, a4, f0, f1, f2, f3, f4⟩ := cells5 (e8)
        have q0 := (cell_of_row W6 wr.heap.size 0 _ _ (0, 0) e7).trans rfl
        have q2 := (cell_of_row W6 wr.heap.size 2 _ _ (0, 0) e7).trans rfl
        have E8 := Lib.hid e8
        have E7 := Lib.hid e7
        have HB6 := Lib.hid hb6
        clear e8 e7 hb6 hW6
        rw [HD.out] at q0
        go_upto_region 19 with (fail)
        refine start_ (n := 10) (S := fun w' => w'.cell? ⟨wr.heap.size, 2, none⟩ = some (.string x.f2)) (ds := []) #[false,false,false,false,false,false,false,false,false,false] (by kernel_rfl) rfl rfl q2 (fun hHeld => ?_)
        obtain ⟨V0, hV0⟩ : ∃ X, World.drew W6 = X := ⟨_, rfl⟩
        have X0 := Lib.hid (show Below W6.heap.size W6 V0 from by rw [← hV0]; exact below_drew1 (Below.refl _ _))
        rw [hV0] at hHeld ⊢
        clear hV0
        refine pure_ (i := 1) (N := some 73) (v := ?_) (a' := ?_) #[false,true,false,false,false,false,false,false,false,false] rfl rfl (by kernel_rfl) (fun _ _ _ h => h) (Or.inl ⟨by rfl, ?_⟩) ?_ ?_
        rotate_left
        ·intro w'
         go_simp
         with_reducible rfl
        rotate_left
        ·simp only [Act.put, List.setIfInBounds_toArray, List.set_cons_zero, List.set_cons_succ, i64_w, i32_w]
         rfl
        refine pure_ (i := 3) (N := some 75) (v := ?_) (a' := ?_) #[false,true,false,true,false,false,false,false,false,false] rfl rfl (by kernel_rfl) (fun _ _ _ h => h) (Or.inl ⟨by rfl, ?_⟩) ?_ ?_
        rotate_left
        ·intro w'
         go_simp
         with_reducible rfl
        rotate_left
        ·simp only [Act.put, List.setIfInBounds_toArray, List.set_cons_zero, List.set_cons_succ, i64_w, i32_w]
         rfl
        refine pure_ (i := 4) (N := some 76) (v := ?_) (a' := ?_) #[false,true,false,true,true,false,false,false,false,false] rfl rfl (by kernel_rfl) (fun _ _ _ h => h) (Or.inl ⟨by rfl, ?_⟩) ?_ ?_
        rotate_left
        ·intro w'
         go_simp
         with_reducible rfl
        rotate_left
        ·simp only [Act.put, List.setIfInBounds_toArray, List.set_cons_zero, List.set_cons_succ, i64_w, i32_w]
         rfl
        refine take_ (i := 5) (N := some 77) (v := ?_) (a' := ?_) #[false,true,false,true,true,true,false,false,false,false] rfl rfl (by kernel_rfl) (fun _ _ _ h => h) (Or.inl ⟨by rfl, ?_⟩) hHeld ?_ ?_
        rotate_left
        ·rintro w' s0
         go_simp
         with_reducible rfl
        rotate_left
        ·simp only [Act.put, List.setIfInBounds_toArray, List.set_cons_zero, List.set_cons_succ, i64_w, i32_w]
         rfl
        refine pure_ (i := 6) (N := some 78) (v := ?_) (a' := ?_) #[false,true,false,true,true,true,true,false,false,false] rfl rfl (by kernel_rfl) (fun _ _ _ h => h) (Or.inl ⟨by rfl, ?_⟩) ?_ ?_
        rotate_left
        ·intro w'
         go_simp
         with_reducible rfl
        rotate_left
        ·simp only [Act.put, List.setIfInBounds_toArray, List.set_cons_zero, List.set_cons_succ, i64_w, i32_w]
         rfl
        refine two_ (i := 0) (j := 7) (Ni := some 72) (Nj := some 79) #[true,true,false,true,true,true,true,false,false,false] #[false,true,false,true,true,true,true,true,false,false] rfl rfl rfl rfl (by kernel_rfl) (by decide) (by decide) (fun K hK => ?_) (fun K hK => ?_)
        ·refine value_ (w1 := ?_) (v := ?_) (by rfl) rfl ?_ ?_
         rotate_left 2
         ·go_simp
          constructor
          ·rfl
          ·rfl
         refine hK.out _ _ ((World.cell?_alloc_past _ _ _ (World.block_lt_of_cell? _ _ hHeld)).trans hHeld) (fun hHeld => ?_)
         clear hK K
         refine norm_ (a' := ?_) ?_ ?_
         rotate_left
         ·show Act.put _ (some 72) _ = _
          simp only [Act.put, List.setIfInBounds_toArray, List.set_cons_zero, List.set_cons_succ, i64_w, i32_w]
          rfl
         obtain ⟨V1, hV⟩ : ∃ X, V0.alloc (.cells #[] 72) = X := ⟨_, rfl⟩
         have hb_ : Below V0.heap.size V0 V1 := by rw [← hV]; exact (Below.refl _ _).alloc (Nat.le_refl _) _
         have X1 := Lib.hid (X0.out.trans (bwk X0.out.size hb_))
         have RE1 := Lib.hid (show Kd.R k72 72 V1 W6.heap.size (fun _ => True) (.slice (some ⟨V0.heap.size, 0, none⟩) 0 0) [] from by rw [← hV]; exact Kd.R_lower (emptyS_R V0) X0.out.size)
         rw [hV] at hHeld ⊢
         clear hV hb_
         refine two_ (i := 2) (j := 7) (Ni := some 74) (Nj := some 79) #[true,true,true,true,true,true,true,false,false,false] #[true,true,false,true,true,true,true,true,false,false] rfl rfl rfl rfl (by kernel_rfl) (by decide) (by decide) (fun K hK => ?_) (fun K hK => ?_)
         ·refine Kd.R_append_rows_step k72 (w0 := W6) W6.heap.size (by rfl) (.tmp 72) (.tmp 73) 65 72 (.agg #[(.string ⟨#[]⟩), (.string ⟨#[]⟩)]) 32 rfl Try.underlying65 info72 rfl (by decide) (by omega) _ [] L _ _ _ (fun _ => True) (fun _ => False) rfl rfl ?aO ?aR (fun _ _ h => h) (fun _ h => h.elim) ?aF ?aB ?aS ?aL ?_
          (case aO => exact RE1.out)
          (case aR => exact Kd.C_below (Kd.C_below HC1.out HB6.out) X1.out)
          (case aF => exact fun _ _ => trivial)
          (case aB => exact X1.out)
          (case aS => exact X1.out.size)
          (case aL => have := HLN.out.1; first | omega | (simp; omega))
          intro u2_ V2 ho_ hb_ hg_ hat_
          try simp only [List.nil_append] at ho_
          have RL2 := Lib.hid ho_
          have X2 := Lib.hid hb_
          refine hK.out _ _ ((cell_of_row V2 wr.heap.size 2 _ _ (0, 0) ((X2.out.block _ (blk_lt E7.out)).trans E7.out)).trans rfl) (fun hHeld => ?_)
          clear hK K
          refine norm_ (a' := ?_) ?_ ?_
          rotate_left
          ·show Act.put _ (some 74) _ = _
           simp only [Act.put, List.setIfInBounds_toArray, List.set_cons_zero, List.set_cons_succ, i64_w, i32_w]
           rfl
          clear ho_ hb_ hg_ hat_
          refine one_ (i := 7) (N := some 79) #[true,true,true,true,true,true,true,true,false,false] rfl rfl (by kernel_rfl) (by decide) (fun K hK => ?_)
          refine value_ (w1 := ?_) (v := ?_) (by rfl) rfl ?_ ?_
          rotate_left 2
          ·go_simp
           constructor
           ·rfl
           ·rfl
          refine hK.out _ _ ((World.cell?_alloc_past _ _ _ (World.block_lt_of_cell? _ _ hHeld)).trans hHeld) (fun hHeld => ?_)
          clear hK K
          refine norm_ (a' := ?_) ?_ ?_
          rotate_left
          ·show Act.put _ (some 79) _ = _
           simp only [Act.put, List.setIfInBounds_toArray, List.set_cons_zero, List.set_cons_succ, i64_w, i32_w]
           rfl
          obtain ⟨V3, hV⟩ : ∃ X, V2.alloc (.cells #[.string key, .string x.f2] 72) = X := ⟨_, rfl⟩
          have hb_ : Below V2.heap.size V2 V3 := by rw [← hV]; exact (Below.refl _ _).alloc (Nat.le_refl _) _
          have X3 := Lib.hid (X2.out.trans (bwk X2.out.size hb_))
          have PP3 := Lib.hid (show V3.heap[V2.heap.size]? = some (.cells #[.string key, .string x.f2] 72 (0, 0)) from by rw [← hV]; exact heap_alloc_new _ _)
          have RL3 := Lib.hid (Kd.R_below RL2.out hb_)
          rw [hV] at hHeld ⊢
          clear hV hb_
          refine one_ (i := 8) (N := some 80) #[true,true,true,true,true,true,true,true,true,false] rfl rfl (by kernel_rfl) (by decide) (fun K hK => ?_)
          refine Kd.R_append_rows_step k72 (w0 := W6) W6.heap.size (by rfl) (.tmp 74) (.tmp 79) 65 72 (.agg #[(.string ⟨#[]⟩), (.string ⟨#[]⟩)]) 32 rfl Try.underlying65 info72 rfl (by decide) (by omega) _ L [(⟨key, x.f2⟩ : SP)] _ _ _ (fun _ => True) (fun _ => False) rfl rfl ?aO ?aR (fun _ _ h => h) (fun _ h => h.elim) ?aF ?aB ?aS ?aL ?_
          (case aO => exact RL3.out)
          (case aR => exact pairS_C PP3.out)
          (case aF => exact fun _ _ => trivial)
          (case aB => exact X3.out)
          (case aS => exact X3.out.size)
          (case aL => have := HLN.out.1; first | omega | (simp; omega))
          intro u4_ V4 ho_ hb_ hg_ hat_
          try simp only [List.nil_append] at ho_
          have RL4 := Lib.hid ho_
          have X4 := Lib.hid hb_
          refine hK.out _ _ ((cell_of_row V4 wr.heap.size 2 _ _ (0, 0) ((X4.out.block _ (blk_lt E7.out)).trans E7.out)).trans rfl) (fun hHeld => ?_)
          clear hK K
          refine norm_ (a' := ?_) ?_ ?_
          rotate_left
          ·show Act.put _ (some 80) _ = _
           simp only [Act.put, List.setIfInBounds_toArray, List.set_cons_zero, List.set_cons_succ, i64_w, i32_w]
           rfl
          clear ho_ hb_ hg_ hat_
          refine pure_ (i := 9) (N := some 4) (v := ?_) (a' := ?_) #[true,true,true,true,true,true,true,true,true,true] rfl rfl (by kernel_rfl) (fun _ _ _ h => h) (Or.inl ⟨by rfl, ?_⟩) ?_ ?_
          rotate_left
          ·intro w'
           go_simp
           with_reducible rfl
          rotate_left
          ·simp only [Act.put, List.setIfInBounds_toArray, List.set_cons_zero, List.set_cons_succ, i64_w, i32_w]
           rfl
          refine done_ (by kernel_rfl) ?_
          have e8_ := (X4.out.block _ (blk_lt E8.out)).trans E8.out
          clear a0 a1 a2 a3 a4 f0 f1 f2 f3 f4 q0 q2
          obtain ⟨a0, a1, a2, a3, a4, f0, f1, f2, f3, f4⟩ := cells5 (e8_)
          have MF := Lib.hid (⟨Kd.R_lower RL4.out (HM.out.step HB6.out).b.size, ((HM.out.step HB6.out).step X4.out).o, ((HM.out.step HB6.out).step X4.out).b⟩ : SpS w _ u5 (L ++ [⟨key, x.f2⟩]) acc V4)
          clear e8_
          go_upto_region 34 with (fail)
          have hst : specStep L x = some (⟨⟨#[]⟩, true, 0, [], []⟩, L ++ [⟨key, x.f2⟩]) := by unfold specStep; rw [if_pos (.inr HD.out), HKEY.out, HBDE.out, if_neg B2.out, HPE.out, if_neg (by decide), if_neg E2.out, if_neg (fun h => by have := HD.out; omega), if_pos rfl, if_neg (fun h => by have := HD.out; omega)]
          have HST := Lib.hid hst
          clear hst
          go_wp2_with (first | (
           at_builtin
           refine Kd.R_append k68 (w0 := w) w.heap.size rfl (.tmp 112) (.tmp 114) 46 68 (.agg #[(.string ⟨#[]⟩), (.bool false), (.int .i64 0), (.slice none 0 0), (.slice none 0 0)]) 80 rfl Try.underlying46 info68 rfl (by decide) (by omega) _ acc (⟨⟨#[]⟩, true, 0, [], []⟩ : SAn) [.string ⟨#[]⟩, .bool true, .int .i64 0, .slice none 0 0, .slice none 0 0] (fun _ => True) (fun k => some k ≠ u5.ownBlock) rfl (by first | (go_simp; done) | (go_simp; rfl)) ?aP (fun k hk => ⟨trivial, hk⟩) ?aF ?aO ?aB ?aS ?aL ?_
           (case aP => exact k68_mkM _ _ _ (⟨⟨#[]⟩, true, 0, [], []⟩ : SAn) (Kd.R_nil _ _ _ _ _) (Kd.R_nil _ _ _ _ _))
           (case aF => exact fun _ _ => trivial)
           (case aO => exact (MF.out).o)
           (case aB => exact (MF.out).b)
           (case aS => exact (MF.out).b.size)
           (case aL => have := HLN.out.2; omega)
           intro v9 w9 ho9 hb9 hg9 hat9
           have M9 := Lib.hid ((MF.out).put ho9 hb9 hg9)
           clear ho9 hb9 hg9 hat9))
          have g := HGO2.out
          rw [HST.out] at g
          exact ⟨⟨i + 1, _, _, by simp, by omega, Lib.hid g, Lib.hid ⟨by have := HLN.out.1; simp; omega, by rw [List.length_append, List.length_singleton]; have := HLN.out.2; omega⟩, M9⟩, by simp [intOf]; omega⟩
         ·refine value_ (w1 := ?_) (v := ?_) (by rfl) rfl ?_ ?_
          rotate_left 2
          ·go_simp
           constructor
           ·rfl
           ·rfl
          refine hK.out _ _ ((World.cell?_alloc_past _ _ _ (World.block_lt_of_cell? _ _ hHeld)).trans hHeld) (fun hHeld => ?_)
          clear hK K
          refine norm_ (a' := ?_) ?_ ?_
          rotate_left
          ·show Act.put _ (some 79) _ = _
           simp only [Act.put, List.setIfInBounds_toArray, List.set_cons_zero, List.set_cons_succ, i64_w, i32_w]
           rfl
          obtain ⟨V5, hV⟩ : ∃ X, V1.alloc (.cells #[.string key, .string x.f2] 72) = X := ⟨_, rfl⟩
          have hb_ : Below V1.heap.size V1 V5 := by rw [← hV]; exact (Below.refl _ _).alloc (Nat.le_refl _) _
          have X5 := Lib.hid (X1.out.trans (bwk X1.out.size hb_))
          have PP5 := Lib.hid (show V5.heap[V1.heap.size]? = some (.cells #[.string key, .string x.f2] 72 (0, 0)) from by rw [← hV]; exact heap_alloc_new _ _)
          have RE5 := Lib.hid (Kd.R_below RE1.out hb_)
          have NE5 := Lib.hid (Nat.ne_of_gt (Kd.R_lt RE1.out _ rfl))
          rw [hV] at hHeld ⊢
          clear hV hb_
          refine one_ (i := 2) (N := some 74) #[true,true,true,true,true,true,true,true,false,false] rfl rfl (by kernel_rfl) (by decide) (fun K hK => ?_)
          refine Kd.R_append_rows_step k72 (w0 := W6) W6.heap.size (by rfl) (.tmp 72) (.tmp 73) 65 72 (.agg #[(.string ⟨#[]⟩), (.string ⟨#[]⟩)]) 32 rfl Try.underlying65 info72 rfl (by decide) (by omega) _ [] L _ _ _ (fun _ => True) (fun _ => False) rfl rfl ?aO ?aR (fun _ _ h => h) (fun _ h => h.elim) ?aF ?aB ?aS ?aL ?_
          (case aO => exact RE5.out)
          (case aR => exact Kd.C_below (Kd.C_below HC1.out HB6.out) X5.out)
          (case aF => exact fun _ _ => trivial)
          (case aB => exact X5.out)
          (case aS => exact X5.out.size)
          (case aL => have := HLN.out.1; first | omega | (simp; omega))
          intro u6_ V6 ho_ hb_ hg_ hat_
          try simp only [List.nil_append] at ho_
          have RL6 := Lib.hid ho_
          have X6 := Lib.hid hb_
          have PP6 := Lib.hid ((hg_.block _ (blk_lt PP5.out) (fun e => NE5.out (Option.some.inj e))).trans PP5.out)
          refine hK.out _ _ ((cell_of_row V6 wr.heap.size 2 _ _ (0, 0) ((X6.out.block _ (blk_lt E7.out)).trans E7.out)).trans rfl) (fun hHeld => ?_)
          clear hK K
          refine norm_ (a' := ?_) ?_ ?_
          rotate_left
          ·show Act.put _ (some 74) _ = _
           simp only [Act.put, List.setIfInBounds_toArray, List.set_cons_zero, List.set_cons_succ, i64_w, i32_w]
           rfl
          clear ho_ hb_ hg_ hat_
          refine one_ (i := 8) (N := some 80) #[true,true,true,true,true,true,true,true,true,false] rfl rfl (by kernel_rfl) (by decide) (fun K hK => ?_)
          refine Kd.R_append_rows_step k72 (w0 := W6) W6.heap.size (by rfl) (.tmp 74) (.tmp 79) 65 72 (.agg #[(.string ⟨#[]⟩), (.string ⟨#[]⟩)]) 32 rfl Try.underlying65 info72 rfl (by decide) (by omega) _ L [(⟨key, x.f2⟩ : SP)] _ _ _ (fun _ => True) (fun _ => False) rfl rfl ?aO ?aR (fun _ _ h => h) (fun _ h => h.elim) ?aF ?aB ?aS ?aL ?_
          (case aO => exact RL6.out)
          (case aR => exact pairS_C PP6.out)
          (case aF => exact fun _ _ => trivial)
          (case aB => exact X6.out)
          (case aS => exact X6.out.size)
          (case aL => have := HLN.out.1; first | omega | (simp; omega))
          intro u7_ V7 ho_ hb_ hg_ hat_
          try simp only [List.nil_append] at ho_
          have RL7 := Lib.hid ho_
          have X7 := Lib.hid hb_
          refine hK.out _ _ ((cell_of_row V7 wr.heap.size 2 _ _ (0, 0) ((X7.out.block _ (blk_lt E7.out)).trans E7.out)).trans rfl) (fun hHeld => ?_)
          clear hK K
          refine norm_ (a' := ?_) ?_ ?_
          rotate_left
          ·show Act.put _ (some 80) _ = _
           simp only [Act.put, List.setIfInBounds_toArray, List.set_cons_zero, List.set_cons_succ, i64_w, i32_w]
           rfl
          clear ho_ hb_ hg_ hat_
          refine pure_ (i := 9) (N := some 4) (v := ?_) (a' := ?_) #[true,true,true,true,true,true,true,true,true,true] rfl rfl (by kernel_rfl) (fun _ _ _ h => h) (Or.inl ⟨by rfl, ?_⟩) ?_ ?_
          rotate_left
          ·intro w'
           go_simp
           with_reducible rfl
          rotate_left
          ·simp only [Act.put, List.setIfInBounds_toArray, List.set_cons_zero, List.set_cons_succ, i64_w, i32_w]
           rfl
          refine done_ (by kernel_rfl) ?_
          have e8_ := (X7.out.block _ (blk_lt E8.out)).trans E8.out
          clear a0 a1 a2 a3 a4 f0 f1 f2 f3 f4 q0 q2
          obtain ⟨a0, a1, a2, a3, a4, f0, f1, f2, f3, f4⟩ := cells5 (e8_)
          have MF := Lib.hid (⟨Kd.R_lower RL7.out (HM.out.step HB6.out).b.size, ((HM.out.step HB6.out).step X7.out).o, ((HM.out.step HB6.out).step X7.out).b⟩ : SpS w _ u5 (L ++ [⟨key, x.f2⟩]) acc V7)
          clear e8_
          go_upto_region 34 with (fail)
          have hst : specStep L x = some (⟨⟨#[]⟩, true, 0, [], []⟩, L ++ [⟨key, x.f2⟩]) := by unfold specStep; rw [if_pos (.inr HD.out), HKEY.out, HBDE.out, if_neg B2.out, HPE.out, if_neg (by decide), if_neg E2.out, if_neg (fun h => by have := HD.out; omega), if_pos rfl, if_neg (fun h => by have := HD.out; omega)]
          have HST := Lib.hid hst
          clear hst
          go_wp2_with (first | (
           at_builtin
           refine Kd.R_append k68 (w0 := w) w.heap.size rfl (.tmp 112) (.tmp 114) 46 68 (.agg #[(.string ⟨#[]⟩), (.bool false), (.int .i64 0), (.slice none 0 0), (.slice none 0 0)]) 80 rfl Try.underlying46 info68 rfl (by decide) (by omega) _ acc (⟨⟨#[]⟩, true, 0, [], []⟩ : SAn) [.string ⟨#[]⟩, .bool true, .int .i64 0, .slice none 0 0, .slice none 0 0] (fun _ => True) (fun k => some k ≠ u5.ownBlock) rfl (by first | (go_simp; done) | (go_simp; rfl)) ?aP (fun k hk => ⟨trivial, hk⟩) ?aF ?aO ?aB ?aS ?aL ?_
           (case aP => exact k68_mkM _ _ _ (⟨⟨#[]⟩, true, 0, [], []⟩ : SAn) (Kd.R_nil _ _ _ _ _) (Kd.R_nil _ _ _ _ _))
           (case aF => exact fun _ _ => trivial)
           (case aO => exact (MF.out).o)
           (case aB => exact (MF.out).b)
           (case aS => exact (MF.out).b.size)
           (case aL => have := HLN.out.2; omega)
           intro v9 w9 ho9 hb9 hg9 hat9
           have M9 := Lib.hid ((MF.out).put ho9 hb9 hg9)
           clear ho9 hb9 hg9 hat9))
          have g := HGO2.out
          rw [HST.out] at g
          exact ⟨⟨i + 1, _, _, by simp, by omega, Lib.hid g, Lib.hid ⟨by have := HLN.out.1; simp; omega, by rw [List.length_append, List.length_singleton]; have := HLN.out.2; omega⟩, M9⟩, by simp [intOf]; omega⟩
        ·refine value_ (w1 := ?_) (v := ?_) (by rfl) rfl ?_ ?_
         rotate_left 2
         ·go_simp
          constructor
          ·rfl
          ·rfl
         refine hK.out _ _ ((World.cell?_alloc_past _ _ _ (World.block_lt_of_cell? _ _ hHeld)).trans hHeld) (fun hHeld => ?_)
         clear hK K
         refine norm_ (a' := ?_) ?_ ?_
         rotate_left
         ·show Act.put _ (some 79) _ = _
          simp only [Act.put, List.setIfInBounds_toArray, List.set_cons_zero, List.set_cons_succ, i64_w, i32_w]
          rfl
         obtain ⟨V8, hV⟩ : ∃ X, V0.alloc (.cells #[.string key, .string x.f2] 72) = X := ⟨_, rfl⟩
         have hb_ : Below V0.heap.size V0 V8 := by rw [← hV]; exact (Below.refl _ _).alloc (Nat.le_refl _) _
         have X8 := Lib.hid (X0.out.trans (bwk X0.out.size hb_))
         have PP8 := Lib.hid (show V8.heap[V0.heap.size]? = some (.cells #[.string key, .string x.f2] 72 (0, 0)) from by rw [← hV]; exact heap_alloc_new _ _)
         rw [hV] at hHeld ⊢
         clear hV hb_
         refine one_ (i := 0) (N := some 72) #[true,true,false,true,true,true,true,true,false,false] rfl rfl (by kernel_rfl) (by decide) (fun K hK => ?_)
         refine value_ (w1 := ?_) (v := ?_) (by rfl) rfl ?_ ?_
         rotate_left 2
         ·go_simp
          constructor
          ·rfl
          ·rfl
         refine hK.out _ _ ((World.cell?_alloc_past _ _ _ (World.block_lt_of_cell? _ _ hHeld)).trans hHeld) (fun hHeld => ?_)
         clear hK K
         refine norm_ (a' := ?_) ?_ ?_
         rotate_left
         ·show Act.put _ (some 72) _ = _
          simp only [Act.put, List.setIfInBounds_toArray, List.set_cons_zero, List.set_cons_succ, i64_w, i32_w]
          rfl
         obtain ⟨V9, hV⟩ : ∃ X, V8.alloc (.cells #[] 72) = X := ⟨_, rfl⟩
         have hb_ : Below V8.heap.size V8 V9 := by rw [← hV]; exact (Below.refl _ _).alloc (Nat.le_refl _) _
         have X9 := Lib.hid (X8.out.trans (bwk X8.out.size hb_))
         have RE9 := Lib.hid (show Kd.R k72 72 V9 W6.heap.size (fun _ => True) (.slice (some ⟨V8.heap.size, 0, none⟩) 0 0) [] from by rw [← hV]; exact Kd.R_lower (emptyS_R V8) X8.out.size)
         have PP9 := Lib.hid ((hb_.block _ (blk_lt PP8.out)).trans PP8.out)
         have NE9 := Lib.hid (Nat.ne_of_lt (blk_lt PP8.out))
         rw [hV] at hHeld ⊢
         clear hV hb_
         refine one_ (i := 2) (N := some 74) #[true,true,true,true,true,true,true,true,false,false] rfl rfl (by kernel_rfl) (by decide) (fun K hK => ?_)
         refine Kd.R_append_rows_step k72 (w0 := W6) W6.heap.size (by rfl) (.tmp 72) (.tmp 73) 65 72 (.agg #[(.string ⟨#[]⟩), (.string ⟨#[]⟩)]) 32 rfl Try.underlying65 info72 rfl (by decide) (by omega) _ [] L _ _ _ (fun _ => True) (fun _ => False) rfl rfl ?aO ?aR (fun _ _ h => h) (fun _ h => h.elim) ?aF ?aB ?aS ?aL ?_
         (case aO => exact RE9.out)
         (case aR => exact Kd.C_below (Kd.C_below HC1.out HB6.out) X9.out)
         (case aF => exact fun _ _ => trivial)
         (case aB => exact X9.out)
         (case aS => exact X9.out.size)
         (case aL => have := HLN.out.1; first | omega | (simp; omega))
         intro u10_ V10 ho_ hb_ hg_ hat_
         try simp only [List.nil_append] at ho_
         have RL10 := Lib.hid ho_
         have X10 := Lib.hid hb_
         have PP10 := Lib.hid ((hg_.block _ (blk_lt PP9.out) (fun e => NE9.out (Option.some.inj e))).trans PP9.out)
         refine hK.out _ _ ((cell_of_row V10 wr.heap.size 2 _ _ (0, 0) ((X10.out.block _ (blk_lt E7.out)).trans E7.out)).trans rfl) (fun hHeld => ?_)
         clear hK K
         refine norm_ (a' := ?_) ?_ ?_
         rotate_left
         ·show Act.put _ (some 74) _ = _
          simp only [Act.put, List.setIfInBounds_toArray, List.set_cons_zero, List.set_cons_succ, i64_w, i32_w]
          rfl
         clear ho_ hb_ hg_ hat_
         refine one_ (i := 8) (N := some 80) #[true,true,true,true,true,true,true,true,true,false] rfl rfl (by kernel_rfl) (by decide) (fun K hK => ?_)
         refine Kd.R_append_rows_step k72 (w0 := W6) W6.heap.size (by rfl) (.tmp 74) (.tmp 79) 65 72 (.agg #[(.string ⟨#[]⟩), (.string ⟨#[]⟩)]) 32 rfl Try.underlying65 info72 rfl (by decide) (by omega) _ L [(⟨key, x.f2⟩ : SP)] _ _ _ (fun _ => True) (fun _ => False) rfl rfl ?aO ?aR (fun _ _ h => h) (fun _ h => h.elim) ?aF ?aB ?aS ?aL ?_
         (case aO => exact RL10.out)
         (case aR => exact pairS_C PP10.out)
         (case aF => exact fun _ _ => trivial)
         (case aB => exact X10.out)
         (case aS => exact X10.out.size)
         (case aL => have := HLN.out.1; first | omega | (simp; omega))
         intro u11_ V11 ho_ hb_ hg_ hat_
         try simp only [List.nil_append] at ho_
         have RL11 := Lib.hid ho_
         have X11 := Lib.hid hb_
         refine hK.out _ _ ((cell_of_row V11 wr.heap.size 2 _ _ (0, 0) ((X11.out.block _ (blk_lt E7.out)).trans E7.out)).trans rfl) (fun hHeld => ?_)
         clear hK K
         refine norm_ (a' := ?_) ?_ ?_
         rotate_left
         ·show Act.put _ (some 80) _ = _
          simp only [Act.put, List.setIfInBounds_toArray, List.set_cons_zero, List.set_cons_succ, i64_w, i32_w]
          rfl
         clear ho_ hb_ hg_ hat_
         refine pure_ (i := 9) (N := some 4) (v := ?_) (a' := ?_) #[true,true,true,true,true,true,true,true,true,true] rfl rfl (by kernel_rfl) (fun _ _ _ h => h) (Or.inl ⟨by rfl, ?_⟩) ?_ ?_
         rotate_left
         ·intro w'
          go_simp
          with_reducible rfl
         rotate_left
         ·simp only [Act.put, List.setIfInBounds_toArray, List.set_cons_zero, List.set_cons_succ, i64_w, i32_w]
          rfl
         refine done_ (by kernel_rfl) ?_
         have e8_ := (X11.out.block _ (blk_lt E8.out)).trans E8.out
         clear a0 a1 a2 a3 a4 f0 f1 f2 f3 f4 q0 q2
         obtain ⟨a0, a1, a2, a3, a4, f0, f1, f2, f3, f4⟩ := cells5 (e8_)
         have MF := Lib.hid (⟨Kd.R_lower RL11.out (HM.out.step HB6.out).b.size, ((HM.out.step HB6.out).step X11.out).o, ((HM.out.step HB6.out).step X11.out).b⟩ : SpS w _ u5 (L ++ [⟨key, x.f2⟩]) acc V11)
         clear e8_
         go_upto_region 34 with (fail)
         have hst : specStep L x = some (⟨⟨#[]⟩, true, 0, [], []⟩, L ++ [⟨key, x.f2⟩]) := by unfold specStep; rw [if_pos (.inr HD.out), HKEY.out, HBDE.out, if_neg B2.out, HPE.out, if_neg (by decide), if_neg E2.out, if_neg (fun h => by have := HD.out; omega), if_pos rfl, if_neg (fun h => by have := HD.out; omega)]
         have HST := Lib.hid hst
         clear hst
         go_wp2_with (first | (
          at_builtin
          refine Kd.R_append k68 (w0 := w) w.heap.size rfl (.tmp 112) (.tmp 114) 46 68 (.agg #[(.string ⟨#[]⟩), (.bool false), (.int .i64 0), (.slice none 0 0), (.slice none 0 0)]) 80 rfl Try.underlying46 info68 rfl (by decide) (by omega) _ acc (⟨⟨#[]⟩, true, 0, [], []⟩ : SAn) [.string ⟨#[]⟩, .bool true, .int .i64 0, .slice none 0 0, .slice none 0 0] (fun _ => True) (fun k => some k ≠ u5.ownBlock) rfl (by first | (go_simp; done) | (go_simp; rfl)) ?aP (fun k hk => ⟨trivial, hk⟩) ?aF ?aO ?aB ?aS ?aL ?_
          (case aP => exact k68_mkM _ _ _ (⟨⟨#[]⟩, true, 0, [], []⟩ : SAn) (Kd.R_nil _ _ _ _ _) (Kd.R_nil _ _ _ _ _))
          (case aF => exact fun _ _ => trivial)
          (case aO => exact (MF.out).o)
          (case aB => exact (MF.out).b)
          (case aS => exact (MF.out).b.size)
          (case aL => have := HLN.out.2; omega)
          intro v9 w9 ho9 hb9 hg9 hat9
          have M9 := Lib.hid ((MF.out).put ho9 hb9 hg9)
          clear ho9 hb9 hg9 hat9))
         have g := HGO2.out
         rw [HST.out] at g
         exact ⟨⟨i + 1, _, _, by simp, by omega, Lib.hid g, Lib.hid ⟨by have := HLN.out.1; simp; omega, by rw [List.length_append, List.length_singleton]; have := HLN.out.2; omega⟩, M9⟩, by simp [intOf]; omega⟩
       ·have b0' : (bd == 0) = false := beq_eq_false_iff_ne.mpr b0
        have B0 := Lib.hid b0
        clear b0
        go_upto_region 16 with (go_at_call 33; refine (HPR.out _).mono ?_; rintro e w' ⟨rfl, ⟨n, rfl⟩⟩)
        obtain ⟨W6, hW6⟩ : ∃ X, (w4.drewN n).setCell ⟨wr.heap.size + 1, 1, none⟩ (.bool false) = X := ⟨_, rfl⟩
        have e8 := heap_setCell_same (w4.drewN n) (wr.heap.size + 1) 1 _ _ (.bool false) (((pw_below_drewN (Below.refl w4.heap.size w4) n).block _ (blk_lt P84.out)).trans P84.out)
        have e7 := (Below.heap_setCell (w4.drewN n) ⟨wr.heap.size + 1, 1, none⟩ (.bool false) wr.heap.size (Nat.ne_of_lt (Nat.lt_succ_self _))).trans (((pw_below_drewN (Below.refl w4.heap.size w4) n).block _ (blk_lt P74.out)).trans P74.out)
        have hb6 : Below wr.heap.size wr W6 := by rw [← hW6]; exact (HB4.out.trans (bwk HB4.out.size (by repeat (first | (with_reducible first | exact HX.out | apply below_alloc | apply pw_below_drewN | apply below_drew1) | exact HX.out)))).setCell (Nat.le_succ _) _
        rw [hW6] at e8 e7 ⊢
        clear q0 q1 q2 a0 a1 a2 a3 a4 f0 f1 f2 f3 f4
        obtain ⟨a0, a1, a2, a3, a4, f0, f1, f2, f3, f4⟩ := cells5 (e8)
        have q0 := (cell_of_row W6 wr.heap.size 0 _ _ (0, 0) e7).trans rfl
        have q2 := (cell_of_row W6 wr.heap.size 2 _ _ (0, 0) e7).trans rfl
        have E8 := Lib.hid e8
        have E7 := Lib.hid e7
        have HB6 := Lib.hid hb6
        clear e8 e7 hb6 hW6
        rw [HD.out] at q0
        go_upto_region 34 with (fail)
        have hst : specStep L x = some (⟨⟨#[]⟩, false, 0, [], []⟩, L) := by unfold specStep; rw [if_pos (.inr HD.out), HKEY.out, HBDE.out, if_neg B2.out, HPE.out, if_neg (by decide), if_neg E2.out, if_neg (fun h => by have := HD.out; omega), if_neg B0.out]
        have HST := Lib.hid hst
        clear hst
        go_wp2_with (first | (
         at_builtin
         refine Kd.R_append k68 (w0 := w) w.heap.size rfl (.tmp 112) (.tmp 114) 46 68 (.agg #[(.string ⟨#[]⟩), (.bool false), (.int .i64 0), (.slice none 0 0), (.slice none 0 0)]) 80 rfl Try.underlying46 info68 rfl (by decide) (by omega) _ acc (⟨⟨#[]⟩, false, 0, [], []⟩ : SAn) [.string ⟨#[]⟩, .bool false, .int .i64 0, .slice none 0 0, .slice none 0 0] (fun _ => True) (fun k => some k ≠ u5.ownBlock) rfl (by first | (go_simp; done) | (go_simp; rfl)) ?aP (fun k hk => ⟨trivial, hk⟩) ?aF ?aO ?aB ?aS ?aL ?_
         (case aP => exact k68_mkM _ _ _ (⟨⟨#[]⟩, false, 0, [], []⟩ : SAn) (Kd.R_nil _ _ _ _ _) (Kd.R_nil _ _ _ _ _))
         (case aF => exact fun _ _ => trivial)
         (case aO => exact (HM.out.step HB6.out).o)
         (case aB => exact (HM.out.step HB6.out).b)
         (case aS => exact (HM.out.step HB6.out).b.size)
         (case aL => have := HLN.out.2; omega)
         intro v9 w9 ho9 hb9 hg9 hat9
         have M9 := Lib.hid ((HM.out.step HB6.out).put ho9 hb9 hg9)
         clear ho9 hb9 hg9 hat9))
        have g := HGO2.out
        rw [HST.out] at g
        exact ⟨⟨i + 1, _, _, by simp, by omega, Lib.hid g, Lib.hid ⟨by have := HLN.out.1; omega, by rw [List.length_append, List.length_singleton]; have := HLN.out.2; omega⟩, M9⟩, by simp [intOf]; omega⟩
   go_wp2
   have hst : specStep L x = none := by unfold specStep; rw [if_neg (by omega), if_neg hd2, if_neg hd3, if_neg hd7, if_neg hd8, if_neg hd]
   have g := HGO2.out
   rw [hst] at g
   go_ret2
   rw [← g]
   exact ⟨rfl, (HM4.out.step (by repeat (first | (with_reducible first | exact HX.out | apply below_alloc | apply pw_below_drewN | apply below_drew1) | exact HX.out))).b⟩
  ·obtain rfl : i = N := by omega
   have hgo := HGO.out
   rw [List.drop_eq_nil_of_le (by have := HN.out; omega)] at hgo
   have hgo2 : some acc = R := hgo
   obtain ⟨A2, c2, hov, hc2, hC2⟩ := Kd.R_reads HM.out.o
   subst hov
   have HCC := Lib.hid hC2
   have HC2 := Lib.hid hc2
   have HG := Lib.hid hgo2
   have hq_ : ¬ (i : Int) < (i : Int) := by omega
   clear hgo hgo2 hC2 hc2
   go_wp2
   go_ret2
   rw [← HG.out]
   exact ⟨_, _, rfl, HC2.out, HCC.out, HM.out.b⟩
end Go.Proofs.Ytoimkmoalmmooaa.Own
namespace Go.Proofs.Ytoimkmoalmmooaa.Own
open Go.RowKit Go.Proofs.YtoimkmoalmmooaaW.PrintWords Go.Proofs.YtoimkmoalmmooaaW.PrintLast Go.Proofs.YtoimkmoalmmooaaW.PrintMore Go.Proofs.Ytoimkmoalmmooaa.Base Go.Proofs.Ytoimkmoalmmooaa.Gv
set_option maxHeartbeats 2000000 in
set_option maxRecDepth 100000 in
theorem appendArgBytes_false (l : Nat → Nat) (w : World) (z n : Nat) (V : Value) (S : List Slot) (h : KvS l w z V n S) (hn : n ≤ 1099511627775) (A : Option Addr) (m c : Nat) (kx : List Int) (hks : m ≤ 140737488355328) (hk : Src (Zn z) l w A m kx) (B : Option Addr) (m' c' : Nat) (vx : List Int) (hvs : m' ≤ 140737488355328) (hv : Src (Zn z) l w B m' vx) :
    Calls Try.prog 74 #[V, .slice A m c, .slice B m' c', .bool false] w fun e w' => ∃ l1 V1 S1, e = .returned V1 ∧ KvS l1 w' z V1 (n + 1) S1 ∧ kvs S1 (n + 1) = kvs S n ++ [⟨kx, vx, false⟩] ∧ Stp (Zn z) l l1 w w' := by
  have hz := h.1
  have HNN := Lib.hid h.2.1
  have HA := Lib.hid (allocArg_calls l w z n V S h (by omega))
  have hcz := cutz
  have HSK := Lib.hid hk
  have HSV := Lib.hid hv
  clear hk hv
  clear h
  go_enter Try.func74, Try.ntmps74
  go_wp2_with (first
    | (go_at_call 102
       refine HA.out.mono ?_
       rintro e w1 ⟨l1, a, S1, s, rfl, k1, k2, k3, k4, k5, k6, k7⟩
       obtain ⟨⟨A1, n1, c1, e1, z0, b1⟩, ⟨A2, n2, c2, e2, z1, b2⟩, z2, f0, f1, f2⟩ := k1.at (l := l1) k5
       have K1 := Lib.hid k1
       have K2' := Lib.hid k2
       have K3 := Lib.hid k3
       have K4 := Lib.hid k4
       have K5 := Lib.hid k5
       have K6 := Lib.hid k6
       have K7 := Lib.hid k7
       have B1 := Lib.hid b1
       clear k1 k2 k3 k4 k5 k6 k7 b1 b2 e1 e2)
    | (at_builtin
       refine app_row (kLab z s.id) rfl (.tmp 20) (.tmp 21) 54 rfl Try.underlying54 info8 _ [] kx A m c rfl rfl B1.out (HSK.out.step K7.out).now (by simp; omega) ?_
       intro v1 w2 l2 hB2 st2 hn2
       rw [List.nil_append] at hB2
       obtain ⟨vA, vc, rfl, _⟩ := hB2.slice
       obtain ⟨y0, g0⟩ := K1.out.cells_keep st2 (kLab_ne hz) (n * 3)
       rw [z0] at y0
       have K2 := Lib.hid (K1.out.storeK K5.out hB2 st2)
       obtain ⟨⟨A3, n3, c3, e3, x0, b3⟩, ⟨A4, n4, c4, e4, x1, b4⟩, x2, h0, h1, h2⟩ := K2.out.1.at l2 (get_set K5.out)
       have B4 := Lib.hid b4
       have E4 := Lib.hid e4
       clear hB2 hn2 st2 e3 b3 e4 b4)
    | (at_builtin
       refine app_row (vLab z s.id) rfl (.tmp 39) (.tmp 40) 54 rfl Try.underlying54 info8 _ [] vx B m' c' rfl rfl B4.out ((HSV.out.step K7.out).step K2.out.2).now (by simp; omega) ?_
       intro v2 w3 l3 hB3 st3 hn3
       rw [List.nil_append] at hB3
       obtain ⟨uA, uc, rfl, _⟩ := hB3.slice
       obtain ⟨y1, g1⟩ := K2.out.1.cells_keep st3 (vLab_ne hz) (n * 3 + 1)
       rw [x1] at y1
       have K8 := Lib.hid (K2.out.1.storeV (get_set K5.out) hB3 st3)
       have N3 := Lib.hid hn3
       obtain ⟨⟨A5, n5, c5, e5, u0, b5⟩, ⟨A6, n6, c6, e6, u1, b6⟩, u2, j0, j1, j2⟩ := K8.out.1.at l3 (get_set (get_set K5.out))
       have K9 := Lib.hid (K8.out.1.storeN (get_set (get_set K5.out)) false)
       clear hB3 st3 hn3 e5 b5 e6 b6))
  go_ret
  have K10 := K9.out
  rw [set_set_at, set_set_at] at K10
  refine ⟨_, _, rfl, _, ⟨hz, nn_set HNN.out K4.out K2'.out _ ?_, .inr ⟨a, by rw [List.length_set]; rfl, by rw [List.length_set]; exact K2'.out, by rw [List.length_set]; exact K3.out, K10.1⟩⟩, take_set_snoc K4.out K2'.out _, ((K7.out.trans K2.out.2).trans K8.out.2).trans K10.2⟩
  exact N3.out (by
    have h1 := K6.out
    have h2 : s.v = _ := E4.out
    rw [h2] at h1
    cases A4 with
    | none => exact absurd rfl h1
    | some q => exact fun e => by cases e)
set_option maxHeartbeats 2000000 in
set_option maxRecDepth 100000 in
theorem appendArgBytes_true (l : Nat → Nat) (w : World) (z n : Nat) (V : Value) (S : List Slot) (h : KvS l w z V n S) (hn : n ≤ 1099511627775) (A : Option Addr) (m c : Nat) (kx : List Int) (hks : m ≤ 140737488355328) (hk : Src (Zn z) l w A m kx) (B : Option Addr) (m' c' : Nat) (vx : List Int) :
    Calls Try.prog 74 #[V, .slice A m c, .slice B m' c', .bool true] w fun e w' => ∃ l1 V1 S1, e = .returned V1 ∧ KvS l1 w' z V1 (n + 1) S1 ∧ kvs S1 (n + 1) = kvs S n ++ [⟨kx, [], true⟩] ∧ Stp (Zn z) l l1 w w' := by
  have hz := h.1
  have HNN := Lib.hid h.2.1
  have HA := Lib.hid (allocArg_calls l w z n V S h (by omega))
  have hcz := cutz
  have HSK := Lib.hid hk
  clear hk
  clear h
  go_enter Try.func74, Try.ntmps74
  go_wp2_with (first
    | (go_at_call 102
       refine HA.out.mono ?_
       rintro e w1 ⟨l1, a, S1, s, rfl, k1, k2, k3, k4, k5, k6, k7⟩
       obtain ⟨⟨A1, n1, c1, e1, z0, b1⟩, ⟨A2, n2, c2, e2, z1, b2⟩, z2, f0, f1, f2⟩ := k1.at (l := l1) k5
       have K1 := Lib.hid k1
       have K2' := Lib.hid k2
       have K3 := Lib.hid k3
       have K4 := Lib.hid k4
       have K5 := Lib.hid k5
       have K6 := Lib.hid k6
       have K7 := Lib.hid k7
       have B1 := Lib.hid b1
       clear k1 k2 k3 k4 k5 k6 k7 b1 b2 e1 e2)
    | (at_builtin
       refine app_row (kLab z s.id) rfl (.tmp 20) (.tmp 21) 54 rfl Try.underlying54 info8 _ [] kx A m c rfl rfl B1.out (HSK.out.step K7.out).now (by simp; omega) ?_
       intro v1 w2 l2 hB2 st2 hn2
       rw [List.nil_append] at hB2
       obtain ⟨vA, vc, rfl, _⟩ := hB2.slice
       obtain ⟨y0, g0⟩ := K1.out.cells_keep st2 (kLab_ne hz) (n * 3)
       rw [z0] at y0
       have K2 := Lib.hid (K1.out.storeK K5.out hB2 st2)
       obtain ⟨⟨A3, n3, c3, e3, x0, b3⟩, ⟨A4, n4, c4, e4, x1, b4⟩, x2, h0, h1, h2⟩ := K2.out.1.at l2 (get_set K5.out)
       have B4 := Lib.hid b4
       have E4 := Lib.hid e4
       have K8 := Lib.hid (K2.out.1.storeV (get_set K5.out) b4 (Stp.refl _ _ _))
       obtain ⟨⟨A5, n5, c5, e5, u0, b5⟩, ⟨A6, n6, c6, e6, u1, b6⟩, u2, j0, j1, j2⟩ := K8.out.1.at l2 (get_set (get_set K5.out))
       have K9 := Lib.hid (K8.out.1.storeN (get_set (get_set K5.out)) true)
       clear e5 b5 e6 b6
       clear hB2 hn2 st2 e3 b3 e4 b4))
  go_ret
  have K10 := K9.out
  rw [set_set_at, set_set_at] at K10
  refine ⟨_, _, rfl, _, ⟨hz, nn_set HNN.out K4.out K2'.out _ ?_, .inr ⟨a, by rw [List.length_set]; rfl, by rw [List.length_set]; exact K2'.out, by rw [List.length_set]; exact K3.out, K10.1⟩⟩, take_set_snoc K4.out K2'.out _, ((K7.out.trans K2.out.2).trans K8.out.2).trans K10.2⟩
  exact (by
    have h1 := K6.out
    have h2 : s.v = _ := E4.out
    rw [h2] at h1
    cases A4 with
    | none => exact absurd rfl h1
    | some q => exact fun e => by cases e)
set_option maxHeartbeats 4000000 in
set_option maxRecDepth 100000 in
theorem updateArgBytes_calls (l : Nat → Nat) (w : World) (z n : Nat) (V : Value) (S : List Slot) (h : KvS l w z V n S) (hn : n ≤ 1099511627775) (A : Option Addr) (c : Nat) (kx : List Int) (hks : kx.length ≤ 140737488355328) (hkc : kx.length ≤ c) (hk : Src (Zn z) l w A kx.length kx) (B : Option Addr) (m' c' : Nat) (vx : List Int) (hvs : m' ≤ 140737488355328) (hv : Src (Zn z) l w B m' vx) :
    Calls Try.prog 70 #[V, .slice A kx.length c, .slice B m' c'] w fun e w' => ∃ l1 V1 S1, e = .returned V1 ∧ KvS l1 w' z V1 n S1 ∧ kvs S1 n = updKV kx vx (kvs S n) ∧ Stp (Zn z) l l1 w w' := by
  have hcz := cutz
  have hz := h.1
  have HNN := Lib.hid h.2.1
  have hV : ∃ A0 c0, V = .slice A0 n c0 := by
    obtain ⟨_, _, ⟨rfl, _, rfl⟩ | ⟨a0, rfl, _⟩⟩ := h
    · exact ⟨none, 0, rfl⟩
    · exact ⟨_, _, rfl⟩
  obtain ⟨A0, c0, rfl⟩ := hV
  have HH := Lib.hid h
  have HSK := Lib.hid hk
  have HSV := Lib.hid hv
  obtain ⟨K, hK⟩ : ∃ K, kx.length = K := ⟨_, rfl⟩
  rw [hK] at hks hkc
  have HK := Lib.hid hK
  rw [hK]
  clear h hk hv hK
  go_enter Try.func70, Try.ntmps70
  go_wp2
  go_loopw [8, 9] (fun iv _ wr => ∃ i m : Nat, iv = .int .i64 i ∧ wr = w.drewN m ∧ i ≤ n ∧ Hid (∀ (j : Nat) (y : KVx), j < i → (kvs S n)[j]? = some y → ¬ (y.no = true ∧ eqB kx y.k = true))) (fun iv _ _ => n - (intOf iv).toNat)
  case atStart => exact ⟨0, 0, rfl, by first | rfl | simp, by omega, Lib.hid (fun j y hj => absurd hj (by omega))⟩
  case round =>
    obtain ⟨i, m, rfl, rfl, hi, HM⟩ := hrel
    by_cases hlt : i < n
    · have q1 : (i : Int) < (n : Int) := by omega
      obtain ⟨hz', hnn', ⟨e0, _, _⟩ | ⟨a, e0, hle, hmx, hkv⟩⟩ := HH.out
      · cases e0; omega
      · obtain ⟨e1, e2⟩ : A0 = some ⟨a, 0, none⟩ ∧ c0 = S.length := by cases e0; exact ⟨rfl, rfl⟩
        subst e1 e2
        obtain ⟨s, hs⟩ := get_some (S := S) (n := i) (by omega)
        obtain ⟨⟨A1, c1, ek, z0, hc1, r1⟩, ⟨A2, c2, ev, z1, hc2, r2⟩, z2⟩ := hkv.look hs
        have HE := Lib.hid (equal_calls (w.drewN m) A A1 c c1 kx s.kx ((HSK.out.drewN m).now) (by rw [HK.out]; exact hkc) r1 hc1)
        rw [HK.out] at HE
        have hkat := kvs_at (n := n) hs hlt
        obtain ⟨r, hr⟩ : ∃ r, eqB kx s.kx = r := ⟨_, rfl⟩
        rw [hr] at HE
        have HKV := Lib.hid hkv
        have HS := Lib.hid hs
        have HLE := Lib.hid hle
        have HMX := Lib.hid hmx
        have HR := Lib.hid hr
        have HAT := Lib.hid hkat
        have EV := Lib.hid ev
        obtain ⟨kl, hkl⟩ : ∃ k, s.kx.length = k := ⟨_, rfl⟩
        obtain ⟨vl, hvl⟩ : ∃ k, s.vx.length = k := ⟨_, rfl⟩
        rw [hkl] at z0 HE
        rw [hvl] at z1
        have HVL := Lib.hid hvl
        have hic : i < S.length := by omega
        clear hkv hs hle hmx hr hkat ek ev r1 r2 hc1 hc2 hz' hnn' hkl hvl
        obtain ⟨b, hb⟩ : ∃ b, s.no = b := ⟨_, rfl⟩
        rw [hb] at z2
        have HNO := Lib.hid hb
        clear hb
        cases b with
        | false =>
          go_wp2
          go_roundw
          case rel =>
            refine ⟨i + 1, m, by go_num, rfl, by omega, Lib.hid (fun j y hj hy => ?_)⟩
            rcases Nat.lt_or_ge j i with h | h
            · exact HM.out j y h hy
            · obtain rfl : j = i := by omega
              rw [HAT.out] at hy
              cases hy
              exact fun hh => by have := hh.1; rw [HNO.out] at this; cases this
          case measure => simp [intOf]; omega
        | true =>
          cases r with
          | false =>
            go_wp2_with (go_at_call 99; refine HE.out.mono ?_; rintro e w1 ⟨rfl, m1, rfl⟩)
            go_roundw
            case rel =>
              refine ⟨i + 1, m + m1, by go_num, by first | rfl | rw [drewN_add], by omega, Lib.hid (fun j y hj hy => ?_)⟩
              rcases Nat.lt_or_ge j i with h | h
              · exact HM.out j y h hy
              · obtain rfl : j = i := by omega
                rw [HAT.out] at hy
                cases hy
                exact fun hh => by rw [HR.out] at hh; exact absurd hh.2 (by decide)
            case measure => simp [intOf]; omega
          | true =>
            have BV := Lib.hid (show Bf l w (vLab z s.id) (.slice A2 0 c2) [] by
              have := (HKV.out.row HS.out).2
              rw [EV.out] at this
              exact this.cut0.2)
            go_wp2_with (first
              | (go_at_call 99; refine HE.out.mono ?_; rintro e w1 ⟨rfl, m1, rfl⟩)
              | (at_builtin
                 refine app_row (l := l) (vLab z s.id) rfl (.tmp 37) (.tmp 38) 54 rfl Try.underlying54 info8 _ [] vx B m' c' rfl rfl (by first | exact BV.out.drewN _ | exact (BV.out.drewN _).drewN _) (by first | exact (HSV.out.drewN _).now | exact ((HSV.out.drewN _).drewN _).now) (by simp; omega) ?_
                 intro v1 w2 l2 hB2 st2 hn2
                 rw [List.nil_append] at hB2
                 obtain ⟨vA, vc, rfl, _⟩ := hB2.slice
                 have hst2 := (drew_stp (· = vLab z s.id) l w _).trans st2
                 obtain ⟨y1, g1⟩ := HKV.out.cells_keep hst2 (vLab_ne hz) (i * 3 + 1)
                 rw [z1] at y1
                 have K8 := Lib.hid (HKV.out.storeV HS.out hB2 hst2)
                 have N3 := Lib.hid hn2
                 obtain ⟨⟨A5, n5, c5, e5, u0, b5⟩, ⟨A6, n6, c6, e6, u1, b6⟩, u2, j0, j1, j2⟩ := K8.out.1.at l2 (get_set HS.out)
                 have K9 := Lib.hid (K8.out.1.storeN (get_set HS.out) false)
                 clear hB2 st2 hst2 hn2 e5 b5 e6 b6))
            go_ret
            have K10 := K9.out
            rw [set_set_at] at K10
            have hnv := N3.out (by
              have h1 := nn_at HNN.out HS.out hlt
              rw [EV.out] at h1
              cases A2 with
              | none => exact absurd rfl h1
              | some q => exact fun e => by cases e)
            refine ⟨_, _, rfl, _, ⟨hz, nn_set_at HNN.out _ hnv, .inr ⟨a, by rw [List.length_set]; rfl, by rw [List.length_set]; exact HLE.out, by rw [List.length_set]; exact HMX.out, K10.1⟩⟩, ?_, K8.out.2.trans K10.2⟩
            rw [kvs_set hlt, updKV_hit kx vx (kvs S n) i _ HAT.out ⟨HNO.out, HR.out⟩ HM.out]
    · obtain rfl : n = i := by omega
      have hmiss := updKV_miss kx vx (kvs S n) (fun j y hy => by
        obtain ⟨s, _, hj, _⟩ := kvs_get hy
        exact HM.out j y hj hy)
      have HMISS := Lib.hid hmiss
      have q1 : ¬ ((n : Int) < (n : Int)) := by omega
      clear hmiss
      go_wp2
      go_ret
      refine ⟨l, _, rfl, S, HH.out.keep (drew_stp (fun _ => False) l w m) (fun _ k => k.elim), by rw [HMISS.out], drew_stp _ _ _ _⟩
set_option maxHeartbeats 4000000 in
set_option maxRecDepth 100000 in
theorem setArgBytes_calls (l : Nat → Nat) (w : World) (z n : Nat) (V : Value) (S : List Slot) (h : KvS l w z V n S) (hn : n ≤ 1099511627775) (A : Option Addr) (c : Nat) (kx : List Int) (hks : kx.length ≤ 140737488355328) (hkc : kx.length ≤ c) (hk : Src (Zn z) l w A kx.length kx) (B : Option Addr) (m' c' : Nat) (vx : List Int) (hvs : m' ≤ 140737488355328) (hv : Src (Zn z) l w B m' vx) :
    Calls Try.prog 73 #[V, .slice A kx.length c, .slice B m' c', .bool false] w fun e w' => ∃ l1 V1 n1 S1, e = .returned V1 ∧ KvS l1 w' z V1 n1 S1 ∧ n1 ≤ n + 1 ∧ kvs S1 n1 = setKV kx vx (kvs S n) ∧ Stp (Zn z) l l1 w w' := by
  have hcz := cutz
  have hz := h.1
  have HNN := Lib.hid h.2.1
  have hV : ∃ A0 c0, V = .slice A0 n c0 := by
    obtain ⟨_, _, ⟨rfl, _, rfl⟩ | ⟨a0, rfl, _⟩⟩ := h
    · exact ⟨none, 0, rfl⟩
    · exact ⟨_, _, rfl⟩
  obtain ⟨A0, c0, rfl⟩ := hV
  have HH := Lib.hid h
  have HSK := Lib.hid hk
  have HSV := Lib.hid hv
  obtain ⟨K, hK⟩ : ∃ K, kx.length = K := ⟨_, rfl⟩
  rw [hK] at hks hkc
  have HK := Lib.hid hK
  rw [hK]
  clear h hk hv hK
  go_enter Try.func73, Try.ntmps73
  go_wp2
  go_loopw [10, 11] (fun iv _ wr => ∃ i m : Nat, iv = .int .i64 i ∧ wr = w.drewN m ∧ i ≤ n ∧ Hid (∀ (j : Nat) (y : KVx), j < i → (kvs S n)[j]? = some y → eqB kx y.k = false)) (fun iv _ _ => n - (intOf iv).toNat)
  case atStart => exact ⟨0, 0, rfl, by first | rfl | simp, by omega, Lib.hid (fun j y hj => absurd hj (by omega))⟩
  case round =>
    obtain ⟨i, m, rfl, rfl, hi, HM⟩ := hrel
    by_cases hlt : i < n
    · have q1 : (i : Int) < (n : Int) := by omega
      obtain ⟨hz', hnn', ⟨e0, _, _⟩ | ⟨a, e0, hle, hmx, hkv⟩⟩ := HH.out
      · cases e0; omega
      · obtain ⟨e1, e2⟩ : A0 = some ⟨a, 0, none⟩ ∧ c0 = S.length := by cases e0; exact ⟨rfl, rfl⟩
        subst e1 e2
        obtain ⟨s, hs⟩ := get_some (S := S) (n := i) (by omega)
        obtain ⟨⟨A1, c1, ek, z0, hc1, r1⟩, ⟨A2, c2, ev, z1, hc2, r2⟩, z2⟩ := hkv.look hs
        have HE := Lib.hid (equal_calls (w.drewN m) A A1 c c1 kx s.kx ((HSK.out.drewN m).now) (by rw [HK.out]; exact hkc) r1 hc1)
        rw [HK.out] at HE
        have hkat := kvs_at (n := n) hs hlt
        obtain ⟨r, hr⟩ : ∃ r, eqB kx s.kx = r := ⟨_, rfl⟩
        rw [hr] at HE
        have HKV := Lib.hid hkv
        have HS := Lib.hid hs
        have HLE := Lib.hid hle
        have HMX := Lib.hid hmx
        have HR := Lib.hid hr
        have HAT := Lib.hid hkat
        have EV := Lib.hid ev
        obtain ⟨kl, hkl⟩ : ∃ k, s.kx.length = k := ⟨_, rfl⟩
        obtain ⟨vl, hvl⟩ : ∃ k, s.vx.length = k := ⟨_, rfl⟩
        rw [hkl] at z0 HE
        rw [hvl] at z1
        have HVL := Lib.hid hvl
        have hic : i < S.length := by omega
        clear hkv hs hle hmx hr hkat ek ev r1 r2 hc1 hc2 hz' hnn' hkl hvl
        cases r with
        | false =>
          go_wp2_with (go_at_call 99; refine HE.out.mono ?_; rintro e w1 ⟨rfl, m1, rfl⟩)
          go_roundw
          case rel =>
            refine ⟨i + 1, m + m1, by go_num, by first | rfl | rw [drewN_add], by omega, Lib.hid (fun j y hj hy => ?_)⟩
            rcases Nat.lt_or_ge j i with h | h
            · exact HM.out j y h hy
            · obtain rfl : j = i := by omega
              rw [HAT.out] at hy
              cases hy
              exact HR.out
          case measure => simp [intOf]; omega
        | true =>
          have BV := Lib.hid (show Bf l w (vLab z s.id) (.slice A2 0 c2) [] by
            have := (HKV.out.row HS.out).2
            rw [EV.out] at this
            exact this.cut0.2)
          go_wp2_with (first
            | (go_at_call 99; refine HE.out.mono ?_; rintro e w1 ⟨rfl, m1, rfl⟩)
            | (at_builtin
               refine app_row (l := l) (vLab z s.id) rfl (.tmp 42) (.tmp 43) 54 rfl Try.underlying54 info8 _ [] vx B m' c' rfl rfl (by first | exact BV.out.drewN _ | exact (BV.out.drewN _).drewN _) (by first | exact (HSV.out.drewN _).now | exact ((HSV.out.drewN _).drewN _).now) (by simp; omega) ?_
               intro v1 w2 l2 hB2 st2 hn2
               rw [List.nil_append] at hB2
               obtain ⟨vA, vc, rfl, _⟩ := hB2.slice
               have hst2 := (drew_stp (· = vLab z s.id) l w _).trans st2
               obtain ⟨y1, g1⟩ := HKV.out.cells_keep hst2 (vLab_ne hz) (i * 3 + 1)
               rw [z1] at y1
               have K8 := Lib.hid (HKV.out.storeV HS.out hB2 hst2)
               have N3 := Lib.hid hn2
               obtain ⟨⟨A5, n5, c5, e5, u0, b5⟩, ⟨A6, n6, c6, e6, u1, b6⟩, u2, j0, j1, j2⟩ := K8.out.1.at l2 (get_set HS.out)
               have K9 := Lib.hid (K8.out.1.storeN (get_set HS.out) false)
               clear hB2 st2 hst2 hn2 e5 b5 e6 b6))
          go_ret
          have K10 := K9.out
          rw [set_set_at] at K10
          have hnv := N3.out (by
            have h1 := nn_at HNN.out HS.out hlt
            rw [EV.out] at h1
            cases A2 with
            | none => exact absurd rfl h1
            | some q => exact fun e => by cases e)
          refine ⟨_, _, rfl, n, _, ⟨hz, nn_set_at HNN.out _ hnv, .inr ⟨a, by rw [List.length_set]; rfl, by rw [List.length_set]; exact HLE.out, by rw [List.length_set]; exact HMX.out, K10.1⟩⟩, by omega, ?_, K8.out.2.trans K10.2⟩
          rw [kvs_set hlt, setKV_hit kx vx (kvs S n) i _ HAT.out HR.out HM.out]
    · obtain rfl : n = i := by omega
      have hmiss := setKV_miss kx vx (kvs S n) (fun j y hy => by
        obtain ⟨s, _, hj, _⟩ := kvs_get hy
        exact HM.out j y hj hy)
      have HMISS := Lib.hid hmiss
      have HAP := Lib.hid (fun m => appendArgBytes_false l (w.drewN m) z n (.slice A0 n c0) S (HH.out.keep (drew_stp (fun _ => False) l w m) (fun _ k => k.elim)) hn A K c kx hks (by have := HSK.out.drewN m; rwa [HK.out] at this) B m' c' vx hvs (HSV.out.drewN m))
      have q1 : ¬ ((n : Int) < (n : Int)) := by omega
      clear hmiss
      go_wp2_with (go_at_call 74; refine (HAP.out m).mono ?_; rintro e w1 ⟨l1, V1, S1, rfl, h1, h2, h3⟩)
      go_ret
      exact ⟨_, _, _, _, rfl, h1, Nat.le_refl _, by rw [h2, HMISS.out], (drew_stp _ _ _ _).trans h3⟩
def BrO (w : World) (e : TypeId) (g o : Nat) (xs : List Int) : Prop :=
  ∃ cur fr, w.heap[g]? = some (.cells cur e fr) ∧ (∀ j, j < xs.length → cur[o + j]? = some (.int .u8 (xs.getD j 0))) ∧ ∀ j, j < xs.length → ¬ (fr.1 ≤ o + j ∧ o + j < fr.2)
theorem BrO.cell {w : World} {e : TypeId} {g o : Nat} {xs : List Int} (h : BrO w e g o xs) (j : Nat) (hj : j < xs.length) : w.cell? ⟨g, o + j, none⟩ = some (.int .u8 (xs.getD j 0)) := by
  obtain ⟨cur, fr, hb, hc, _⟩ := h
  simp only [World.cell?, hb]
  exact hc j hj
theorem BrO.free {w : World} {e : TypeId} {g o : Nat} {xs : List Int} (h : BrO w e g o xs) (j : Nat) (hj : j < xs.length) : w.frozen? ⟨g, o + j, none⟩ = false := by
  obtain ⟨cur, fr, hb, _, hf⟩ := h
  have := hf j hj
  obtain ⟨lo, hi⟩ := fr
  simp only [World.frozen?, hb]
  simp only [Bool.and_eq_false_iff, decide_eq_false_iff_not]
  simp only at this
  omega
theorem BrO.set {w : World} {e : TypeId} {g o : Nat} {xs : List Int} (h : BrO w e g o xs) (j : Nat) (v : Int) : BrO (w.setCell ⟨g, o + j, none⟩ (.int .u8 v)) e g o (xs.set j v) := by
  obtain ⟨cur, fr, hb, hc, hf⟩ := h
  refine ⟨cur.setIfInBounds (o + j) (.int .u8 v), fr, ?_, fun i hi => ?_, fun i hi => hf i (by simpa using hi)⟩
  · simp only [World.setCell, Array.getElem?_modify, if_true, hb, Option.map_some, Option.isSome_none, Bool.false_eq_true, if_false]
  · have hi' : i < xs.length := by simpa using hi
    have h1 := hc i hi'
    have hlt : o + i < cur.size := (Array.getElem?_eq_some_iff.1 h1).1
    rw [Array.getElem?_setIfInBounds, List.getD_eq_getElem?_getD, List.getElem?_set]
    by_cases e1 : j = i
    · subst e1; simp [hlt, hi']
    · rw [if_neg (by omega), if_neg e1, h1, List.getD_eq_getElem?_getD]
structure OnlyO (g o n : Nat) (w w' : World) : Prop where
  os : w'.os = w.os
  tape : w'.tape = w.tape
  output : w'.output = w.output
  size : w'.heap.size = w.heap.size
  others : ∀ i, i ≠ g → w'.heap[i]? = w.heap[i]?
  own : ∀ cur e fr, w.heap[g]? = some (.cells cur e fr) → ∃ cur', w'.heap[g]? = some (.cells cur' e fr) ∧ cur'.size = cur.size ∧ ∀ j, (j < o ∨ o + n ≤ j) → cur'[j]? = cur[j]?
theorem OnlyO.refl (g o n : Nat) (w : World) : OnlyO g o n w w := ⟨rfl, rfl, rfl, rfl, fun _ _ => rfl, fun cur e fr h => ⟨cur, h, rfl, fun _ _ => rfl⟩⟩
theorem OnlyO.set {g o n : Nat} {w w' : World} (h : OnlyO g o n w w') (j : Nat) (hj : j < n) (v : Value) : OnlyO g o n w (w'.setCell ⟨g, o + j, none⟩ v) := by
  refine ⟨h.os, h.tape, h.output, by rw [World.size_setCell]; exact h.size, fun i hi => ?_, fun cur e fr hb => ?_⟩
  · rw [heap_setCell_other w' ⟨g, o + j, none⟩ i v hi]
    exact h.others i hi
  · obtain ⟨cur', h1, h2, h3⟩ := h.own cur e fr hb
    refine ⟨cur'.setIfInBounds (o + j) v, ?_, by simpa using h2, fun i hi => ?_⟩
    · simp only [World.setCell, Array.getElem?_modify, if_true, h1, Option.map_some, Option.isSome_none, Bool.false_eq_true, if_false]
    · rw [Array.getElem?_setIfInBounds, if_neg (by omega)]
      exact h3 i hi
theorem getD_mid (out rest : List Int) (x : Int) : (out ++ x :: rest).getD out.length 0 = x := by
  rw [List.getD_eq_getElem?_getD, List.getElem?_append_right (Nat.le_refl _), Nat.sub_self]; rfl
theorem set_mid (out rest : List Int) (x v : Int) : (out ++ x :: rest).set out.length v = (out ++ [v]) ++ rest := by
  rw [List.set_append_right _ _ (Nat.le_refl _), Nat.sub_self, List.set_cons_zero, List.append_assoc]; rfl
set_option maxHeartbeats 4000000 in
set_option maxRecDepth 100000 in
theorem nhkO_calls (w : World) (g o n cap : Nat) (xs : List Int) (hn : xs.length = n) (hr : ∀ x ∈ xs, 0 ≤ x ∧ x ≤ 255) (hl : n ≤ 4611686018427387904) (hb : BrO w 5 g o xs) :
    Calls Try.prog 60 #[.slice (some ⟨g, o, none⟩) n cap, .bool false] w fun e w' => e = .returned (.tuple #[]) ∧ BrO w' 5 g o (nk xs) ∧ OnlyO g o n w w' := by
  cases xs with
  | nil =>
    obtain rfl : n = 0 := by simpa using hn.symm
    clear hr hl hn
    have HB := Lib.hid hb
    clear hb
    go_enter Try.func60, Try.ntmps60
    go_wp2
    exact bodyPost_ret (results_none rfl _ _ _) rfl ⟨rfl, HB.out, OnlyO.refl _ _ _ _⟩
  | cons a l =>
    have hcell : w.cell? ⟨g, o, none⟩ = some (.int .u8 a) := by have := hb.cell 0 (by simp); simpa using this
    have hfree : w.frozen? ⟨g, o, none⟩ = false := by have := hb.free 0 (by simp); simpa using this
    have ha := hr a (by simp)
    have hset : BrO (w.setCell ⟨g, o, none⟩ (.int .u8 (up a))) 5 g o ([up a] ++ l) := by
      have h := hb.set 0 (up a)
      simpa using h
    have honly : OnlyO g o n w (w.setCell ⟨g, o, none⟩ (.int .u8 (up a))) := by have := (OnlyO.refl g o n w).set 0 (by rw [← hn]; simp) (.int .u8 (up a)); simpa using this
    have hlen : Hid ([up a].length + l.length = n) := Lib.hid (by rw [← hn]; simp; omega)
    have hrl : Hid (∀ x ∈ l, 0 ≤ x ∧ x ≤ 255) := Lib.hid (fun x hx => hr x (List.mem_cons_of_mem _ hx))
    have hnk : Hid (nk (a :: l) = [up a] ++ nkTail l) := Lib.hid rfl
    have hpos : 1 ≤ n := by rw [← hn]; simp
    obtain ⟨res, hres⟩ : ∃ res, nk (a :: l) = res := ⟨_, rfl⟩
    have hnk' : Hid (res = [up a] ++ nkTail l) := Lib.hid (by rw [← hres]; exact hnk.out)
    rw [hres]
    have HSET := Lib.hid hset
    have HONLY := Lib.hid honly
    clear hset honly hb hr hnk hres hn
    have hne : ((n : Int) == 0) = false := beq_eq_false_iff_ne.2 (by omega)
    go_enter Try.func60, Try.ntmps60
    go_wp2_with (refine wpList_index_fn rfl 9 _ _ rfl _ _ .u8 rfl rfl Try.underlying9 ha.1 ha.2 up ?tb ?_; case tb => decide +kernel)
    go_loopw [5] (fun i wr => ∃ (k : Nat) (out rest : List Int), i = .int .i64 k ∧ (k = out.length ∨ (k = out.length + 1 ∧ rest = [])) ∧ Hid (out.length + rest.length = n) ∧ Hid (∀ x ∈ rest, 0 ≤ x ∧ x ≤ 255) ∧ Hid (res = out ++ nkTail rest) ∧ Hid (BrO wr 5 g o (out ++ rest)) ∧ Hid (OnlyO g o n w wr)) (fun i _ => n + 1 - (intOf i).toNat)
    case atStart => exact ⟨1, [up a], l, rfl, .inl rfl, hlen, hrl, hnk', HSET, HONLY⟩
    case round =>
      obtain ⟨k, out, rest, rfl, hk, Hlen, Hr, Hnk, HBr, HO⟩ := hrel
      cases rest with
      | nil =>
        have hge : n ≤ k := by have := Hlen.out; simp only [List.length_nil] at this; omega
        have hfin : Hid (res = out ++ []) := Lib.hid Hnk.out
        clear hk Hr Hnk Hlen
        go_wp2
        go_end0
        exact ⟨rfl, by rw [hfin.out]; exact HBr.out, HO.out⟩
      | cons x rest =>
        have hko : k = out.length := by
          rcases hk with hk | ⟨_, hk⟩
          · exact hk
          · cases hk
        have hlt : k < n := by have := Hlen.out; simp only [List.length_cons] at this; omega
        have hin : k < (out ++ x :: rest).length := by rw [List.length_append, List.length_cons]; omega
        have hcell := HBr.out.cell k hin
        have hfree := HBr.out.free k hin
        rw [hko, getD_mid, ← hko] at hcell
        have hx := Hr.out x (by simp)
        have Hko := Lib.hid hko
        clear hk hko hin
        by_cases h45 : x = 45
        · subst h45
          cases rest with
          | nil =>
            have hk1 : n ≤ k + 1 := by have h1 := Hlen.out; have h2 := Hko.out; simp only [List.length_cons, List.length_nil] at h1; omega
            have hend : Hid (res = (out ++ [45]) ++ nkTail []) := Lib.hid (by rw [Hnk.out, nkTail_hyp1]; simp only [nkTail, List.append_nil])
            have hl1 : Hid ((out ++ [(45 : Int)]).length + ([] : List Int).length = n) := Lib.hid (by have := Hlen.out; simp only [List.length_append, List.length_cons, List.length_nil] at this ⊢; omega)
            clear hfree hx
            go_wp2
            go_roundw
            case rel => exact ⟨k + 1 + 1, out ++ [45], [], by go_num, .inr ⟨by have := Hko.out; simp only [List.length_append, List.length_cons, List.length_nil]; omega, rfl⟩, hl1, Lib.hid (by simp), hend, Lib.hid (by rw [List.append_nil]; exact HBr.out), HO⟩
            case measure => simp [intOf]; omega
          | cons y rest =>
            have hk1 : k + 1 < n := by have h1 := Hlen.out; have h2 := Hko.out; simp only [List.length_cons] at h1; omega
            have hy := Hr.out y (by simp)
            have e1 : out ++ 45 :: y :: rest = (out ++ [45]) ++ y :: rest := by simp
            have hol : (out ++ [(45 : Int)]).length = k + 1 := by rw [List.length_append, ← Hko.out]; rfl
            have HB1 : BrO wr 5 g o ((out ++ [45]) ++ y :: rest) := by rw [← e1]; exact HBr.out
            have hin1 : k + 1 < ((out ++ [(45 : Int)]) ++ y :: rest).length := by rw [List.length_append, List.length_cons, hol]; omega
            have hcell1 := HB1.cell (k + 1) hin1
            have hfree1 := HB1.free (k + 1) hin1
            rw [← hol, getD_mid, hol] at hcell1
            have hset : Hid (BrO (wr.setCell ⟨g, o + (k + 1), none⟩ (.int .u8 (up y))) 5 g o ((out ++ [45] ++ [up y]) ++ rest)) := Lib.hid (by
              have h := HB1.set (k + 1) (up y)
              rw [← hol, set_mid, hol] at h
              exact h)
            have hO1 : Hid (OnlyO g o n w (wr.setCell ⟨g, o + (k + 1), none⟩ (.int .u8 (up y)))) := Lib.hid (HO.out.set (k + 1) hk1 _)
            have hend : Hid (res = (out ++ [45] ++ [up y]) ++ nkTail rest) := Lib.hid (by rw [Hnk.out, nkTail_hyp]; simp)
            have hl1 : Hid ((out ++ [(45 : Int)] ++ [up y]).length + rest.length = n) := Lib.hid (by have := Hlen.out; simp only [List.length_append, List.length_cons, List.length_nil] at this ⊢; omega)
            have hr1 : Hid (∀ z ∈ rest, 0 ≤ z ∧ z ≤ 255) := Lib.hid (fun z hz => Hr.out z (by simp [hz]))
            have hko1 : Hid (k + 1 + 1 = (out ++ [(45 : Int)] ++ [up y]).length) := Lib.hid (by have := Hko.out; simp only [List.length_append, List.length_cons, List.length_nil]; omega)
            clear e1 hol HB1 hin1 hfree hx
            go_wp2_with (refine wpList_index_fn rfl 9 _ _ rfl _ _ .u8 rfl rfl Try.underlying9 hy.1 hy.2 up ?tb ?_; case tb => decide +kernel)
            go_roundw
            case rel => exact ⟨k + 1 + 1, out ++ [45] ++ [up y], rest, by go_num, .inl hko1.out, hl1, hr1, hend, hset, hO1⟩
            case measure => simp [intOf]; omega
        · have h45b : (x == 45) = false := beq_eq_false_iff_ne.2 h45
          have hset : Hid (BrO (wr.setCell ⟨g, o + k, none⟩ (.int .u8 (lo x))) 5 g o ((out ++ [lo x]) ++ rest)) := Lib.hid (by
            have h := HBr.out.set k (lo x)
            rw [Hko.out, set_mid, ← Hko.out] at h
            exact h)
          have hO1 : Hid (OnlyO g o n w (wr.setCell ⟨g, o + k, none⟩ (.int .u8 (lo x)))) := Lib.hid (HO.out.set k hlt _)
          have hend : Hid (res = (out ++ [lo x]) ++ nkTail rest) := Lib.hid (by rw [Hnk.out, nkTail_other x rest h45]; simp)
          have hl1 : Hid ((out ++ [lo x]).length + rest.length = n) := Lib.hid (by have := Hlen.out; simp only [List.length_append, List.length_cons, List.length_nil] at this ⊢; omega)
          have hr1 : Hid (∀ z ∈ rest, 0 ≤ z ∧ z ≤ 255) := Lib.hid (fun z hz => Hr.out z (by simp [hz]))
          have hko1 : Hid (k + 1 = (out ++ [lo x]).length) := Lib.hid (by have := Hko.out; simp only [List.length_append, List.length_cons, List.length_nil]; omega)
          clear h45
          go_wp2_with (refine wpList_index_fn rfl 9 _ _ rfl _ _ .u8 rfl rfl Try.underlying9 hx.1 hx.2 lo ?tb ?_; case tb => decide +kernel)
          go_roundw
          case rel => exact ⟨k + 1, out ++ [lo x], rest, by go_num, .inl hko1.out, hl1, hr1, hend, hset, hO1⟩
          case measure => simp [intOf]; omega
theorem nhk_true (w : World) (v : Value) : Calls Try.prog 60 #[v, .bool true] w fun e w' => e = .returned (.tuple #[]) ∧ w' = w := by
  go_enter Try.func60, Try.ntmps60
  go_wp2
  exact bodyPost_ret (results_none rfl _ _ _) rfl ⟨rfl, rfl⟩
theorem nhk_nil (w : World) (c : Nat) : Calls Try.prog 60 #[.slice none 0 c, .bool false] w fun e w' => e = .returned (.tuple #[]) ∧ w' = w := by
  go_enter Try.func60, Try.ntmps60
  go_wp2
  exact bodyPost_ret (results_none rfl _ _ _) rfl ⟨rfl, rfl⟩
def nkd (dn : Bool) (xs : List Int) : List Int := if dn = true then xs else nk xs
theorem nkd_length (dn : Bool) (xs : List Int) : (nkd dn xs).length = xs.length := by
  unfold nkd
  split
  · rfl
  · exact nk_length xs
theorem OnlyO.stp {g o n : Nat} {w w' : World} (h : OnlyO g o n w w') (l : Nat → Nat) : Stp (· = l g) l l w w' :=
  ⟨h.os, h.tape, h.output, by rw [h.size]; exact Nat.le_refl _, fun _ _ => rfl, fun b _ hf => h.others b (fun e => hf (by rw [e]))⟩
theorem Bf.anew {l : Nat → Nat} {w w' : World} {z g c : Nat} {xs ys : List Int} (h : Bf l w z (.slice (some ⟨g, 0, none⟩) xs.length c) xs) (hl : ys.length = xs.length) (hb : BrO w' 5 g 0 ys) (ho : OnlyO g 0 xs.length w w') : Bf l w' z (.slice (some ⟨g, 0, none⟩) xs.length c) ys := by
  obtain ⟨⟨h1, h2⟩, h3⟩ := h
  rcases h2 with ⟨h2, _⟩ | ⟨g', cap, cur, e, h0, hg, hnc, hcm, hcs, htk⟩
  · cases h2
  · injection e with e1 e2 e3
    injection e1 with e1
    injection e1 with e1
    subst e1 e3
    obtain ⟨cur', k1, k2, k3⟩ := ho.own cur _ _ hg
    obtain ⟨cur2, fr2, j1, j2, _⟩ := hb
    rw [k1] at j1
    injection j1 with j1
    injection j1 with j1 _ _
    subst j1
    refine ⟨⟨by simp [nums], .inr ⟨g, c, cur', by rw [hl], h0, k1, by rw [hl]; exact hnc, hcm, by rw [k2]; exact hcs, ?_⟩⟩, h3⟩
    apply List.ext_getElem?
    intro j
    rw [Nat.mul_one, List.getElem?_take]
    unfold nums
    rw [List.getElem?_map]
    by_cases hj : j < ys.length
    · have := j2 j hj
      rw [Nat.zero_add] at this
      rw [if_pos hj, Array.getElem?_toList, this, List.getD_eq_getElem?_getD, List.getElem?_eq_getElem hj]
      rfl
    · rw [if_neg hj, List.getElem?_eq_none (by omega)]
      rfl
theorem Bf.br {l : Nat → Nat} {w : World} {z g c : Nat} {xs : List Int} (h : Bf l w z (.slice (some ⟨g, 0, none⟩) xs.length c) xs) : BrO w 5 g 0 xs := by
  obtain ⟨⟨h1, h2⟩, h3⟩ := h
  rcases h2 with ⟨h2, _⟩ | ⟨g', cap, cur, e, h0, hg, hnc, hcm, hcs, htk⟩
  · cases h2
  · injection e with e1 e2 e3
    injection e1 with e1
    injection e1 with e1
    subst e1 e3
    refine ⟨cur, (0, 0), hg, fun j hj => ?_, fun j hj => by simp⟩
    rw [Nat.zero_add]
    have := congrArg (fun q => q[j]?) htk
    simp only [List.getElem?_take] at this
    rw [if_pos (by omega), Array.getElem?_toList] at this
    rw [this]
    simp [nums, List.getD_eq_getElem?_getD, List.getElem?_eq_getElem hj]
theorem nhk_bf (l : Nat → Nat) (w : World) (z : Nat) (A : Option Addr) (c : Nat) (xs : List Int) (dn : Bool) (h : Bf l w z (.slice A xs.length c) xs) (hr : ∀ x ∈ xs, 0 ≤ x ∧ x ≤ 255) (hl : xs.length ≤ 4611686018427387904) :
    Calls Try.prog 60 #[.slice A xs.length c, .bool dn] w fun e w' => e = .returned (.tuple #[]) ∧ Bf l w' z (.slice A xs.length c) (nkd dn xs) ∧ Stp (· = z) l l w w' := by
  cases dn with
  | true =>
    refine (nhk_true w _).mono ?_
    rintro e w' ⟨rfl, rfl⟩
    exact ⟨rfl, h, Stp.refl _ _ _⟩
  | false =>
    by_cases h0 : A = none
    · subst h0
      have hx : xs = [] := by
        rcases h.1.2 with ⟨_, hn⟩ | ⟨g, cap, cur, e, _⟩
        · exact List.eq_nil_of_length_eq_zero hn
        · cases e
      subst hx
      refine (nhk_nil w c).mono ?_
      rintro e w' ⟨rfl, rfl⟩
      exact ⟨rfl, h, Stp.refl _ _ _⟩
    · obtain ⟨g, rfl⟩ : ∃ g, A = some ⟨g, 0, none⟩ := by
        rcases h.1.2 with ⟨e, _⟩ | ⟨g, cap, cur, e, _⟩
        · injection e with e _ _; exact absurd e h0
        · injection e with e _ _; exact ⟨g, e⟩
      refine (nhkO_calls w g 0 xs.length c xs rfl hr hl h.br).mono ?_
      rintro e w' ⟨rfl, h1, h2⟩
      have hlg : l g = z := h.2 g rfl
      have st := h2.stp l
      rw [hlg] at st
      exact ⟨rfl, h.anew (nk_length xs) h1 h2, st⟩
def Any2 (a b : Nat) : Nat → Prop := fun x => x = a ∨ x = b
def Any3 (a b c : Nat) : Nat → Prop := fun x => x = a ∨ x = b ∨ x = c
theorem Cl.field {l l1 : Nat → Nat} {w w1 : World} {zp p z : Nat} {T : TypeId} {cs : Array Value} (h : Cl l w zp p T cs) (st : Stp (· = z) l l1 w w1) (hz : z ≠ zp) (o : Nat) (v : Value) :
    (w1.cell? ⟨p, o, none⟩ = cs[o]? ∧ w1.frozen? ⟨p, o, none⟩ = false) ∧ Cl l1 (w1.setCell ⟨p, o, none⟩ v) zp p T (cs.setIfInBounds o v) ∧ Stp (Any2 zp z) l l1 w (w1.setCell ⟨p, o, none⟩ v) ∧ Stp (· = zp) l1 l1 w1 (w1.setCell ⟨p, o, none⟩ v) := by
  have h1 := h.keep st (fun e => hz e.symm)
  obtain ⟨h2, s2⟩ := h1.set o v
  exact ⟨⟨h1.cell o, h1.free o⟩, h2, (st.mono (fun _ e => .inr e)).trans (s2.mono (fun _ e => .inl e)), s2⟩
set_option maxHeartbeats 1000000 in
set_option maxRecDepth 100000 in
theorem initKV_calls (l : Nat → Nat) (w : World) (zp zk zv p o : Nat) (T : TypeId) (cs : Array Value) (kv0 vv0 : Value) (kx0 vx0 : List Int) (key value : ByteArray) (dn : Bool)
    (hd : Cl l w zp p T cs) (ck : cs[o]? = some kv0) (cv : cs[o + 1]? = some vv0) (hk : Bf l w zk kv0 kx0) (hv : Bf l w zv vv0 vx0) (z1 : zk ≠ zp) (z2 : zv ≠ zp) (z3 : zk ≠ zv) (hks : key.size ≤ 140737488355328) (hvs : value.size ≤ 140737488355328) :
    Calls Try.prog 57 #[.pointer (some ⟨p, o, none⟩), .string key, .string value, .bool dn] w fun e w' => ∃ l1 kv1 vv1, e = .returned (.tuple #[]) ∧ Cl l1 w' zp p T ((cs.setIfInBounds o kv1).setIfInBounds (o + 1) vv1) ∧ Bf l1 w' zk kv1 (nkd dn (ns key)) ∧ Bf l1 w' zv vv1 (ns value) ∧ Stp (Any3 zp zk zv) l l1 w w' := by
  obtain ⟨A, c, rfl, _⟩ := hk.slice
  obtain ⟨B, d, rfl, _⟩ := hv.slice
  have hk0 := hk.cut0.2
  have x0 : w.cell? ⟨p, o, none⟩ = some (.slice A kx0.length c) := by rw [hd.cell, ck]
  obtain ⟨m0, hm0⟩ : ∃ m, kx0.length = m := ⟨_, rfl⟩
  obtain ⟨m1, hm1⟩ : ∃ m, vx0.length = m := ⟨_, rfl⟩
  rw [hm0] at x0 ck
  rw [hm1] at cv
  have HD := Lib.hid hd
  have HK := Lib.hid hk0
  have HV := Lib.hid hv
  have CK := Lib.hid ck
  have CV := Lib.hid cv
  have HM1 := Lib.hid hm1
  have hcz := cutz
  clear hd hk hk0 hv ck cv hm0 hm1
  go_enter Try.func57, Try.ntmps57
  go_wp2_with (first
    | (at_builtin
       refine app_str zk rfl (.tmp 13) (.tmp 14) 54 9 rfl Try.underlying54 Try.underlying9 info8 _ [] key rfl rfl HK.out (by simp; omega) ?_
       intro v1 w1 l1 hB1 st1 hn1
       rw [List.nil_append] at hB1
       obtain ⟨A1, c1, rfl, _⟩ := hB1.slice
       obtain ⟨N1, hN1⟩ : ∃ N, (ns key).length = N := ⟨_, rfl⟩
       have hf := HD.out.field st1 z1 o (.slice A1 N1 c1)
       obtain ⟨⟨y0, g0⟩, hC1, hS1, hS0⟩ := hf
       rw [CK.out] at y0
       have hB1' := hB1.keep hS0 z1
       have hV1 := (HV.out.keep st1 (fun e => z3 e.symm)).keep hS0 z2
       have y1 : (w1.setCell ⟨p, o, none⟩ (.slice A1 N1 c1)).cell? ⟨p, o, none⟩ = some (.slice A1 N1 c1) := by
         rw [hC1.cell, Array.getElem?_setIfInBounds, if_pos rfl, if_pos (Array.getElem?_eq_some_iff.1 CK.out).1]
       have HNH := nhk_bf l1 (w1.setCell ⟨p, o, none⟩ (.slice A1 N1 c1)) zk A1 c1 (ns key) dn hB1' (fun x hx => ns_range key x hx) (by rw [ns_length]; omega)
       rw [hN1] at HNH hB1 hB1'
       rw [hN1]
       have HN := Lib.hid HNH
       have C1 := Lib.hid hC1
       have S1 := Lib.hid hS1
       have V1 := Lib.hid hV1
       have HN1 := Lib.hid hN1
       clear HNH hC1 hS1 hV1 hB1 hB1' st1 hn1 hS0 hN1)
    | (go_at_call 60
       refine HN.out.mono ?_
       rintro e w3 ⟨rfl, hB3, st3⟩
       have hC3 := C1.out.keep st3 (fun e => z1 e.symm)
       have hV3 := V1.out.keep st3 (fun e => z3 e.symm)
       have u1 : w3.cell? ⟨p, o + 1, none⟩ = some (.slice B m1 d) := by
         rw [hC3.cell, Array.getElem?_setIfInBounds, if_neg (by omega)]; exact CV.out
       have B3 := Lib.hid hB3
       have C3 := Lib.hid hC3
       have hV3' := hV3
       rw [← HM1.out] at u1
       have V3 := Lib.hid hV3'.cut0.2
       obtain ⟨m2, hm2⟩ : ∃ m, vx0.length = m := ⟨_, rfl⟩
       rw [hm2] at u1
       have S3 := Lib.hid st3
       clear hB3 hC3 hV3 hV3' st3 hm2)
    | (at_builtin
       refine app_str zv rfl (.tmp 29) (.tmp 30) 54 9 rfl Try.underlying54 Try.underlying9 info8 _ [] value rfl rfl V3.out (by simp; omega) ?_
       intro v2 w4 l4 hB4 st4 hn4
       rw [List.nil_append] at hB4
       obtain ⟨A4, c4, rfl, _⟩ := hB4.slice
       have hf := C3.out.field st4 z2 (o + 1) (.slice A4 (ns value).length c4)
       obtain ⟨⟨t0, h0⟩, hC4, hS4, hS5⟩ := hf
       rw [Array.getElem?_setIfInBounds, if_neg (by omega), CV.out] at t0
       have B4 := Lib.hid (hB4.keep hS5 z2)
       have K4 := Lib.hid ((B3.out.keep st4 (fun e => z3 e)).keep hS5 z1)
       have C4 := Lib.hid hC4
       have S4 := Lib.hid hS4
       clear hB4 st4 hn4 hC4 hS4 hS5))
  go_end0
  refine ⟨_, _, _, rfl, C4.out, ?_, B4.out, ?_⟩
  · have := K4.out
    rw [← HN1.out] at this ⊢
    exact this
  · exact ((S1.out.mono (fun x e => e.elim .inl (fun e => .inr (.inl e)))).trans (S3.out.mono (fun x e => .inr (.inl e)))).trans (S4.out.mono (fun x e => e.elim .inl (fun e => .inr (.inr e))))
def PeekSays (w : World) (r : Option (List Int)) (v : Value) : Prop := (r = none ∧ v = .slice none 0 0) ∨ ∃ A c vx, r = some vx ∧ v = .slice A vx.length c ∧ vx.length ≤ c ∧ ReadsInt w .u8 A vx.length vx ∧ A ≠ none
set_option maxHeartbeats 4000000 in
set_option maxRecDepth 100000 in
theorem peekArgBytes_calls (l : Nat → Nat) (w : World) (z n : Nat) (V : Value) (S : List Slot) (h : KvS l w z V n S) (hn : n ≤ 1099511627776) (A : Option Addr) (c : Nat) (kx : List Int) (hkc : kx.length ≤ c) (hk : ReadsInt w .u8 A kx.length kx) :
    Calls Try.prog 76 #[V, .slice A kx.length c] w fun e w' => ∃ v, e = .returned v ∧ PeekSays w (getKV kx (kvs S n)) v ∧ ∃ m, w' = w.drewN m := by
  have hcz := cutz
  have hz := h.1
  have HNN := Lib.hid h.2.1
  have hV : ∃ A0 c0, V = .slice A0 n c0 := by
    obtain ⟨_, _, ⟨rfl, _, rfl⟩ | ⟨a0, rfl, _⟩⟩ := h
    · exact ⟨none, 0, rfl⟩
    · exact ⟨_, _, rfl⟩
  obtain ⟨A0, c0, rfl⟩ := hV
  have HH := Lib.hid h
  have HSK := Lib.hid hk
  obtain ⟨K, hK⟩ : ∃ K, kx.length = K := ⟨_, rfl⟩
  rw [hK] at hkc
  have HK := Lib.hid hK
  rw [hK]
  clear h hk hK
  go_enter Try.func76, Try.ntmps76
  go_wp2
  go_loopw [5, 7] (fun iv _ wr => ∃ i m : Nat, iv = .int .i64 i ∧ wr = w.drewN m ∧ i ≤ n ∧ Hid (∀ (j : Nat) (y : KVx), j < i → (kvs S n)[j]? = some y → eqB y.k kx = false)) (fun iv _ _ => n - (intOf iv).toNat)
  case atStart => exact ⟨0, 0, rfl, by first | rfl | simp, by omega, Lib.hid (fun j y hj => absurd hj (by omega))⟩
  case round =>
    obtain ⟨i, m, rfl, rfl, hi, HM⟩ := hrel
    by_cases hlt : i < n
    · have q1 : (i : Int) < (n : Int) := by omega
      obtain ⟨hz', hnn', ⟨e0, _, _⟩ | ⟨a, e0, hle, hmx, hkv⟩⟩ := HH.out
      · cases e0; omega
      · obtain ⟨e1, e2⟩ : A0 = some ⟨a, 0, none⟩ ∧ c0 = S.length := by cases e0; exact ⟨rfl, rfl⟩
        subst e1 e2
        obtain ⟨s, hs⟩ := get_some (S := S) (n := i) (by omega)
        obtain ⟨⟨A1, c1, ek, z0, hc1, r1⟩, ⟨A2, c2, ev, z1, hc2, r2⟩, z2⟩ := hkv.look hs
        have HE := Lib.hid (equal_calls (w.drewN m) A1 A c1 c s.kx kx r1 hc1 HSK.out (by rw [HK.out]; exact hkc))
        rw [HK.out] at HE
        have hkat := kvs_at (n := n) hs hlt
        obtain ⟨r, hr⟩ : ∃ r, eqB s.kx kx = r := ⟨_, rfl⟩
        rw [hr] at HE
        have HKV := Lib.hid hkv
        have HS := Lib.hid hs
        have HLE := Lib.hid hle
        have HMX := Lib.hid hmx
        have HR := Lib.hid hr
        have HAT := Lib.hid hkat
        have EV := Lib.hid ev
        obtain ⟨kl, hkl⟩ : ∃ k, s.kx.length = k := ⟨_, rfl⟩
        obtain ⟨vl, hvl⟩ : ∃ k, s.vx.length = k := ⟨_, rfl⟩
        rw [hkl] at z0 HE
        rw [hvl] at z1
        have HVL := Lib.hid hvl
        have hic : i < S.length := by omega
        clear hkv hs hle hmx hr hkat ek ev r1 r2 hc1 hc2 hz' hnn' hkl hvl
        cases r with
        | false =>
          go_wp2_with (go_at_call 99; refine HE.out.mono ?_; rintro e w1 ⟨rfl, m1, rfl⟩)
          go_roundw
          case rel =>
            refine ⟨i + 1, m + m1, by go_num, by first | rfl | rw [drewN_add], by omega, Lib.hid (fun j y hj hy => ?_)⟩
            rcases Nat.lt_or_ge j i with h | h
            · exact HM.out j y h hy
            · obtain rfl : j = i := by omega
              rw [HAT.out] at hy
              cases hy
              exact HR.out
          case measure => simp [intOf]; omega
        | true =>
          have HPS := Lib.hid (show PeekSays w (getKV kx (kvs S n)) (.slice A2 vl c2) by
            have h1 := getKV_hit kx (kvs S n) i _ HAT.out HR.out HM.out
            have h2 := (HKV.out.look HS.out).2.1
            obtain ⟨A3, c3, e3, _, h3, h4⟩ := h2
            rw [EV.out] at e3
            injection e3 with e3 e4 e5
            subst e3 e5
            rw [← HVL.out]
            have h5 := nn_at HNN.out HS.out hlt
            rw [EV.out] at h5
            refine .inr ⟨A2, c2, s.vx, h1, rfl, h3, h4, fun e => ?_⟩
            subst e
            exact h5 rfl)
          go_wp2_with (go_at_call 99; refine HE.out.mono ?_; rintro e w1 ⟨rfl, m1, rfl⟩)
          go_ret
          exact ⟨_, rfl, HPS.out, _, rfl⟩
    · obtain rfl : n = i := by omega
      have HPS := Lib.hid (show PeekSays w (getKV kx (kvs S n)) (.slice none 0 0) from .inl ⟨getKV_miss kx (kvs S n) (fun j y hy => by
        obtain ⟨s, _, hj, _⟩ := kvs_get hy
        exact HM.out j y hj hy), rfl⟩)
      have q1 : ¬ ((n : Int) < (n : Int)) := by omega
      go_wp2
      go_ret
      exact ⟨_, rfl, HPS.out, _, rfl⟩
end Go.Proofs.Ytoimkmoalmmooaa.Own
