/- Texts of this claim, one behind the other (merged by wip/prune.py of this repo, without what the proof does not use): TPan3, TPan4, TPan5, TScriptF, TScript, QU1, QU2, QU3, QU4, LName, LUpd, LTrail, PureFnTrailerUpdates. -/
import Derived.Test.YtoimkmoalmmooaaZU4
import Derived.Test.YtoimkmoalmmooaaZU5
import Derived.Test.YtoimkmoalmmooaaZU7
import Derived.Test.YtoimkmoalmmooaaZU12
import Derived.Test.YtoimkmoalmmooaaZU13
import Derived.Test.YtoimkmoalmmooaaZU14
set_option linter.unusedVariables false
set_option linter.unusedSimpArgs false
namespace Go.Proofs.Ytoimkmoalmmooaa.Own
open Go.RowKit Go.Proofs.YtoimkmoalmmooaaW.PrintWords Go.Proofs.YtoimkmoalmmooaaW.PrintLast Go.Proofs.YtoimkmoalmmooaaW.PrintMore Go.Proofs.Ytoimkmoalmmooaa.Base Go.Proofs.Ytoimkmoalmmooaa.Gv Go.Proofs.Ytoimkmoalmmooaa.QA Go.Proofs.Ytoimkmoalmmooaa.Given
def SetP (l : Nat → Nat) (w : World) (q zl : Nat) (e : Ending) (w' : World) : Prop := PanE e ∧ ∃ l1, Stp (fun lab => Tz q lab ∨ lab = zl) l l1 w w'
theorem dropW_nil {α : Type} (p : α → Bool) : ∀ l : List α, l.dropWhile p = [] → ∀ x ∈ l, p x = true
  | [], _ => by simp
  | y :: t, h => by
    rw [List.dropWhile_cons] at h
    by_cases hy : p y = true
    · rw [if_pos hy] at h
      intro x hx
      rcases List.mem_cons.1 hx with rfl | hx
      · exact hy
      · exact dropW_nil p t h x hx
    · rw [if_neg hy] at h; cases h
theorem trim_blank : ∀ (L : List Int), trimR (trimL L) = [] → ∀ x ∈ L, x = 32
  | [], _ => by simp
  | x :: t, h => by
    by_cases hx : x = 32
    · subst hx
      rw [trimL_sp] at h
      intro y hy
      rcases List.mem_cons.1 hy with rfl | hy
      · rfl
      · exact trim_blank t h y hy
    · rw [trimL_hd _ _ hx] at h
      unfold trimR at h
      rw [List.reverse_eq_nil_iff] at h
      have := dropW_nil _ _ h x (by simp)
      exact absurd (by simpa using this) hx
set_option maxHeartbeats 4000000 in
set_option maxRecDepth 100000 in
theorem tSetT_panics (l : Nat → Nat) (w : World) (q p n : Nat) (V kv vv : Value) (S : List Slot) (kx vx : List Int) (dn : Bool) (h : TrC l w q p V n S kv kx vv vx dn) (zl g c : Nat) (hz : ¬ Tz q zl) (hg : l g = zl) (xs : List Int) (hx : ∀ x ∈ xs, 0 ≤ x ∧ x ≤ 255) (hbr : BrO w 5 g 0 xs) (hc : xs.length ≤ c) (hl : xs.length ≤ 1099511627775) (f0 : Nat) (hf0 : xs.length ≤ f0) (hgo : setGo dn f0 xs [] false = none) :
  Calls Try.prog 45 #[.pointer (some ⟨p, 0, none⟩), .slice (some ⟨g, 0, none⟩) xs.length c] w fun e w' => SetP l w q zl e w' := by
 have HRS := Lib.hid (tResetSkip_calls l w q p n V kv vv S kx vx dn h)
 obtain ⟨XN, hXN⟩ : ∃ n, xs.length = n := ⟨_, rfl⟩
 rw [hXN] at hc hl ⊢
 have HXN := Lib.hid hXN
 have HZ := Lib.hid hz
 have HG := Lib.hid hg
 have HX := Lib.hid hx
 have HBR := Lib.hid hbr
 have HC := Lib.hid hc
 have HXL := Lib.hid hl
 have HGO := Lib.hid hgo
 have HF0 := Lib.hid hf0
 clear hf0
 clear h hz hg hx hbr hc hl hgo hXN
 go_enter Try.func45, Try.ntmps45
 go_wp2_with (
  go_at_call 63
  refine HRS.out.mono ?_
  rintro e w1 ⟨V1, rfl, h1, h2⟩
  have H1 := Lib.hid h1
  have H2 := Lib.hid h2
  clear h1 h2)
 go_loopw [1, 4, 5, 6] (fun tv ev iv _ wr => ∃ (o N C d n1 f : Nat) (i : Int) (ys : List Int) (acc : List KVx) (b : Bool), tv = .slice (some ⟨g, o, none⟩) N C ∧ iv = .int .i64 i ∧ Hid (i + 1 = (d : Int)) ∧ Hid (N ≤ C) ∧ Hid (ys.length = N - d) ∧ Hid (BrO wr 5 g (o + d) ys) ∧ Hid (setGo dn f ys acc b = none) ∧ Hid (ys.length ≤ f) ∧ Hid (ErrV b ev) ∧ Hid (MidT l w q p kv vv kx vx dn zl g n1 acc wr) ∧ Hid (n1 + ys.length ≤ XN) ∧ Hid (∀ x ∈ ys, 0 ≤ x ∧ x ≤ 255) ∧ Hid (N ≤ XN ∧ d ≤ N + 1)) (fun tv _ iv _ _ => lenV tv - (intOf iv + 1).toNat)
 case atStart =>
  refine ⟨0, XN, c, 0, 0, f0, -1, xs, [], false, rfl, rfl, Lib.hid (by omega), HC, Lib.hid (by have := HXN.out; omega), Lib.hid (HBR.out.same (H2.out.block g HBR.out.lt (by rw [HG.out]; exact HZ.out))), HGO, HF0, Lib.hid (.inr ⟨rfl, rfl⟩), Lib.hid ⟨l, V1, S, H1.out, rfl, H2.out.mono (fun _ k => .inl k), HG.out⟩, Lib.hid (by have := HXN.out; omega), HX, Lib.hid ⟨Nat.le_refl _, by omega⟩⟩
 case round =>
  obtain ⟨o, N, C, d, n1, f, i, ys, acc, b, rfl, rfl, HI, HNC, HYL, HB, HGO, HFL, HEV, HM, HN1, HYR, HNX⟩ := hrel
  have hi := HI.out
  have hnb := HNX.out
  have hxb := HXL.out
  have hi1 : -1 ≤ i := by omega
  have hi2 : i ≤ 1099511627776 := by omega
  cases hys : ys with
  | nil =>
   subst hys
   have := HGO.out
   have e1 : setGo dn f [] acc b = some (acc, b) := by cases f <;> rfl
   rw [e1] at this
   cases this
  | cons y ys' =>
   rw [hys] at HYL HB HGO HN1 HYR HFL
   clear hys
   obtain ⟨YS, hYS⟩ : ∃ Y, y :: ys' = Y := ⟨_, rfl⟩
   have hne : YS ≠ [] := by rw [← hYS]; simp
   cases f with
   | zero => have := HFL.out; simp at this
   | succ f =>
   have hgo := HGO.out
   rw [setGo] at hgo
   rw [hYS] at HYL HB HN1 HYR HFL hgo
   clear HGO hYS
   by_cases hke : keyT dn YS = []
   ·have hlen := HYL.out
    have hpos : 0 < YS.length := by cases YS with
     | nil => exact absurd rfl hne
     | cons _ _ => simp
    have hdN : d < N := by omega
    have hcut := cut8a g o N C d hdN HNC.out
    have p0 : (d : Int) < (N : Int) := by omega
    obtain ⟨CM, hCM⟩ : ∃ m, N - d = m := ⟨_, rfl⟩
    obtain ⟨C1, hC1⟩ : ∃ m, C - d = m := ⟨_, rfl⟩
    obtain ⟨O, hO⟩ : ∃ m, o + d = m := ⟨_, rfl⟩
    rw [hCM] at hlen
    rw [hCM, hC1, hO] at hcut
    rw [hO] at HB
    have HMC := Lib.hid (show CM ≤ C1 by have := HNC.out; omega)
    have HCMX := Lib.hid (show CM ≤ XN ∧ CM = N - d by omega)
    obtain ⟨m, hm⟩ : ∃ m, cutI YS = m := ⟨_, rfl⟩
    have hmle : m ≤ CM := by rw [← hm, ← hlen]; exact cutI_le YS
    have hix := bytes_IndexByte_calls wr (some ⟨g, O, none⟩) C1 YS 44 HYR.out (by decide) (by decide) (HB.out.reads (by omega))
    rw [hlen] at hix
    have hir := idx_range YS 44
    rw [hlen] at hir
    obtain ⟨J, hJ⟩ : ∃ j, idx YS 44 = j := ⟨_, rfl⟩
    rw [hJ] at hix hir
    have hJm : (J = -1 ∧ m = CM) ∨ (0 ≤ J ∧ J = (m : Int)) := by
     unfold cutI at hm
     rw [hJ] at hm
     by_cases hj : J = -1
     ·rw [if_pos hj] at hm; exact .inl ⟨hj, by omega⟩
     ·rw [if_neg hj] at hm; exact .inr ⟨by omega, by omega⟩
    have HIX := Lib.hid hix
    -- the key, cut and trimmed
    obtain ⟨L, hL⟩ : ∃ L, YS.take m = L := ⟨_, rfl⟩
    have HLm := Lib.hid (show L.length = m by rw [← hL, List.length_take]; omega)
    have HBL := Lib.hid (show BrO wr 5 g O L by rw [← hL]; exact HB.out.take m)
    have HRL := Lib.hid (show ∀ x ∈ L, 0 ≤ x ∧ x ≤ 255 from fun x k => HYR.out x (by rw [← hL] at k; exact List.mem_of_mem_take k))
    have HN2 := Lib.hid (show n1 + CM ≤ XN by have := HN1.out; omega)
    have hcuth := cut8h (some ⟨g, O, none⟩) CM C1 m hmle HMC.out
    have hmb : m ≤ 1099511627775 := by omega
    have hcb : CM ≤ 1099511627775 := by omega
    have hlb : ∀ x ∈ L, x = 32 := by
     refine trim_blank L ?_
     have h1 : nkd dn (trimR (trimL (YS.take (cutI YS)))) = [] := hke
     rw [hm, hL] at h1
     exact List.eq_nil_of_length_eq_zero (by have := congrArg List.length h1; rw [nkd_length] at this; exact this)
    have HLB := Lib.hid hlb
    obtain ⟨l1, V1, S1, hT, hacc, hst, hgl⟩ := HM.out
    obtain ⟨x4, _⟩ := hT.c4
    have HST := Lib.hid hst
    have HGL := Lib.hid hgl
    clear hT hacc hst hgl hlb hgo hke hlen hpos hdN hCM hC1 hO hm hix hir hJ hL hne hnb hxb
    rcases hJm with ⟨rfl, hmc⟩ | ⟨hj0, rfl⟩
    ·subst hmc
     have j0 : decide ((-1 : Int) < 0) = true := rfl
     go_upto_region 9 with (
      go_at_call 64
      refine HIX.out.mono ?_
      rintro e w2 ⟨rfl, hw2⟩
      obtain rfl : wr = w2 := hw2.symm)
     go_loopw [6] (fun kv wi => ∃ (o1 M1 C2 : Nat) (L1 : List Int), kv = .slice (some ⟨g, o1, none⟩) M1 C2 ∧ wi = wr ∧ M1 ≤ m ∧ Hid (M1 = L1.length) ∧ Hid (M1 ≤ C2) ∧ Hid (BrO wr 5 g o1 L1) ∧ Hid (∀ x ∈ L1, x = 32)) (fun kv _ => lenV kv)
     case atStart => exact ⟨O, m, C1, L, rfl, rfl, Nat.le_refl _, Lib.hid HLm.out.symm, Lib.hid (by have := HMC.out; omega), HBL, HLB⟩
     case round =>
      obtain ⟨o1, M1, C2, L1, rfl, hwi, hle1, HM1, HC2, HB1, HR1⟩ := hrel
      subst hwi
      cases hl1 : L1 with
      | nil =>
       have hM0 : M1 = 0 := by have := HM1.out; rw [hl1] at this; simpa using this
       subst hM0
       rw [hl1] at HB1
       clear hl1
       go_upto_region 11 with fail
       go_loopw [6] (fun kv wj => kv = .slice (some ⟨g, o1, none⟩) 0 C2 ∧ wj = wr) (fun kv _ => lenV kv)
       case atStart => exact ⟨rfl, rfl⟩
       case round =>
        obtain ⟨rfl, hwj⟩ := hrel
        subst hwj
        go_upto_region 14 with (
         go_at_call 60
         refine (nhkd_calls wr g o1 0 C2 [] dn rfl (fun x k => by simp at k) (by omega) HB1.out).mono ?_
         rintro e w3 ⟨rfl, hb3, ho3⟩
         have HO3 := Lib.hid ho3
         clear hb3 ho3)
        go_wp2_with (
         go_at_call 59
         refine (tAddB_panics _ _ _ _ _ _ _ _).mono ?_
         rintro e w4 ⟨⟨u, v, rfl⟩, rfl⟩)
        have hfin : Stp (fun lab => Tz q lab ∨ lab = zl) l l1 w w3.drew := (HST.out.trans ((HO3.out.stp l1).mono (fun _ e => .inr (e.trans HGL.out)))).trans (drew_stp _ l1 w3 1)
        first | exact ⟨rfl, ⟨u, v, rfl⟩, _, hfin⟩ | exact ⟨rfl, ⟨⟨u, v, rfl⟩, _, hfin⟩⟩
      | cons b1 L2 =>
       rw [hl1] at HM1 HB1 HR1
       clear hl1
       have y0 : wr.cell? ⟨g, o1, none⟩ = some (.int .u8 b1) := HB1.out.cell 0 (by simp)
       obtain rfl : b1 = 32 := HR1.out b1 (by simp)
       have hM1 : 0 < M1 := by have := HM1.out; simp at this; omega
       have p1 : (0 : Int) < (M1 : Int) := by omega
       obtain ⟨o2, hcut1, hb2⟩ : ∃ o2, (∀ W, (Instr.slice 54 (.slice (some ⟨g, o1, none⟩) M1 C2) (some (.int .i64 1)) none none).run Try.prog W = .ok (.slice (some ⟨g, o2, none⟩) (M1 - 1) (C2 - 1)) W) ∧ BrO wr 5 g o2 L2 := by
        by_cases hc1 : C2 = 1
        ·refine ⟨o1, fun W => ?_, ?_⟩
         ·have := cut8 (some ⟨g, o1, none⟩) M1 C2 1 (by omega) W
          rw [if_pos hc1] at this
          exact this
         ·have h0 : L2.length = 0 := by have h1 := HM1.out; have h2 := HC2.out; rw [List.length_cons] at h1; omega
          rw [List.eq_nil_of_length_eq_zero h0]
          have := HB1.out.take 0
          exact this
        ·refine ⟨o1 + 1, fun W => ?_, HB1.out.drop 1⟩
         have := cut8 (some ⟨g, o1, none⟩) M1 C2 1 (by omega) W
         rw [if_neg hc1] at this
         rw [show (some (⟨g, o1, none⟩ : Addr)).map (·.add 1) = some ⟨g, o1 + 1, none⟩ from by rw [Option.map_some, Addr.add_lit]] at this
         exact this
       have HBn := Lib.hid hb2
       have HRn := Lib.hid (show ∀ x ∈ L2, x = 32 from fun x k => HR1.out x (List.mem_cons_of_mem _ k))
       clear hb2
       go_wp2
       go_roundw
       case rel => exact ⟨o2, M1 - 1, C2 - 1, L2, rfl, by first | rfl | trivial, by omega, Lib.hid (by have := HM1.out; rw [List.length_cons] at this; omega), Lib.hid (by have := HC2.out; omega), HBn, HRn⟩
       case measure => simp [lenV]; omega
    ·have j0 : decide ((m : Int) < 0) = false := decide_eq_false (by omega)
     clear hj0
     go_upto_region 9 with (
      go_at_call 64
      refine HIX.out.mono ?_
      rintro e w2 ⟨rfl, hw2⟩
      obtain rfl : wr = w2 := hw2.symm)
     go_loopw [6] (fun kv wi => ∃ (o1 M1 C2 : Nat) (L1 : List Int), kv = .slice (some ⟨g, o1, none⟩) M1 C2 ∧ wi = wr ∧ M1 ≤ m ∧ Hid (M1 = L1.length) ∧ Hid (M1 ≤ C2) ∧ Hid (BrO wr 5 g o1 L1) ∧ Hid (∀ x ∈ L1, x = 32)) (fun kv _ => lenV kv)
     case atStart => exact ⟨O, m, C1, L, rfl, rfl, Nat.le_refl _, Lib.hid HLm.out.symm, Lib.hid (by have := HMC.out; omega), HBL, HLB⟩
     case round =>
      obtain ⟨o1, M1, C2, L1, rfl, hwi, hle1, HM1, HC2, HB1, HR1⟩ := hrel
      subst hwi
      cases hl1 : L1 with
      | nil =>
       have hM0 : M1 = 0 := by have := HM1.out; rw [hl1] at this; simpa using this
       subst hM0
       rw [hl1] at HB1
       clear hl1
       go_upto_region 11 with fail
       go_loopw [6] (fun kv wj => kv = .slice (some ⟨g, o1, none⟩) 0 C2 ∧ wj = wr) (fun kv _ => lenV kv)
       case atStart => exact ⟨rfl, rfl⟩
       case round =>
        obtain ⟨rfl, hwj⟩ := hrel
        subst hwj
        go_upto_region 14 with (
         go_at_call 60
         refine (nhkd_calls wr g o1 0 C2 [] dn rfl (fun x k => by simp at k) (by omega) HB1.out).mono ?_
         rintro e w3 ⟨rfl, hb3, ho3⟩
         have HO3 := Lib.hid ho3
         clear hb3 ho3)
        go_wp2_with (
         go_at_call 59
         refine (tAddB_panics _ _ _ _ _ _ _ _).mono ?_
         rintro e w4 ⟨⟨u, v, rfl⟩, rfl⟩)
        have hfin : Stp (fun lab => Tz q lab ∨ lab = zl) l l1 w w3.drew := (HST.out.trans ((HO3.out.stp l1).mono (fun _ e => .inr (e.trans HGL.out)))).trans (drew_stp _ l1 w3 1)
        first | exact ⟨rfl, ⟨u, v, rfl⟩, _, hfin⟩ | exact ⟨rfl, ⟨⟨u, v, rfl⟩, _, hfin⟩⟩
      | cons b1 L2 =>
       rw [hl1] at HM1 HB1 HR1
       clear hl1
       have y0 : wr.cell? ⟨g, o1, none⟩ = some (.int .u8 b1) := HB1.out.cell 0 (by simp)
       obtain rfl : b1 = 32 := HR1.out b1 (by simp)
       have hM1 : 0 < M1 := by have := HM1.out; simp at this; omega
       have p1 : (0 : Int) < (M1 : Int) := by omega
       obtain ⟨o2, hcut1, hb2⟩ : ∃ o2, (∀ W, (Instr.slice 54 (.slice (some ⟨g, o1, none⟩) M1 C2) (some (.int .i64 1)) none none).run Try.prog W = .ok (.slice (some ⟨g, o2, none⟩) (M1 - 1) (C2 - 1)) W) ∧ BrO wr 5 g o2 L2 := by
        by_cases hc1 : C2 = 1
        ·refine ⟨o1, fun W => ?_, ?_⟩
         ·have := cut8 (some ⟨g, o1, none⟩) M1 C2 1 (by omega) W
          rw [if_pos hc1] at this
          exact this
         ·have h0 : L2.length = 0 := by have h1 := HM1.out; have h2 := HC2.out; rw [List.length_cons] at h1; omega
          rw [List.eq_nil_of_length_eq_zero h0]
          have := HB1.out.take 0
          exact this
        ·refine ⟨o1 + 1, fun W => ?_, HB1.out.drop 1⟩
         have := cut8 (some ⟨g, o1, none⟩) M1 C2 1 (by omega) W
         rw [if_neg hc1] at this
         rw [show (some (⟨g, o1, none⟩ : Addr)).map (·.add 1) = some ⟨g, o1 + 1, none⟩ from by rw [Option.map_some, Addr.add_lit]] at this
         exact this
       have HBn := Lib.hid hb2
       have HRn := Lib.hid (show ∀ x ∈ L2, x = 32 from fun x k => HR1.out x (List.mem_cons_of_mem _ k))
       clear hb2
       go_wp2
       go_roundw
       case rel => exact ⟨o2, M1 - 1, C2 - 1, L2, rfl, by first | rfl | trivial, by omega, Lib.hid (by have := HM1.out; rw [List.length_cons] at this; omega), Lib.hid (by have := HC2.out; omega), HBn, HRn⟩
       case measure => simp [lenV]; omega
   ·have hkn : ¬ keyT dn YS = [] := hke
    clear hke
    rw [if_neg hkn] at hgo
    have hlen := HYL.out
    have hpos : 0 < YS.length := by cases YS with
     | nil => exact absurd rfl hne
     | cons _ _ => simp
    have hdN : d < N := by omega
    have hcut := cut8a g o N C d hdN HNC.out
    have p0 : (d : Int) < (N : Int) := by omega
    obtain ⟨CM, hCM⟩ : ∃ m, N - d = m := ⟨_, rfl⟩
    obtain ⟨C1, hC1⟩ : ∃ m, C - d = m := ⟨_, rfl⟩
    obtain ⟨O, hO⟩ : ∃ m, o + d = m := ⟨_, rfl⟩
    rw [hCM] at hlen
    rw [hCM, hC1, hO] at hcut
    rw [hO] at HB
    have HMC := Lib.hid (show CM ≤ C1 by have := HNC.out; omega)
    have HCMX := Lib.hid (show CM ≤ XN ∧ CM = N - d by omega)
    obtain ⟨m, hm⟩ : ∃ m, cutI YS = m := ⟨_, rfl⟩
    have hmle : m ≤ CM := by rw [← hm, ← hlen]; exact cutI_le YS
    have hix := bytes_IndexByte_calls wr (some ⟨g, O, none⟩) C1 YS 44 HYR.out (by decide) (by decide) (HB.out.reads (by omega))
    rw [hlen] at hix
    have hir := idx_range YS 44
    rw [hlen] at hir
    obtain ⟨J, hJ⟩ : ∃ j, idx YS 44 = j := ⟨_, rfl⟩
    rw [hJ] at hix hir
    have hJm : (J = -1 ∧ m = CM) ∨ (0 ≤ J ∧ J = (m : Int)) := by
     unfold cutI at hm
     rw [hJ] at hm
     by_cases hj : J = -1
     ·rw [if_pos hj] at hm; exact .inl ⟨hj, by omega⟩
     ·rw [if_neg hj] at hm; exact .inr ⟨by omega, by omega⟩
    have HIX := Lib.hid hix
    -- the key, cut and trimmed
    obtain ⟨L, hL⟩ : ∃ L, YS.take m = L := ⟨_, rfl⟩
    have HLm := Lib.hid (show L.length = m by rw [← hL, List.length_take]; omega)
    obtain ⟨K0, hK0⟩ : ∃ K, trimR (trimL L) = K := ⟨_, rfl⟩
    have hkey : keyT dn YS = nkd dn K0 := by unfold keyT; rw [hm, hL, hK0]
    have HKEY := Lib.hid hkey
    have HKN := Lib.hid (show K0 ≠ [] by intro k; rw [k] at hkey; exact hkn (hkey.trans (List.eq_nil_of_length_eq_zero (by rw [nkd_length]; rfl))))
    have HBL := Lib.hid (show BrO wr 5 g O L by rw [← hL]; exact HB.out.take m)
    have HYS' := Lib.hid (show BrO wr 5 g (O + (m + 1)) (YS.drop (m + 1)) from HB.out.drop (m + 1))
    have HRL := Lib.hid (show ∀ x ∈ L, 0 ≤ x ∧ x ≤ 255 from fun x k => HYR.out x (by rw [← hL] at k; exact List.mem_of_mem_take k))
    have HRD := Lib.hid (show ∀ x ∈ YS.drop (m + 1), 0 ≤ x ∧ x ≤ 255 from fun x k => HYR.out x (List.mem_of_mem_drop k))
    have HDL := Lib.hid (show (YS.drop (m + 1)).length = CM - (m + 1) by rw [List.length_drop, hlen])
    rw [hm, hkey] at hgo
    obtain ⟨YD, hYD⟩ : ∃ Y, YS.drop (m + 1) = Y := ⟨_, rfl⟩
    rw [hYD] at HYS' HRD HDL hgo
    have HGO2 := Lib.hid hgo
    have HFL2 := Lib.hid (show YD.length ≤ f by have := HFL.out; have := HDL.out; have := HCMX.out; omega)
    have HK0 := Lib.hid hK0
    have HN2 := Lib.hid (show n1 + CM ≤ XN by have := HN1.out; omega)
    have hcuth := cut8h (some ⟨g, O, none⟩) CM C1 m hmle HMC.out
    have hmb : m ≤ 1099511627775 := by omega
    have hcb : CM ≤ 1099511627775 := by omega
    have hm0 : 0 < m := by
     rcases Nat.eq_zero_or_pos m with k | k
     ·exfalso
      have := HLm.out
      rw [k] at this
      rw [List.eq_nil_of_length_eq_zero this] at hK0
      exact HKN.out hK0.symm
     ·exact k
    clear hgo hkn hlen hpos hdN hCM hC1 hO hm hix hir hJ hL hK0 hkey hne hYD hnb hxb
    rcases hJm with ⟨rfl, hmc⟩ | ⟨hj0, rfl⟩
    ·subst hmc
     have j0 : decide ((-1 : Int) < 0) = true := rfl
     go_upto_region 9 with (
      go_at_call 64
      refine HIX.out.mono ?_
      rintro e w2 ⟨rfl, hw2⟩
      obtain rfl : wr = w2 := hw2.symm)
     go_loopw [6] (fun kv wi => ∃ (o1 M1 C2 : Nat) (L1 : List Int), kv = .slice (some ⟨g, o1, none⟩) M1 C2 ∧ wi = wr ∧ 0 < M1 ∧ M1 ≤ m ∧ Hid (M1 = L1.length) ∧ Hid (M1 ≤ C2) ∧ Hid (BrO wr 5 g o1 L1) ∧ Hid (trimR (trimL L1) = K0) ∧ Hid (∀ x ∈ L1, 0 ≤ x ∧ x ≤ 255) ∧ Hid (o1 + M1 = O + m)) (fun kv _ => lenV kv)
     case atStart => exact ⟨O, m, C1, L, rfl, rfl, hm0, Nat.le_refl _, Lib.hid HLm.out.symm, Lib.hid (by have := HMC.out; omega), HBL, HK0, HRL, Lib.hid rfl⟩
     case round =>
      obtain ⟨o1, M1, C2, L1, rfl, hwi, hM1, hle1, HM1, HC2, HB1, HT1, HR1, HE1⟩ := hrel
      subst hwi
      cases hl1 : L1 with
      | nil => exfalso; have := HM1.out; rw [hl1] at this; simp at this; omega
      | cons b1 L2 =>
       rw [hl1] at HM1 HB1 HT1 HR1
       clear hl1
       have y0 : wr.cell? ⟨g, o1, none⟩ = some (.int .u8 b1) := HB1.out.cell 0 (by simp)
       have p1 : (0 : Int) < (M1 : Int) := by omega
       by_cases hb1 : b1 = 32
       ·have hK2 : trimR (trimL L2) = K0 := by have := HT1.out; rw [hb1, trimL_sp] at this; exact this
        have hnz : 1 < M1 := by
         have h1 := HM1.out
         rw [List.length_cons] at h1
         rcases Nat.eq_zero_or_pos L2.length with h0 | h0
         ·exfalso
          rw [List.eq_nil_of_length_eq_zero h0] at hK2
          exact HKN.out hK2.symm
         ·omega
        have hcut1 : ∀ W, (Instr.slice 54 (.slice (some ⟨g, o1, none⟩) M1 C2) (some (.int .i64 1)) none none).run Try.prog W = .ok (.slice (some ⟨g, o1 + 1, none⟩) (M1 - 1) (C2 - 1)) W := cut8a g o1 M1 C2 1 hnz HC2.out
        have HBn := Lib.hid (show BrO wr 5 g (o1 + 1) L2 from HB1.out.drop 1)
        have HRn := Lib.hid (show ∀ x ∈ L2, 0 ≤ x ∧ x ≤ 255 from fun x k => HR1.out x (List.mem_cons_of_mem _ k))
        have HKn := Lib.hid hK2
        clear hK2
        subst hb1
        go_wp2
        go_roundw
        case rel => exact ⟨o1 + 1, M1 - 1, C2 - 1, L2, rfl, by first | rfl | trivial, by omega, by omega, Lib.hid (by have := HM1.out; rw [List.length_cons] at this; omega), Lib.hid (by have := HC2.out; omega), HBn, HKn, HRn, Lib.hid (by have := HE1.out; omega)⟩
        case measure => simp [lenV]; omega
       ·have hbe : (b1 == 32) = false := beq_eq_false_iff_ne.2 hb1
        have HT2 := Lib.hid (show trimR (b1 :: L2) = K0 by have := HT1.out; rw [trimL_hd _ _ hb1] at this; exact this)
        obtain ⟨LL, hLL⟩ : ∃ X, b1 :: L2 = X := ⟨_, rfl⟩
        rw [hLL] at HM1 HB1 HT1 HT2 HR1
        clear hLL
        go_upto_region 11 with fail
        go_loopw [6] (fun kv wj => ∃ (M2 : Nat) (L2 : List Int), kv = .slice (some ⟨g, o1, none⟩) M2 C2 ∧ wj = wr ∧ 0 < M2 ∧ M2 ≤ M1 ∧ Hid (M2 = L2.length) ∧ Hid (BrO wr 5 g o1 L2) ∧ Hid (trimR L2 = K0) ∧ Hid (∀ x ∈ L2, 0 ≤ x ∧ x ≤ 255)) (fun kv _ => lenV kv)
        case atStart => exact ⟨M1, LL, rfl, rfl, hM1, Nat.le_refl _, HM1, HB1, HT2, HR1⟩
        case round =>
         clear y0 p1 hbe
         obtain ⟨M2, L2, rfl, hwj, hM2, hle2, HM2, HB2, HK2, HR2⟩ := hrel
         subst hwj
         obtain ⟨k, hk⟩ : ∃ k, M2 = k + 1 := ⟨M2 - 1, by omega⟩
         have hL2n : L2 ≠ [] := by intro k; have := HM2.out; rw [k] at this; simp at this; omega
         obtain ⟨L3, b, hL3⟩ : ∃ L3 b, L2 = L3 ++ [b] := ⟨L2.dropLast, L2.getLast hL2n, (List.dropLast_concat_getLast hL2n).symm⟩
         have hk3 : L3.length = k := by have := HM2.out; rw [hL3, List.length_append] at this; simp at this; omega
         have y0 : wr.cell? ⟨g, o1 + k, none⟩ = some (.int .u8 b) := by
          have hkl : k < L2.length := by have := HM2.out; omega
          have hd : L2.getD k 0 = b := by rw [hL3, List.getD_eq_getElem?_getD, List.getElem?_append_right (by omega), hk3, Nat.sub_self]; rfl
          rw [HB2.out.cell k hkl, hd]
         have p1 : (0 : Int) < (M2 : Int) := by omega
         have p2 : (M2 : Int) - 1 = (k : Int) := by omega
         have p3 : k < M2 := by omega
         have HKK := Lib.hid hk
         have HK3 := Lib.hid hk3
         have HL3 := Lib.hid hL3
         clear hk3 hL3 hL2n hk
         by_cases hb : b = 32
         ·have hcutk := cut8h (some ⟨g, o1, none⟩) M2 C2 k (by omega) (by have := HC2.out; omega)
          have hnz : 0 < k := by
           rcases Nat.eq_zero_or_pos k with h0 | h0
           ·exfalso
            have := HK2.out
            rw [HL3.out, show L3 = [] from List.eq_nil_of_length_eq_zero (by rw [HK3.out]; exact h0), hb, trimR_sp] at this
            exact HKN.out this.symm
           ·exact h0
          have HB3 := Lib.hid (show BrO wr 5 g o1 L3 by have := HB2.out.take L3.length; rw [HL3.out, List.take_left'] at this; exact this; rfl)
          have HK4 := Lib.hid (show trimR L3 = K0 by have := HK2.out; rw [HL3.out, hb, trimR_sp] at this; exact this)
          have HR3 := Lib.hid (show ∀ x ∈ L3, 0 ≤ x ∧ x ≤ 255 from fun x hx => HR2.out x (by rw [HL3.out]; exact List.mem_append_left _ hx))
          subst hb
          go_wp2
          go_roundw
          case rel => exact ⟨k, L3, rfl, by first | rfl | trivial, hnz, by omega, Lib.hid HK3.out.symm, HB3, HK4, HR3⟩
          case measure => simp [lenV]; omega
         ·have hbe : (b == 32) = false := beq_eq_false_iff_ne.2 hb
          have HKL := Lib.hid (show K0 = L2 by have := HK2.out; rw [HL3.out, trimR_hd _ _ hb, ← HL3.out] at this; exact this.symm)
          obtain ⟨l1, V1, S1, hT, hacc, hst, hgl⟩ := HM.out
          obtain ⟨x4, _⟩ := hT.c4
          have HT := Lib.hid hT
          have HACC := Lib.hid hacc
          have HST := Lib.hid hst
          have HGL := Lib.hid hgl
          clear hT hacc hst hgl
          go_upto_region 14 with (
           go_at_call 60
           refine (nhkd_calls wr g o1 M2 C2 L2 dn HM2.out.symm HR2.out (by omega) HB2.out).mono ?_
           rintro e w3 ⟨rfl, hb3, ho3⟩
           have st3 := ho3.stp l1
           rw [HGL.out] at st3
           have hT3 := HT.out.keep st3 (fun lab e => by rw [e]; exact HZ.out)
           have hys3 := HYS'.out.apart ho3 (by have := HE1.out; omega)
           have HT3 := Lib.hid hT3
           have HB3 := Lib.hid hb3
           have HY3 := Lib.hid hys3
           have HO3 := Lib.hid st3
           clear hT3 hb3 hys3 ho3 x4 st3)
          have hnl : (nkd dn L2).length = M2 := by rw [nkd_length]; exact HM2.out.symm
          have hrd := HB3.out.reads (by rw [hnl]; omega)
          have hsrc : Src (Zn (q + 3)) l1 w3 (some ⟨g, o1, none⟩) (nkd dn L2).length (nkd dn L2) := Src.of_read hrd (fun a ha => by
           injection ha with ha; subst ha
           refine ⟨HB3.out.lt, ?_⟩
           show ¬ Zn (q + 3) (l1 g)
           rw [HGL.out]
           exact fun k => HZ.out (.inr (.inr (.inr k))))
          have hadd := addN_says (V := V1) hnl (tAddN_calls l1 w3 q p n1 V1 kv vv S1 kx vx dn HT3.out (by have := HN2.out; have := HXL.out; omega) (some ⟨g, o1, none⟩) C2 (nkd dn L2) (by rw [hnl]; exact hM2) (by rw [hnl]; omega) (by rw [hnl]; have := HC2.out; omega) hsrc)
          have hgl3 : g < w3.heap.size := HB3.out.lt
          have HADD := Lib.hid hadd
          have HGL3 := Lib.hid hgl3
          clear hnl hrd hsrc hadd hgl3
          go_wp2_with (
           go_at_call 59
           refine HADD.out.mono ?_
           rintro e w4 ⟨l2, V2, n2, S2, ev2, rfl, k1, k2, k3, k4, k5⟩
           have G2 := Lib.hid ((k3.lab g HGL3.out).trans HGL.out)
           have Y4 := Lib.hid (HY3.out.same (k3.block g HGL3.out (by rw [HGL.out]; exact HZ.out)))
           have K1 := Lib.hid k1
           have K2 := Lib.hid k2
           have K3 := Lib.hid k3
           have K4 := Lib.hid k4
           have K5 := Lib.hid k5
           clear k1 k2 k3 k4 k5)
          go_roundw
          case rel =>
           have hgo := HGO2.out
           rw [HKL.out] at hgo
           refine ⟨O, m, C1, m + 1, n2, f, (m : Int), YD, _, _, rfl, rfl, Lib.hid (by omega), HMC, HDL, Y4, Lib.hid hgo, HFL2, K4, Lib.hid ⟨l2, V2, S2, K1.out, ?_, (HST.out.trans (HO3.out.mono (fun _ e => .inr e))).trans (K3.out.mono (fun _ e => .inl e)), G2.out⟩, Lib.hid (by have := K2.out; have := HN2.out; have := HDL.out; omega), HRD, Lib.hid ⟨HCMX.out.1, by omega⟩⟩
           rw [K5.out, HACC.out]
          case measure =>
           have := HI.out
           have := HCMX.out
           simp [lenV, intOf]
           omega
    ·have j0 : decide ((m : Int) < 0) = false := decide_eq_false (by omega)
     clear hj0
     go_upto_region 9 with (
      go_at_call 64
      refine HIX.out.mono ?_
      rintro e w2 ⟨rfl, hw2⟩
      obtain rfl : wr = w2 := hw2.symm)
     go_loopw [6] (fun kv wi => ∃ (o1 M1 C2 : Nat) (L1 : List Int), kv = .slice (some ⟨g, o1, none⟩) M1 C2 ∧ wi = wr ∧ 0 < M1 ∧ M1 ≤ m ∧ Hid (M1 = L1.length) ∧ Hid (M1 ≤ C2) ∧ Hid (BrO wr 5 g o1 L1) ∧ Hid (trimR (trimL L1) = K0) ∧ Hid (∀ x ∈ L1, 0 ≤ x ∧ x ≤ 255) ∧ Hid (o1 + M1 = O + m)) (fun kv _ => lenV kv)
     case atStart => exact ⟨O, m, C1, L, rfl, rfl, hm0, Nat.le_refl _, Lib.hid HLm.out.symm, Lib.hid (by have := HMC.out; omega), HBL, HK0, HRL, Lib.hid rfl⟩
     case round =>
      obtain ⟨o1, M1, C2, L1, rfl, hwi, hM1, hle1, HM1, HC2, HB1, HT1, HR1, HE1⟩ := hrel
      subst hwi
      cases hl1 : L1 with
      | nil => exfalso; have := HM1.out; rw [hl1] at this; simp at this; omega
      | cons b1 L2 =>
       rw [hl1] at HM1 HB1 HT1 HR1
       clear hl1
       have y0 : wr.cell? ⟨g, o1, none⟩ = some (.int .u8 b1) := HB1.out.cell 0 (by simp)
       have p1 : (0 : Int) < (M1 : Int) := by omega
       by_cases hb1 : b1 = 32
       ·have hK2 : trimR (trimL L2) = K0 := by have := HT1.out; rw [hb1, trimL_sp] at this; exact this
        have hnz : 1 < M1 := by
         have h1 := HM1.out
         rw [List.length_cons] at h1
         rcases Nat.eq_zero_or_pos L2.length with h0 | h0
         ·exfalso
          rw [List.eq_nil_of_length_eq_zero h0] at hK2
          exact HKN.out hK2.symm
         ·omega
        have hcut1 : ∀ W, (Instr.slice 54 (.slice (some ⟨g, o1, none⟩) M1 C2) (some (.int .i64 1)) none none).run Try.prog W = .ok (.slice (some ⟨g, o1 + 1, none⟩) (M1 - 1) (C2 - 1)) W := cut8a g o1 M1 C2 1 hnz HC2.out
        have HBn := Lib.hid (show BrO wr 5 g (o1 + 1) L2 from HB1.out.drop 1)
        have HRn := Lib.hid (show ∀ x ∈ L2, 0 ≤ x ∧ x ≤ 255 from fun x k => HR1.out x (List.mem_cons_of_mem _ k))
        have HKn := Lib.hid hK2
        clear hK2
        subst hb1
        go_wp2
        go_roundw
        case rel => exact ⟨o1 + 1, M1 - 1, C2 - 1, L2, rfl, by first | rfl | trivial, by omega, by omega, Lib.hid (by have := HM1.out; rw [List.length_cons] at this; omega), Lib.hid (by have := HC2.out; omega), HBn, HKn, HRn, Lib.hid (by have := HE1.out; omega)⟩
        case measure => simp [lenV]; omega
       ·have hbe : (b1 == 32) = false := beq_eq_false_iff_ne.2 hb1
        have HT2 := Lib.hid (show trimR (b1 :: L2) = K0 by have := HT1.out; rw [trimL_hd _ _ hb1] at this; exact this)
        obtain ⟨LL, hLL⟩ : ∃ X, b1 :: L2 = X := ⟨_, rfl⟩
        rw [hLL] at HM1 HB1 HT1 HT2 HR1
        clear hLL
        go_upto_region 11 with fail
        go_loopw [6] (fun kv wj => ∃ (M2 : Nat) (L2 : List Int), kv = .slice (some ⟨g, o1, none⟩) M2 C2 ∧ wj = wr ∧ 0 < M2 ∧ M2 ≤ M1 ∧ Hid (M2 = L2.length) ∧ Hid (BrO wr 5 g o1 L2) ∧ Hid (trimR L2 = K0) ∧ Hid (∀ x ∈ L2, 0 ≤ x ∧ x ≤ 255)) (fun kv _ => lenV kv)
        case atStart => exact ⟨M1, LL, rfl, rfl, hM1, Nat.le_refl _, HM1, HB1, HT2, HR1⟩
        case round =>
         clear y0 p1 hbe
         obtain ⟨M2, L2, rfl, hwj, hM2, hle2, HM2, HB2, HK2, HR2⟩ := hrel
         subst hwj
         obtain ⟨k, hk⟩ : ∃ k, M2 = k + 1 := ⟨M2 - 1, by omega⟩
         have hL2n : L2 ≠ [] := by intro k; have := HM2.out; rw [k] at this; simp at this; omega
         obtain ⟨L3, b, hL3⟩ : ∃ L3 b, L2 = L3 ++ [b] := ⟨L2.dropLast, L2.getLast hL2n, (List.dropLast_concat_getLast hL2n).symm⟩
         have hk3 : L3.length = k := by have := HM2.out; rw [hL3, List.length_append] at this; simp at this; omega
         have y0 : wr.cell? ⟨g, o1 + k, none⟩ = some (.int .u8 b) := by
          have hkl : k < L2.length := by have := HM2.out; omega
          have hd : L2.getD k 0 = b := by rw [hL3, List.getD_eq_getElem?_getD, List.getElem?_append_right (by omega), hk3, Nat.sub_self]; rfl
          rw [HB2.out.cell k hkl, hd]
         have p1 : (0 : Int) < (M2 : Int) := by omega
         have p2 : (M2 : Int) - 1 = (k : Int) := by omega
         have p3 : k < M2 := by omega
         have HKK := Lib.hid hk
         have HK3 := Lib.hid hk3
         have HL3 := Lib.hid hL3
         clear hk3 hL3 hL2n hk
         by_cases hb : b = 32
         ·have hcutk := cut8h (some ⟨g, o1, none⟩) M2 C2 k (by omega) (by have := HC2.out; omega)
          have hnz : 0 < k := by
           rcases Nat.eq_zero_or_pos k with h0 | h0
           ·exfalso
            have := HK2.out
            rw [HL3.out, show L3 = [] from List.eq_nil_of_length_eq_zero (by rw [HK3.out]; exact h0), hb, trimR_sp] at this
            exact HKN.out this.symm
           ·exact h0
          have HB3 := Lib.hid (show BrO wr 5 g o1 L3 by have := HB2.out.take L3.length; rw [HL3.out, List.take_left'] at this; exact this; rfl)
          have HK4 := Lib.hid (show trimR L3 = K0 by have := HK2.out; rw [HL3.out, hb, trimR_sp] at this; exact this)
          have HR3 := Lib.hid (show ∀ x ∈ L3, 0 ≤ x ∧ x ≤ 255 from fun x hx => HR2.out x (by rw [HL3.out]; exact List.mem_append_left _ hx))
          subst hb
          go_wp2
          go_roundw
          case rel => exact ⟨k, L3, rfl, by first | rfl | trivial, hnz, by omega, Lib.hid HK3.out.symm, HB3, HK4, HR3⟩
          case measure => simp [lenV]; omega
         ·have hbe : (b == 32) = false := beq_eq_false_iff_ne.2 hb
          have HKL := Lib.hid (show K0 = L2 by have := HK2.out; rw [HL3.out, trimR_hd _ _ hb, ← HL3.out] at this; exact this.symm)
          obtain ⟨l1, V1, S1, hT, hacc, hst, hgl⟩ := HM.out
          obtain ⟨x4, _⟩ := hT.c4
          have HT := Lib.hid hT
          have HACC := Lib.hid hacc
          have HST := Lib.hid hst
          have HGL := Lib.hid hgl
          clear hT hacc hst hgl
          go_upto_region 14 with (
           go_at_call 60
           refine (nhkd_calls wr g o1 M2 C2 L2 dn HM2.out.symm HR2.out (by omega) HB2.out).mono ?_
           rintro e w3 ⟨rfl, hb3, ho3⟩
           have st3 := ho3.stp l1
           rw [HGL.out] at st3
           have hT3 := HT.out.keep st3 (fun lab e => by rw [e]; exact HZ.out)
           have hys3 := HYS'.out.apart ho3 (by have := HE1.out; omega)
           have HT3 := Lib.hid hT3
           have HB3 := Lib.hid hb3
           have HY3 := Lib.hid hys3
           have HO3 := Lib.hid st3
           clear hT3 hb3 hys3 ho3 x4 st3)
          have hnl : (nkd dn L2).length = M2 := by rw [nkd_length]; exact HM2.out.symm
          have hrd := HB3.out.reads (by rw [hnl]; omega)
          have hsrc : Src (Zn (q + 3)) l1 w3 (some ⟨g, o1, none⟩) (nkd dn L2).length (nkd dn L2) := Src.of_read hrd (fun a ha => by
           injection ha with ha; subst ha
           refine ⟨HB3.out.lt, ?_⟩
           show ¬ Zn (q + 3) (l1 g)
           rw [HGL.out]
           exact fun k => HZ.out (.inr (.inr (.inr k))))
          have hadd := addN_says (V := V1) hnl (tAddN_calls l1 w3 q p n1 V1 kv vv S1 kx vx dn HT3.out (by have := HN2.out; have := HXL.out; omega) (some ⟨g, o1, none⟩) C2 (nkd dn L2) (by rw [hnl]; exact hM2) (by rw [hnl]; omega) (by rw [hnl]; have := HC2.out; omega) hsrc)
          have hgl3 : g < w3.heap.size := HB3.out.lt
          have HADD := Lib.hid hadd
          have HGL3 := Lib.hid hgl3
          clear hnl hrd hsrc hadd hgl3
          go_wp2_with (
           go_at_call 59
           refine HADD.out.mono ?_
           rintro e w4 ⟨l2, V2, n2, S2, ev2, rfl, k1, k2, k3, k4, k5⟩
           have G2 := Lib.hid ((k3.lab g HGL3.out).trans HGL.out)
           have Y4 := Lib.hid (HY3.out.same (k3.block g HGL3.out (by rw [HGL.out]; exact HZ.out)))
           have K1 := Lib.hid k1
           have K2 := Lib.hid k2
           have K3 := Lib.hid k3
           have K4 := Lib.hid k4
           have K5 := Lib.hid k5
           clear k1 k2 k3 k4 k5)
          go_roundw
          case rel =>
           have hgo := HGO2.out
           rw [HKL.out] at hgo
           refine ⟨O, CM, C1, m + 1, n2, f, (m : Int), YD, _, _, rfl, rfl, Lib.hid (by omega), HMC, HDL, Y4, Lib.hid hgo, HFL2, K4, Lib.hid ⟨l2, V2, S2, K1.out, ?_, (HST.out.trans (HO3.out.mono (fun _ e => .inr e))).trans (K3.out.mono (fun _ e => .inl e)), G2.out⟩, Lib.hid (by have := K2.out; have := HN2.out; have := HDL.out; omega), HRD, Lib.hid ⟨HCMX.out.1, by omega⟩⟩
           rw [K5.out, HACC.out]
          case measure =>
           have := HI.out
           have := HCMX.out
           simp [lenV, intOf]
           omega
end Go.Proofs.Ytoimkmoalmmooaa.Own
set_option linter.unusedVariables false
set_option linter.unusedSimpArgs false
namespace Go.Proofs.Ytoimkmoalmmooaa.Own
open Go.RowKit Go.Proofs.YtoimkmoalmmooaaW.PrintWords Go.Proofs.YtoimkmoalmmooaaW.PrintLast Go.Proofs.YtoimkmoalmmooaaW.PrintMore Go.Proofs.Ytoimkmoalmmooaa.Base Go.Proofs.Ytoimkmoalmmooaa.Gv Go.Proofs.Ytoimkmoalmmooaa.Given Go.Proofs.Ytoimkmoalmmooaa.QA Go.Proofs.Ytoimkmoalmmooaa.PrX
theorem fail5 {w : World} {b1 b2 : Nat} {c0 c1 c2 c3 c4 a0 a1 a2 a3 a4 x y : Value} (r1 : w.heap[b1]? = some (.cells #[c0, c1, c2, c3, c4] 32 (0, 0))) (r2 : w.heap[b2]? = some (.cells #[x] 4 (0, 0))) (hne : b1 ≠ b2) :
    ((((((w.setCell ⟨b1, 0, none⟩ a0).setCell ⟨b1, 1, none⟩ a1).setCell ⟨b1, 2, none⟩ a2).setCell ⟨b1, 3, none⟩ a3).setCell ⟨b1, 4, none⟩ a4).setCell ⟨b2, 0, none⟩ y).heap[b1]? = some (.cells #[a0, a1, a2, a3, a4] 32 (0, 0)) ∧
    ((((((w.setCell ⟨b1, 0, none⟩ a0).setCell ⟨b1, 1, none⟩ a1).setCell ⟨b1, 2, none⟩ a2).setCell ⟨b1, 3, none⟩ a3).setCell ⟨b1, 4, none⟩ a4).setCell ⟨b2, 0, none⟩ y).heap[b2]? = some (.cells #[y] 4 (0, 0)) := by
  have s0 := heap_setCell_same w b1 0 _ 32 a0 r1
  have s1 := heap_setCell_same _ b1 1 _ 32 a1 s0
  have s2 := heap_setCell_same _ b1 2 _ 32 a2 s1
  have s3 := heap_setCell_same _ b1 3 _ 32 a3 s2
  have s4 := heap_setCell_same _ b1 4 _ 32 a4 s3
  have hn : ∀ (W : World) (o : Nat) (v : Value), (W.setCell ⟨b1, o, none⟩ v).heap[b2]? = W.heap[b2]? := fun W o v => Below.heap_setCell _ _ _ _ (fun e => hne e.symm)
  refine ⟨?_, ?_⟩
  · rw [Below.heap_setCell _ _ _ _ (show b1 ≠ b2 from hne), s4]
    rfl
  · have t0 : (((((w.setCell ⟨b1, 0, none⟩ a0).setCell ⟨b1, 1, none⟩ a1).setCell ⟨b1, 2, none⟩ a2).setCell ⟨b1, 3, none⟩ a3).setCell ⟨b1, 4, none⟩ a4).heap[b2]? = some (.cells #[x] 4 (0, 0)) := by rw [hn, hn, hn, hn, hn]; exact r2
    exact heap_setCell_same _ b2 0 _ 4 y t0
set_option maxHeartbeats 1000000 in
theorem trailer_caught (b1 b2 : Nat) (u : TypeId) (pv : Value) (older : List PanicEntry) (w : World) {c0 c1 c2 c3 c4 x : Value} (r1 : w.heap[b1]? = some (.cells #[c0, c1, c2, c3, c4] 32 (0, 0))) (r2 : w.heap[b2]? = some (.cells #[x] 4 (0, 0))) (hne : b1 ≠ b2) :
    CallsD Try.prog 40 #[.pointer (some ⟨b1, 0, none⟩), .pointer (some ⟨b2, 0, none⟩)] (.panicking ({ v := .iface u pv, recovered := false } :: older)) w fun e u' w' =>
      e = .returned (.tuple #[]) ∧ u' = .panicking ({ v := .iface u pv, recovered := true } :: older) ∧
      w' = (((((w.setCell ⟨b1, 0, none⟩ (.string ⟨#[]⟩)).setCell ⟨b1, 1, none⟩ (.bool false)).setCell ⟨b1, 2, none⟩ (.int .i64 0)).setCell ⟨b1, 3, none⟩ (.slice none 0 0)).setCell ⟨b1, 4, none⟩ (.slice none 0 0)).setCell ⟨b2, 0, none⟩ (.bool false) := by
  have e0 := frozen_of_row w b1 0 _ _ r1
  have e1 := frozen_of_row w b1 1 _ _ r1
  have e2 := frozen_of_row w b1 2 _ _ r1
  have e3 := frozen_of_row w b1 3 _ _ r1
  have e4 := frozen_of_row w b1 4 _ _ r1
  have e5 := frozen_of_row w b2 0 _ _ r2
  have a0 : w.cell? ⟨b1, 0, none⟩ = some c0 := by rw [cell_of_row w _ 0 _ _ (0, 0) r1]; rfl
  have a1 : w.cell? ⟨b1, 1, none⟩ = some c1 := by rw [cell_of_row w _ 1 _ _ (0, 0) r1]; rfl
  have a2 : w.cell? ⟨b1, 2, none⟩ = some c2 := by rw [cell_of_row w _ 2 _ _ (0, 0) r1]; rfl
  have a3 : w.cell? ⟨b1, 3, none⟩ = some c3 := by rw [cell_of_row w _ 3 _ _ (0, 0) r1]; rfl
  have a4 : w.cell? ⟨b1, 4, none⟩ = some c4 := by rw [cell_of_row w _ 4 _ _ (0, 0) r1]; rfl
  have b0 : w.cell? ⟨b2, 0, none⟩ = some x := by rw [cell_of_row w _ 0 _ _ (0, 0) r2]; rfl
  refine callsD_of_wpS Try.func40 rfl fun c₀ cs hu => ?_
  apply wpS_seq
  apply wpS_region
  simp [wpOpsS, go_sem, recoverD, hu, Try.ntmps40, Exit.thenS]
  refine wpS_cond (t := true) (by simp [Act.eval, Array.replicate]) ?_
  simp only [if_true]
  apply wpS_region
  simp [wpOpsS, go_sem, a0, a1, a2, a3, a4, b0, e0, e1, e2, e3, e4, e5, bodyPostS, results, Try.results40]
end Go.Proofs.Ytoimkmoalmmooaa.Own
set_option linter.unusedVariables false
set_option linter.unusedSimpArgs false
namespace Go.Proofs.Ytoimkmoalmmooaa.Own
open Go.RowKit Go.Proofs.YtoimkmoalmmooaaW.PrintWords Go.Proofs.YtoimkmoalmmooaaW.PrintLast Go.Proofs.YtoimkmoalmmooaaW.PrintMore Go.Proofs.Ytoimkmoalmmooaa.Base Go.Proofs.Ytoimkmoalmmooaa.Gv Go.Proofs.Ytoimkmoalmmooaa.Given Go.Proofs.Ytoimkmoalmmooaa.QA Go.Proofs.Ytoimkmoalmmooaa.PrX
def StepP (l : Nat → Nat) (w : World) (q : Nat) (e : Ending) (w' : World) : Prop := e = .returned (.tuple #[.agg #[.string ⟨#[]⟩, .bool false, .int .i64 0, .slice none 0 0, .slice none 0 0], .bool false]) ∧ ∃ l1, Stp (Tz q) l l1 w w'
set_option maxHeartbeats 4000000 in
set_option maxRecDepth 100000 in
theorem trailer_set_panics (l : Nat → Nat) (w : World) (q p n : Nat) (V kv vv : Value) (S : List Slot) (kx vx : List Int) (dn : Bool) (h : TrC l w q p V n S kv kx vv vx dn) (hn : n ≤ 1099511627775) (s : S28) (hk0 : s.f1.size = 0) (hvs : s.f2.size ≤ 140737488351232) (hdo : s.f0 = 0) :
    Calls Try.prog 26 #[.pointer (some ⟨p, 0, none⟩), .agg #[.int .i64 s.f0, .string s.f1, .string s.f2, .int .i64 s.f3, .int .i64 s.f4]] w fun e w' => StepP l w q e w' := by
  have st0 := Stp.of_below (W3_below w s) (fun _ => False) l 0
  have hT := h.keep st0 (fun _ k => k.elim)
  have y0 := W3_0 w s
  have y1 := W3_1 w s
  have y2 := W3_2 w s
  have hsz := W3_size w s
  obtain ⟨W, hW⟩ : ∃ W, W3 w s = W := ⟨_, rfl⟩
  have hW' := hW
  rw [hW] at hT st0 y0 y1 y2 hsz
  unfold W3 at hW'
  have hg := tSet_panics _ W q p n V kv vv S kx vx dn hT hn s.f1 s.f2 hk0 hvs
  have HG := Lib.hid hg
  clear hg
  have HT := Lib.hid hT
  have HS0 := Lib.hid st0
  have Y1 := Lib.hid y1
  have Y2 := Lib.hid y2
  have c0 : W.cell? ⟨w.heap.size, 0, none⟩ = some (.int .i64 s.f0) := by rw [cell_of_row W _ 0 _ _ (0, 0) y0]; rfl
  have c1 : W.cell? ⟨w.heap.size, 1, none⟩ = some (.string s.f1) := by rw [cell_of_row W _ 1 _ _ (0, 0) y0]; rfl
  have c2 : W.cell? ⟨w.heap.size, 2, none⟩ = some (.string s.f2) := by rw [cell_of_row W _ 2 _ _ (0, 0) y0]; rfl
  rw [hdo] at c0
  have HW := Lib.hid hW'
  have HSZ := Lib.hid hsz
  rw [← hW'] at c0 c1 c2
  have hmf : ∀ (fn : Fn) (first cap : Array Value) (w : World), (Instr.makeFunc fn first cap).run Try.prog w = .ok (.func fn first cap) w := fun _ _ _ _ => rfl
  have HDO := Lib.hid hdo
  clear h hT y0 y1 y2 st0 hW hW' hsz hdo
  go_enter_defers Try.func26, Try.ntmps26
  go_wp2_with (first
    | (go_at_call 41
       rw [HW.out]
       refine HG.out.mono ?_
       rintro e w4 ⟨⟨u, v, rfl⟩, l4, st4⟩
       have lt1 : w.heap.size + 1 < W.heap.size := by rw [HSZ.out]; omega
       have lt2 : w.heap.size + 2 < W.heap.size := by rw [HSZ.out]; omega
       have lb0 : ¬ Tz q 0 := by have := HT.out.1; have := HT.out.2.1; unfold Tz; omega
       have r1 := (st4.block (w.heap.size + 1) lt1 (by rw [ext_new l (by omega)]; exact lb0)).trans Y1.out
       have r2 := (st4.block (w.heap.size + 2) lt2 (by rw [ext_new l (by omega)]; exact lb0)).trans Y2.out
       have R1 := Lib.hid r1
       have R2 := Lib.hid r2
       have ST4 := Lib.hid st4
       clear lt1 lt2 lb0 r1 r2 st4))
  refine leaves_cons (f := 40) (args := #[.pointer (some ⟨w.heap.size + 1, 0, none⟩), .pointer (some ⟨w.heap.size + 1 + 1, 0, none⟩)]) (by simp) (by simp [go_sem]) ?_
  refine (trailer_caught (w.heap.size + 1) (w.heap.size + 1 + 1) u v [] w4 R1.out R2.out (by omega)).mono ?_
  rintro e u' w'' ⟨rfl, rfl, rfl⟩
  obtain ⟨f1, f2⟩ := fail5 (a0 := .string ⟨#[]⟩) (a1 := .bool false) (a2 := .int .i64 0) (a3 := .slice none 0 0) (a4 := .slice none 0 0) (y := .bool false) R1.out R2.out (by omega)
  have HS5 := Lib.hid ((((((((HS0.out.mono (fun _ k => k.elim) : Stp (Tz q) _ _ _ _).trans ST4.out).setNew (a := ⟨w.heap.size + 1, 0, none⟩) (by show _ ≤ w.heap.size + 1; omega) (.string ⟨#[]⟩)).setNew (a := ⟨w.heap.size + 1, 1, none⟩) (by show _ ≤ w.heap.size + 1; omega) (.bool false)).setNew (a := ⟨w.heap.size + 1, 2, none⟩) (by show _ ≤ w.heap.size + 1; omega) (.int .i64 0)).setNew (a := ⟨w.heap.size + 1, 3, none⟩) (by show _ ≤ w.heap.size + 1; omega) (.slice none 0 0)).setNew (a := ⟨w.heap.size + 1, 4, none⟩) (by show _ ≤ w.heap.size + 1; omega) (.slice none 0 0)).setNew (a := ⟨w.heap.size + 1 + 1, 0, none⟩) (by show _ ≤ w.heap.size + 1 + 1; omega) (.bool false))
  generalize ((((((w4.setCell ⟨w.heap.size + 1, 0, none⟩ (.string ⟨#[]⟩)).setCell ⟨w.heap.size + 1, 1, none⟩ (.bool false)).setCell ⟨w.heap.size + 1, 2, none⟩ (.int .i64 0)).setCell ⟨w.heap.size + 1, 3, none⟩ (.slice none 0 0)).setCell ⟨w.heap.size + 1, 4, none⟩ (.slice none 0 0)).setCell ⟨w.heap.size + 1 + 1, 0, none⟩ (.bool false)) = w5 at *
  have g0 : w5.cell? ⟨w.heap.size + 1, 0, none⟩ = some (.string ⟨#[]⟩) := by rw [cell_of_row w5 _ 0 _ _ (0, 0) f1]; rfl
  have g1 : w5.cell? ⟨w.heap.size + 1, 1, none⟩ = some (.bool false) := by rw [cell_of_row w5 _ 1 _ _ (0, 0) f1]; rfl
  have g2 : w5.cell? ⟨w.heap.size + 1, 2, none⟩ = some (.int .i64 0) := by rw [cell_of_row w5 _ 2 _ _ (0, 0) f1]; rfl
  have g3 : w5.cell? ⟨w.heap.size + 1, 3, none⟩ = some (.slice none 0 0) := by rw [cell_of_row w5 _ 3 _ _ (0, 0) f1]; rfl
  have g4 : w5.cell? ⟨w.heap.size + 1, 4, none⟩ = some (.slice none 0 0) := by rw [cell_of_row w5 _ 4 _ _ (0, 0) f1]; rfl
  have g5 : w5.cell? ⟨w.heap.size + 1 + 1, 0, none⟩ = some (.bool false) := by rw [cell_of_row w5 _ 0 _ _ (0, 0) f2]; rfl
  simp [Leaves, settle, results, Try.results26, go_sem, g0, g1, g2, g3, g4, g5]
  exact ⟨rfl, _, HS5.out⟩
set_option maxHeartbeats 4000000 in
set_option maxRecDepth 100000 in
theorem trailer_add_panics (l : Nat → Nat) (w : World) (q p n : Nat) (V kv vv : Value) (S : List Slot) (kx vx : List Int) (dn : Bool) (h : TrC l w q p V n S kv kx vv vx dn) (hn : n ≤ 1099511627775) (s : S28) (hk0 : s.f1.size = 0) (hvs : s.f2.size ≤ 140737488351232) (hdo : s.f0 = 1) :
    Calls Try.prog 26 #[.pointer (some ⟨p, 0, none⟩), .agg #[.int .i64 s.f0, .string s.f1, .string s.f2, .int .i64 s.f3, .int .i64 s.f4]] w fun e w' => StepP l w q e w' := by
  have st0 := Stp.of_below (W3_below w s) (fun _ => False) l 0
  have hT := h.keep st0 (fun _ k => k.elim)
  have y0 := W3_0 w s
  have y1 := W3_1 w s
  have y2 := W3_2 w s
  have hsz := W3_size w s
  obtain ⟨W, hW⟩ : ∃ W, W3 w s = W := ⟨_, rfl⟩
  have hW' := hW
  rw [hW] at hT st0 y0 y1 y2 hsz
  unfold W3 at hW'
  have hg := tAdd_panics _ W q p n V kv vv S kx vx dn hT hn s.f1 s.f2 hk0 hvs
  have HG := Lib.hid hg
  clear hg
  have HT := Lib.hid hT
  have HS0 := Lib.hid st0
  have Y1 := Lib.hid y1
  have Y2 := Lib.hid y2
  have c0 : W.cell? ⟨w.heap.size, 0, none⟩ = some (.int .i64 s.f0) := by rw [cell_of_row W _ 0 _ _ (0, 0) y0]; rfl
  have c1 : W.cell? ⟨w.heap.size, 1, none⟩ = some (.string s.f1) := by rw [cell_of_row W _ 1 _ _ (0, 0) y0]; rfl
  have c2 : W.cell? ⟨w.heap.size, 2, none⟩ = some (.string s.f2) := by rw [cell_of_row W _ 2 _ _ (0, 0) y0]; rfl
  rw [hdo] at c0
  have HW := Lib.hid hW'
  have HSZ := Lib.hid hsz
  rw [← hW'] at c0 c1 c2
  have hmf : ∀ (fn : Fn) (first cap : Array Value) (w : World), (Instr.makeFunc fn first cap).run Try.prog w = .ok (.func fn first cap) w := fun _ _ _ _ => rfl
  have HDO := Lib.hid hdo
  clear h hT y0 y1 y2 st0 hW hW' hsz hdo
  go_enter_defers Try.func26, Try.ntmps26
  go_wp2_with (first
    | (go_at_call 42
       rw [HW.out]
       refine HG.out.mono ?_
       rintro e w4 ⟨⟨u, v, rfl⟩, l4, st4⟩
       have lt1 : w.heap.size + 1 < W.heap.size := by rw [HSZ.out]; omega
       have lt2 : w.heap.size + 2 < W.heap.size := by rw [HSZ.out]; omega
       have lb0 : ¬ Tz q 0 := by have := HT.out.1; have := HT.out.2.1; unfold Tz; omega
       have r1 := (st4.block (w.heap.size + 1) lt1 (by rw [ext_new l (by omega)]; exact lb0)).trans Y1.out
       have r2 := (st4.block (w.heap.size + 2) lt2 (by rw [ext_new l (by omega)]; exact lb0)).trans Y2.out
       have R1 := Lib.hid r1
       have R2 := Lib.hid r2
       have ST4 := Lib.hid st4
       clear lt1 lt2 lb0 r1 r2 st4))
  refine leaves_cons (f := 40) (args := #[.pointer (some ⟨w.heap.size + 1, 0, none⟩), .pointer (some ⟨w.heap.size + 1 + 1, 0, none⟩)]) (by simp) (by simp [go_sem]) ?_
  refine (trailer_caught (w.heap.size + 1) (w.heap.size + 1 + 1) u v [] w4 R1.out R2.out (by omega)).mono ?_
  rintro e u' w'' ⟨rfl, rfl, rfl⟩
  obtain ⟨f1, f2⟩ := fail5 (a0 := .string ⟨#[]⟩) (a1 := .bool false) (a2 := .int .i64 0) (a3 := .slice none 0 0) (a4 := .slice none 0 0) (y := .bool false) R1.out R2.out (by omega)
  have HS5 := Lib.hid ((((((((HS0.out.mono (fun _ k => k.elim) : Stp (Tz q) _ _ _ _).trans ST4.out).setNew (a := ⟨w.heap.size + 1, 0, none⟩) (by show _ ≤ w.heap.size + 1; omega) (.string ⟨#[]⟩)).setNew (a := ⟨w.heap.size + 1, 1, none⟩) (by show _ ≤ w.heap.size + 1; omega) (.bool false)).setNew (a := ⟨w.heap.size + 1, 2, none⟩) (by show _ ≤ w.heap.size + 1; omega) (.int .i64 0)).setNew (a := ⟨w.heap.size + 1, 3, none⟩) (by show _ ≤ w.heap.size + 1; omega) (.slice none 0 0)).setNew (a := ⟨w.heap.size + 1, 4, none⟩) (by show _ ≤ w.heap.size + 1; omega) (.slice none 0 0)).setNew (a := ⟨w.heap.size + 1 + 1, 0, none⟩) (by show _ ≤ w.heap.size + 1 + 1; omega) (.bool false))
  generalize ((((((w4.setCell ⟨w.heap.size + 1, 0, none⟩ (.string ⟨#[]⟩)).setCell ⟨w.heap.size + 1, 1, none⟩ (.bool false)).setCell ⟨w.heap.size + 1, 2, none⟩ (.int .i64 0)).setCell ⟨w.heap.size + 1, 3, none⟩ (.slice none 0 0)).setCell ⟨w.heap.size + 1, 4, none⟩ (.slice none 0 0)).setCell ⟨w.heap.size + 1 + 1, 0, none⟩ (.bool false)) = w5 at *
  have g0 : w5.cell? ⟨w.heap.size + 1, 0, none⟩ = some (.string ⟨#[]⟩) := by rw [cell_of_row w5 _ 0 _ _ (0, 0) f1]; rfl
  have g1 : w5.cell? ⟨w.heap.size + 1, 1, none⟩ = some (.bool false) := by rw [cell_of_row w5 _ 1 _ _ (0, 0) f1]; rfl
  have g2 : w5.cell? ⟨w.heap.size + 1, 2, none⟩ = some (.int .i64 0) := by rw [cell_of_row w5 _ 2 _ _ (0, 0) f1]; rfl
  have g3 : w5.cell? ⟨w.heap.size + 1, 3, none⟩ = some (.slice none 0 0) := by rw [cell_of_row w5 _ 3 _ _ (0, 0) f1]; rfl
  have g4 : w5.cell? ⟨w.heap.size + 1, 4, none⟩ = some (.slice none 0 0) := by rw [cell_of_row w5 _ 4 _ _ (0, 0) f1]; rfl
  have g5 : w5.cell? ⟨w.heap.size + 1 + 1, 0, none⟩ = some (.bool false) := by rw [cell_of_row w5 _ 0 _ _ (0, 0) f2]; rfl
  simp [Leaves, settle, results, Try.results26, go_sem, g0, g1, g2, g3, g4, g5]
  exact ⟨rfl, _, HS5.out⟩
set_option maxHeartbeats 4000000 in
set_option maxRecDepth 100000 in
theorem trailer_upd_panics (l : Nat → Nat) (w : World) (q p n : Nat) (V kv vv : Value) (S : List Slot) (kx vx : List Int) (dn : Bool) (h : TrC l w q p V n S kv kx vv vx dn) (hn : n ≤ 1099511627775) (s : S28) (hk0 : s.f1.size = 0) (hvs : s.f2.size ≤ 140737488351232) (hdo : s.f0 = 9) :
    Calls Try.prog 26 #[.pointer (some ⟨p, 0, none⟩), .agg #[.int .i64 s.f0, .string s.f1, .string s.f2, .int .i64 s.f3, .int .i64 s.f4]] w fun e w' => StepP l w q e w' := by
  have st0 := Stp.of_below (W3_below w s) (fun _ => False) l 0
  have hT := h.keep st0 (fun _ k => k.elim)
  have y0 := W3_0 w s
  have y1 := W3_1 w s
  have y2 := W3_2 w s
  have hsz := W3_size w s
  obtain ⟨W, hW⟩ : ∃ W, W3 w s = W := ⟨_, rfl⟩
  have hW' := hW
  rw [hW] at hT st0 y0 y1 y2 hsz
  unfold W3 at hW'
  have hcv1 := Lib.run_convert_string_bytes (P := Try.prog) W 9 54 5 s.f1 Try.underlying9 Try.underlying54 Try.underlying5
  have hbl1 := conv_below W 5 s.f1
  have br1 := Br.conv W 5 s.f1
  have sz1 := Lib.bytesWorld_size W 5 s.f1
  have cap1 := grownCap_ge W s.f1.size 0 5
  obtain ⟨cc1, hcc1⟩ : ∃ c, grownCap W s.f1.size 0 5 = c := ⟨_, rfl⟩
  rw [hcc1] at hcv1 cap1
  obtain ⟨U1, hU1⟩ : ∃ X, Lib.bytesWorld W 5 s.f1 = X := ⟨_, rfl⟩
  rw [hU1] at hcv1 hbl1 br1 sz1
  obtain ⟨g1, hg1⟩ : ∃ g, W.heap.size = g := ⟨_, rfl⟩
  rw [hg1] at hcv1 br1 sz1
  have hT1 := hT.keep (Stp.of_below_same hbl1 (fun _ => False) (ext l w.heap.size 0)) (fun _ k => k.elim)
  have st1 := Stp.of_below_same hbl1 (Tz q) (ext l w.heap.size 0)
  have hcv2 := Lib.run_convert_string_bytes (P := Try.prog) U1 9 54 5 s.f2 Try.underlying9 Try.underlying54 Try.underlying5
  have hbl2 := conv_below U1 5 s.f2
  have br2 := Br.conv U1 5 s.f2
  have sz2 := Lib.bytesWorld_size U1 5 s.f2
  have cap2 := grownCap_ge U1 s.f2.size 0 5
  obtain ⟨cc2, hcc2⟩ : ∃ c, grownCap U1 s.f2.size 0 5 = c := ⟨_, rfl⟩
  rw [hcc2] at hcv2 cap2
  obtain ⟨U2, hU2⟩ : ∃ X, Lib.bytesWorld U1 5 s.f2 = X := ⟨_, rfl⟩
  rw [hU2] at hcv2 hbl2 br2 sz2
  obtain ⟨g2, hg2⟩ : ∃ g, U1.heap.size = g := ⟨_, rfl⟩
  rw [hg2] at hcv2 br2 sz2
  have hT2 := hT1.keep (Stp.of_below_same hbl2 (fun _ => False) (ext l w.heap.size 0)) (fun _ k => k.elim)
  have st2 := Stp.of_below_same hbl2 (Tz q) (ext l w.heap.size 0)
  have hg := tUpd_panics U2 (.pointer (some ⟨p, 0, none⟩)) (some ⟨g1, 0, none⟩) (some ⟨g2, 0, none⟩) cc1 s.f2.size cc2
  rw [hk0] at hcv1
  have HG := Lib.hid hg
  have ST12 := Lib.hid (st1.trans st2)
  have y0' := (hbl1.block w.heap.size (by omega)).trans y0
  have c2' : U1.cell? ⟨w.heap.size, 2, none⟩ = some (.string s.f2) := by rw [cell_of_row U1 _ 2 _ _ (0, 0) y0']; rfl
  rw [← hW'] at hcv1
  clear hg hk0 hvs st1 st2 hT1 hT2 br1 br2 sz1 sz2 hbl1 hbl2 cap1 cap2 hcc1 hcc2 hU1 hU2 hg1 hg2 y0'
  have HT := Lib.hid hT
  have HS0 := Lib.hid st0
  have Y1 := Lib.hid y1
  have Y2 := Lib.hid y2
  have c0 : W.cell? ⟨w.heap.size, 0, none⟩ = some (.int .i64 s.f0) := by rw [cell_of_row W _ 0 _ _ (0, 0) y0]; rfl
  have c1 : W.cell? ⟨w.heap.size, 1, none⟩ = some (.string s.f1) := by rw [cell_of_row W _ 1 _ _ (0, 0) y0]; rfl
  have c2 : W.cell? ⟨w.heap.size, 2, none⟩ = some (.string s.f2) := by rw [cell_of_row W _ 2 _ _ (0, 0) y0]; rfl
  rw [hdo] at c0
  have HW := Lib.hid hW'
  have HSZ := Lib.hid hsz
  rw [← hW'] at c0 c1 c2
  have hmf : ∀ (fn : Fn) (first cap : Array Value) (w : World), (Instr.makeFunc fn first cap).run Try.prog w = .ok (.func fn first cap) w := fun _ _ _ _ => rfl
  have HDO := Lib.hid hdo
  clear h hT y0 y1 y2 st0 hW hW' hsz hdo
  go_enter_defers Try.func26, Try.ntmps26
  go_wp2_with (first
    | (go_at_call 50
       refine HG.out.mono ?_
       rintro e w4 ⟨⟨u, v, rfl⟩, hw4⟩
       have st4 : Stp (Tz q) (ext l w.heap.size 0) (ext l w.heap.size 0) W U2.drew := ST12.out.trans (drew_stp (Tz q) _ U2 1)
       rw [hw4] at st4
       clear hw4
       have lt1 : w.heap.size + 1 < W.heap.size := by rw [HSZ.out]; omega
       have lt2 : w.heap.size + 2 < W.heap.size := by rw [HSZ.out]; omega
       have lb0 : ¬ Tz q 0 := by have := HT.out.1; have := HT.out.2.1; unfold Tz; omega
       have r1 := (st4.block (w.heap.size + 1) lt1 (by rw [ext_new l (by omega)]; exact lb0)).trans Y1.out
       have r2 := (st4.block (w.heap.size + 2) lt2 (by rw [ext_new l (by omega)]; exact lb0)).trans Y2.out
       have R1 := Lib.hid r1
       have R2 := Lib.hid r2
       have ST4 := Lib.hid st4
       clear lt1 lt2 lb0 r1 r2 st4))
  refine leaves_cons (f := 40) (args := #[.pointer (some ⟨w.heap.size + 1, 0, none⟩), .pointer (some ⟨w.heap.size + 1 + 1, 0, none⟩)]) (by simp) (by simp [go_sem]) ?_
  refine (trailer_caught (w.heap.size + 1) (w.heap.size + 1 + 1) u v [] w4 R1.out R2.out (by omega)).mono ?_
  rintro e u' w'' ⟨rfl, rfl, rfl⟩
  obtain ⟨f1, f2⟩ := fail5 (a0 := .string ⟨#[]⟩) (a1 := .bool false) (a2 := .int .i64 0) (a3 := .slice none 0 0) (a4 := .slice none 0 0) (y := .bool false) R1.out R2.out (by omega)
  have HS5 := Lib.hid ((((((((HS0.out.mono (fun _ k => k.elim) : Stp (Tz q) _ _ _ _).trans ST4.out).setNew (a := ⟨w.heap.size + 1, 0, none⟩) (by show _ ≤ w.heap.size + 1; omega) (.string ⟨#[]⟩)).setNew (a := ⟨w.heap.size + 1, 1, none⟩) (by show _ ≤ w.heap.size + 1; omega) (.bool false)).setNew (a := ⟨w.heap.size + 1, 2, none⟩) (by show _ ≤ w.heap.size + 1; omega) (.int .i64 0)).setNew (a := ⟨w.heap.size + 1, 3, none⟩) (by show _ ≤ w.heap.size + 1; omega) (.slice none 0 0)).setNew (a := ⟨w.heap.size + 1, 4, none⟩) (by show _ ≤ w.heap.size + 1; omega) (.slice none 0 0)).setNew (a := ⟨w.heap.size + 1 + 1, 0, none⟩) (by show _ ≤ w.heap.size + 1 + 1; omega) (.bool false))
  generalize ((((((w4.setCell ⟨w.heap.size + 1, 0, none⟩ (.string ⟨#[]⟩)).setCell ⟨w.heap.size + 1, 1, none⟩ (.bool false)).setCell ⟨w.heap.size + 1, 2, none⟩ (.int .i64 0)).setCell ⟨w.heap.size + 1, 3, none⟩ (.slice none 0 0)).setCell ⟨w.heap.size + 1, 4, none⟩ (.slice none 0 0)).setCell ⟨w.heap.size + 1 + 1, 0, none⟩ (.bool false)) = w5 at *
  have g0 : w5.cell? ⟨w.heap.size + 1, 0, none⟩ = some (.string ⟨#[]⟩) := by rw [cell_of_row w5 _ 0 _ _ (0, 0) f1]; rfl
  have g1 : w5.cell? ⟨w.heap.size + 1, 1, none⟩ = some (.bool false) := by rw [cell_of_row w5 _ 1 _ _ (0, 0) f1]; rfl
  have g2 : w5.cell? ⟨w.heap.size + 1, 2, none⟩ = some (.int .i64 0) := by rw [cell_of_row w5 _ 2 _ _ (0, 0) f1]; rfl
  have g3 : w5.cell? ⟨w.heap.size + 1, 3, none⟩ = some (.slice none 0 0) := by rw [cell_of_row w5 _ 3 _ _ (0, 0) f1]; rfl
  have g4 : w5.cell? ⟨w.heap.size + 1, 4, none⟩ = some (.slice none 0 0) := by rw [cell_of_row w5 _ 4 _ _ (0, 0) f1]; rfl
  have g5 : w5.cell? ⟨w.heap.size + 1 + 1, 0, none⟩ = some (.bool false) := by rw [cell_of_row w5 _ 0 _ _ (0, 0) f2]; rfl
  simp [Leaves, settle, results, Try.results26, go_sem, g0, g1, g2, g3, g4, g5]
  exact ⟨rfl, _, HS5.out⟩
set_option maxHeartbeats 4000000 in
set_option maxRecDepth 100000 in
theorem trailer_names_panics (l : Nat → Nat) (w : World) (q p n : Nat) (V kv vv : Value) (S : List Slot) (kx vx : List Int) (dn : Bool) (h : TrC l w q p V n S kv kx vv vx dn) (hn : n ≤ 1099511627775) (s : S28) (hvs : s.f2.size ≤ 1099511627775) (f0 : Nat) (hf0 : s.f2.size ≤ f0) (hset : setGo dn f0 (ns s.f2) [] false = none) (hdo : s.f0 = 4) :
    Calls Try.prog 26 #[.pointer (some ⟨p, 0, none⟩), .agg #[.int .i64 s.f0, .string s.f1, .string s.f2, .int .i64 s.f3, .int .i64 s.f4]] w fun e w' => StepP l w q e w' := by
  have st0 := Stp.of_below (W3_below w s) (fun _ => False) l 0
  have hT := h.keep st0 (fun _ k => k.elim)
  have y0 := W3_0 w s
  have y1 := W3_1 w s
  have y2 := W3_2 w s
  have hsz := W3_size w s
  obtain ⟨W, hW⟩ : ∃ W, W3 w s = W := ⟨_, rfl⟩
  have hW' := hW
  rw [hW] at hT st0 y0 y1 y2 hsz
  unfold W3 at hW'
  have hcv1 := Lib.run_convert_string_bytes (P := Try.prog) W 9 54 5 s.f2 Try.underlying9 Try.underlying54 Try.underlying5
  have hbl1 := conv_below W 5 s.f2
  have br1 := Br.conv W 5 s.f2
  have sz1 := Lib.bytesWorld_size W 5 s.f2
  have cap1 := grownCap_ge W s.f2.size 0 5
  obtain ⟨cc1, hcc1⟩ : ∃ c, grownCap W s.f2.size 0 5 = c := ⟨_, rfl⟩
  rw [hcc1] at hcv1 cap1
  obtain ⟨U1, hU1⟩ : ∃ X, Lib.bytesWorld W 5 s.f2 = X := ⟨_, rfl⟩
  rw [hU1] at hcv1 hbl1 br1 sz1
  obtain ⟨g1, hg1⟩ : ∃ g, W.heap.size = g := ⟨_, rfl⟩
  rw [hg1] at hcv1 br1 sz1
  obtain ⟨zl, z1, z2, z3⟩ := fresh_label (ext l w.heap.size 0) W.heap.size
  have hz : ¬ Tz q zl := by have := hT.1; have := hT.2.1; unfold Tz; omega
  have st1 := Stp.of_below hbl1 (fun lab => Tz q lab ∨ lab = zl) (ext l w.heap.size 0) zl
  have hT1 := hT.keep (Stp.of_below hbl1 (fun _ => False) (ext l w.heap.size 0) zl) (fun _ k => k.elim)
  rw [hg1] at st1 hT1
  have hg := tSetT_panics (ext (ext l w.heap.size 0) g1 zl) U1 q p n V kv vv S kx vx dn hT1 zl g1 cc1 hz (ext_new _ (Nat.le_refl _)) (ns s.f2) (fun x k => ns_range s.f2 x k) (Br.bro br1) (by rw [ns_length]; exact cap1) (by rw [ns_length]; exact hvs) f0 (by rw [ns_length]; exact hf0) hset
  rw [ns_length] at hg
  have HG := Lib.hid hg
  have ST1 := Lib.hid st1
  have HF1 := Lib.hid z1
  rw [← hW'] at hcv1
  clear hg hset hvs hf0 st1 hT1 br1 sz1 hbl1 cap1 hcc1 hU1 hg1 z1 z2 z3 hz
  have HT := Lib.hid hT
  have HS0 := Lib.hid st0
  have Y1 := Lib.hid y1
  have Y2 := Lib.hid y2
  have c0 : W.cell? ⟨w.heap.size, 0, none⟩ = some (.int .i64 s.f0) := by rw [cell_of_row W _ 0 _ _ (0, 0) y0]; rfl
  have c1 : W.cell? ⟨w.heap.size, 1, none⟩ = some (.string s.f1) := by rw [cell_of_row W _ 1 _ _ (0, 0) y0]; rfl
  have c2 : W.cell? ⟨w.heap.size, 2, none⟩ = some (.string s.f2) := by rw [cell_of_row W _ 2 _ _ (0, 0) y0]; rfl
  rw [hdo] at c0
  have HW := Lib.hid hW'
  have HSZ := Lib.hid hsz
  rw [← hW'] at c0 c1 c2
  have hmf : ∀ (fn : Fn) (first cap : Array Value) (w : World), (Instr.makeFunc fn first cap).run Try.prog w = .ok (.func fn first cap) w := fun _ _ _ _ => rfl
  have HDO := Lib.hid hdo
  clear h hT y0 y1 y2 st0 hW hW' hsz hdo
  go_enter_defers Try.func26, Try.ntmps26
  go_wp2_with (first
    | (go_at_call 45
       refine HG.out.mono ?_
       rintro e w4 ⟨⟨u, v, rfl⟩, l4, hst⟩
       have st4 := (ST1.out.trans hst).less HF1.out
       clear hst
       have lt1 : w.heap.size + 1 < W.heap.size := by rw [HSZ.out]; omega
       have lt2 : w.heap.size + 2 < W.heap.size := by rw [HSZ.out]; omega
       have lb0 : ¬ Tz q 0 := by have := HT.out.1; have := HT.out.2.1; unfold Tz; omega
       have r1 := (st4.block (w.heap.size + 1) lt1 (by rw [ext_new l (by omega)]; exact lb0)).trans Y1.out
       have r2 := (st4.block (w.heap.size + 2) lt2 (by rw [ext_new l (by omega)]; exact lb0)).trans Y2.out
       have R1 := Lib.hid r1
       have R2 := Lib.hid r2
       have ST4 := Lib.hid st4
       clear lt1 lt2 lb0 r1 r2 st4))
  refine leaves_cons (f := 40) (args := #[.pointer (some ⟨w.heap.size + 1, 0, none⟩), .pointer (some ⟨w.heap.size + 1 + 1, 0, none⟩)]) (by simp) (by simp [go_sem]) ?_
  refine (trailer_caught (w.heap.size + 1) (w.heap.size + 1 + 1) u v [] w4 R1.out R2.out (by omega)).mono ?_
  rintro e u' w'' ⟨rfl, rfl, rfl⟩
  obtain ⟨f1, f2⟩ := fail5 (a0 := .string ⟨#[]⟩) (a1 := .bool false) (a2 := .int .i64 0) (a3 := .slice none 0 0) (a4 := .slice none 0 0) (y := .bool false) R1.out R2.out (by omega)
  have HS5 := Lib.hid ((((((((HS0.out.mono (fun _ k => k.elim) : Stp (Tz q) _ _ _ _).trans ST4.out).setNew (a := ⟨w.heap.size + 1, 0, none⟩) (by show _ ≤ w.heap.size + 1; omega) (.string ⟨#[]⟩)).setNew (a := ⟨w.heap.size + 1, 1, none⟩) (by show _ ≤ w.heap.size + 1; omega) (.bool false)).setNew (a := ⟨w.heap.size + 1, 2, none⟩) (by show _ ≤ w.heap.size + 1; omega) (.int .i64 0)).setNew (a := ⟨w.heap.size + 1, 3, none⟩) (by show _ ≤ w.heap.size + 1; omega) (.slice none 0 0)).setNew (a := ⟨w.heap.size + 1, 4, none⟩) (by show _ ≤ w.heap.size + 1; omega) (.slice none 0 0)).setNew (a := ⟨w.heap.size + 1 + 1, 0, none⟩) (by show _ ≤ w.heap.size + 1 + 1; omega) (.bool false))
  generalize ((((((w4.setCell ⟨w.heap.size + 1, 0, none⟩ (.string ⟨#[]⟩)).setCell ⟨w.heap.size + 1, 1, none⟩ (.bool false)).setCell ⟨w.heap.size + 1, 2, none⟩ (.int .i64 0)).setCell ⟨w.heap.size + 1, 3, none⟩ (.slice none 0 0)).setCell ⟨w.heap.size + 1, 4, none⟩ (.slice none 0 0)).setCell ⟨w.heap.size + 1 + 1, 0, none⟩ (.bool false)) = w5 at *
  have g0 : w5.cell? ⟨w.heap.size + 1, 0, none⟩ = some (.string ⟨#[]⟩) := by rw [cell_of_row w5 _ 0 _ _ (0, 0) f1]; rfl
  have g1 : w5.cell? ⟨w.heap.size + 1, 1, none⟩ = some (.bool false) := by rw [cell_of_row w5 _ 1 _ _ (0, 0) f1]; rfl
  have g2 : w5.cell? ⟨w.heap.size + 1, 2, none⟩ = some (.int .i64 0) := by rw [cell_of_row w5 _ 2 _ _ (0, 0) f1]; rfl
  have g3 : w5.cell? ⟨w.heap.size + 1, 3, none⟩ = some (.slice none 0 0) := by rw [cell_of_row w5 _ 3 _ _ (0, 0) f1]; rfl
  have g4 : w5.cell? ⟨w.heap.size + 1, 4, none⟩ = some (.slice none 0 0) := by rw [cell_of_row w5 _ 4 _ _ (0, 0) f1]; rfl
  have g5 : w5.cell? ⟨w.heap.size + 1 + 1, 0, none⟩ = some (.bool false) := by rw [cell_of_row w5 _ 0 _ _ (0, 0) f2]; rfl
  simp [Leaves, settle, results, Try.results26, go_sem, g0, g1, g2, g3, g4, g5]
  exact ⟨rfl, _, HS5.out⟩
end Go.Proofs.Ytoimkmoalmmooaa.Own
set_option linter.unusedVariables false
set_option linter.unusedSimpArgs false
namespace Go.Proofs.Ytoimkmoalmmooaa.Own
open Go.RowKit Go.Proofs.YtoimkmoalmmooaaW.PrintWords Go.Proofs.YtoimkmoalmmooaaW.PrintLast Go.Proofs.YtoimkmoalmmooaaW.PrintMore Go.Proofs.Ytoimkmoalmmooaa.Base Go.Proofs.Ytoimkmoalmmooaa.Gv Go.Proofs.Ytoimkmoalmmooaa.Given Go.Proofs.Ytoimkmoalmmooaa.QA Go.Proofs.Ytoimkmoalmmooaa.PrX
abbrev Ans := S32
def stepX (dn : Bool) (L : List KVx) (s : Step) : Bool :=
  decide (L.length ≤ 1099511627775 ∧ s.f1.size ≤ 1099511627775 ∧ s.f2.size ≤ 1099511627775) && ((decide (s.f0 = 0 ∨ s.f0 = 1 ∨ s.f0 = 9) && decide (s.f1.size = 0)) || (decide (s.f0 = 4) && (setGo dn s.f2.size (ns s.f2) [] false).isNone))
theorem trailer_panics (l : Nat → Nat) (w : World) (q p n : Nat) (V kv vv : Value) (S : List Slot) (kx vx : List Int) (dn : Bool) (h : TrC l w q p V n S kv kx vv vx dn) (s : Step) (hx : stepX dn (kvs S n) s = true) :
    Calls Try.prog 26 #[.pointer (some ⟨p, 0, none⟩), .agg #[.int .i64 s.f0, .string s.f1, .string s.f2, .int .i64 s.f3, .int .i64 s.f4]] w fun e w' => StepP l w q e w' := by
  unfold stepX at hx
  simp only [Bool.and_eq_true, Bool.or_eq_true, decide_eq_true_eq] at hx
  obtain ⟨⟨hL, h1, h2⟩, hx⟩ := hx
  have hlen := kvs_length h.2.2.2.1.le
  rw [hlen] at hL
  rcases hx with ⟨hd, h0⟩ | ⟨h4, hs⟩
  · rcases hd with hd | hd | hd
    · exact trailer_set_panics l w q p n V kv vv S kx vx dn h hL s h0 (by omega) hd
    · exact trailer_add_panics l w q p n V kv vv S kx vx dn h hL s h0 (by omega) hd
    · exact trailer_upd_panics l w q p n V kv vv S kx vx dn h hL s h0 (by omega) hd
  · exact trailer_names_panics l w q p n V kv vv S kx vx dn h hL s h2 s.f2.size (Nat.le_refl _) (by cases hg : setGo dn s.f2.size (ns s.f2) [] false with
      | none => rfl
      | some x => rw [hg] at hs; cases hs) h4
def scriptF (dn : Bool) (L : List KVx) (acc : List Ans) : List Step → Option (List Ans × ByteArray × Bool)
  | [] => if L.length ≤ 1099511627775 ∧ RgK L ∧ sizeKV L + 2 ≤ 140737488355328 then some (acc, strOfNums (linesOf L ++ [13, 10]), true) else none
  | s :: r => match stepF dn L s with
    | none => if stepX dn L s = true then some (acc, ⟨#[]⟩, false) else none
    | some ((T, is, P), dn', L') => scriptF dn' L' (acc ++ [⟨T, is, 0, [], P⟩]) r
theorem Stp.below0 {q : Nat} (hq : 0 < q) {l l1 : Nat → Nat} {w w1 : World} {B : Nat} (h : Stp (Tz q) l l1 w w1) (hB : B ≤ w.heap.size) (hl : ∀ b, b < B → l b = 0) (hq2 : q + 3 < 64) : Below B w w1 :=
  ⟨h.os, h.tape, h.output, h.size, fun b hb => h.block b (by omega) (by rw [hl b hb]; unfold Tz; omega)⟩
theorem S_stp {α : Type} {d : Kd α} {e base q : Nat} {l l1 : Nat → Nat} {w w1 : World} {v : Value} {xs : List α} (hq : 0 < q) (hq2 : q + 3 < 64) (h : Kd.S d e w base (fun k => l k = 0) v xs) (s : Stp (Tz q) l l1 w w1) : Kd.S d e w1 base (fun k => l1 k = 0 ∧ k < w.heap.size) v xs := by
  refine Kd.S_mono (Kd.S_step (Kd.S_bound h) (fun k hk hlt => s.block k hlt (by rw [hk.1]; unfold Tz; omega))) (fun k hk => ⟨by rw [s.lab k hk.2.2.1]; exact hk.1, hk.2.2.1⟩)
end Go.Proofs.Ytoimkmoalmmooaa.Own
set_option linter.unusedVariables false
set_option linter.unusedSimpArgs false
namespace Go.Proofs.Ytoimkmoalmmooaa.Own
open Go.RowKit Go.Proofs.YtoimkmoalmmooaaW.PrintWords Go.Proofs.YtoimkmoalmmooaaW.PrintLast Go.Proofs.YtoimkmoalmmooaaW.PrintMore Go.Proofs.Ytoimkmoalmmooaa.Base Go.Proofs.Ytoimkmoalmmooaa.Gv Go.Proofs.Ytoimkmoalmmooaa.Given Go.Proofs.Ytoimkmoalmmooaa.QA Go.Proofs.Ytoimkmoalmmooaa.PrX
def lab1 (p : Nat) : Nat → Nat := fun b => if b = p then 1 else 0
theorem newT (w : World) : TrC (lab1 w.heap.size) (w.alloc (.cells #[.slice none 0 0, .slice none 0 0, .slice none 0 0, .bool false, .bool false] 58)) 1 w.heap.size (.slice none 0 0) 0 [] (.slice none 0 0) [] (.slice none 0 0) [] false :=
  ⟨by omega, by omega, ⟨heap_alloc_new _ _, if_pos rfl⟩, ⟨by omega, by simp, .inl ⟨rfl, rfl, rfl⟩⟩, Bf.nil _ _ _, Bf.nil _ _ _⟩
def MidS (w : World) (dn : Bool) (L : List KVx) (acc : List Ans) (ov : Value) (wr : World) : Prop := ∃ l1 V n S kv kx vv vx, TrC l1 wr 1 w.heap.size V n S kv kx vv vx dn ∧ kvs S n = L ∧ Kd.S k32 32 wr w.heap.size (fun k => l1 k = 0) ov acc ∧ (∀ b, b < w.heap.size → l1 b = 0) ∧ Below w.heap.size w wr
def ScriptT (w : World) (r : List Ans × ByteArray × Bool) (e : Ending) (w' : World) : Prop := ∃ v, e = .returned (.tuple #[v, .string r.2.1, .bool r.2.2]) ∧ Kd.S k32 32 w' w.heap.size (fun _ => True) v r.1 ∧ Below w.heap.size w w'
set_option maxHeartbeats 4000000 in
set_option maxRecDepth 100000 in
theorem script_calls (A0 : Option Addr) (c0 : Nat) (xs : List Step) (r : List Ans × ByteArray × Bool) (w : World) (hr0 : Kd.C k28 w A0 xs.length xs) (hc0 : xs.length ≤ c0) (hN : xs.length ≤ 1000000000) (h : scriptF false [] [] xs = some r) :
    Calls Try.prog 9 #[.slice A0 xs.length c0] w fun e w' => ScriptT w r e w' := by
  have hinfo : (Try.prog.info? 32).map (fun i => (i.zero, i.size, i.bytes)) = some (some (.agg #[.string ⟨#[]⟩, .bool false, .int .i64 0, .slice none 0 0, .slice none 0 0]), 5, 80) := by kernel_rfl
  have hmid : MidS w false [] [] (.slice none 0 0) (w.alloc (.cells #[.slice none 0 0, .slice none 0 0, .slice none 0 0, .bool false, .bool false] 58)) :=
    ⟨lab1 w.heap.size, _, _, _, _, _, _, _, newT w, rfl, Kd.S_nil _ _ _ _ _, fun b hb => if_neg (by omega), (Below.refl _ _).alloc (Nat.le_refl _) _⟩
  obtain ⟨N, hNN⟩ : ∃ n, xs.length = n := ⟨_, rfl⟩
  rw [hNN] at hN hc0 ⊢
  have HNN := Lib.hid hNN
  have HR0 := Lib.hid hr0
  have HMID := Lib.hid hmid
  have HGO := Lib.hid h
  have HI := Lib.hid hinfo
  clear hr0 h hmid hNN hinfo
  go_enter Try.func9, Try.ntmps9
  go_wp2
  go_loopw [6, 15] (fun ov iv wr => ∃ (x : Int) (dn : Bool) (L : List KVx) (acc : List Ans), iv = .int .i64 x ∧ 0 ≤ x ∧ x ≤ (N : Int) ∧ Hid (scriptF dn L acc (xs.drop x.toNat) = some r) ∧ Hid (MidS w dn L acc ov wr) ∧ Hid (acc.length ≤ x.toNat)) (fun _ iv _ => N - (intOf iv).toNat)
  case atStart => exact ⟨0, false, [], [], rfl, by omega, by omega, HGO, HMID, Lib.hid (by simp)⟩
  case round =>
    obtain ⟨x, dn, L, acc, rfl, hx0, hxN, HGO, HMS, HAL⟩ := hrel
    obtain ⟨l1, V, n, S, kv, kx, vv, vx, hT, hkv, hS, hz, hb⟩ := HMS.out
    by_cases hlt : x < (N : Int)
    · obtain ⟨s, r', hdr⟩ : ∃ s r', xs.drop x.toNat = s :: r' := by
        have : x.toNat < xs.length := by have := HNN.out; omega
        exact ⟨_, _, List.drop_eq_getElem_cons this⟩
      have hrd : rd_T28 xs x = s := by
        unfold rd_T28
        have h2 : xs[x.toNat]? = some s := by
          have := congrArg (fun q => q[0]?) hdr
          simpa [List.getElem?_drop] using this
        rw [List.getD_eq_getElem?_getD, h2]; rfl
      have hdr2 : xs.drop (x + 1).toNat = r' := by
        have := congrArg (fun q => q.drop 1) hdr
        simp only [List.drop_drop, List.drop_succ_cons, List.drop_zero] at this
        rw [show (x + 1).toNat = x.toNat + 1 by omega]; exact this
      have hgo := HGO.out
      rw [hdr, scriptF] at hgo
      have hq : x < (xs.length : Int) := by have := HNN.out; omega
      obtain ⟨ad, e0, y0, y1, y2, y3, y4⟩ := at_T28 HR0.out x hx0 hq
      cases e0
      rw [hrd] at y0 y1 y2 y3 y4
      replace y0 := (hb.cell (World.block_lt_of_cell? w _ y0)).trans y0
      replace y1 := (hb.cell (World.block_lt_of_cell? w _ y1)).trans y1
      replace y2 := (hb.cell (World.block_lt_of_cell? w _ y2)).trans y2
      replace y3 := (hb.cell (World.block_lt_of_cell? w _ y3)).trans y3
      replace y4 := (hb.cell (World.block_lt_of_cell? w _ y4)).trans y4
      -- the step's box
      obtain ⟨W1, hW1⟩ : ∃ X, wr.alloc (.cells #[.int .i64 s.f0, .string s.f1, .string s.f2, .int .i64 s.f3, .int .i64 s.f4] 28) = X := ⟨_, rfl⟩
      have hb1 : Below wr.heap.size wr W1 := by rw [← hW1]; exact (Below.refl _ _).alloc (Nat.le_refl _) _
      have hs1 : W1.heap.size = wr.heap.size + 1 := by rw [← hW1]; simp
      have st1 := Stp.of_below hb1 (Tz 1) l1 0
      have hT1 := hT.keep (Stp.of_below hb1 (fun _ => False) l1 0) (fun _ k => k.elim)
      have hS1 := S_stp (by omega) (by omega) hS st1
      cases hst : stepF dn L s with
      | none =>
        rw [hst] at hgo
        by_cases hxx : stepX dn L s = true
        · have hgo2 : some (acc, (⟨#[]⟩ : ByteArray), false) = some r := by
            have : (if stepX dn L s = true then some (acc, (⟨#[]⟩ : ByteArray), false) else none) = some r := hgo
            rw [if_pos hxx] at this; exact this
          injection hgo2 with hgo2
          subst hgo2
          have hcall := trailer_panics _ W1 1 w.heap.size n V kv vv S kx vx dn hT1 s (by rw [hkv]; exact hxx)
          have HW1 := Lib.hid hW1
          have HS1 := Lib.hid hs1
          have HB := Lib.hid hb
          have HZ := Lib.hid hz
          have HSS := Lib.hid hS1
          have HCALL := Lib.hid hcall
          clear hT hkv hS hz hb hdr hrd hdr2 hgo hst hq hb1 hs1 st1 hT1 hS1 hcall hW1 HGO HMS hxx
          go_wp2_with (
            go_at_call 26
            rw [HW1.out]
            refine HCALL.out.mono ?_
            rintro e w4 ⟨rfl, l3, t4⟩
            have hb4 : Below w.heap.size W1 w4 := t4.below0 (by omega) (by have := HS1.out; have := HB.out.size; omega) (fun b hb => (ext_old l1 (by have := HB.out.size; omega)).trans (HZ.out b hb)) (by omega)
            have hb1 : Below wr.heap.size wr W1 := by rw [← HW1.out]; exact (Below.refl _ _).alloc (Nat.le_refl _) _
            have hbw : Below w.heap.size w w4 := (HB.out.trans (below_weaken_t HB.out.size hb1)).trans hb4
            have hSw : Kd.S k32 32 w4 w.heap.size (fun k => ext l1 wr.heap.size 0 k = 0 ∧ k < wr.heap.size) u6 acc := Kd.S_step HSS.out (fun k hk hlt => t4.block k hlt (by rw [hk.1]; unfold Tz; omega))
            have TB := Lib.hid hbw
            have TS := Lib.hid hSw
            clear t4 hb4 hb1 hbw hSw)
          go_ret3
          exact ⟨u6, by simp [Act.put], Kd.S_mono (Kd.S_below TS.out ((Below.refl _ _).alloc (Nat.le_refl _) _)) (fun _ _ => trivial), TB.out.trans (below_weaken_t TB.out.size ((Below.refl _ _).alloc (Nat.le_refl _) _))⟩
        · have : (if stepX dn L s = true then some (acc, (⟨#[]⟩ : ByteArray), false) else none) = some r := hgo
          rw [if_neg hxx] at this; cases this
      | some y =>
      obtain ⟨⟨T, is, P⟩, dn', L'⟩ := y
      rw [hst] at hgo
      have hgo2 : scriptF dn' L' (acc ++ [⟨T, is, 0, [], P⟩]) r' = some r := hgo
      have hcall := trailer_calls _ W1 1 w.heap.size n V kv vv S kx vx dn hT1 s _ (by rw [hkv]; exact hst)
      have HW1 := Lib.hid hW1
      have HS1 := Lib.hid hs1
      have HB := Lib.hid hb
      have HZ := Lib.hid hz
      have HSS := Lib.hid hS1
      have HCALL := Lib.hid hcall
      have HGO2 := Lib.hid hgo2
      have HDR := Lib.hid hdr2
      have HST1 := Lib.hid st1
      clear hT hkv hS hz hb hdr hrd hdr2 hgo hst hgo2 hq hb1 hs1 st1 hT1 hS1 hcall hW1 HGO HMS
      have hwS := (Kd.S_R HSS.out).1
      have HOWN := Lib.hid (show ∀ k, u6.ownBlock = some k → ext l1 wr.heap.size 0 k = 0 ∧ k < wr.heap.size from fun k hk => hwS k hk)
      clear hwS
      go_wp2_with (first
        | (go_at_call 26
           rw [HW1.out]
           refine HCALL.out.mono ?_
           rintro e w4 ⟨l3, V1, n1, S1, kv1, kx1, vv1, vx1, PV, rfl, t1, t2, t3, t4⟩
           have t3 : Kd.R k34 34 w4 W1.heap.size (fun k => l3 k = 0) PV P := t3
           obtain ⟨PA, pc, rfl⟩ := Kd.R_slice t3
           obtain ⟨PN, hPN⟩ : ∃ k, P.length = k := ⟨_, rfl⟩
           rw [hPN] at t3
           simp only
           rw [hPN]
           have hb4 : Below w.heap.size W1 w4 := t4.below0 (by omega) (by have := HS1.out; have := HB.out.size; omega) (fun b hb => (ext_old l1 (by have := HB.out.size; omega)).trans (HZ.out b hb)) (by omega)
           have hb1 : Below wr.heap.size wr W1 := by rw [← HW1.out]; exact (Below.refl _ _).alloc (Nat.le_refl _) _
           have hbw : Below w.heap.size w w4 := (HB.out.trans (below_weaken_t HB.out.size hb1)).trans hb4
           have hSw : Kd.S k32 32 w4 w.heap.size (fun k => ext l1 wr.heap.size 0 k = 0 ∧ k < wr.heap.size) u6 acc := Kd.S_step HSS.out (fun k hk hlt => t4.block k hlt (by rw [hk.1]; unfold Tz; omega))
           have hlab : ∀ k, k < wr.heap.size → l3 k = ext l1 wr.heap.size 0 k := fun k hk => t4.lab k (by have := HS1.out; omega)
           have T1 := Lib.hid t1
           have T2 := Lib.hid t2
           have T3 := Lib.hid t3
           have TB := Lib.hid hbw
           have TS := Lib.hid hSw
           have TL := Lib.hid hlab
           have TZ := Lib.hid (show w.heap.size ≤ wr.heap.size ∧ wr.heap.size ≤ W1.heap.size ∧ W1.heap.size ≤ w4.heap.size from ⟨HB.out.size, by have := HS1.out; omega, hb4.size⟩)
           clear t1 t2 t3 t4 hb4 hb1 hbw hSw hlab hPN)
        | (at_builtin
           obtain ⟨W5, hW5⟩ : ∃ X, w4.alloc (.cells #[.string T, .bool is, .int .i64 0, .slice none 0 0, .slice PA PN pc] 32) = X := ⟨_, rfl⟩
           rw [hW5]
           have b5 : Below w4.heap.size w4 W5 := by rw [← hW5]; exact (Below.refl _ _).alloc (Nat.le_refl _) _
           have s5 : W5.heap.size = w4.heap.size + 1 := by rw [← hW5]; simp
           have z5 := TZ.out
           have hR4 := Kd.R_mono (Kd.R_bound T3.out) (fun k hk => (⟨(ext_old l3 hk.2.2.1).trans hk.1, Nat.le_trans z5.2.1 hk.2.1⟩ : ext l3 w4.heap.size 0 k = 0 ∧ wr.heap.size ≤ k))
           have hR5 := Kd.R_lower (base' := w.heap.size) (Kd.R_below hR4 b5) (by omega)
           have hS5 := Kd.S_mono (Kd.S_below TS.out b5) (fun k hk => (⟨by rw [ext_old l3 (by omega), TL.out k hk.2]; exact hk.1, fun h2 => by omega⟩ : ext l3 w4.heap.size 0 k = 0 ∧ ¬ (ext l3 w4.heap.size 0 k = 0 ∧ wr.heap.size ≤ k)))
           have hB5 : Below w.heap.size w W5 := TB.out.trans (below_weaken_t (by omega) b5)
           have hal := HAL.out
           refine Kd.S_append k32 (w0 := w) w.heap.size rfl (.tmp 28) (.tmp 30) 24 32 (.agg #[.string ⟨#[]⟩, .bool false, .int .i64 0, .slice none 0 0, .slice none 0 0]) 80 rfl Try.underlying24 HI.out rfl (by decide) (by omega) u6 acc (⟨T, is, 0, [], P⟩ : Ans) [.string T, .bool is, .int .i64 0, .slice none 0 0, .slice PA PN pc] (fun k => ext l3 w4.heap.size 0 k = 0) (fun k => ext l3 w4.heap.size 0 k = 0 ∧ wr.heap.size ≤ k) (by first | rfl | (go_simp; done)) (by rw [s5]; first | rfl | (go_simp; done)) (k32_mkM _ _ _ _ (Kd.R_nil _ _ _ _ _) hR5) (fun k hk => ⟨hk.1, fun e => by have := HOWN.out k e.symm; omega⟩) (fun k hk => ext_new _ (by omega)) hS5 hB5 (by omega) (by omega) ?_
           intro v6 w6 hr6 hb6 hg6 hat6
           have hT5 := T1.out.keep (Stp.of_below b5 (fun _ => False) l3 0) (fun _ k => k.elim)
           have hs6 : Stp (· = 0) (ext l3 w4.heap.size 0) (ext l3 w4.heap.size 0) W5 w6 := ⟨hg6.os, hg6.tape, hg6.output, hg6.size, fun _ _ => rfl, fun b hb hf => hg6.block b hb (fun e => hf (by
             obtain ⟨o1, o2⟩ := HOWN.out b e.symm
             rw [ext_old l3 (by omega), TL.out b o2]; exact o1))⟩
           have hT6 := hT5.keep hs6 (fun lab e k => by subst e; unfold Tz at k; omega)
           have NS := Lib.hid (show MidS w dn' L' (acc ++ [⟨T, is, 0, [], P⟩]) v6 w6 from ⟨_, _, _, _, _, _, _, _, hT6, T2.out, hr6, fun b hb => by rw [ext_old l3 (by omega), TL.out b (by omega), ext_old l1 (by omega)]; exact HZ.out b hb, hb6⟩)
           clear hT5 hs6 hT6 hr6 hb6 hg6 hat6 hS5 hB5 hR5 hR4 b5 s5 z5 hal hW5))
      go_roundw
      case rel =>
        exact ⟨x + 1, dn', L', _, by go_num, by omega, by omega, Lib.hid (by rw [HDR.out]; exact HGO2.out), NS, Lib.hid (by rw [List.length_append]; have := HAL.out; simp; omega)⟩
      case measure => simp [intOf]; omega
    · obtain rfl : x = (N : Int) := by omega
      have hdr : xs.drop (N : Int).toNat = [] := List.drop_eq_nil_of_le (by have := HNN.out; omega)
      have hgo := HGO.out
      rw [hdr, scriptF] at hgo
      by_cases hg : L.length ≤ 1099511627775 ∧ RgK L ∧ sizeKV L + 2 ≤ 140737488355328
      · rw [if_pos hg] at hgo
        injection hgo with hgo
        subst hgo
        have hlen := kvs_length hT.2.2.2.1.le
        rw [← hkv, hlen] at hg
        obtain ⟨TX, hTX⟩ : ∃ y, strOfNums (linesOf L ++ [13, 10]) = y := ⟨_, rfl⟩
        have HTX := Lib.hid hTX
        have HTY := Lib.hid (show strOfNums (linesOf (kvs S n) ++ [13, 10]) = TX by rw [hkv]; exact hTX)
        have HHM : Hid (∀ m, Calls Try.prog 27 #[.pointer (some ⟨w.heap.size, 0, none⟩)] (wr.drewN m) fun e w' => HeadT l1 (wr.drewN m) 1 w.heap.size n V kv S kx dn (linesOf (kvs S n) ++ [13, 10]) e w') := Lib.hid (fun m => tHeader_calls l1 _ 1 w.heap.size n V kv vv S kx vx dn (hT.keep (drew_stp (fun _ => False) l1 wr m) (fun _ k => k.elim)) hg.1 hg.2.1 hg.2.2)
        have HSD := Lib.hid hS
        have HBD := Lib.hid hb
        have HZ := Lib.hid hz
        have q1 : ((N : Int) < (N : Int)) = False := by simp
        clear hT hkv hS hz hb hdr hg hlen hTX HMS HGO
        go_wp2
        go_region_with (
          go_simp
          go_at_call 27
          refine (HHM.out _).mono ?_
          rintro e w4 ⟨l4, A1, N1, c1, rfl, hN1, hT4, st4⟩
          have hcv := conv_read (c := c1) hT4.2.2.2.2.2.reads
          rw [← hN1] at hcv
          rw [HTY.out] at hcv
          have ST4 := Lib.hid st4
          clear hN1 hT4 st4)
        all_goals (
          go_wp2
          go_ret3
          have st : Stp (Tz 1) l1 l4 wr _ := (drew_stp (Tz 1) l1 wr _).trans ST4.out
          have hb4 := st.below0 (by omega) HBD.out.size HZ.out (by omega)
          have hS4 := Kd.S_mono (Kd.S_step HSD.out (fun k hk hlt => st.block k hlt (by rw [hk]; unfold Tz; omega))) (fun _ _ => trivial)
          exact ⟨u6, by simp [Act.put, HTX.out], hS4, HBD.out.trans hb4⟩)
      · rw [if_neg hg] at hgo; cases hgo
end Go.Proofs.Ytoimkmoalmmooaa.Own
namespace Go.Proofs.Ytoimkmoalmmooaa.Given
open Go.RowKit Go.Proofs.YtoimkmoalmmooaaW.PrintWords Go.Proofs.YtoimkmoalmmooaaW.PrintLast Go.Proofs.YtoimkmoalmmooaaW.PrintMore Go.Proofs.Ytoimkmoalmmooaa.Base Go.Proofs.Ytoimkmoalmmooaa.QA
def impl_TrailerScript.f (l : List S28) : Option (List S32 × ByteArray × Bool) := if l.length ≤ 1000000000 then Own.scriptF false [] [] l else none
theorem impl_TrailerScript.calls (A0 : Option Addr) (c0 : Nat) (l : List S28) (r1 : List S32) (r2 : ByteArray) (r3 : Bool) (w : World) (hr0 : Kd.C k28 w A0 l.length l) (hc0 : l.length ≤ c0) (h : impl_TrailerScript.f l = some (r1, r2, r3)) :
    Calls Try.prog 9 #[.slice A0 l.length c0] w fun e w' => ∃ v, e = .returned (.tuple #[v, .string r2, .bool r3]) ∧ Kd.S k32 32 w' w.heap.size (fun _ => True) v r1 ∧ Below w.heap.size w w' := by
  unfold impl_TrailerScript.f at h
  by_cases hl : l.length ≤ 1000000000
  · rw [if_pos hl] at h
    exact Own.script_calls A0 c0 l (r1, r2, r3) w hr0 hc0 hl h
  · rw [if_neg hl] at h; cases h
end Go.Proofs.Ytoimkmoalmmooaa.Given
namespace Go.Proofs.Ytoimkmoalmmooaa.QA
open Go.Proofs.Ytoimkmoalmmooaa.Given
open Go.Proofs.Ytoimkmoalmmooaa.PrX
open Go.RowKit Go.Proofs.YtoimkmoalmmooaaW.PrintWords Go.Proofs.YtoimkmoalmmooaaW.PrintLast Go.Proofs.YtoimkmoalmmooaaW.PrintMore
set_option linter.unusedVariables false
set_option linter.unusedSimpArgs false
mutual
def laws_FnTrailerUpdates.j0 : Nat → ByteArray → ByteArray → ByteArray → ByteArray → Bool → Option (Bool)
  | 0, _, _, _, _, _ => none
  | k + 1, x0, x1, x2, x3, x37 => if x37 = true then (some true) else ((impl_TrailerScript.f (([(⟨4, (⟨#[]⟩ : ByteArray), (⟨#[88, 45, 65]⟩ : ByteArray), 0, 0⟩ : S28), (⟨9, (⟨#[88, 45, 65]⟩ : ByteArray), (⟨#[99]⟩ : ByteArray), 0, 0⟩ : S28), (⟨3, (⟨#[88, 45, 65]⟩ : ByteArray), (⟨#[]⟩ : ByteArray), 0, 0⟩ : S28)] : List (S28)))).bind fun bt318 => (if bt318.2.2 = true then (if (bt318.1.length : Int) = 3 then (if 2 < (bt318.1.length : Int) then (laws_FnTrailerUpdates.j1 k x0 x1 x2 x3 (((rd_T32 bt318.1 2).f0).toList != ([99] : List UInt8))) else (none)) else (laws_FnTrailerUpdates.j1 k x0 x1 x2 x3 true)) else (laws_FnTrailerUpdates.j1 k x0 x1 x2 x3 true)))
def laws_FnTrailerUpdates.j1 : Nat → ByteArray → ByteArray → ByteArray → ByteArray → Bool → Option (Bool)
  | 0, _, _, _, _, _ => none
  | k + 1, x0, x1, x2, x3, x60 => if x60 = true then (some false) else ((laws_name.f k x0).bind fun t324 => (if t324 = true then ((laws_name.f k x1).bind fun t325 => (if t325 = true then ((laws_low.f x0).bind fun t326 => ((laws_low.f x1).bind fun t327 => (if t326.toList = t327.toList then (laws_FnTrailerUpdates.j2 k x0 x1 x2 x3 true) else ((laws_word.f k x2).bind fun t328 => (if t328 = true then ((laws_word.f k x3).bind fun t329 => (if t329 = true then ((laws_short.f k (([x2, x3] : List ByteArray))).bind fun t333 => (laws_FnTrailerUpdates.j2 k x0 x1 x2 x3 (!t333))) else (laws_FnTrailerUpdates.j2 k x0 x1 x2 x3 true))) else (laws_FnTrailerUpdates.j2 k x0 x1 x2 x3 true)))))) else (laws_FnTrailerUpdates.j2 k x0 x1 x2 x3 true))) else (laws_FnTrailerUpdates.j2 k x0 x1 x2 x3 true)))
def laws_FnTrailerUpdates.j2 : Nat → ByteArray → ByteArray → ByteArray → ByteArray → Bool → Option (Bool)
  | 0, _, _, _, _, _ => none
  | k + 1, x0, x1, x2, x3, x92 => if x92 = true then (some true) else ((laws_normal.f x0).bind fun t334 => ((laws_normal.f x1).bind fun t335 => ((impl_TrailerScript.f (([(⟨4, (⟨#[]⟩ : ByteArray), x0, 0, 0⟩ : S28), (⟨9, t335, x3, 0, 0⟩ : S28), (⟨3, x0, (⟨#[]⟩ : ByteArray), 0, 0⟩ : S28), (⟨9, t334, x2, 0, 0⟩ : S28), (⟨3, x0, (⟨#[]⟩ : ByteArray), 0, 0⟩ : S28), (⟨9, t334, x3, 0, 0⟩ : S28), (⟨3, x0, (⟨#[]⟩ : ByteArray), 0, 0⟩ : S28), (⟨7, (⟨#[]⟩ : ByteArray), (⟨#[]⟩ : ByteArray), 0, 0⟩ : S28)] : List (S28)))).bind fun bt339 => ((impl_TrailerScript.f (([(⟨10, (⟨#[]⟩ : ByteArray), (⟨#[]⟩ : ByteArray), 0, 0⟩ : S28), (⟨1, x0, x2, 0, 0⟩ : S28), (⟨7, (⟨#[]⟩ : ByteArray), (⟨#[]⟩ : ByteArray), 0, 0⟩ : S28)] : List (S28)))).bind fun bt347 => (if bt339.2.2 = true then (if bt347.2.2 = true then (if (bt339.1.length : Int) = 8 then (laws_FnTrailerUpdates.j3 k x0 x2 t334 bt339.1 bt347.1 ((bt347.1.length : Int) != 3)) else (laws_FnTrailerUpdates.j3 k x0 x2 t334 bt339.1 bt347.1 true)) else (laws_FnTrailerUpdates.j3 k x0 x2 t334 bt339.1 bt347.1 true)) else (laws_FnTrailerUpdates.j3 k x0 x2 t334 bt339.1 bt347.1 true))))))
def laws_FnTrailerUpdates.j3 : Nat → ByteArray → ByteArray → ByteArray → List (S32) → List (S32) → Bool → Option (Bool)
  | 0, _, _, _, _, _, _ => none
  | k + 1, x0, x2, x12, x14, x17, x147 => if x147 = true then (some false) else (if 2 < (x14.length : Int) then (if ((rd_T32 x14 2).f0).toList = ([] : List UInt8) then (if 4 < (x14.length : Int) then (if ((rd_T32 x14 4).f0).toList = x2.toList then (if 6 < (x14.length : Int) then (if ((rd_T32 x14 6).f0).toList = x2.toList then (if 7 < (x14.length : Int) then ((laws_samePairs.f k ((rd_T32 x14 7).f4) (([(⟨x12, x2⟩ : S34)] : List (S34)))).bind fun t359 => (if t359 = true then (if 2 < (x17.length : Int) then ((laws_samePairs.f k ((rd_T32 x17 2).f4) (([(⟨x0, x2⟩ : S34)] : List (S34)))).bind fun t364 => (some t364)) else (none)) else (some false))) else (none)) else (some false)) else (none)) else (some false)) else (none)) else (some false)) else (none))
end
def laws_FnTrailerUpdates.f (k : Nat) (a0 : ByteArray) (a1 : ByteArray) (a2 : ByteArray) (a3 : ByteArray) : Option (Bool) := if (a0.size : Int) > 2147483647 then (laws_FnTrailerUpdates.j0 k a0 a1 a2 a3 true) else (if (a1.size : Int) > 2147483647 then (laws_FnTrailerUpdates.j0 k a0 a1 a2 a3 true) else (if (a2.size : Int) > 2147483647 then (laws_FnTrailerUpdates.j0 k a0 a1 a2 a3 true) else (laws_FnTrailerUpdates.j0 k a0 a1 a2 a3 (decide ((a3.size : Int) > 2147483647)))))
def laws_FnTrailerUpdates.Main (a0 a1 a2 a3 : ByteArray) : Prop := (∀ k b, laws_name.f k a0 = some b → b = true) ∧ (∀ k b, laws_name.f k a1 = some b → b = true) ∧ (∀ x y, laws_low.f a0 = some x → laws_low.f a1 = some y → ¬ x.toList = y.toList) ∧ (∀ k b, laws_word.f k a2 = some b → b = true) ∧ (∀ k b, laws_word.f k a3 = some b → b = true) ∧ (∀ k b, laws_short.f k [a2, a3] = some b → b = true)
theorem det_ {α : Type} {F : Nat → Option α} (h : ∀ k, LeO (F k) (F (k + 1))) {k m : Nat} {x y : α} (hx : F k = some x) (hy : F m = some y) : y = x := by
  have up : ∀ d k, LeO (F k) (F (k + d)) := by
    intro d
    induction d with
    | zero => intro k; exact LeO.refl _
    | succ d ih => intro k; exact LeO.trans (ih k) (h (k + d))
  have h1 := up m k x hx
  have h2 := up k m y hy
  rw [Nat.add_comm] at h2
  rw [h2] at h1
  exact Option.some.inj h1
theorem laws_FnTrailerUpdates.Main_mk {a0 a1 a2 a3 x y : ByteArray} {k : Nat} {b : Bool} (h0 : laws_name.f k a0 = some true) (h1 : laws_name.f k a1 = some true) (hx : laws_low.f a0 = some x) (hy : laws_low.f a1 = some y) (hn : ¬ x.toList = y.toList) (h2 : laws_word.f k a2 = some true) (h3 : laws_word.f k a3 = some true) (h4 : laws_short.f k [a2, a3] = some b) (hb : b = true) : laws_FnTrailerUpdates.Main a0 a1 a2 a3 := by
  subst hb
  refine ⟨fun m c h => det_ (laws_name.mono a0) h0 h, fun m c h => det_ (laws_name.mono a1) h1 h, fun u v hu hv => ?_, fun m c h => det_ (laws_word.mono a2) h2 h, fun m c h => det_ (laws_word.mono a3) h3 h, fun m c h => det_ (laws_short.mono [a2, a3]) h4 h⟩
  rw [hx] at hu
  rw [hy] at hv
  injection hu with hu
  injection hv with hv
  subst hu hv
  exact hn
theorem laws_FnTrailerUpdates.no_j3 {r : Bool} (hr : r = true) : ∀ k y1 y2 y3 y4 y5, laws_FnTrailerUpdates.j3 k y1 y2 y3 y4 y5 true = some r → False := by
  intro k y1 y2 y3 y4 y5 h
  cases k with
  | zero => simp [laws_FnTrailerUpdates.j3] at h
  | succ k =>
    simp only [laws_FnTrailerUpdates.j3] at h
    rw [if_pos trivial] at h
    exact absurd ((Option.some.inj h).trans hr) (by decide)
def laws_FnTrailerUpdates.Pure : Prop := ∀ (a0 : ByteArray) (a1 : ByteArray) (a2 : ByteArray) (a3 : ByteArray), a0.size ≤ 140737488351232 → a1.size ≤ 140737488351232 → a2.size ≤ 140737488351232 → a3.size ≤ 140737488351232 → ∃ k, laws_FnTrailerUpdates.f k a0 a1 a2 a3 = some true
end Go.Proofs.Ytoimkmoalmmooaa.QA
namespace Go.Proofs.Ytoimkmoalmmooaa.QA
open Go.Proofs.Ytoimkmoalmmooaa.Given
open Go.Proofs.Ytoimkmoalmmooaa.PrX
open Go.RowKit Go.Proofs.YtoimkmoalmmooaaW.PrintWords Go.Proofs.YtoimkmoalmmooaaW.PrintLast Go.Proofs.YtoimkmoalmmooaaW.PrintMore
set_option linter.unusedVariables false
set_option linter.unusedSimpArgs false
set_option maxHeartbeats 8000000 in
set_option maxRecDepth 100000 in
theorem laws_FnTrailerUpdates.early (k : Nat) (a0 : ByteArray) (a1 : ByteArray) (a2 : ByteArray) (a3 : ByteArray) (r : Bool) (w : World) (hne : ¬ laws_FnTrailerUpdates.Main a0 a1 a2 a3) (h : laws_FnTrailerUpdates.f k a0 a1 a2 a3 = some r) :
  Calls Try.prog 4 #[.string a0, .string a1, .string a2, .string a3] w fun e w' => e = .returned (.bool r) ∧ Below w.heap.size w w' := by
 have HE_ := Aside0.mk hne
 clear hne
 have hu28 := Try.underlying28
 have hu34 := Try.underlying34
 have HB := Aside0.mk (Below.refl w.heap.size w)
 have H : (if (a0.size : Int) > 2147483647 then (laws_FnTrailerUpdates.j0 k a0 a1 a2 a3 true) else (if (a1.size : Int) > 2147483647 then (laws_FnTrailerUpdates.j0 k a0 a1 a2 a3 true) else (if (a2.size : Int) > 2147483647 then (laws_FnTrailerUpdates.j0 k a0 a1 a2 a3 true) else (laws_FnTrailerUpdates.j0 k a0 a1 a2 a3 (decide ((a3.size : Int) > 2147483647)))))) = some r := h
 clear h
 have HC5 := Aside0.mk H
 clear H
 go_enter Try.func4, Try.ntmps4
 go_upto_region 1 with (fail)
 go_cut [37] (fun v37 wc => ∃ (kq : Nat) (x37_4 : Bool), v37 = .bool x37_4 ∧ Aside0 (laws_FnTrailerUpdates.j0 kq a0 a1 a2 a3 x37_4 = some r) ∧ Aside0 (kq ≤ k) ∧ Aside0 (Below w.heap.size w wc))
 case first =>
  have H := HC5.out
  clear HC5
  by_cases c6 : (a0.size : Int) > 2147483647
  ·rw [if_pos c6] at H
   have c6b0 : decide (2147483647 < (a0.size : Int)) = true := decide_eq_true c6
   have c6b1 : decide (2147483647 < a0.size) = true := decide_eq_true (by omega)
   clear c6
   (first | rw [c6b0] | (simp only [i64_w, i32_w]; rw [c6b0]) | skip)
   have H' := Aside0.mk H
   clear H
   go_wp2
   go_meet
   case rel => exact ⟨_, (true), (by first | rfl | (simp; done) | (rw [prx_ne]; first | done | rfl) | (simp [*]; done)), H', ⟨by first | omega | exact Nat.le_refl _⟩, ⟨by repeat (first | (with_reducible first | exact HB.out | apply below_alloc | apply pw_below_drewN | apply below_drew1) | exact HB.out)⟩⟩
  ·rw [if_neg c6] at H
   have c6b0 : decide (2147483647 < (a0.size : Int)) = false := decide_eq_false c6
   have c6b1 : decide (2147483647 < a0.size) = false := decide_eq_false (by omega)
   clear c6
   (first | rw [c6b0] | (simp only [i64_w, i32_w]; rw [c6b0]) | skip)
   by_cases c7 : (a1.size : Int) > 2147483647
   ·rw [if_pos c7] at H
    have c7b0 : decide (2147483647 < (a1.size : Int)) = true := decide_eq_true c7
    have c7b1 : decide (2147483647 < a1.size) = true := decide_eq_true (by omega)
    clear c7
    have H' := Aside0.mk H
    clear H
    go_wp2
    go_meet
    case rel => exact ⟨_, (true), (by first | rfl | (simp; done) | (rw [prx_ne]; first | done | rfl) | (simp [*]; done)), H', ⟨by first | omega | exact Nat.le_refl _⟩, ⟨by repeat (first | (with_reducible first | exact HB.out | apply below_alloc | apply pw_below_drewN | apply below_drew1) | exact HB.out)⟩⟩
   ·rw [if_neg c7] at H
    have c7b0 : decide (2147483647 < (a1.size : Int)) = false := decide_eq_false c7
    have c7b1 : decide (2147483647 < a1.size) = false := decide_eq_false (by omega)
    clear c7
    by_cases c8 : (a2.size : Int) > 2147483647
    ·rw [if_pos c8] at H
     have c8b0 : decide (2147483647 < (a2.size : Int)) = true := decide_eq_true c8
     have c8b1 : decide (2147483647 < a2.size) = true := decide_eq_true (by omega)
     clear c8
     have H' := Aside0.mk H
     clear H
     go_wp2
     go_meet
     case rel => exact ⟨_, (true), (by first | rfl | (simp; done) | (rw [prx_ne]; first | done | rfl) | (simp [*]; done)), H', ⟨by first | omega | exact Nat.le_refl _⟩, ⟨by repeat (first | (with_reducible first | exact HB.out | apply below_alloc | apply pw_below_drewN | apply below_drew1) | exact HB.out)⟩⟩
    ·rw [if_neg c8] at H
     have c8b0 : decide (2147483647 < (a2.size : Int)) = false := decide_eq_false c8
     have c8b1 : decide (2147483647 < a2.size) = false := decide_eq_false (by omega)
     clear c8
     have H' := Aside0.mk H
     clear H
     go_wp2
     go_meet
     case rel => exact ⟨_, (decide ((a3.size : Int) > 2147483647)), (by first | rfl | (simp; done) | (rw [prx_ne]; first | done | rfl) | (simp [*]; done)), H', ⟨by first | omega | exact Nat.le_refl _⟩, ⟨by repeat (first | (with_reducible first | exact HB.out | apply below_alloc | apply pw_below_drewN | apply below_drew1) | exact HB.out)⟩⟩
 case rest =>
  clear HC5
  try clear p2
  try clear c4
  try clear c6
  try clear c6b0
  try clear c6b1
  try clear c7
  try clear c7b0
  try clear c7b1
  try clear c8
  try clear c8b0
  try clear c8b1
  obtain ⟨kq, x37_4, rfl, HA, HJ4, HB⟩ := hcut
  cases kq with
  | zero => exact absurd HA.out (by simp [laws_FnTrailerUpdates.j0])
  | succ kj4 =>
   have H := HA.out
   clear HA
   simp only [laws_FnTrailerUpdates.j0] at H
   by_cases c9 : x37_4 = true
   ·subst c9
    have H1 : (some true) = some r := by rw [if_pos rfl] at H; exact H
    clear H
    have H := H1
    clear H1
    obtain rfl := Option.some.inj H
    go_wp2
    go_ret
    exact ⟨by first | rfl | (simp [errW_none, errW_some] <;> rfl) | (simp [*, errW_none, errW_some] <;> rfl), by repeat (first | (with_reducible first | exact HB.out | apply below_alloc | apply pw_below_drewN | apply below_drew1) | exact HB.out)⟩
   ·replace c9 := Bool.eq_false_iff.mpr c9
    subst c9
    have H1 : ((impl_TrailerScript.f (([(⟨4, (⟨#[]⟩ : ByteArray), (⟨#[88, 45, 65]⟩ : ByteArray), 0, 0⟩ : S28), (⟨9, (⟨#[88, 45, 65]⟩ : ByteArray), (⟨#[99]⟩ : ByteArray), 0, 0⟩ : S28), (⟨3, (⟨#[88, 45, 65]⟩ : ByteArray), (⟨#[]⟩ : ByteArray), 0, 0⟩ : S28)] : List (S28)))).bind fun bt318 => (if bt318.2.2 = true then (if (bt318.1.length : Int) = 3 then (if 2 < (bt318.1.length : Int) then (laws_FnTrailerUpdates.j1 kj4 a0 a1 a2 a3 (((rd_T32 bt318.1 2).f0).toList != ([99] : List UInt8))) else (none)) else (laws_FnTrailerUpdates.j1 kj4 a0 a1 a2 a3 true)) else (laws_FnTrailerUpdates.j1 kj4 a0 a1 a2 a3 true))) = some r := by rw [if_neg (show ¬ (false = true) by decide)] at H; exact H
    clear H
    have H := H1
    clear H1
    obtain ⟨y315, hy315⟩ : ∃ y_ : List (S28), y_ = (([(⟨4, (⟨#[]⟩ : ByteArray), (⟨#[88, 45, 65]⟩ : ByteArray), 0, 0⟩ : S28), (⟨9, (⟨#[88, 45, 65]⟩ : ByteArray), (⟨#[99]⟩ : ByteArray), 0, 0⟩ : S28), (⟨3, (⟨#[88, 45, 65]⟩ : ByteArray), (⟨#[]⟩ : ByteArray), 0, 0⟩ : S28)] : List (S28))) := ⟨_, rfl⟩
    replace H : ((impl_TrailerScript.f y315).bind fun bt318 => (if bt318.2.2 = true then (if (bt318.1.length : Int) = 3 then (if 2 < (bt318.1.length : Int) then (laws_FnTrailerUpdates.j1 kj4 a0 a1 a2 a3 (((rd_T32 bt318.1 2).f0).toList != ([99] : List UInt8))) else (none)) else (laws_FnTrailerUpdates.j1 kj4 a0 a1 a2 a3 true)) else (laws_FnTrailerUpdates.j1 kj4 a0 a1 a2 a3 true))) = some r := by first | (rw [hy315]; with_reducible exact H) | (have H2_ := (Option.bind_some _ _).symm.trans H; rw [hy315]; with_reducible exact H2_) | (have H2_ := (Option.bind_some _ _).symm.trans H; with_reducible exact H2_) | with_reducible exact H | (rw [hy315]; exact H) | exact H
    have Ny315 := Aside0.mk hy315
    clear hy315
    replace H := Option.bind_eq_some_iff.mp H
    obtain ⟨⟨t318, t319, t320⟩, A100, H⟩ := H
    replace H : (if t320 = true then (if (t318.length : Int) = 3 then (if 2 < (t318.length : Int) then (laws_FnTrailerUpdates.j1 kj4 a0 a1 a2 a3 (((rd_T32 t318 2).f0).toList != ([99] : List UInt8))) else (none)) else (laws_FnTrailerUpdates.j1 kj4 a0 a1 a2 a3 true)) else (laws_FnTrailerUpdates.j1 kj4 a0 a1 a2 a3 true)) = some r := H
    have A10 := Aside0.mk A100
    clear A100
    have HC11 := Aside0.mk H
    clear H
    go_upto_region 4 with (first | ((with_reducible refine gate_dst (N := 42) rfl ?_); (try (refine gate_guard (by rfl) ?_; dsimp only)); refine Kd.R_lit k28 _ 28 ?hg (N := 42) ?hd (xs := ([(⟨4, (⟨#[]⟩ : ByteArray), (⟨#[88, 45, 65]⟩ : ByteArray), 0, 0⟩ : S28), (⟨9, (⟨#[88, 45, 65]⟩ : ByteArray), (⟨#[99]⟩ : ByteArray), 0, 0⟩ : S28), (⟨3, (⟨#[88, 45, 65]⟩ : ByteArray), (⟨#[]⟩ : ByteArray), 0, 0⟩ : S28)] : List (S28))) (inner := [.int .i64 4, .string (⟨#[]⟩ : ByteArray), .string (⟨#[88, 45, 65]⟩ : ByteArray), .int .i64 0, .int .i64 0, .int .i64 9, .string (⟨#[88, 45, 65]⟩ : ByteArray), .string (⟨#[99]⟩ : ByteArray), .int .i64 0, .int .i64 0, .int .i64 3, .string (⟨#[88, 45, 65]⟩ : ByteArray), .string (⟨#[]⟩ : ByteArray), .int .i64 0, .int .i64 0]) (ok := fun _ => True) (okp := fun _ => True) ?hr ?hp (fun _ hk => hk) trivial (Below.refl _ _) (Nat.le_refl _) (by simp) ?_; (case hd => rfl); (case hg => rfl); (case hr => first | (go_simp; done) | (go_simp; rfl)); (case hp => exact (Reps.c5 (show Kd.M k28 _ _ _ (⟨4, (⟨#[]⟩ : ByteArray), (⟨#[88, 45, 65]⟩ : ByteArray), 0, 0⟩ : S28) [.int .i64 4, .string (⟨#[]⟩ : ByteArray), .string (⟨#[88, 45, 65]⟩ : ByteArray), .int .i64 0, .int .i64 0] from (k28_mkM _ _ _ (⟨4, (⟨#[]⟩ : ByteArray), (⟨#[88, 45, 65]⟩ : ByteArray), 0, 0⟩ : S28) )) (Reps.c5 (show Kd.M k28 _ _ _ (⟨9, (⟨#[88, 45, 65]⟩ : ByteArray), (⟨#[99]⟩ : ByteArray), 0, 0⟩ : S28) [.int .i64 9, .string (⟨#[88, 45, 65]⟩ : ByteArray), .string (⟨#[99]⟩ : ByteArray), .int .i64 0, .int .i64 0] from (k28_mkM _ _ _ (⟨9, (⟨#[88, 45, 65]⟩ : ByteArray), (⟨#[99]⟩ : ByteArray), 0, 0⟩ : S28) )) (Reps.c5 (show Kd.M k28 _ _ _ (⟨3, (⟨#[88, 45, 65]⟩ : ByteArray), (⟨#[]⟩ : ByteArray), 0, 0⟩ : S28) [.int .i64 3, .string (⟨#[88, 45, 65]⟩ : ByteArray), .string (⟨#[]⟩ : ByteArray), .int .i64 0, .int .i64 0] from (k28_mkM _ _ _ (⟨3, (⟨#[88, 45, 65]⟩ : ByteArray), (⟨#[]⟩ : ByteArray), 0, 0⟩ : S28) )) (Reps.none _ _))))); intro v316 w12 ho13 hb hg_ hnew_; clear hg_ hnew_; (first | rw [← Ny315.out] at ho13 | (simp only [Int.reduceToNat] at ho13; rw [← Ny315.out] at ho13)); have n0_ := Aside0.mk (Kd.R_lower ho13 (below_size (by repeat (first | (with_reducible first | exact HB.out | apply below_alloc | apply pw_below_drewN | apply below_drew1) | exact HB.out)))); have n1_ := Aside0.mk (below_step (by repeat (first | (with_reducible first | exact HB.out | apply below_alloc | apply pw_below_drewN | apply below_drew1) | exact HB.out)) hb); clear HB; have HO317 := n0_; have HB := n1_; clear n0_ n1_; clear hb ho13; obtain ⟨Ao14, co14, eo14⟩ := Kd.R_slice HO317.out; subst eo14) | ((with_reducible refine gate_callee (f := 9) rfl ?_); refine goesL_ (some 43) rfl rfl Try.func9 (by kernel_rfl) rfl #[.slice Ao14 y315.length co14] rfl (by (try simp only [List.map_toArray, List.map_cons, List.map_nil]); first | done | rfl | (simp only [List.length_drop, List.length_take]; rfl)) ?_; (with_reducible refine (impl_TrailerScript.calls _ _ y315 t318 t319 t320 _ ?side1 ?side2 A10.out).mono ?_); (case side1 => repeat (first | exact (Kd.R_reads' HO317.out).2.2 | (with_reducible refine Kd.C_alloc ?_ _) | (with_reducible refine Kd.C_drewN ?_ _) | (with_reducible refine Kd.C_drew ?_))); (case side2 => exact (Kd.R_reads' HO317.out).2.1); rintro e w15 ⟨v321, rfl, ho0, hb⟩; refine ⟨_, rfl, ?_⟩; have n0_ := Aside0.mk (Kd.R_below (by (with_reducible repeat (first | apply Kd.R_alloc | apply Kd.R_drewN | apply Kd.R_drew)); exact HO317.out) hb); have n1_ := Aside0.mk (Kd.S_lower ho0 (below_size (by repeat (first | (with_reducible first | exact HB.out | apply below_alloc | apply pw_below_drewN | apply below_drew1) | exact HB.out)))); have n2_ := Aside0.mk (below_step (by repeat (first | (with_reducible first | exact HB.out | apply below_alloc | apply pw_below_drewN | apply below_drew1) | exact HB.out)) hb); clear HO317; clear HB; have HO317 := n0_; have HO322 := n1_; have HB := n2_; clear n0_ n1_ n2_; (try clear hb); (try clear hb2); (try clear hk); (try clear hi); (try clear ho0)))
    (try simp only [Act.put, List.setIfInBounds_toArray, List.set_cons_zero, List.set_cons_succ])
    go_cut [60] (fun v60 wc => ∃ (kq : Nat) (x60_10 : Bool), v60 = .bool x60_10 ∧ Aside0 (laws_FnTrailerUpdates.j1 kq a0 a1 a2 a3 x60_10 = some r) ∧ Aside0 (kq ≤ kj4) ∧ Aside0 (Below w.heap.size w wc))
    case first =>
     have H := HC11.out
     clear HC11
     by_cases c16 : t320 = true
     ·subst c16
      have H1 : (if (t318.length : Int) = 3 then (if 2 < (t318.length : Int) then (laws_FnTrailerUpdates.j1 kj4 a0 a1 a2 a3 (((rd_T32 t318 2).f0).toList != ([99] : List UInt8))) else (none)) else (laws_FnTrailerUpdates.j1 kj4 a0 a1 a2 a3 true)) = some r := by rw [if_pos rfl] at H; exact H
      clear H
      have H := H1
      clear H1
      by_cases c17 : (t318.length : Int) = 3
      ·rw [if_pos c17] at H
       have c17b0 : ((t318.length : Int) == 3) = true := beq_iff_eq.mpr c17
       have c17b1 : ((t318.length : Int) != 3) = false := bne_eq_false_iff_eq.mpr c17
       clear c17
       (first | rw [c17b0] | (simp only [i64_w, i32_w]; rw [c17b0]) | skip)
       by_cases c18 : 2 < (t318.length : Int)
       ·rw [if_pos c18] at H
        have c18b0 : decide (2 < (t318.length : Int)) = true := decide_eq_true c18
        have c18b1 : decide (2 < t318.length) = true := decide_eq_true (by omega)
        clear c18
        have H' := Aside0.mk H
        clear H
        obtain ⟨Ao19, co19, eo19⟩ := Kd.S_slice HO322.out
        subst eo19
        have p323 : 0 ≤ (2 : Int) := (by omega)
        have q323 : 2 < (t318.length : Int) := of_decide_eq_true (by first | (with_reducible assumption) | assumption)
        obtain ⟨ad323, A323_3, c323_3, A323_4, c323_4, e323, hx323_0, hx323_1, hx323_2, hx323_3, hx323_4, hl323_3, hi323_3, hl323_4, hi323_4⟩ := at_T32 (Kd.S_reads' HO322.out).2.2 2 p323 q323
        cases e323
        obtain ⟨ce323, hce323, hMe323, hcc323⟩ := Kd.S_get HO322.out z32 2 p323 (by first | exact q323 | exact of_decide_eq_true (by first | (with_reducible assumption) | assumption) | (have e_ := (Kd.S_reads' HO322.out).1; omega))
        obtain ⟨ve323_3, ve323_4, rfl, ge323_3, ge323_4⟩ := k32_openM hMe323
        have hv323_3 := hcc323 3 _ rfl
        rw [add_field _ _ 3 (by omega)] at hv323_3
        replace hv323_3 := Option.some.inj (hv323_3.symm.trans hx323_3)
        rw [hv323_3] at ge323_3
        have HL323_3 := Aside0.mk (show Kd.R Kd.string 9 _ _ _ _ ((rd_T32 t318 2).f3) from ge323_3)
        clear hv323_3 ge323_3
        have hv323_4 := hcc323 4 _ rfl
        rw [add_field _ _ 4 (by omega)] at hv323_4
        replace hv323_4 := Option.some.inj (hv323_4.symm.trans hx323_4)
        rw [hv323_4] at ge323_4
        have HL323_4 := Aside0.mk (show Kd.R k34 34 _ _ _ _ ((rd_T32 t318 2).f4) from ge323_4)
        clear hv323_4 ge323_4
        clear hcc323 hce323
        (try simp only [show (2 : Int).toNat = 2 from rfl, Nat.reduceMul, Nat.reduceEqDiff, Go.Addr.add, ↓reduceIte] at hx323_0)
        (try simp only [show (2 : Int).toNat = 2 from rfl, Nat.reduceMul, Nat.reduceEqDiff, Go.Addr.add, ↓reduceIte] at hx323_1)
        (try simp only [show (2 : Int).toNat = 2 from rfl, Nat.reduceMul, Nat.reduceEqDiff, Go.Addr.add, ↓reduceIte] at hx323_2)
        (try simp only [show (2 : Int).toNat = 2 from rfl, Nat.reduceMul, Nat.reduceEqDiff, Go.Addr.add, ↓reduceIte] at hx323_3)
        (try simp only [show (2 : Int).toNat = 2 from rfl, Nat.reduceMul, Nat.reduceEqDiff, Go.Addr.add, ↓reduceIte] at hx323_4)
        have qi323 : (2 < t318.length) = True := eq_true (by omega)
        (try rw [show ((2 : Int)).toNat = 2 from rfl] at hx323_0)
        (try rw [show 2 * 5 = 10 from rfl] at hx323_0)
        (try rw [show ((2 : Int)).toNat = 2 from rfl] at hx323_1)
        (try rw [show 2 * 5 = 10 from rfl] at hx323_1)
        (try rw [show ((2 : Int)).toNat = 2 from rfl] at hx323_2)
        (try rw [show 2 * 5 = 10 from rfl] at hx323_2)
        (try rw [show ((2 : Int)).toNat = 2 from rfl] at hx323_3)
        (try rw [show 2 * 5 = 10 from rfl] at hx323_3)
        (try rw [show ((2 : Int)).toNat = 2 from rfl] at hx323_4)
        (try rw [show 2 * 5 = 10 from rfl] at hx323_4)
        have HR323_3 := Aside0.mk hi323_3
        have HC323_3 := Aside0.mk hl323_3
        clear hi323_3 hl323_3
        have HR323_4 := Aside0.mk hi323_4
        have HC323_4 := Aside0.mk hl323_4
        clear hi323_4 hl323_4
        replace p323 := eq_true p323
        replace q323 := eq_true q323
        go_wp2
        go_meet
        case rel => exact ⟨_, ((((rd_T32 t318 2).f0).toList != ([99] : List UInt8))), (by first | rfl | (simp; done) | (rw [prx_ne]; first | done | rfl) | (simp [*]; done)), H', ⟨by have := HJ4.out; first | omega | exact Nat.le_refl _⟩, ⟨by repeat (first | (with_reducible first | exact HB.out | apply below_alloc | apply pw_below_drewN | apply below_drew1) | exact HB.out)⟩⟩
       ·rw [if_neg c18] at H
        exact absurd H (by simp)
      ·rw [if_neg c17] at H
       have c17b0 : ((t318.length : Int) == 3) = false := beq_eq_false_iff_ne.mpr c17
       have c17b1 : ((t318.length : Int) != 3) = true := bne_iff_ne.mpr c17
       (first | rw [c17b0] | (simp only [i64_w, i32_w]; rw [c17b0]) | skip)
       have H' := Aside0.mk H
       clear H
       obtain ⟨Ao20, co20, eo20⟩ := Kd.S_slice HO322.out
       subst eo20
       go_wp2
       go_meet
       case rel => exact ⟨_, (true), (by first | rfl | (simp; done) | (rw [prx_ne]; first | done | rfl) | (simp [*]; done)), H', ⟨by have := HJ4.out; first | omega | exact Nat.le_refl _⟩, ⟨by repeat (first | (with_reducible first | exact HB.out | apply below_alloc | apply pw_below_drewN | apply below_drew1) | exact HB.out)⟩⟩
     ·replace c16 := Bool.eq_false_iff.mpr c16
      subst c16
      have H1 : (laws_FnTrailerUpdates.j1 kj4 a0 a1 a2 a3 true) = some r := by rw [if_neg (show ¬ (false = true) by decide)] at H; exact H
      clear H
      have H := H1
      clear H1
      have H' := Aside0.mk H
      clear H
      go_wp2
      go_meet
      case rel => exact ⟨_, (true), (by first | rfl | (simp; done) | (rw [prx_ne]; first | done | rfl) | (simp [*]; done)), H', ⟨by have := HJ4.out; first | omega | exact Nat.le_refl _⟩, ⟨by repeat (first | (with_reducible first | exact HB.out | apply below_alloc | apply pw_below_drewN | apply below_drew1) | exact HB.out)⟩⟩
    case rest =>
     clear HC11
     try clear c1
     try clear p2
     try clear c3
     try clear p3
     try clear q3
     try clear hx3
     try clear qi3
     try clear c4
     try clear c5
     try clear c6
     try clear c6b0
     try clear c6b1
     try clear c7
     try clear c7b0
     try clear c7b1
     try clear c8
     try clear c8b0
     try clear c8b1
     try clear c9
     try clear c16
     try clear c17
     try clear c17b0
     try clear c17b1
     try clear c18
     try clear c18b0
     try clear c18b1
     try clear hx323_0
     try clear hx323_1
     try clear hx323_2
     try clear hx323_3
     try clear hx323_4
     try clear p2
     try clear p323
     try clear q323
     obtain ⟨kq, x60_10, rfl, HA, HJ10, HB⟩ := hcut
     cases kq with
     | zero => exact absurd HA.out (by simp [laws_FnTrailerUpdates.j1])
     | succ kj10 =>
      have H := HA.out
      clear HA
      simp only [laws_FnTrailerUpdates.j1] at H
      by_cases c21 : x60_10 = true
      ·subst c21
       have H1 : (some false) = some r := by rw [if_pos rfl] at H; exact H
       clear H
       have H := H1
       clear H1
       obtain rfl := Option.some.inj H
       go_wp2
       go_ret
       exact ⟨by first | rfl | (simp [errW_none, errW_some] <;> rfl) | (simp [*, errW_none, errW_some] <;> rfl), by repeat (first | (with_reducible first | exact HB.out | apply below_alloc | apply pw_below_drewN | apply below_drew1) | exact HB.out)⟩
      ·replace c21 := Bool.eq_false_iff.mpr c21
       subst c21
       have H1 : ((laws_name.f kj10 a0).bind fun t324 => (if t324 = true then ((laws_name.f kj10 a1).bind fun t325 => (if t325 = true then ((laws_low.f a0).bind fun t326 => ((laws_low.f a1).bind fun t327 => (if t326.toList = t327.toList then (laws_FnTrailerUpdates.j2 kj10 a0 a1 a2 a3 true) else ((laws_word.f kj10 a2).bind fun t328 => (if t328 = true then ((laws_word.f kj10 a3).bind fun t329 => (if t329 = true then ((laws_short.f kj10 (([a2, a3] : List ByteArray))).bind fun t333 => (laws_FnTrailerUpdates.j2 kj10 a0 a1 a2 a3 (!t333))) else (laws_FnTrailerUpdates.j2 kj10 a0 a1 a2 a3 true))) else (laws_FnTrailerUpdates.j2 kj10 a0 a1 a2 a3 true)))))) else (laws_FnTrailerUpdates.j2 kj10 a0 a1 a2 a3 true))) else (laws_FnTrailerUpdates.j2 kj10 a0 a1 a2 a3 true))) = some r := by rw [if_neg (show ¬ (false = true) by decide)] at H; exact H
       clear H
       have H := H1
       clear H1
       have HC22 := Aside0.mk H
       clear H
       go_upto_region 6 with (fail)
       go_cut [92] (fun v92 wc => ∃ (kq : Nat) (x92_21 : Bool), v92 = .bool x92_21 ∧ Aside0 (laws_FnTrailerUpdates.j2 kq a0 a1 a2 a3 x92_21 = some r) ∧ Aside0 (kq ≤ kj10) ∧ Aside0 (Below w.heap.size w wc) ∧ Aside0 (x92_21 = false → laws_FnTrailerUpdates.Main a0 a1 a2 a3))
       case first =>
        have H := HC22.out
        clear HC22
        replace H := Option.bind_eq_some_iff.mp H
        obtain ⟨t324, A230, H⟩ := H
        replace H : (if t324 = true then ((laws_name.f kj10 a1).bind fun t325 => (if t325 = true then ((laws_low.f a0).bind fun t326 => ((laws_low.f a1).bind fun t327 => (if t326.toList = t327.toList then (laws_FnTrailerUpdates.j2 kj10 a0 a1 a2 a3 true) else ((laws_word.f kj10 a2).bind fun t328 => (if t328 = true then ((laws_word.f kj10 a3).bind fun t329 => (if t329 = true then ((laws_short.f kj10 (([a2, a3] : List ByteArray))).bind fun t333 => (laws_FnTrailerUpdates.j2 kj10 a0 a1 a2 a3 (!t333))) else (laws_FnTrailerUpdates.j2 kj10 a0 a1 a2 a3 true))) else (laws_FnTrailerUpdates.j2 kj10 a0 a1 a2 a3 true)))))) else (laws_FnTrailerUpdates.j2 kj10 a0 a1 a2 a3 true))) else (laws_FnTrailerUpdates.j2 kj10 a0 a1 a2 a3 true)) = some r := H
        have A23 := Aside0.mk A230
        clear A230
        by_cases c24 : t324 = true
        ·subst c24
         have H1 : ((laws_name.f kj10 a1).bind fun t325 => (if t325 = true then ((laws_low.f a0).bind fun t326 => ((laws_low.f a1).bind fun t327 => (if t326.toList = t327.toList then (laws_FnTrailerUpdates.j2 kj10 a0 a1 a2 a3 true) else ((laws_word.f kj10 a2).bind fun t328 => (if t328 = true then ((laws_word.f kj10 a3).bind fun t329 => (if t329 = true then ((laws_short.f kj10 (([a2, a3] : List ByteArray))).bind fun t333 => (laws_FnTrailerUpdates.j2 kj10 a0 a1 a2 a3 (!t333))) else (laws_FnTrailerUpdates.j2 kj10 a0 a1 a2 a3 true))) else (laws_FnTrailerUpdates.j2 kj10 a0 a1 a2 a3 true)))))) else (laws_FnTrailerUpdates.j2 kj10 a0 a1 a2 a3 true))) = some r := by rw [if_pos rfl] at H; exact H
         clear H
         have H := H1
         clear H1
         replace H := Option.bind_eq_some_iff.mp H
         obtain ⟨t325, A250, H⟩ := H
         replace H : (if t325 = true then ((laws_low.f a0).bind fun t326 => ((laws_low.f a1).bind fun t327 => (if t326.toList = t327.toList then (laws_FnTrailerUpdates.j2 kj10 a0 a1 a2 a3 true) else ((laws_word.f kj10 a2).bind fun t328 => (if t328 = true then ((laws_word.f kj10 a3).bind fun t329 => (if t329 = true then ((laws_short.f kj10 (([a2, a3] : List ByteArray))).bind fun t333 => (laws_FnTrailerUpdates.j2 kj10 a0 a1 a2 a3 (!t333))) else (laws_FnTrailerUpdates.j2 kj10 a0 a1 a2 a3 true))) else (laws_FnTrailerUpdates.j2 kj10 a0 a1 a2 a3 true)))))) else (laws_FnTrailerUpdates.j2 kj10 a0 a1 a2 a3 true)) = some r := H
         have A25 := Aside0.mk A250
         clear A250
         by_cases c26 : t325 = true
         ·subst c26
          have H1 : ((laws_low.f a0).bind fun t326 => ((laws_low.f a1).bind fun t327 => (if t326.toList = t327.toList then (laws_FnTrailerUpdates.j2 kj10 a0 a1 a2 a3 true) else ((laws_word.f kj10 a2).bind fun t328 => (if t328 = true then ((laws_word.f kj10 a3).bind fun t329 => (if t329 = true then ((laws_short.f kj10 (([a2, a3] : List ByteArray))).bind fun t333 => (laws_FnTrailerUpdates.j2 kj10 a0 a1 a2 a3 (!t333))) else (laws_FnTrailerUpdates.j2 kj10 a0 a1 a2 a3 true))) else (laws_FnTrailerUpdates.j2 kj10 a0 a1 a2 a3 true)))))) = some r := by rw [if_pos rfl] at H; exact H
          clear H
          have H := H1
          clear H1
          replace H := Option.bind_eq_some_iff.mp H
          obtain ⟨t326, A270, H⟩ := H
          replace H : ((laws_low.f a1).bind fun t327 => (if t326.toList = t327.toList then (laws_FnTrailerUpdates.j2 kj10 a0 a1 a2 a3 true) else ((laws_word.f kj10 a2).bind fun t328 => (if t328 = true then ((laws_word.f kj10 a3).bind fun t329 => (if t329 = true then ((laws_short.f kj10 (([a2, a3] : List ByteArray))).bind fun t333 => (laws_FnTrailerUpdates.j2 kj10 a0 a1 a2 a3 (!t333))) else (laws_FnTrailerUpdates.j2 kj10 a0 a1 a2 a3 true))) else (laws_FnTrailerUpdates.j2 kj10 a0 a1 a2 a3 true))))) = some r := H
          have A27 := Aside0.mk A270
          clear A270
          replace H := Option.bind_eq_some_iff.mp H
          obtain ⟨t327, A280, H⟩ := H
          replace H : (if t326.toList = t327.toList then (laws_FnTrailerUpdates.j2 kj10 a0 a1 a2 a3 true) else ((laws_word.f kj10 a2).bind fun t328 => (if t328 = true then ((laws_word.f kj10 a3).bind fun t329 => (if t329 = true then ((laws_short.f kj10 (([a2, a3] : List ByteArray))).bind fun t333 => (laws_FnTrailerUpdates.j2 kj10 a0 a1 a2 a3 (!t333))) else (laws_FnTrailerUpdates.j2 kj10 a0 a1 a2 a3 true))) else (laws_FnTrailerUpdates.j2 kj10 a0 a1 a2 a3 true)))) = some r := H
          have A28 := Aside0.mk A280
          clear A280
          by_cases c29 : t326.toList = t327.toList
          ·rw [if_pos c29] at H
           have c29b0 : (t326.toList == t327.toList) = true := beq_iff_eq.mpr c29
           have c29b1 : (t326.toList != t327.toList) = false := bne_eq_false_iff_eq.mpr c29
           clear c29
           (first | rw [c29b0] | (simp only [i64_w, i32_w]; rw [c29b0]) | skip)
           have H' := Aside0.mk H
           clear H
           go_wp2_with (first | ((with_reducible refine gate_callee (f := 10) rfl ?_); refine goesL_ (some 62) rfl rfl Try.func10 (by kernel_rfl) rfl #[.string a0] rfl (by (try simp only [List.map_toArray, List.map_cons, List.map_nil]); first | done | rfl | (simp only [List.length_drop, List.length_take]; rfl)) ?_; (with_reducible refine (laws_name.calls kj10 a0 true _ A23.out).mono ?_); rintro e w' ⟨rfl, ⟨nd, rfl⟩⟩; refine ⟨_, rfl, ?_⟩) | (go_at_call 10; (with_reducible refine (laws_name.calls kj10 a1 true _ A25.out).mono ?_); rintro e w' ⟨rfl, ⟨nd, rfl⟩⟩) | (go_at_call 15; (with_reducible refine (laws_low.calls a0 t326 _ A27.out).mono ?_); rintro e w30 ⟨rfl, hb⟩; have n0_ := Aside0.mk (below_step (by repeat (first | (with_reducible first | exact HB.out | apply below_alloc | apply pw_below_drewN | apply below_drew1) | exact HB.out)) hb); clear HB; have HB := n0_; clear n0_; (try clear hb); (try clear hb2); (try clear hk); (try clear hi)) | (go_at_call 15; (with_reducible refine (laws_low.calls a1 t327 _ A28.out).mono ?_); rintro e w31 ⟨rfl, hb⟩; have n0_ := Aside0.mk (below_step (by repeat (first | (with_reducible first | exact HB.out | apply below_alloc | apply pw_below_drewN | apply below_drew1) | exact HB.out)) hb); clear HB; have HB := n0_; clear n0_; (try clear hb); (try clear hb2); (try clear hk); (try clear hi)))
           go_meet
           case rel => exact ⟨_, (true), (by first | rfl | (simp; done) | (rw [prx_ne]; first | done | rfl) | (simp [*]; done)), H', ⟨by have := HJ4.out; have := HJ10.out; first | omega | exact Nat.le_refl _⟩, ⟨by repeat (first | (with_reducible first | exact HB.out | apply below_alloc | apply pw_below_drewN | apply below_drew1) | exact HB.out)⟩, ⟨fun e => by cases e⟩⟩
          ·rw [if_neg c29] at H
           have c29b0 : (t326.toList == t327.toList) = false := beq_eq_false_iff_ne.mpr c29
           have c29b1 : (t326.toList != t327.toList) = true := bne_iff_ne.mpr c29
           (first | rw [c29b0] | (simp only [i64_w, i32_w]; rw [c29b0]) | skip)
           replace H := Option.bind_eq_some_iff.mp H
           obtain ⟨t328, A320, H⟩ := H
           replace H : (if t328 = true then ((laws_word.f kj10 a3).bind fun t329 => (if t329 = true then ((laws_short.f kj10 (([a2, a3] : List ByteArray))).bind fun t333 => (laws_FnTrailerUpdates.j2 kj10 a0 a1 a2 a3 (!t333))) else (laws_FnTrailerUpdates.j2 kj10 a0 a1 a2 a3 true))) else (laws_FnTrailerUpdates.j2 kj10 a0 a1 a2 a3 true)) = some r := H
           have A32 := Aside0.mk A320
           clear A320
           by_cases c33 : t328 = true
           ·subst c33
            have H1 : ((laws_word.f kj10 a3).bind fun t329 => (if t329 = true then ((laws_short.f kj10 (([a2, a3] : List ByteArray))).bind fun t333 => (laws_FnTrailerUpdates.j2 kj10 a0 a1 a2 a3 (!t333))) else (laws_FnTrailerUpdates.j2 kj10 a0 a1 a2 a3 true))) = some r := by rw [if_pos rfl] at H; exact H
            clear H
            have H := H1
            clear H1
            replace H := Option.bind_eq_some_iff.mp H
            obtain ⟨t329, A340, H⟩ := H
            replace H : (if t329 = true then ((laws_short.f kj10 (([a2, a3] : List ByteArray))).bind fun t333 => (laws_FnTrailerUpdates.j2 kj10 a0 a1 a2 a3 (!t333))) else (laws_FnTrailerUpdates.j2 kj10 a0 a1 a2 a3 true)) = some r := H
            have A34 := Aside0.mk A340
            clear A340
            by_cases c35 : t329 = true
            ·subst c35
             have H1 : ((laws_short.f kj10 (([a2, a3] : List ByteArray))).bind fun t333 => (laws_FnTrailerUpdates.j2 kj10 a0 a1 a2 a3 (!t333))) = some r := by rw [if_pos rfl] at H; exact H
             clear H
             have H := H1
             clear H1
             obtain ⟨y330, hy330⟩ : ∃ y_ : List ByteArray, y_ = (([a2, a3] : List ByteArray)) := ⟨_, rfl⟩
             replace H : ((laws_short.f kj10 y330).bind fun t333 => (laws_FnTrailerUpdates.j2 kj10 a0 a1 a2 a3 (!t333))) = some r := by first | (rw [hy330]; with_reducible exact H) | (have H2_ := (Option.bind_some _ _).symm.trans H; rw [hy330]; with_reducible exact H2_) | (have H2_ := (Option.bind_some _ _).symm.trans H; with_reducible exact H2_) | with_reducible exact H | (rw [hy330]; exact H) | exact H
             have Ny330 := Aside0.mk hy330
             clear hy330
             replace H := Option.bind_eq_some_iff.mp H
             obtain ⟨t333, A360, H⟩ := H
             replace H : (laws_FnTrailerUpdates.j2 kj10 a0 a1 a2 a3 (!t333)) = some r := H
             have A36 := Aside0.mk A360
             clear A360
             have H' := Aside0.mk H
             clear H
             go_wp2_with (first | ((with_reducible refine gate_callee (f := 10) rfl ?_); refine goesL_ (some 62) rfl rfl Try.func10 (by kernel_rfl) rfl #[.string a0] rfl (by (try simp only [List.map_toArray, List.map_cons, List.map_nil]); first | done | rfl | (simp only [List.length_drop, List.length_take]; rfl)) ?_; (with_reducible refine (laws_name.calls kj10 a0 true _ A23.out).mono ?_); rintro e w' ⟨rfl, ⟨nd, rfl⟩⟩; refine ⟨_, rfl, ?_⟩) | (go_at_call 10; (with_reducible refine (laws_name.calls kj10 a1 true _ A25.out).mono ?_); rintro e w' ⟨rfl, ⟨nd, rfl⟩⟩) | (go_at_call 15; (with_reducible refine (laws_low.calls a0 t326 _ A27.out).mono ?_); rintro e w37 ⟨rfl, hb⟩; have n0_ := Aside0.mk (below_step (by repeat (first | (with_reducible first | exact HB.out | apply below_alloc | apply pw_below_drewN | apply below_drew1) | exact HB.out)) hb); clear HB; have HB := n0_; clear n0_; (try clear hb); (try clear hb2); (try clear hk); (try clear hi)) | (go_at_call 15; (with_reducible refine (laws_low.calls a1 t327 _ A28.out).mono ?_); rintro e w38 ⟨rfl, hb⟩; have n0_ := Aside0.mk (below_step (by repeat (first | (with_reducible first | exact HB.out | apply below_alloc | apply pw_below_drewN | apply below_drew1) | exact HB.out)) hb); clear HB; have HB := n0_; clear n0_; (try clear hb); (try clear hb2); (try clear hk); (try clear hi)) | (go_at_call 16; (with_reducible refine (laws_word.calls kj10 a2 true _ A32.out).mono ?_); rintro e w' ⟨rfl, ⟨nd, rfl⟩⟩) | (go_at_call 16; (with_reducible refine (laws_word.calls kj10 a3 true _ A34.out).mono ?_); rintro e w' ⟨rfl, ⟨nd, rfl⟩⟩) | ((with_reducible refine gate_dst (N := 89) rfl ?_); (try (refine gate_guard (by rfl) ?_; dsimp only)); refine Kd.R_lit Kd.string _ 9 ?hg (N := 89) ?hd (xs := ([a2, a3] : List ByteArray)) (inner := [.string a2, .string a3]) (ok := fun _ => True) (okp := fun _ => True) ?hr ?hp (fun _ hk => hk) trivial (Below.refl _ _) (Nat.le_refl _) (by simp) ?_; (case hd => rfl); (case hg => rfl); (case hr => first | (go_simp; done) | (go_simp; rfl)); (case hp => exact (Reps.one (show Kd.M Kd.string _ _ _ a2 [.string a2] from rfl) (Reps.one (show Kd.M Kd.string _ _ _ a3 [.string a3] from rfl) (Reps.none _ _)))); intro v331 w39 ho40 hb hg_ hnew_; clear hg_ hnew_; (first | rw [← Ny330.out] at ho40 | (simp only [Int.reduceToNat] at ho40; rw [← Ny330.out] at ho40)); have n0_ := Aside0.mk (Kd.R_lower ho40 (below_size (by repeat (first | (with_reducible first | exact HB.out | apply below_alloc | apply pw_below_drewN | apply below_drew1) | exact HB.out)))); have n1_ := Aside0.mk (below_step (by repeat (first | (with_reducible first | exact HB.out | apply below_alloc | apply pw_below_drewN | apply below_drew1) | exact HB.out)) hb); clear HB; have HO332 := n0_; have HB := n1_; clear n0_ n1_; clear hb ho40; obtain ⟨Ao41, co41, eo41⟩ := Kd.R_slice HO332.out; subst eo41) | (go_at_call 17; (with_reducible refine (laws_short.calls kj10 _ _ y330 t333 _ ?side1 ?side2 A36.out).mono ?_); (case side1 => repeat (first | exact (Kd.R_reads' HO332.out).2.2 | (with_reducible refine Kd.C_alloc ?_ _) | (with_reducible refine Kd.C_drewN ?_ _) | (with_reducible refine Kd.C_drew ?_))); (case side2 => exact (Kd.R_reads' HO332.out).2.1); rintro e w' ⟨rfl, ⟨nd, rfl⟩⟩))
             go_meet
             case rel => exact ⟨_, (!t333), (by first | rfl | (simp; done) | (rw [prx_ne]; first | done | rfl) | (simp [*]; done)), H', ⟨by have := HJ4.out; have := HJ10.out; first | omega | exact Nat.le_refl _⟩, ⟨by repeat (first | (with_reducible first | exact HB.out | apply below_alloc | apply pw_below_drewN | apply below_drew1) | exact HB.out)⟩, ⟨fun e => laws_FnTrailerUpdates.Main_mk A23.out A25.out A27.out A28.out c29 A32.out A34.out (by rw [← Ny330.out]; exact A36.out) (by simpa using e)⟩⟩
            ·replace c35 := Bool.eq_false_iff.mpr c35
             subst c35
             have H1 : (laws_FnTrailerUpdates.j2 kj10 a0 a1 a2 a3 true) = some r := by rw [if_neg (show ¬ (false = true) by decide)] at H; exact H
             clear H
             have H := H1
             clear H1
             have H' := Aside0.mk H
             clear H
             go_wp2_with (first | ((with_reducible refine gate_callee (f := 10) rfl ?_); refine goesL_ (some 62) rfl rfl Try.func10 (by kernel_rfl) rfl #[.string a0] rfl (by (try simp only [List.map_toArray, List.map_cons, List.map_nil]); first | done | rfl | (simp only [List.length_drop, List.length_take]; rfl)) ?_; (with_reducible refine (laws_name.calls kj10 a0 true _ A23.out).mono ?_); rintro e w' ⟨rfl, ⟨nd, rfl⟩⟩; refine ⟨_, rfl, ?_⟩) | (go_at_call 10; (with_reducible refine (laws_name.calls kj10 a1 true _ A25.out).mono ?_); rintro e w' ⟨rfl, ⟨nd, rfl⟩⟩) | (go_at_call 15; (with_reducible refine (laws_low.calls a0 t326 _ A27.out).mono ?_); rintro e w42 ⟨rfl, hb⟩; have n0_ := Aside0.mk (below_step (by repeat (first | (with_reducible first | exact HB.out | apply below_alloc | apply pw_below_drewN | apply below_drew1) | exact HB.out)) hb); clear HB; have HB := n0_; clear n0_; (try clear hb); (try clear hb2); (try clear hk); (try clear hi)) | (go_at_call 15; (with_reducible refine (laws_low.calls a1 t327 _ A28.out).mono ?_); rintro e w43 ⟨rfl, hb⟩; have n0_ := Aside0.mk (below_step (by repeat (first | (with_reducible first | exact HB.out | apply below_alloc | apply pw_below_drewN | apply below_drew1) | exact HB.out)) hb); clear HB; have HB := n0_; clear n0_; (try clear hb); (try clear hb2); (try clear hk); (try clear hi)) | (go_at_call 16; (with_reducible refine (laws_word.calls kj10 a2 true _ A32.out).mono ?_); rintro e w' ⟨rfl, ⟨nd, rfl⟩⟩) | (go_at_call 16; (with_reducible refine (laws_word.calls kj10 a3 false _ A34.out).mono ?_); rintro e w' ⟨rfl, ⟨nd, rfl⟩⟩))
             go_meet
             case rel => exact ⟨_, (true), (by first | rfl | (simp; done) | (rw [prx_ne]; first | done | rfl) | (simp [*]; done)), H', ⟨by have := HJ4.out; have := HJ10.out; first | omega | exact Nat.le_refl _⟩, ⟨by repeat (first | (with_reducible first | exact HB.out | apply below_alloc | apply pw_below_drewN | apply below_drew1) | exact HB.out)⟩, ⟨fun e => by cases e⟩⟩
           ·replace c33 := Bool.eq_false_iff.mpr c33
            subst c33
            have H1 : (laws_FnTrailerUpdates.j2 kj10 a0 a1 a2 a3 true) = some r := by rw [if_neg (show ¬ (false = true) by decide)] at H; exact H
            clear H
            have H := H1
            clear H1
            have H' := Aside0.mk H
            clear H
            go_wp2_with (first | ((with_reducible refine gate_callee (f := 10) rfl ?_); refine goesL_ (some 62) rfl rfl Try.func10 (by kernel_rfl) rfl #[.string a0] rfl (by (try simp only [List.map_toArray, List.map_cons, List.map_nil]); first | done | rfl | (simp only [List.length_drop, List.length_take]; rfl)) ?_; (with_reducible refine (laws_name.calls kj10 a0 true _ A23.out).mono ?_); rintro e w' ⟨rfl, ⟨nd, rfl⟩⟩; refine ⟨_, rfl, ?_⟩) | (go_at_call 10; (with_reducible refine (laws_name.calls kj10 a1 true _ A25.out).mono ?_); rintro e w' ⟨rfl, ⟨nd, rfl⟩⟩) | (go_at_call 15; (with_reducible refine (laws_low.calls a0 t326 _ A27.out).mono ?_); rintro e w44 ⟨rfl, hb⟩; have n0_ := Aside0.mk (below_step (by repeat (first | (with_reducible first | exact HB.out | apply below_alloc | apply pw_below_drewN | apply below_drew1) | exact HB.out)) hb); clear HB; have HB := n0_; clear n0_; (try clear hb); (try clear hb2); (try clear hk); (try clear hi)) | (go_at_call 15; (with_reducible refine (laws_low.calls a1 t327 _ A28.out).mono ?_); rintro e w45 ⟨rfl, hb⟩; have n0_ := Aside0.mk (below_step (by repeat (first | (with_reducible first | exact HB.out | apply below_alloc | apply pw_below_drewN | apply below_drew1) | exact HB.out)) hb); clear HB; have HB := n0_; clear n0_; (try clear hb); (try clear hb2); (try clear hk); (try clear hi)) | (go_at_call 16; (with_reducible refine (laws_word.calls kj10 a2 false _ A32.out).mono ?_); rintro e w' ⟨rfl, ⟨nd, rfl⟩⟩))
            go_meet
            case rel => exact ⟨_, (true), (by first | rfl | (simp; done) | (rw [prx_ne]; first | done | rfl) | (simp [*]; done)), H', ⟨by have := HJ4.out; have := HJ10.out; first | omega | exact Nat.le_refl _⟩, ⟨by repeat (first | (with_reducible first | exact HB.out | apply below_alloc | apply pw_below_drewN | apply below_drew1) | exact HB.out)⟩, ⟨fun e => by cases e⟩⟩
         ·replace c26 := Bool.eq_false_iff.mpr c26
          subst c26
          have H1 : (laws_FnTrailerUpdates.j2 kj10 a0 a1 a2 a3 true) = some r := by rw [if_neg (show ¬ (false = true) by decide)] at H; exact H
          clear H
          have H := H1
          clear H1
          have H' := Aside0.mk H
          clear H
          go_wp2_with (first | ((with_reducible refine gate_callee (f := 10) rfl ?_); refine goesL_ (some 62) rfl rfl Try.func10 (by kernel_rfl) rfl #[.string a0] rfl (by (try simp only [List.map_toArray, List.map_cons, List.map_nil]); first | done | rfl | (simp only [List.length_drop, List.length_take]; rfl)) ?_; (with_reducible refine (laws_name.calls kj10 a0 true _ A23.out).mono ?_); rintro e w' ⟨rfl, ⟨nd, rfl⟩⟩; refine ⟨_, rfl, ?_⟩) | (go_at_call 10; (with_reducible refine (laws_name.calls kj10 a1 false _ A25.out).mono ?_); rintro e w' ⟨rfl, ⟨nd, rfl⟩⟩))
          go_meet
          case rel => exact ⟨_, (true), (by first | rfl | (simp; done) | (rw [prx_ne]; first | done | rfl) | (simp [*]; done)), H', ⟨by have := HJ4.out; have := HJ10.out; first | omega | exact Nat.le_refl _⟩, ⟨by repeat (first | (with_reducible first | exact HB.out | apply below_alloc | apply pw_below_drewN | apply below_drew1) | exact HB.out)⟩, ⟨fun e => by cases e⟩⟩
        ·replace c24 := Bool.eq_false_iff.mpr c24
         subst c24
         have H1 : (laws_FnTrailerUpdates.j2 kj10 a0 a1 a2 a3 true) = some r := by rw [if_neg (show ¬ (false = true) by decide)] at H; exact H
         clear H
         have H := H1
         clear H1
         have H' := Aside0.mk H
         clear H
         go_wp2_with (first | ((with_reducible refine gate_callee (f := 10) rfl ?_); refine goesL_ (some 62) rfl rfl Try.func10 (by kernel_rfl) rfl #[.string a0] rfl (by (try simp only [List.map_toArray, List.map_cons, List.map_nil]); first | done | rfl | (simp only [List.length_drop, List.length_take]; rfl)) ?_; (with_reducible refine (laws_name.calls kj10 a0 false _ A23.out).mono ?_); rintro e w' ⟨rfl, ⟨nd, rfl⟩⟩; refine ⟨_, rfl, ?_⟩))
         go_meet
         case rel => exact ⟨_, (true), (by first | rfl | (simp; done) | (rw [prx_ne]; first | done | rfl) | (simp [*]; done)), H', ⟨by have := HJ4.out; have := HJ10.out; first | omega | exact Nat.le_refl _⟩, ⟨by repeat (first | (with_reducible first | exact HB.out | apply below_alloc | apply pw_below_drewN | apply below_drew1) | exact HB.out)⟩, ⟨fun e => by cases e⟩⟩
       case rest =>
        clear HC22
        try clear c1
        try clear c2
        try clear p2
        try clear c3
        try clear p3
        try clear q3
        try clear hx3
        try clear qi3
        try clear c4
        try clear c5
        try clear c6
        try clear c6b0
        try clear c6b1
        try clear c7
        try clear c7b0
        try clear c7b1
        try clear c8
        try clear c8b0
        try clear c8b1
        try clear c9
        try clear c10
        try clear c16
        try clear c17
        try clear c17b0
        try clear c17b1
        try clear c18
        try clear c18b0
        try clear c18b1
        try clear c21
        try clear c24
        try clear c26
        try clear c29
        try clear c29b0
        try clear c29b1
        try clear c32
        try clear p32
        try clear q32
        try clear hx32
        try clear qi32
        try clear c33
        try clear c35
        try clear hx323_0
        try clear hx323_1
        try clear hx323_2
        try clear hx323_3
        try clear hx323_4
        try clear p2
        try clear p3
        try clear p323
        try clear q3
        try clear q323
        obtain ⟨kq, x92_21, rfl, HA, HJ21, HB, HXM_⟩ := hcut
        cases kq with
        | zero => exact absurd HA.out (by simp [laws_FnTrailerUpdates.j2])
        | succ kj21 =>
         have H := HA.out
         clear HA
         simp only [laws_FnTrailerUpdates.j2] at H
         by_cases c46 : x92_21 = true
         ·subst c46
          have H1 : (some true) = some r := by rw [if_pos rfl] at H; exact H
          clear H
          have H := H1
          clear H1
          obtain rfl := Option.some.inj H
          go_wp2
          go_ret
          exact ⟨by first | rfl | (simp [errW_none, errW_some] <;> rfl) | (simp [*, errW_none, errW_some] <;> rfl), by repeat (first | (with_reducible first | exact HB.out | apply below_alloc | apply pw_below_drewN | apply below_drew1) | exact HB.out)⟩
         ·exact (HE_.out (HXM_.out (Bool.eq_false_iff.mpr c46))).elim
end Go.Proofs.Ytoimkmoalmmooaa.QA
namespace Go.Proofs.Ytoimkmoalmmooaa.QA
open Go.Proofs.Ytoimkmoalmmooaa.Given
open Go.Proofs.Ytoimkmoalmmooaa.PrX
open Go.RowKit Go.Proofs.YtoimkmoalmmooaaW.PrintWords Go.Proofs.YtoimkmoalmmooaaW.PrintLast Go.Proofs.YtoimkmoalmmooaaW.PrintMore
set_option linter.unusedVariables false
set_option linter.unusedSimpArgs false
set_option maxHeartbeats 8000000 in
set_option maxRecDepth 100000 in
theorem laws_FnTrailerUpdates.main (k : Nat) (a0 : ByteArray) (a1 : ByteArray) (a2 : ByteArray) (a3 : ByteArray) (r : Bool) (w : World) (hm : laws_FnTrailerUpdates.Main a0 a1 a2 a3) (hrt : r = true) (h : laws_FnTrailerUpdates.f k a0 a1 a2 a3 = some r) :
  Calls Try.prog 4 #[.string a0, .string a1, .string a2, .string a3] w fun e w' => e = .returned (.bool r) ∧ Below w.heap.size w w' := by
 have HM_ := Aside0.mk hm
 have HF_ := Aside0.mk (laws_FnTrailerUpdates.no_j3 hrt)
 have HRT_ := Aside0.mk hrt
 clear hm hrt
 have hu28 := Try.underlying28
 have hu34 := Try.underlying34
 have HB := Aside0.mk (Below.refl w.heap.size w)
 have H : (if (a0.size : Int) > 2147483647 then (laws_FnTrailerUpdates.j0 k a0 a1 a2 a3 true) else (if (a1.size : Int) > 2147483647 then (laws_FnTrailerUpdates.j0 k a0 a1 a2 a3 true) else (if (a2.size : Int) > 2147483647 then (laws_FnTrailerUpdates.j0 k a0 a1 a2 a3 true) else (laws_FnTrailerUpdates.j0 k a0 a1 a2 a3 (decide ((a3.size : Int) > 2147483647)))))) = some r := h
 clear h
 have HC5 := Aside0.mk H
 clear H
 go_enter Try.func4, Try.ntmps4
 go_upto_region 1 with (fail)
 go_cut [37] (fun v37 wc => ∃ (kq : Nat) (x37_4 : Bool), v37 = .bool x37_4 ∧ Aside0 (laws_FnTrailerUpdates.j0 kq a0 a1 a2 a3 x37_4 = some r) ∧ Aside0 (kq ≤ k) ∧ Aside0 (Below w.heap.size w wc))
 case first =>
  have H := HC5.out
  clear HC5
  by_cases c6 : (a0.size : Int) > 2147483647
  ·rw [if_pos c6] at H
   have c6b0 : decide (2147483647 < (a0.size : Int)) = true := decide_eq_true c6
   have c6b1 : decide (2147483647 < a0.size) = true := decide_eq_true (by omega)
   clear c6
   (first | rw [c6b0] | (simp only [i64_w, i32_w]; rw [c6b0]) | skip)
   have H' := Aside0.mk H
   clear H
   go_wp2
   go_meet
   case rel => exact ⟨_, (true), (by first | rfl | (simp; done) | (rw [prx_ne]; first | done | rfl) | (simp [*]; done)), H', ⟨by first | omega | exact Nat.le_refl _⟩, ⟨by repeat (first | (with_reducible first | exact HB.out | apply below_alloc | apply pw_below_drewN | apply below_drew1) | exact HB.out)⟩⟩
  ·rw [if_neg c6] at H
   have c6b0 : decide (2147483647 < (a0.size : Int)) = false := decide_eq_false c6
   have c6b1 : decide (2147483647 < a0.size) = false := decide_eq_false (by omega)
   clear c6
   (first | rw [c6b0] | (simp only [i64_w, i32_w]; rw [c6b0]) | skip)
   by_cases c7 : (a1.size : Int) > 2147483647
   ·rw [if_pos c7] at H
    have c7b0 : decide (2147483647 < (a1.size : Int)) = true := decide_eq_true c7
    have c7b1 : decide (2147483647 < a1.size) = true := decide_eq_true (by omega)
    clear c7
    have H' := Aside0.mk H
    clear H
    go_wp2
    go_meet
    case rel => exact ⟨_, (true), (by first | rfl | (simp; done) | (rw [prx_ne]; first | done | rfl) | (simp [*]; done)), H', ⟨by first | omega | exact Nat.le_refl _⟩, ⟨by repeat (first | (with_reducible first | exact HB.out | apply below_alloc | apply pw_below_drewN | apply below_drew1) | exact HB.out)⟩⟩
   ·rw [if_neg c7] at H
    have c7b0 : decide (2147483647 < (a1.size : Int)) = false := decide_eq_false c7
    have c7b1 : decide (2147483647 < a1.size) = false := decide_eq_false (by omega)
    clear c7
    by_cases c8 : (a2.size : Int) > 2147483647
    ·rw [if_pos c8] at H
     have c8b0 : decide (2147483647 < (a2.size : Int)) = true := decide_eq_true c8
     have c8b1 : decide (2147483647 < a2.size) = true := decide_eq_true (by omega)
     clear c8
     have H' := Aside0.mk H
     clear H
     go_wp2
     go_meet
     case rel => exact ⟨_, (true), (by first | rfl | (simp; done) | (rw [prx_ne]; first | done | rfl) | (simp [*]; done)), H', ⟨by first | omega | exact Nat.le_refl _⟩, ⟨by repeat (first | (with_reducible first | exact HB.out | apply below_alloc | apply pw_below_drewN | apply below_drew1) | exact HB.out)⟩⟩
    ·rw [if_neg c8] at H
     have c8b0 : decide (2147483647 < (a2.size : Int)) = false := decide_eq_false c8
     have c8b1 : decide (2147483647 < a2.size) = false := decide_eq_false (by omega)
     clear c8
     have H' := Aside0.mk H
     clear H
     go_wp2
     go_meet
     case rel => exact ⟨_, (decide ((a3.size : Int) > 2147483647)), (by first | rfl | (simp; done) | (rw [prx_ne]; first | done | rfl) | (simp [*]; done)), H', ⟨by first | omega | exact Nat.le_refl _⟩, ⟨by repeat (first | (with_reducible first | exact HB.out | apply below_alloc | apply pw_below_drewN | apply below_drew1) | exact HB.out)⟩⟩
 case rest =>
  clear HC5
  try clear p2
  try clear c4
  try clear c6
  try clear c6b0
  try clear c6b1
  try clear c7
  try clear c7b0
  try clear c7b1
  try clear c8
  try clear c8b0
  try clear c8b1
  obtain ⟨kq, x37_4, rfl, HA, HJ4, HB⟩ := hcut
  cases kq with
  | zero => exact absurd HA.out (by simp [laws_FnTrailerUpdates.j0])
  | succ kj4 =>
   have H := HA.out
   clear HA
   simp only [laws_FnTrailerUpdates.j0] at H
   by_cases c9 : x37_4 = true
   ·subst c9
    have H1 : (some true) = some r := by rw [if_pos rfl] at H; exact H
    clear H
    have H := H1
    clear H1
    obtain rfl := Option.some.inj H
    go_wp2
    go_ret
    exact ⟨by first | rfl | (simp [errW_none, errW_some] <;> rfl) | (simp [*, errW_none, errW_some] <;> rfl), by repeat (first | (with_reducible first | exact HB.out | apply below_alloc | apply pw_below_drewN | apply below_drew1) | exact HB.out)⟩
   ·replace c9 := Bool.eq_false_iff.mpr c9
    subst c9
    have H1 : ((impl_TrailerScript.f (([(⟨4, (⟨#[]⟩ : ByteArray), (⟨#[88, 45, 65]⟩ : ByteArray), 0, 0⟩ : S28), (⟨9, (⟨#[88, 45, 65]⟩ : ByteArray), (⟨#[99]⟩ : ByteArray), 0, 0⟩ : S28), (⟨3, (⟨#[88, 45, 65]⟩ : ByteArray), (⟨#[]⟩ : ByteArray), 0, 0⟩ : S28)] : List (S28)))).bind fun bt318 => (if bt318.2.2 = true then (if (bt318.1.length : Int) = 3 then (if 2 < (bt318.1.length : Int) then (laws_FnTrailerUpdates.j1 kj4 a0 a1 a2 a3 (((rd_T32 bt318.1 2).f0).toList != ([99] : List UInt8))) else (none)) else (laws_FnTrailerUpdates.j1 kj4 a0 a1 a2 a3 true)) else (laws_FnTrailerUpdates.j1 kj4 a0 a1 a2 a3 true))) = some r := by rw [if_neg (show ¬ (false = true) by decide)] at H; exact H
    clear H
    have H := H1
    clear H1
    obtain ⟨y315, hy315⟩ : ∃ y_ : List (S28), y_ = (([(⟨4, (⟨#[]⟩ : ByteArray), (⟨#[88, 45, 65]⟩ : ByteArray), 0, 0⟩ : S28), (⟨9, (⟨#[88, 45, 65]⟩ : ByteArray), (⟨#[99]⟩ : ByteArray), 0, 0⟩ : S28), (⟨3, (⟨#[88, 45, 65]⟩ : ByteArray), (⟨#[]⟩ : ByteArray), 0, 0⟩ : S28)] : List (S28))) := ⟨_, rfl⟩
    replace H : ((impl_TrailerScript.f y315).bind fun bt318 => (if bt318.2.2 = true then (if (bt318.1.length : Int) = 3 then (if 2 < (bt318.1.length : Int) then (laws_FnTrailerUpdates.j1 kj4 a0 a1 a2 a3 (((rd_T32 bt318.1 2).f0).toList != ([99] : List UInt8))) else (none)) else (laws_FnTrailerUpdates.j1 kj4 a0 a1 a2 a3 true)) else (laws_FnTrailerUpdates.j1 kj4 a0 a1 a2 a3 true))) = some r := by first | (rw [hy315]; with_reducible exact H) | (have H2_ := (Option.bind_some _ _).symm.trans H; rw [hy315]; with_reducible exact H2_) | (have H2_ := (Option.bind_some _ _).symm.trans H; with_reducible exact H2_) | with_reducible exact H | (rw [hy315]; exact H) | exact H
    have Ny315 := Aside0.mk hy315
    clear hy315
    replace H := Option.bind_eq_some_iff.mp H
    obtain ⟨⟨t318, t319, t320⟩, A100, H⟩ := H
    replace H : (if t320 = true then (if (t318.length : Int) = 3 then (if 2 < (t318.length : Int) then (laws_FnTrailerUpdates.j1 kj4 a0 a1 a2 a3 (((rd_T32 t318 2).f0).toList != ([99] : List UInt8))) else (none)) else (laws_FnTrailerUpdates.j1 kj4 a0 a1 a2 a3 true)) else (laws_FnTrailerUpdates.j1 kj4 a0 a1 a2 a3 true)) = some r := H
    have A10 := Aside0.mk A100
    clear A100
    have HC11 := Aside0.mk H
    clear H
    go_upto_region 4 with (first | ((with_reducible refine gate_dst (N := 42) rfl ?_); (try (refine gate_guard (by rfl) ?_; dsimp only)); refine Kd.R_lit k28 _ 28 ?hg (N := 42) ?hd (xs := ([(⟨4, (⟨#[]⟩ : ByteArray), (⟨#[88, 45, 65]⟩ : ByteArray), 0, 0⟩ : S28), (⟨9, (⟨#[88, 45, 65]⟩ : ByteArray), (⟨#[99]⟩ : ByteArray), 0, 0⟩ : S28), (⟨3, (⟨#[88, 45, 65]⟩ : ByteArray), (⟨#[]⟩ : ByteArray), 0, 0⟩ : S28)] : List (S28))) (inner := [.int .i64 4, .string (⟨#[]⟩ : ByteArray), .string (⟨#[88, 45, 65]⟩ : ByteArray), .int .i64 0, .int .i64 0, .int .i64 9, .string (⟨#[88, 45, 65]⟩ : ByteArray), .string (⟨#[99]⟩ : ByteArray), .int .i64 0, .int .i64 0, .int .i64 3, .string (⟨#[88, 45, 65]⟩ : ByteArray), .string (⟨#[]⟩ : ByteArray), .int .i64 0, .int .i64 0]) (ok := fun _ => True) (okp := fun _ => True) ?hr ?hp (fun _ hk => hk) trivial (Below.refl _ _) (Nat.le_refl _) (by simp) ?_; (case hd => rfl); (case hg => rfl); (case hr => first | (go_simp; done) | (go_simp; rfl)); (case hp => exact (Reps.c5 (show Kd.M k28 _ _ _ (⟨4, (⟨#[]⟩ : ByteArray), (⟨#[88, 45, 65]⟩ : ByteArray), 0, 0⟩ : S28) [.int .i64 4, .string (⟨#[]⟩ : ByteArray), .string (⟨#[88, 45, 65]⟩ : ByteArray), .int .i64 0, .int .i64 0] from (k28_mkM _ _ _ (⟨4, (⟨#[]⟩ : ByteArray), (⟨#[88, 45, 65]⟩ : ByteArray), 0, 0⟩ : S28) )) (Reps.c5 (show Kd.M k28 _ _ _ (⟨9, (⟨#[88, 45, 65]⟩ : ByteArray), (⟨#[99]⟩ : ByteArray), 0, 0⟩ : S28) [.int .i64 9, .string (⟨#[88, 45, 65]⟩ : ByteArray), .string (⟨#[99]⟩ : ByteArray), .int .i64 0, .int .i64 0] from (k28_mkM _ _ _ (⟨9, (⟨#[88, 45, 65]⟩ : ByteArray), (⟨#[99]⟩ : ByteArray), 0, 0⟩ : S28) )) (Reps.c5 (show Kd.M k28 _ _ _ (⟨3, (⟨#[88, 45, 65]⟩ : ByteArray), (⟨#[]⟩ : ByteArray), 0, 0⟩ : S28) [.int .i64 3, .string (⟨#[88, 45, 65]⟩ : ByteArray), .string (⟨#[]⟩ : ByteArray), .int .i64 0, .int .i64 0] from (k28_mkM _ _ _ (⟨3, (⟨#[88, 45, 65]⟩ : ByteArray), (⟨#[]⟩ : ByteArray), 0, 0⟩ : S28) )) (Reps.none _ _))))); intro v316 w12 ho13 hb hg_ hnew_; clear hg_ hnew_; (first | rw [← Ny315.out] at ho13 | (simp only [Int.reduceToNat] at ho13; rw [← Ny315.out] at ho13)); have n0_ := Aside0.mk (Kd.R_lower ho13 (below_size (by repeat (first | (with_reducible first | exact HB.out | apply below_alloc | apply pw_below_drewN | apply below_drew1) | exact HB.out)))); have n1_ := Aside0.mk (below_step (by repeat (first | (with_reducible first | exact HB.out | apply below_alloc | apply pw_below_drewN | apply below_drew1) | exact HB.out)) hb); clear HB; have HO317 := n0_; have HB := n1_; clear n0_ n1_; clear hb ho13; obtain ⟨Ao14, co14, eo14⟩ := Kd.R_slice HO317.out; subst eo14) | ((with_reducible refine gate_callee (f := 9) rfl ?_); refine goesL_ (some 43) rfl rfl Try.func9 (by kernel_rfl) rfl #[.slice Ao14 y315.length co14] rfl (by (try simp only [List.map_toArray, List.map_cons, List.map_nil]); first | done | rfl | (simp only [List.length_drop, List.length_take]; rfl)) ?_; (with_reducible refine (impl_TrailerScript.calls _ _ y315 t318 t319 t320 _ ?side1 ?side2 A10.out).mono ?_); (case side1 => repeat (first | exact (Kd.R_reads' HO317.out).2.2 | (with_reducible refine Kd.C_alloc ?_ _) | (with_reducible refine Kd.C_drewN ?_ _) | (with_reducible refine Kd.C_drew ?_))); (case side2 => exact (Kd.R_reads' HO317.out).2.1); rintro e w15 ⟨v321, rfl, ho0, hb⟩; refine ⟨_, rfl, ?_⟩; have n0_ := Aside0.mk (Kd.R_below (by (with_reducible repeat (first | apply Kd.R_alloc | apply Kd.R_drewN | apply Kd.R_drew)); exact HO317.out) hb); have n1_ := Aside0.mk (Kd.S_lower ho0 (below_size (by repeat (first | (with_reducible first | exact HB.out | apply below_alloc | apply pw_below_drewN | apply below_drew1) | exact HB.out)))); have n2_ := Aside0.mk (below_step (by repeat (first | (with_reducible first | exact HB.out | apply below_alloc | apply pw_below_drewN | apply below_drew1) | exact HB.out)) hb); clear HO317; clear HB; have HO317 := n0_; have HO322 := n1_; have HB := n2_; clear n0_ n1_ n2_; (try clear hb); (try clear hb2); (try clear hk); (try clear hi); (try clear ho0)))
    (try simp only [Act.put, List.setIfInBounds_toArray, List.set_cons_zero, List.set_cons_succ])
    go_cut [60] (fun v60 wc => ∃ (kq : Nat) (x60_10 : Bool), v60 = .bool x60_10 ∧ Aside0 (laws_FnTrailerUpdates.j1 kq a0 a1 a2 a3 x60_10 = some r) ∧ Aside0 (kq ≤ kj4) ∧ Aside0 (Below w.heap.size w wc))
    case first =>
     have H := HC11.out
     clear HC11
     by_cases c16 : t320 = true
     ·subst c16
      have H1 : (if (t318.length : Int) = 3 then (if 2 < (t318.length : Int) then (laws_FnTrailerUpdates.j1 kj4 a0 a1 a2 a3 (((rd_T32 t318 2).f0).toList != ([99] : List UInt8))) else (none)) else (laws_FnTrailerUpdates.j1 kj4 a0 a1 a2 a3 true)) = some r := by rw [if_pos rfl] at H; exact H
      clear H
      have H := H1
      clear H1
      by_cases c17 : (t318.length : Int) = 3
      ·rw [if_pos c17] at H
       have c17b0 : ((t318.length : Int) == 3) = true := beq_iff_eq.mpr c17
       have c17b1 : ((t318.length : Int) != 3) = false := bne_eq_false_iff_eq.mpr c17
       clear c17
       (first | rw [c17b0] | (simp only [i64_w, i32_w]; rw [c17b0]) | skip)
       by_cases c18 : 2 < (t318.length : Int)
       ·rw [if_pos c18] at H
        have c18b0 : decide (2 < (t318.length : Int)) = true := decide_eq_true c18
        have c18b1 : decide (2 < t318.length) = true := decide_eq_true (by omega)
        clear c18
        have H' := Aside0.mk H
        clear H
        obtain ⟨Ao19, co19, eo19⟩ := Kd.S_slice HO322.out
        subst eo19
        have p323 : 0 ≤ (2 : Int) := (by omega)
        have q323 : 2 < (t318.length : Int) := of_decide_eq_true (by first | (with_reducible assumption) | assumption)
        obtain ⟨ad323, A323_3, c323_3, A323_4, c323_4, e323, hx323_0, hx323_1, hx323_2, hx323_3, hx323_4, hl323_3, hi323_3, hl323_4, hi323_4⟩ := at_T32 (Kd.S_reads' HO322.out).2.2 2 p323 q323
        cases e323
        obtain ⟨ce323, hce323, hMe323, hcc323⟩ := Kd.S_get HO322.out z32 2 p323 (by first | exact q323 | exact of_decide_eq_true (by first | (with_reducible assumption) | assumption) | (have e_ := (Kd.S_reads' HO322.out).1; omega))
        obtain ⟨ve323_3, ve323_4, rfl, ge323_3, ge323_4⟩ := k32_openM hMe323
        have hv323_3 := hcc323 3 _ rfl
        rw [add_field _ _ 3 (by omega)] at hv323_3
        replace hv323_3 := Option.some.inj (hv323_3.symm.trans hx323_3)
        rw [hv323_3] at ge323_3
        have HL323_3 := Aside0.mk (show Kd.R Kd.string 9 _ _ _ _ ((rd_T32 t318 2).f3) from ge323_3)
        clear hv323_3 ge323_3
        have hv323_4 := hcc323 4 _ rfl
        rw [add_field _ _ 4 (by omega)] at hv323_4
        replace hv323_4 := Option.some.inj (hv323_4.symm.trans hx323_4)
        rw [hv323_4] at ge323_4
        have HL323_4 := Aside0.mk (show Kd.R k34 34 _ _ _ _ ((rd_T32 t318 2).f4) from ge323_4)
        clear hv323_4 ge323_4
        clear hcc323 hce323
        (try simp only [show (2 : Int).toNat = 2 from rfl, Nat.reduceMul, Nat.reduceEqDiff, Go.Addr.add, ↓reduceIte] at hx323_0)
        (try simp only [show (2 : Int).toNat = 2 from rfl, Nat.reduceMul, Nat.reduceEqDiff, Go.Addr.add, ↓reduceIte] at hx323_1)
        (try simp only [show (2 : Int).toNat = 2 from rfl, Nat.reduceMul, Nat.reduceEqDiff, Go.Addr.add, ↓reduceIte] at hx323_2)
        (try simp only [show (2 : Int).toNat = 2 from rfl, Nat.reduceMul, Nat.reduceEqDiff, Go.Addr.add, ↓reduceIte] at hx323_3)
        (try simp only [show (2 : Int).toNat = 2 from rfl, Nat.reduceMul, Nat.reduceEqDiff, Go.Addr.add, ↓reduceIte] at hx323_4)
        have qi323 : (2 < t318.length) = True := eq_true (by omega)
        (try rw [show ((2 : Int)).toNat = 2 from rfl] at hx323_0)
        (try rw [show 2 * 5 = 10 from rfl] at hx323_0)
        (try rw [show ((2 : Int)).toNat = 2 from rfl] at hx323_1)
        (try rw [show 2 * 5 = 10 from rfl] at hx323_1)
        (try rw [show ((2 : Int)).toNat = 2 from rfl] at hx323_2)
        (try rw [show 2 * 5 = 10 from rfl] at hx323_2)
        (try rw [show ((2 : Int)).toNat = 2 from rfl] at hx323_3)
        (try rw [show 2 * 5 = 10 from rfl] at hx323_3)
        (try rw [show ((2 : Int)).toNat = 2 from rfl] at hx323_4)
        (try rw [show 2 * 5 = 10 from rfl] at hx323_4)
        have HR323_3 := Aside0.mk hi323_3
        have HC323_3 := Aside0.mk hl323_3
        clear hi323_3 hl323_3
        have HR323_4 := Aside0.mk hi323_4
        have HC323_4 := Aside0.mk hl323_4
        clear hi323_4 hl323_4
        replace p323 := eq_true p323
        replace q323 := eq_true q323
        go_wp2
        go_meet
        case rel => exact ⟨_, ((((rd_T32 t318 2).f0).toList != ([99] : List UInt8))), (by first | rfl | (simp; done) | (rw [prx_ne]; first | done | rfl) | (simp [*]; done)), H', ⟨by have := HJ4.out; first | omega | exact Nat.le_refl _⟩, ⟨by repeat (first | (with_reducible first | exact HB.out | apply below_alloc | apply pw_below_drewN | apply below_drew1) | exact HB.out)⟩⟩
       ·rw [if_neg c18] at H
        exact absurd H (by simp)
      ·rw [if_neg c17] at H
       have c17b0 : ((t318.length : Int) == 3) = false := beq_eq_false_iff_ne.mpr c17
       have c17b1 : ((t318.length : Int) != 3) = true := bne_iff_ne.mpr c17
       (first | rw [c17b0] | (simp only [i64_w, i32_w]; rw [c17b0]) | skip)
       have H' := Aside0.mk H
       clear H
       obtain ⟨Ao20, co20, eo20⟩ := Kd.S_slice HO322.out
       subst eo20
       go_wp2
       go_meet
       case rel => exact ⟨_, (true), (by first | rfl | (simp; done) | (rw [prx_ne]; first | done | rfl) | (simp [*]; done)), H', ⟨by have := HJ4.out; first | omega | exact Nat.le_refl _⟩, ⟨by repeat (first | (with_reducible first | exact HB.out | apply below_alloc | apply pw_below_drewN | apply below_drew1) | exact HB.out)⟩⟩
     ·replace c16 := Bool.eq_false_iff.mpr c16
      subst c16
      have H1 : (laws_FnTrailerUpdates.j1 kj4 a0 a1 a2 a3 true) = some r := by rw [if_neg (show ¬ (false = true) by decide)] at H; exact H
      clear H
      have H := H1
      clear H1
      have H' := Aside0.mk H
      clear H
      go_wp2
      go_meet
      case rel => exact ⟨_, (true), (by first | rfl | (simp; done) | (rw [prx_ne]; first | done | rfl) | (simp [*]; done)), H', ⟨by have := HJ4.out; first | omega | exact Nat.le_refl _⟩, ⟨by repeat (first | (with_reducible first | exact HB.out | apply below_alloc | apply pw_below_drewN | apply below_drew1) | exact HB.out)⟩⟩
    case rest =>
     clear HC11
     try clear c1
     try clear p2
     try clear c3
     try clear p3
     try clear q3
     try clear hx3
     try clear qi3
     try clear c4
     try clear c5
     try clear c6
     try clear c6b0
     try clear c6b1
     try clear c7
     try clear c7b0
     try clear c7b1
     try clear c8
     try clear c8b0
     try clear c8b1
     try clear c9
     try clear c16
     try clear c17
     try clear c17b0
     try clear c17b1
     try clear c18
     try clear c18b0
     try clear c18b1
     try clear hx323_0
     try clear hx323_1
     try clear hx323_2
     try clear hx323_3
     try clear hx323_4
     try clear p2
     try clear p323
     try clear q323
     obtain ⟨kq, x60_10, rfl, HA, HJ10, HB⟩ := hcut
     cases kq with
     | zero => exact absurd HA.out (by simp [laws_FnTrailerUpdates.j1])
     | succ kj10 =>
      have H := HA.out
      clear HA
      simp only [laws_FnTrailerUpdates.j1] at H
      by_cases c21 : x60_10 = true
      ·subst c21
       have H1 : (some false) = some r := by rw [if_pos rfl] at H; exact H
       clear H
       have H := H1
       clear H1
       exact absurd ((Option.some.inj H).trans HRT_.out) (by decide)
      ·replace c21 := Bool.eq_false_iff.mpr c21
       subst c21
       have H1 : ((laws_name.f kj10 a0).bind fun t324 => (if t324 = true then ((laws_name.f kj10 a1).bind fun t325 => (if t325 = true then ((laws_low.f a0).bind fun t326 => ((laws_low.f a1).bind fun t327 => (if t326.toList = t327.toList then (laws_FnTrailerUpdates.j2 kj10 a0 a1 a2 a3 true) else ((laws_word.f kj10 a2).bind fun t328 => (if t328 = true then ((laws_word.f kj10 a3).bind fun t329 => (if t329 = true then ((laws_short.f kj10 (([a2, a3] : List ByteArray))).bind fun t333 => (laws_FnTrailerUpdates.j2 kj10 a0 a1 a2 a3 (!t333))) else (laws_FnTrailerUpdates.j2 kj10 a0 a1 a2 a3 true))) else (laws_FnTrailerUpdates.j2 kj10 a0 a1 a2 a3 true)))))) else (laws_FnTrailerUpdates.j2 kj10 a0 a1 a2 a3 true))) else (laws_FnTrailerUpdates.j2 kj10 a0 a1 a2 a3 true))) = some r := by rw [if_neg (show ¬ (false = true) by decide)] at H; exact H
       clear H
       have H := H1
       clear H1
       have HC22 := Aside0.mk H
       clear H
       go_upto_region 6 with (fail)
       go_cut [92] (fun v92 wc => ∃ (kq : Nat) (x92_21 : Bool), v92 = .bool x92_21 ∧ Aside0 (laws_FnTrailerUpdates.j2 kq a0 a1 a2 a3 x92_21 = some r) ∧ Aside0 (kq ≤ kj10) ∧ Aside0 (Below w.heap.size w wc) ∧ Aside0 (x92_21 = false))
       case first =>
        have H := HC22.out
        clear HC22
        replace H := Option.bind_eq_some_iff.mp H
        obtain ⟨t324, A230, H⟩ := H
        replace H : (if t324 = true then ((laws_name.f kj10 a1).bind fun t325 => (if t325 = true then ((laws_low.f a0).bind fun t326 => ((laws_low.f a1).bind fun t327 => (if t326.toList = t327.toList then (laws_FnTrailerUpdates.j2 kj10 a0 a1 a2 a3 true) else ((laws_word.f kj10 a2).bind fun t328 => (if t328 = true then ((laws_word.f kj10 a3).bind fun t329 => (if t329 = true then ((laws_short.f kj10 (([a2, a3] : List ByteArray))).bind fun t333 => (laws_FnTrailerUpdates.j2 kj10 a0 a1 a2 a3 (!t333))) else (laws_FnTrailerUpdates.j2 kj10 a0 a1 a2 a3 true))) else (laws_FnTrailerUpdates.j2 kj10 a0 a1 a2 a3 true)))))) else (laws_FnTrailerUpdates.j2 kj10 a0 a1 a2 a3 true))) else (laws_FnTrailerUpdates.j2 kj10 a0 a1 a2 a3 true)) = some r := H
        have A23 := Aside0.mk A230
        clear A230
        by_cases c24 : t324 = true
        ·subst c24
         have H1 : ((laws_name.f kj10 a1).bind fun t325 => (if t325 = true then ((laws_low.f a0).bind fun t326 => ((laws_low.f a1).bind fun t327 => (if t326.toList = t327.toList then (laws_FnTrailerUpdates.j2 kj10 a0 a1 a2 a3 true) else ((laws_word.f kj10 a2).bind fun t328 => (if t328 = true then ((laws_word.f kj10 a3).bind fun t329 => (if t329 = true then ((laws_short.f kj10 (([a2, a3] : List ByteArray))).bind fun t333 => (laws_FnTrailerUpdates.j2 kj10 a0 a1 a2 a3 (!t333))) else (laws_FnTrailerUpdates.j2 kj10 a0 a1 a2 a3 true))) else (laws_FnTrailerUpdates.j2 kj10 a0 a1 a2 a3 true)))))) else (laws_FnTrailerUpdates.j2 kj10 a0 a1 a2 a3 true))) = some r := by rw [if_pos rfl] at H; exact H
         clear H
         have H := H1
         clear H1
         replace H := Option.bind_eq_some_iff.mp H
         obtain ⟨t325, A250, H⟩ := H
         replace H : (if t325 = true then ((laws_low.f a0).bind fun t326 => ((laws_low.f a1).bind fun t327 => (if t326.toList = t327.toList then (laws_FnTrailerUpdates.j2 kj10 a0 a1 a2 a3 true) else ((laws_word.f kj10 a2).bind fun t328 => (if t328 = true then ((laws_word.f kj10 a3).bind fun t329 => (if t329 = true then ((laws_short.f kj10 (([a2, a3] : List ByteArray))).bind fun t333 => (laws_FnTrailerUpdates.j2 kj10 a0 a1 a2 a3 (!t333))) else (laws_FnTrailerUpdates.j2 kj10 a0 a1 a2 a3 true))) else (laws_FnTrailerUpdates.j2 kj10 a0 a1 a2 a3 true)))))) else (laws_FnTrailerUpdates.j2 kj10 a0 a1 a2 a3 true)) = some r := H
         have A25 := Aside0.mk A250
         clear A250
         by_cases c26 : t325 = true
         ·subst c26
          have H1 : ((laws_low.f a0).bind fun t326 => ((laws_low.f a1).bind fun t327 => (if t326.toList = t327.toList then (laws_FnTrailerUpdates.j2 kj10 a0 a1 a2 a3 true) else ((laws_word.f kj10 a2).bind fun t328 => (if t328 = true then ((laws_word.f kj10 a3).bind fun t329 => (if t329 = true then ((laws_short.f kj10 (([a2, a3] : List ByteArray))).bind fun t333 => (laws_FnTrailerUpdates.j2 kj10 a0 a1 a2 a3 (!t333))) else (laws_FnTrailerUpdates.j2 kj10 a0 a1 a2 a3 true))) else (laws_FnTrailerUpdates.j2 kj10 a0 a1 a2 a3 true)))))) = some r := by rw [if_pos rfl] at H; exact H
          clear H
          have H := H1
          clear H1
          replace H := Option.bind_eq_some_iff.mp H
          obtain ⟨t326, A270, H⟩ := H
          replace H : ((laws_low.f a1).bind fun t327 => (if t326.toList = t327.toList then (laws_FnTrailerUpdates.j2 kj10 a0 a1 a2 a3 true) else ((laws_word.f kj10 a2).bind fun t328 => (if t328 = true then ((laws_word.f kj10 a3).bind fun t329 => (if t329 = true then ((laws_short.f kj10 (([a2, a3] : List ByteArray))).bind fun t333 => (laws_FnTrailerUpdates.j2 kj10 a0 a1 a2 a3 (!t333))) else (laws_FnTrailerUpdates.j2 kj10 a0 a1 a2 a3 true))) else (laws_FnTrailerUpdates.j2 kj10 a0 a1 a2 a3 true))))) = some r := H
          have A27 := Aside0.mk A270
          clear A270
          replace H := Option.bind_eq_some_iff.mp H
          obtain ⟨t327, A280, H⟩ := H
          replace H : (if t326.toList = t327.toList then (laws_FnTrailerUpdates.j2 kj10 a0 a1 a2 a3 true) else ((laws_word.f kj10 a2).bind fun t328 => (if t328 = true then ((laws_word.f kj10 a3).bind fun t329 => (if t329 = true then ((laws_short.f kj10 (([a2, a3] : List ByteArray))).bind fun t333 => (laws_FnTrailerUpdates.j2 kj10 a0 a1 a2 a3 (!t333))) else (laws_FnTrailerUpdates.j2 kj10 a0 a1 a2 a3 true))) else (laws_FnTrailerUpdates.j2 kj10 a0 a1 a2 a3 true)))) = some r := H
          have A28 := Aside0.mk A280
          clear A280
          by_cases c29 : t326.toList = t327.toList
          ·exact absurd c29 (HM_.out.2.2.1 _ _ A27.out A28.out)
          ·rw [if_neg c29] at H
           have c29b0 : (t326.toList == t327.toList) = false := beq_eq_false_iff_ne.mpr c29
           have c29b1 : (t326.toList != t327.toList) = true := bne_iff_ne.mpr c29
           (first | rw [c29b0] | (simp only [i64_w, i32_w]; rw [c29b0]) | skip)
           replace H := Option.bind_eq_some_iff.mp H
           obtain ⟨t328, A320, H⟩ := H
           replace H : (if t328 = true then ((laws_word.f kj10 a3).bind fun t329 => (if t329 = true then ((laws_short.f kj10 (([a2, a3] : List ByteArray))).bind fun t333 => (laws_FnTrailerUpdates.j2 kj10 a0 a1 a2 a3 (!t333))) else (laws_FnTrailerUpdates.j2 kj10 a0 a1 a2 a3 true))) else (laws_FnTrailerUpdates.j2 kj10 a0 a1 a2 a3 true)) = some r := H
           have A32 := Aside0.mk A320
           clear A320
           by_cases c33 : t328 = true
           ·subst c33
            have H1 : ((laws_word.f kj10 a3).bind fun t329 => (if t329 = true then ((laws_short.f kj10 (([a2, a3] : List ByteArray))).bind fun t333 => (laws_FnTrailerUpdates.j2 kj10 a0 a1 a2 a3 (!t333))) else (laws_FnTrailerUpdates.j2 kj10 a0 a1 a2 a3 true))) = some r := by rw [if_pos rfl] at H; exact H
            clear H
            have H := H1
            clear H1
            replace H := Option.bind_eq_some_iff.mp H
            obtain ⟨t329, A340, H⟩ := H
            replace H : (if t329 = true then ((laws_short.f kj10 (([a2, a3] : List ByteArray))).bind fun t333 => (laws_FnTrailerUpdates.j2 kj10 a0 a1 a2 a3 (!t333))) else (laws_FnTrailerUpdates.j2 kj10 a0 a1 a2 a3 true)) = some r := H
            have A34 := Aside0.mk A340
            clear A340
            by_cases c35 : t329 = true
            ·subst c35
             have H1 : ((laws_short.f kj10 (([a2, a3] : List ByteArray))).bind fun t333 => (laws_FnTrailerUpdates.j2 kj10 a0 a1 a2 a3 (!t333))) = some r := by rw [if_pos rfl] at H; exact H
             clear H
             have H := H1
             clear H1
             obtain ⟨y330, hy330⟩ : ∃ y_ : List ByteArray, y_ = (([a2, a3] : List ByteArray)) := ⟨_, rfl⟩
             replace H : ((laws_short.f kj10 y330).bind fun t333 => (laws_FnTrailerUpdates.j2 kj10 a0 a1 a2 a3 (!t333))) = some r := by first | (rw [hy330]; with_reducible exact H) | (have H2_ := (Option.bind_some _ _).symm.trans H; rw [hy330]; with_reducible exact H2_) | (have H2_ := (Option.bind_some _ _).symm.trans H; with_reducible exact H2_) | with_reducible exact H | (rw [hy330]; exact H) | exact H
             have Ny330 := Aside0.mk hy330
             clear hy330
             replace H := Option.bind_eq_some_iff.mp H
             obtain ⟨t333, A360, H⟩ := H
             replace H : (laws_FnTrailerUpdates.j2 kj10 a0 a1 a2 a3 (!t333)) = some r := H
             have A36 := Aside0.mk A360
             clear A360
             have H' := Aside0.mk H
             clear H
             go_wp2_with (first | ((with_reducible refine gate_callee (f := 10) rfl ?_); refine goesL_ (some 62) rfl rfl Try.func10 (by kernel_rfl) rfl #[.string a0] rfl (by (try simp only [List.map_toArray, List.map_cons, List.map_nil]); first | done | rfl | (simp only [List.length_drop, List.length_take]; rfl)) ?_; (with_reducible refine (laws_name.calls kj10 a0 true _ A23.out).mono ?_); rintro e w' ⟨rfl, ⟨nd, rfl⟩⟩; refine ⟨_, rfl, ?_⟩) | (go_at_call 10; (with_reducible refine (laws_name.calls kj10 a1 true _ A25.out).mono ?_); rintro e w' ⟨rfl, ⟨nd, rfl⟩⟩) | (go_at_call 15; (with_reducible refine (laws_low.calls a0 t326 _ A27.out).mono ?_); rintro e w37 ⟨rfl, hb⟩; have n0_ := Aside0.mk (below_step (by repeat (first | (with_reducible first | exact HB.out | apply below_alloc | apply pw_below_drewN | apply below_drew1) | exact HB.out)) hb); clear HB; have HB := n0_; clear n0_; (try clear hb); (try clear hb2); (try clear hk); (try clear hi)) | (go_at_call 15; (with_reducible refine (laws_low.calls a1 t327 _ A28.out).mono ?_); rintro e w38 ⟨rfl, hb⟩; have n0_ := Aside0.mk (below_step (by repeat (first | (with_reducible first | exact HB.out | apply below_alloc | apply pw_below_drewN | apply below_drew1) | exact HB.out)) hb); clear HB; have HB := n0_; clear n0_; (try clear hb); (try clear hb2); (try clear hk); (try clear hi)) | (go_at_call 16; (with_reducible refine (laws_word.calls kj10 a2 true _ A32.out).mono ?_); rintro e w' ⟨rfl, ⟨nd, rfl⟩⟩) | (go_at_call 16; (with_reducible refine (laws_word.calls kj10 a3 true _ A34.out).mono ?_); rintro e w' ⟨rfl, ⟨nd, rfl⟩⟩) | ((with_reducible refine gate_dst (N := 89) rfl ?_); (try (refine gate_guard (by rfl) ?_; dsimp only)); refine Kd.R_lit Kd.string _ 9 ?hg (N := 89) ?hd (xs := ([a2, a3] : List ByteArray)) (inner := [.string a2, .string a3]) (ok := fun _ => True) (okp := fun _ => True) ?hr ?hp (fun _ hk => hk) trivial (Below.refl _ _) (Nat.le_refl _) (by simp) ?_; (case hd => rfl); (case hg => rfl); (case hr => first | (go_simp; done) | (go_simp; rfl)); (case hp => exact (Reps.one (show Kd.M Kd.string _ _ _ a2 [.string a2] from rfl) (Reps.one (show Kd.M Kd.string _ _ _ a3 [.string a3] from rfl) (Reps.none _ _)))); intro v331 w39 ho40 hb hg_ hnew_; clear hg_ hnew_; (first | rw [← Ny330.out] at ho40 | (simp only [Int.reduceToNat] at ho40; rw [← Ny330.out] at ho40)); have n0_ := Aside0.mk (Kd.R_lower ho40 (below_size (by repeat (first | (with_reducible first | exact HB.out | apply below_alloc | apply pw_below_drewN | apply below_drew1) | exact HB.out)))); have n1_ := Aside0.mk (below_step (by repeat (first | (with_reducible first | exact HB.out | apply below_alloc | apply pw_below_drewN | apply below_drew1) | exact HB.out)) hb); clear HB; have HO332 := n0_; have HB := n1_; clear n0_ n1_; clear hb ho40; obtain ⟨Ao41, co41, eo41⟩ := Kd.R_slice HO332.out; subst eo41) | (go_at_call 17; (with_reducible refine (laws_short.calls kj10 _ _ y330 t333 _ ?side1 ?side2 A36.out).mono ?_); (case side1 => repeat (first | exact (Kd.R_reads' HO332.out).2.2 | (with_reducible refine Kd.C_alloc ?_ _) | (with_reducible refine Kd.C_drewN ?_ _) | (with_reducible refine Kd.C_drew ?_))); (case side2 => exact (Kd.R_reads' HO332.out).2.1); rintro e w' ⟨rfl, ⟨nd, rfl⟩⟩))
             go_meet
             case rel => exact ⟨_, (!t333), (by first | rfl | (simp; done) | (rw [prx_ne]; first | done | rfl) | (simp [*]; done)), H', ⟨by have := HJ4.out; have := HJ10.out; first | omega | exact Nat.le_refl _⟩, ⟨by repeat (first | (with_reducible first | exact HB.out | apply below_alloc | apply pw_below_drewN | apply below_drew1) | exact HB.out)⟩, ⟨by have e_ := HM_.out.2.2.2.2.2 kj10 t333 (by rw [← Ny330.out]; exact A36.out); rw [e_]; rfl⟩⟩
            ·exact absurd (HM_.out.2.2.2.2.1 _ _ A34.out) c35
           ·exact absurd (HM_.out.2.2.2.1 _ _ A32.out) c33
         ·exact absurd (HM_.out.2.1 _ _ A25.out) c26
        ·exact absurd (HM_.out.1 _ _ A23.out) c24
       case rest =>
        clear HC22
        try clear c1
        try clear c2
        try clear p2
        try clear c3
        try clear p3
        try clear q3
        try clear hx3
        try clear qi3
        try clear c4
        try clear c5
        try clear c6
        try clear c6b0
        try clear c6b1
        try clear c7
        try clear c7b0
        try clear c7b1
        try clear c8
        try clear c8b0
        try clear c8b1
        try clear c9
        try clear c10
        try clear c16
        try clear c17
        try clear c17b0
        try clear c17b1
        try clear c18
        try clear c18b0
        try clear c18b1
        try clear c21
        try clear c24
        try clear c26
        try clear c29
        try clear c29b0
        try clear c29b1
        try clear c32
        try clear p32
        try clear q32
        try clear hx32
        try clear qi32
        try clear c33
        try clear c35
        try clear hx323_0
        try clear hx323_1
        try clear hx323_2
        try clear hx323_3
        try clear hx323_4
        try clear p2
        try clear p3
        try clear p323
        try clear q3
        try clear q323
        obtain ⟨kq, x92_21, rfl, HA, HJ21, HB, HXF_⟩ := hcut
        cases kq with
        | zero => exact absurd HA.out (by simp [laws_FnTrailerUpdates.j2])
        | succ kj21 =>
         have H := HA.out
         clear HA
         simp only [laws_FnTrailerUpdates.j2] at H
         by_cases c46 : x92_21 = true
         ·exact absurd (c46.symm.trans HXF_.out) (by decide)
         ·replace c46 := Bool.eq_false_iff.mpr c46
          subst c46
          have H1 : ((laws_normal.f a0).bind fun t334 => ((laws_normal.f a1).bind fun t335 => ((impl_TrailerScript.f (([(⟨4, (⟨#[]⟩ : ByteArray), a0, 0, 0⟩ : S28), (⟨9, t335, a3, 0, 0⟩ : S28), (⟨3, a0, (⟨#[]⟩ : ByteArray), 0, 0⟩ : S28), (⟨9, t334, a2, 0, 0⟩ : S28), (⟨3, a0, (⟨#[]⟩ : ByteArray), 0, 0⟩ : S28), (⟨9, t334, a3, 0, 0⟩ : S28), (⟨3, a0, (⟨#[]⟩ : ByteArray), 0, 0⟩ : S28), (⟨7, (⟨#[]⟩ : ByteArray), (⟨#[]⟩ : ByteArray), 0, 0⟩ : S28)] : List (S28)))).bind fun bt339 => ((impl_TrailerScript.f (([(⟨10, (⟨#[]⟩ : ByteArray), (⟨#[]⟩ : ByteArray), 0, 0⟩ : S28), (⟨1, a0, a2, 0, 0⟩ : S28), (⟨7, (⟨#[]⟩ : ByteArray), (⟨#[]⟩ : ByteArray), 0, 0⟩ : S28)] : List (S28)))).bind fun bt347 => (if bt339.2.2 = true then (if bt347.2.2 = true then (if (bt339.1.length : Int) = 8 then (laws_FnTrailerUpdates.j3 kj21 a0 a2 t334 bt339.1 bt347.1 ((bt347.1.length : Int) != 3)) else (laws_FnTrailerUpdates.j3 kj21 a0 a2 t334 bt339.1 bt347.1 true)) else (laws_FnTrailerUpdates.j3 kj21 a0 a2 t334 bt339.1 bt347.1 true)) else (laws_FnTrailerUpdates.j3 kj21 a0 a2 t334 bt339.1 bt347.1 true)))))) = some r := by rw [if_neg (show ¬ (false = true) by decide)] at H; exact H
          clear H
          have H := H1
          clear H1
          replace H := Option.bind_eq_some_iff.mp H
          obtain ⟨t334, A470, H⟩ := H
          replace H : ((laws_normal.f a1).bind fun t335 => ((impl_TrailerScript.f (([(⟨4, (⟨#[]⟩ : ByteArray), a0, 0, 0⟩ : S28), (⟨9, t335, a3, 0, 0⟩ : S28), (⟨3, a0, (⟨#[]⟩ : ByteArray), 0, 0⟩ : S28), (⟨9, t334, a2, 0, 0⟩ : S28), (⟨3, a0, (⟨#[]⟩ : ByteArray), 0, 0⟩ : S28), (⟨9, t334, a3, 0, 0⟩ : S28), (⟨3, a0, (⟨#[]⟩ : ByteArray), 0, 0⟩ : S28), (⟨7, (⟨#[]⟩ : ByteArray), (⟨#[]⟩ : ByteArray), 0, 0⟩ : S28)] : List (S28)))).bind fun bt339 => ((impl_TrailerScript.f (([(⟨10, (⟨#[]⟩ : ByteArray), (⟨#[]⟩ : ByteArray), 0, 0⟩ : S28), (⟨1, a0, a2, 0, 0⟩ : S28), (⟨7, (⟨#[]⟩ : ByteArray), (⟨#[]⟩ : ByteArray), 0, 0⟩ : S28)] : List (S28)))).bind fun bt347 => (if bt339.2.2 = true then (if bt347.2.2 = true then (if (bt339.1.length : Int) = 8 then (laws_FnTrailerUpdates.j3 kj21 a0 a2 t334 bt339.1 bt347.1 ((bt347.1.length : Int) != 3)) else (laws_FnTrailerUpdates.j3 kj21 a0 a2 t334 bt339.1 bt347.1 true)) else (laws_FnTrailerUpdates.j3 kj21 a0 a2 t334 bt339.1 bt347.1 true)) else (laws_FnTrailerUpdates.j3 kj21 a0 a2 t334 bt339.1 bt347.1 true))))) = some r := H
          have A47 := Aside0.mk A470
          clear A470
          replace H := Option.bind_eq_some_iff.mp H
          obtain ⟨t335, A480, H⟩ := H
          replace H : ((impl_TrailerScript.f (([(⟨4, (⟨#[]⟩ : ByteArray), a0, 0, 0⟩ : S28), (⟨9, t335, a3, 0, 0⟩ : S28), (⟨3, a0, (⟨#[]⟩ : ByteArray), 0, 0⟩ : S28), (⟨9, t334, a2, 0, 0⟩ : S28), (⟨3, a0, (⟨#[]⟩ : ByteArray), 0, 0⟩ : S28), (⟨9, t334, a3, 0, 0⟩ : S28), (⟨3, a0, (⟨#[]⟩ : ByteArray), 0, 0⟩ : S28), (⟨7, (⟨#[]⟩ : ByteArray), (⟨#[]⟩ : ByteArray), 0, 0⟩ : S28)] : List (S28)))).bind fun bt339 => ((impl_TrailerScript.f (([(⟨10, (⟨#[]⟩ : ByteArray), (⟨#[]⟩ : ByteArray), 0, 0⟩ : S28), (⟨1, a0, a2, 0, 0⟩ : S28), (⟨7, (⟨#[]⟩ : ByteArray), (⟨#[]⟩ : ByteArray), 0, 0⟩ : S28)] : List (S28)))).bind fun bt347 => (if bt339.2.2 = true then (if bt347.2.2 = true then (if (bt339.1.length : Int) = 8 then (laws_FnTrailerUpdates.j3 kj21 a0 a2 t334 bt339.1 bt347.1 ((bt347.1.length : Int) != 3)) else (laws_FnTrailerUpdates.j3 kj21 a0 a2 t334 bt339.1 bt347.1 true)) else (laws_FnTrailerUpdates.j3 kj21 a0 a2 t334 bt339.1 bt347.1 true)) else (laws_FnTrailerUpdates.j3 kj21 a0 a2 t334 bt339.1 bt347.1 true)))) = some r := H
          have A48 := Aside0.mk A480
          clear A480
          obtain ⟨y336, hy336⟩ : ∃ y_ : List (S28), y_ = (([(⟨4, (⟨#[]⟩ : ByteArray), a0, 0, 0⟩ : S28), (⟨9, t335, a3, 0, 0⟩ : S28), (⟨3, a0, (⟨#[]⟩ : ByteArray), 0, 0⟩ : S28), (⟨9, t334, a2, 0, 0⟩ : S28), (⟨3, a0, (⟨#[]⟩ : ByteArray), 0, 0⟩ : S28), (⟨9, t334, a3, 0, 0⟩ : S28), (⟨3, a0, (⟨#[]⟩ : ByteArray), 0, 0⟩ : S28), (⟨7, (⟨#[]⟩ : ByteArray), (⟨#[]⟩ : ByteArray), 0, 0⟩ : S28)] : List (S28))) := ⟨_, rfl⟩
          replace H : ((impl_TrailerScript.f y336).bind fun bt339 => ((impl_TrailerScript.f (([(⟨10, (⟨#[]⟩ : ByteArray), (⟨#[]⟩ : ByteArray), 0, 0⟩ : S28), (⟨1, a0, a2, 0, 0⟩ : S28), (⟨7, (⟨#[]⟩ : ByteArray), (⟨#[]⟩ : ByteArray), 0, 0⟩ : S28)] : List (S28)))).bind fun bt347 => (if bt339.2.2 = true then (if bt347.2.2 = true then (if (bt339.1.length : Int) = 8 then (laws_FnTrailerUpdates.j3 kj21 a0 a2 t334 bt339.1 bt347.1 ((bt347.1.length : Int) != 3)) else (laws_FnTrailerUpdates.j3 kj21 a0 a2 t334 bt339.1 bt347.1 true)) else (laws_FnTrailerUpdates.j3 kj21 a0 a2 t334 bt339.1 bt347.1 true)) else (laws_FnTrailerUpdates.j3 kj21 a0 a2 t334 bt339.1 bt347.1 true)))) = some r := by first | (rw [hy336]; with_reducible exact H) | (have H2_ := (Option.bind_some _ _).symm.trans H; rw [hy336]; with_reducible exact H2_) | (have H2_ := (Option.bind_some _ _).symm.trans H; with_reducible exact H2_) | with_reducible exact H | (rw [hy336]; exact H) | exact H
          have Ny336 := Aside0.mk hy336
          clear hy336
          replace H := Option.bind_eq_some_iff.mp H
          obtain ⟨⟨t339, t340, t341⟩, A490, H⟩ := H
          replace H : ((impl_TrailerScript.f (([(⟨10, (⟨#[]⟩ : ByteArray), (⟨#[]⟩ : ByteArray), 0, 0⟩ : S28), (⟨1, a0, a2, 0, 0⟩ : S28), (⟨7, (⟨#[]⟩ : ByteArray), (⟨#[]⟩ : ByteArray), 0, 0⟩ : S28)] : List (S28)))).bind fun bt347 => (if t341 = true then (if bt347.2.2 = true then (if (t339.length : Int) = 8 then (laws_FnTrailerUpdates.j3 kj21 a0 a2 t334 t339 bt347.1 ((bt347.1.length : Int) != 3)) else (laws_FnTrailerUpdates.j3 kj21 a0 a2 t334 t339 bt347.1 true)) else (laws_FnTrailerUpdates.j3 kj21 a0 a2 t334 t339 bt347.1 true)) else (laws_FnTrailerUpdates.j3 kj21 a0 a2 t334 t339 bt347.1 true))) = some r := H
          have A49 := Aside0.mk A490
          clear A490
          obtain ⟨y344, hy344⟩ : ∃ y_ : List (S28), y_ = (([(⟨10, (⟨#[]⟩ : ByteArray), (⟨#[]⟩ : ByteArray), 0, 0⟩ : S28), (⟨1, a0, a2, 0, 0⟩ : S28), (⟨7, (⟨#[]⟩ : ByteArray), (⟨#[]⟩ : ByteArray), 0, 0⟩ : S28)] : List (S28))) := ⟨_, rfl⟩
          replace H : ((impl_TrailerScript.f y344).bind fun bt347 => (if t341 = true then (if bt347.2.2 = true then (if (t339.length : Int) = 8 then (laws_FnTrailerUpdates.j3 kj21 a0 a2 t334 t339 bt347.1 ((bt347.1.length : Int) != 3)) else (laws_FnTrailerUpdates.j3 kj21 a0 a2 t334 t339 bt347.1 true)) else (laws_FnTrailerUpdates.j3 kj21 a0 a2 t334 t339 bt347.1 true)) else (laws_FnTrailerUpdates.j3 kj21 a0 a2 t334 t339 bt347.1 true))) = some r := by first | (rw [hy344]; with_reducible exact H) | (have H2_ := (Option.bind_some _ _).symm.trans H; rw [hy344]; with_reducible exact H2_) | (have H2_ := (Option.bind_some _ _).symm.trans H; with_reducible exact H2_) | with_reducible exact H | (rw [hy344]; exact H) | exact H
          have Ny344 := Aside0.mk hy344
          clear hy344
          replace H := Option.bind_eq_some_iff.mp H
          obtain ⟨⟨t347, t348, t349⟩, A500, H⟩ := H
          replace H : (if t341 = true then (if t349 = true then (if (t339.length : Int) = 8 then (laws_FnTrailerUpdates.j3 kj21 a0 a2 t334 t339 t347 ((t347.length : Int) != 3)) else (laws_FnTrailerUpdates.j3 kj21 a0 a2 t334 t339 t347 true)) else (laws_FnTrailerUpdates.j3 kj21 a0 a2 t334 t339 t347 true)) else (laws_FnTrailerUpdates.j3 kj21 a0 a2 t334 t339 t347 true)) = some r := H
          have A50 := Aside0.mk A500
          clear A500
          have HC51 := Aside0.mk H
          clear H
          go_upto_region 11 with (first | ((with_reducible refine gate_callee (f := 12) rfl ?_); refine goesL_ (some 94) rfl rfl Try.func12 (by kernel_rfl) rfl #[.string a0] rfl (by (try simp only [List.map_toArray, List.map_cons, List.map_nil]); first | done | rfl | (simp only [List.length_drop, List.length_take]; rfl)) ?_; (with_reducible refine (laws_normal.calls a0 t334 _ A47.out).mono ?_); rintro e w52 ⟨rfl, hb⟩; refine ⟨_, rfl, ?_⟩; have n0_ := Aside0.mk (below_step (by repeat (first | (with_reducible first | exact HB.out | apply below_alloc | apply pw_below_drewN | apply below_drew1) | exact HB.out)) hb); clear HB; have HB := n0_; clear n0_; (try clear hb); (try clear hb2); (try clear hk); (try clear hi)) | ((with_reducible refine gate_callee (f := 12) rfl ?_); refine goesL_ (some 96) rfl rfl Try.func12 (by kernel_rfl) rfl #[.string a1] rfl (by (try simp only [List.map_toArray, List.map_cons, List.map_nil]); first | done | rfl | (simp only [List.length_drop, List.length_take]; rfl)) ?_; (with_reducible refine (laws_normal.calls a1 t335 _ A48.out).mono ?_); rintro e w53 ⟨rfl, hb⟩; refine ⟨_, rfl, ?_⟩; have n0_ := Aside0.mk (below_step (by repeat (first | (with_reducible first | exact HB.out | apply below_alloc | apply pw_below_drewN | apply below_drew1) | exact HB.out)) hb); clear HB; have HB := n0_; clear n0_; (try clear hb); (try clear hb2); (try clear hk); (try clear hi)) | ((with_reducible refine gate_dst (N := 116) rfl ?_); (try (refine gate_guard (by rfl) ?_; dsimp only)); refine Kd.R_lit k28 _ 28 ?hg (N := 116) ?hd (xs := ([(⟨4, (⟨#[]⟩ : ByteArray), a0, 0, 0⟩ : S28), (⟨9, t335, a3, 0, 0⟩ : S28), (⟨3, a0, (⟨#[]⟩ : ByteArray), 0, 0⟩ : S28), (⟨9, t334, a2, 0, 0⟩ : S28), (⟨3, a0, (⟨#[]⟩ : ByteArray), 0, 0⟩ : S28), (⟨9, t334, a3, 0, 0⟩ : S28), (⟨3, a0, (⟨#[]⟩ : ByteArray), 0, 0⟩ : S28), (⟨7, (⟨#[]⟩ : ByteArray), (⟨#[]⟩ : ByteArray), 0, 0⟩ : S28)] : List (S28))) (inner := [.int .i64 4, .string (⟨#[]⟩ : ByteArray), .string a0, .int .i64 0, .int .i64 0, .int .i64 9, .string t335, .string a3, .int .i64 0, .int .i64 0, .int .i64 3, .string a0, .string (⟨#[]⟩ : ByteArray), .int .i64 0, .int .i64 0, .int .i64 9, .string t334, .string a2, .int .i64 0, .int .i64 0, .int .i64 3, .string a0, .string (⟨#[]⟩ : ByteArray), .int .i64 0, .int .i64 0, .int .i64 9, .string t334, .string a3, .int .i64 0, .int .i64 0, .int .i64 3, .string a0, .string (⟨#[]⟩ : ByteArray), .int .i64 0, .int .i64 0, .int .i64 7, .string (⟨#[]⟩ : ByteArray), .string (⟨#[]⟩ : ByteArray), .int .i64 0, .int .i64 0]) (ok := fun _ => True) (okp := fun _ => True) ?hr ?hp (fun _ hk => hk) trivial (Below.refl _ _) (Nat.le_refl _) (by simp) ?_; (case hd => rfl); (case hg => rfl); (case hr => first | (go_simp; done) | (go_simp; rfl)); (case hp => exact (Reps.c5 (show Kd.M k28 _ _ _ (⟨4, (⟨#[]⟩ : ByteArray), a0, 0, 0⟩ : S28) [.int .i64 4, .string (⟨#[]⟩ : ByteArray), .string a0, .int .i64 0, .int .i64 0] from (k28_mkM _ _ _ (⟨4, (⟨#[]⟩ : ByteArray), a0, 0, 0⟩ : S28) )) (Reps.c5 (show Kd.M k28 _ _ _ (⟨9, t335, a3, 0, 0⟩ : S28) [.int .i64 9, .string t335, .string a3, .int .i64 0, .int .i64 0] from (k28_mkM _ _ _ (⟨9, t335, a3, 0, 0⟩ : S28) )) (Reps.c5 (show Kd.M k28 _ _ _ (⟨3, a0, (⟨#[]⟩ : ByteArray), 0, 0⟩ : S28) [.int .i64 3, .string a0, .string (⟨#[]⟩ : ByteArray), .int .i64 0, .int .i64 0] from (k28_mkM _ _ _ (⟨3, a0, (⟨#[]⟩ : ByteArray), 0, 0⟩ : S28) )) (Reps.c5 (show Kd.M k28 _ _ _ (⟨9, t334, a2, 0, 0⟩ : S28) [.int .i64 9, .string t334, .string a2, .int .i64 0, .int .i64 0] from (k28_mkM _ _ _ (⟨9, t334, a2, 0, 0⟩ : S28) )) (Reps.c5 (show Kd.M k28 _ _ _ (⟨3, a0, (⟨#[]⟩ : ByteArray), 0, 0⟩ : S28) [.int .i64 3, .string a0, .string (⟨#[]⟩ : ByteArray), .int .i64 0, .int .i64 0] from (k28_mkM _ _ _ (⟨3, a0, (⟨#[]⟩ : ByteArray), 0, 0⟩ : S28) )) (Reps.c5 (show Kd.M k28 _ _ _ (⟨9, t334, a3, 0, 0⟩ : S28) [.int .i64 9, .string t334, .string a3, .int .i64 0, .int .i64 0] from (k28_mkM _ _ _ (⟨9, t334, a3, 0, 0⟩ : S28) )) (Reps.c5 (show Kd.M k28 _ _ _ (⟨3, a0, (⟨#[]⟩ : ByteArray), 0, 0⟩ : S28) [.int .i64 3, .string a0, .string (⟨#[]⟩ : ByteArray), .int .i64 0, .int .i64 0] from (k28_mkM _ _ _ (⟨3, a0, (⟨#[]⟩ : ByteArray), 0, 0⟩ : S28) )) (Reps.c5 (show Kd.M k28 _ _ _ (⟨7, (⟨#[]⟩ : ByteArray), (⟨#[]⟩ : ByteArray), 0, 0⟩ : S28) [.int .i64 7, .string (⟨#[]⟩ : ByteArray), .string (⟨#[]⟩ : ByteArray), .int .i64 0, .int .i64 0] from (k28_mkM _ _ _ (⟨7, (⟨#[]⟩ : ByteArray), (⟨#[]⟩ : ByteArray), 0, 0⟩ : S28) )) (Reps.none _ _)))))))))); intro v337 w54 ho55 hb hg_ hnew_; clear hg_ hnew_; (first | rw [← Ny336.out] at ho55 | (simp only [Int.reduceToNat] at ho55; rw [← Ny336.out] at ho55)); have n0_ := Aside0.mk (Kd.R_lower ho55 (below_size (by repeat (first | (with_reducible first | exact HB.out | apply below_alloc | apply pw_below_drewN | apply below_drew1) | exact HB.out)))); have n1_ := Aside0.mk (below_step (by repeat (first | (with_reducible first | exact HB.out | apply below_alloc | apply pw_below_drewN | apply below_drew1) | exact HB.out)) hb); clear HB; have HO338 := n0_; have HB := n1_; clear n0_ n1_; clear hb ho55; obtain ⟨Ao56, co56, eo56⟩ := Kd.R_slice HO338.out; subst eo56) | ((with_reducible refine gate_callee (f := 9) rfl ?_); refine goesL_ (some 117) rfl rfl Try.func9 (by kernel_rfl) rfl #[.slice Ao56 y336.length co56] rfl (by (try simp only [List.map_toArray, List.map_cons, List.map_nil]); first | done | rfl | (simp only [List.length_drop, List.length_take]; rfl)) ?_; (with_reducible refine (impl_TrailerScript.calls _ _ y336 t339 t340 t341 _ ?side1 ?side2 A49.out).mono ?_); (case side1 => repeat (first | exact (Kd.R_reads' HO338.out).2.2 | (with_reducible refine Kd.C_alloc ?_ _) | (with_reducible refine Kd.C_drewN ?_ _) | (with_reducible refine Kd.C_drew ?_))); (case side2 => exact (Kd.R_reads' HO338.out).2.1); rintro e w57 ⟨v342, rfl, ho0, hb⟩; refine ⟨_, rfl, ?_⟩; have n0_ := Aside0.mk (Kd.R_below (by (with_reducible repeat (first | apply Kd.R_alloc | apply Kd.R_drewN | apply Kd.R_drew)); exact HO338.out) hb); have n1_ := Aside0.mk (Kd.S_lower ho0 (below_size (by repeat (first | (with_reducible first | exact HB.out | apply below_alloc | apply pw_below_drewN | apply below_drew1) | exact HB.out)))); have n2_ := Aside0.mk (below_step (by repeat (first | (with_reducible first | exact HB.out | apply below_alloc | apply pw_below_drewN | apply below_drew1) | exact HB.out)) hb); clear HO338; clear HB; have HO338 := n0_; have HO343 := n1_; have HB := n2_; clear n0_ n1_ n2_; (try clear hb); (try clear hb2); (try clear hk); (try clear hi); (try clear ho0)) | ((with_reducible refine gate_dst (N := 127) rfl ?_); (try (refine gate_guard (by rfl) ?_; dsimp only)); refine Kd.R_lit k28 _ 28 ?hg (N := 127) ?hd (xs := ([(⟨10, (⟨#[]⟩ : ByteArray), (⟨#[]⟩ : ByteArray), 0, 0⟩ : S28), (⟨1, a0, a2, 0, 0⟩ : S28), (⟨7, (⟨#[]⟩ : ByteArray), (⟨#[]⟩ : ByteArray), 0, 0⟩ : S28)] : List (S28))) (inner := [.int .i64 10, .string (⟨#[]⟩ : ByteArray), .string (⟨#[]⟩ : ByteArray), .int .i64 0, .int .i64 0, .int .i64 1, .string a0, .string a2, .int .i64 0, .int .i64 0, .int .i64 7, .string (⟨#[]⟩ : ByteArray), .string (⟨#[]⟩ : ByteArray), .int .i64 0, .int .i64 0]) (ok := fun _ => True) (okp := fun _ => True) ?hr ?hp (fun _ hk => hk) trivial (Below.refl _ _) (Nat.le_refl _) (by simp) ?_; (case hd => rfl); (case hg => rfl); (case hr => first | (go_simp; done) | (go_simp; rfl)); (case hp => exact (Reps.c5 (show Kd.M k28 _ _ _ (⟨10, (⟨#[]⟩ : ByteArray), (⟨#[]⟩ : ByteArray), 0, 0⟩ : S28) [.int .i64 10, .string (⟨#[]⟩ : ByteArray), .string (⟨#[]⟩ : ByteArray), .int .i64 0, .int .i64 0] from (k28_mkM _ _ _ (⟨10, (⟨#[]⟩ : ByteArray), (⟨#[]⟩ : ByteArray), 0, 0⟩ : S28) )) (Reps.c5 (show Kd.M k28 _ _ _ (⟨1, a0, a2, 0, 0⟩ : S28) [.int .i64 1, .string a0, .string a2, .int .i64 0, .int .i64 0] from (k28_mkM _ _ _ (⟨1, a0, a2, 0, 0⟩ : S28) )) (Reps.c5 (show Kd.M k28 _ _ _ (⟨7, (⟨#[]⟩ : ByteArray), (⟨#[]⟩ : ByteArray), 0, 0⟩ : S28) [.int .i64 7, .string (⟨#[]⟩ : ByteArray), .string (⟨#[]⟩ : ByteArray), .int .i64 0, .int .i64 0] from (k28_mkM _ _ _ (⟨7, (⟨#[]⟩ : ByteArray), (⟨#[]⟩ : ByteArray), 0, 0⟩ : S28) )) (Reps.none _ _))))); intro v345 w58 ho59 hb hg_ hnew_; clear hg_ hnew_; (first | rw [← Ny344.out] at ho59 | (simp only [Int.reduceToNat] at ho59; rw [← Ny344.out] at ho59)); have n0_ := Aside0.mk (Kd.R_elder' (by (with_reducible repeat (first | apply Kd.R_alloc | apply Kd.R_drewN | apply Kd.R_drew)); exact HO338.out) (Kd.R_base ho59) hb); have n1_ := Aside0.mk (Kd.S_below (by (with_reducible repeat (first | apply Kd.S_alloc | apply Kd.S_drewN | apply Kd.S_drew)); exact HO343.out) hb); have n2_ := Aside0.mk (Kd.R_lower (Kd.R_new' ho59 (Kd.R_lt (by (with_reducible repeat (first | apply Kd.R_alloc | apply Kd.R_drewN | apply Kd.R_drew)); exact HO338.out))) (below_size (by repeat (first | (with_reducible first | exact HB.out | apply below_alloc | apply pw_below_drewN | apply below_drew1) | exact HB.out)))); have n3_ := Aside0.mk (below_step (by repeat (first | (with_reducible first | exact HB.out | apply below_alloc | apply pw_below_drewN | apply below_drew1) | exact HB.out)) hb); clear HO338; clear HO343; clear HB; have HO338 := n0_; have HO343 := n1_; have HO346 := n2_; have HB := n3_; clear n0_ n1_ n2_ n3_; clear hb ho59; obtain ⟨Ao60, co60, eo60⟩ := Kd.R_slice HO346.out; subst eo60) | ((with_reducible refine gate_callee (f := 9) rfl ?_); refine goesL_ (some 128) rfl rfl Try.func9 (by kernel_rfl) rfl #[.slice Ao60 y344.length co60] rfl (by (try simp only [List.map_toArray, List.map_cons, List.map_nil]); first | done | rfl | (simp only [List.length_drop, List.length_take]; rfl)) ?_; (with_reducible refine (impl_TrailerScript.calls _ _ y344 t347 t348 t349 _ ?side1 ?side2 A50.out).mono ?_); (case side1 => repeat (first | exact (Kd.R_reads' HO346.out).2.2 | (with_reducible refine Kd.C_alloc ?_ _) | (with_reducible refine Kd.C_drewN ?_ _) | (with_reducible refine Kd.C_drew ?_))); (case side2 => exact (Kd.R_reads' HO346.out).2.1); rintro e w61 ⟨v350, rfl, ho0, hb⟩; refine ⟨_, rfl, ?_⟩; have n0_ := Aside0.mk (Kd.R_below (by (with_reducible repeat (first | apply Kd.R_alloc | apply Kd.R_drewN | apply Kd.R_drew)); exact HO338.out) hb); have n1_ := Aside0.mk (Kd.S_elder' (by (with_reducible repeat (first | apply Kd.S_alloc | apply Kd.S_drewN | apply Kd.S_drew)); exact HO343.out) (Kd.S_base ho0) hb); have n2_ := Aside0.mk (Kd.R_below (by (with_reducible repeat (first | apply Kd.R_alloc | apply Kd.R_drewN | apply Kd.R_drew)); exact HO346.out) hb); have n3_ := Aside0.mk (Kd.S_lower (Kd.S_new' ho0 (Kd.S_lt (by (with_reducible repeat (first | apply Kd.S_alloc | apply Kd.S_drewN | apply Kd.S_drew)); exact HO343.out))) (below_size (by repeat (first | (with_reducible first | exact HB.out | apply below_alloc | apply pw_below_drewN | apply below_drew1) | exact HB.out)))); have n4_ := Aside0.mk (below_step (by repeat (first | (with_reducible first | exact HB.out | apply below_alloc | apply pw_below_drewN | apply below_drew1) | exact HB.out)) hb); clear HO338; clear HO343; clear HO346; clear HB; have HO338 := n0_; have HO343 := n1_; have HO346 := n2_; have HO351 := n3_; have HB := n4_; clear n0_ n1_ n2_ n3_ n4_; (try clear hb); (try clear hb2); (try clear hk); (try clear hi); (try clear ho0)))
          (try simp only [Act.put, List.setIfInBounds_toArray, List.set_cons_zero, List.set_cons_succ])
          go_cut [147] (fun v147 wc => ∃ (kq : Nat) (x147_50 : Bool), v147 = .bool x147_50 ∧ Aside0 (laws_FnTrailerUpdates.j3 kq a0 a2 t334 t339 t347 x147_50 = some r) ∧ Aside0 (kq ≤ kj21) ∧ Aside0 (Kd.S k32 32 wc w.heap.size (fun k_ => some k_ ≠ (v350 : Value).ownBlock) v342 t339) ∧ Aside0 (Kd.S k32 32 wc w.heap.size (fun k_ => some k_ ≠ (v342 : Value).ownBlock) v350 t347) ∧ Aside0 (Below w.heap.size w wc))
          case first =>
           have H := HC51.out
           clear HC51
           by_cases c62 : t341 = true
           ·subst c62
            have H1 : (if t349 = true then (if (t339.length : Int) = 8 then (laws_FnTrailerUpdates.j3 kj21 a0 a2 t334 t339 t347 ((t347.length : Int) != 3)) else (laws_FnTrailerUpdates.j3 kj21 a0 a2 t334 t339 t347 true)) else (laws_FnTrailerUpdates.j3 kj21 a0 a2 t334 t339 t347 true)) = some r := by rw [if_pos rfl] at H; exact H
            clear H
            have H := H1
            clear H1
            by_cases c63 : t349 = true
            ·subst c63
             have H1 : (if (t339.length : Int) = 8 then (laws_FnTrailerUpdates.j3 kj21 a0 a2 t334 t339 t347 ((t347.length : Int) != 3)) else (laws_FnTrailerUpdates.j3 kj21 a0 a2 t334 t339 t347 true)) = some r := by rw [if_pos rfl] at H; exact H
             clear H
             have H := H1
             clear H1
             by_cases c64 : (t339.length : Int) = 8
             ·rw [if_pos c64] at H
              have c64b0 : ((t339.length : Int) == 8) = true := beq_iff_eq.mpr c64
              have c64b1 : ((t339.length : Int) != 8) = false := bne_eq_false_iff_eq.mpr c64
              clear c64
              (first | rw [c64b0] | (simp only [i64_w, i32_w]; rw [c64b0]) | skip)
              have H' := Aside0.mk H
              clear H
              obtain ⟨Ao65, co65, eo65⟩ := Kd.S_slice HO343.out
              subst eo65
              obtain ⟨Ao66, co66, eo66⟩ := Kd.S_slice HO351.out
              subst eo66
              go_wp2
              go_meet
              case rel => exact ⟨_, (((t347.length : Int) != 3)), (by first | rfl | (simp; done) | (rw [prx_ne]; first | done | rfl) | (simp [*]; done)), H', ⟨by have := HJ4.out; have := HJ10.out; have := HJ21.out; first | omega | exact Nat.le_refl _⟩, ⟨by (with_reducible repeat (first | apply Kd.S_alloc | apply Kd.S_drewN | apply Kd.S_drew)); exact Kd.S_mono HO343.out (fun _ hk => hk.2)⟩, ⟨by (with_reducible repeat (first | apply Kd.S_alloc | apply Kd.S_drewN | apply Kd.S_drew)); exact Kd.S_mono HO351.out (fun _ hk => hk.2)⟩, ⟨by repeat (first | (with_reducible first | exact HB.out | apply below_alloc | apply pw_below_drewN | apply below_drew1) | exact HB.out)⟩⟩
             ·(rw [if_neg c64] at H; exact (HF_.out _ _ _ _ _ _ H).elim)
            ·(rw [if_neg c63] at H; exact (HF_.out _ _ _ _ _ _ H).elim)
           ·(rw [if_neg c62] at H; exact (HF_.out _ _ _ _ _ _ H).elim)
          case rest =>
           clear HC51
           try clear c1
           try clear c2
           try clear p2
           try clear c3
           try clear p3
           try clear q3
           try clear hx3
           try clear qi3
           try clear c4
           try clear c5
           try clear c6
           try clear c6b0
           try clear c6b1
           try clear c7
           try clear c7b0
           try clear c7b1
           try clear c8
           try clear c8b0
           try clear c8b1
           try clear c9
           try clear c10
           try clear c12
           try clear c16
           try clear c17
           try clear c17b0
           try clear c17b1
           try clear c18
           try clear c18b0
           try clear c18b1
           try clear c21
           try clear c24
           try clear c26
           try clear c29
           try clear c29b0
           try clear c29b1
           try clear c32
           try clear p32
           try clear q32
           try clear hx32
           try clear qi32
           try clear c33
           try clear c35
           try clear c46
           try clear c62
           try clear c63
           try clear c64
           try clear c64b0
           try clear c64b1
           try clear hx323_0
           try clear hx323_1
           try clear hx323_2
           try clear hx323_3
           try clear hx323_4
           try clear p2
           try clear p3
           try clear p32
           try clear p323
           try clear q3
           try clear q32
           try clear q323
           obtain ⟨kq, x147_50, rfl, HA, HJ50, HO_14, HO_17, HB⟩ := hcut
           cases kq with
           | zero => exact absurd HA.out (by simp [laws_FnTrailerUpdates.j3])
           | succ kj50 =>
            have H := HA.out
            clear HA
            simp only [laws_FnTrailerUpdates.j3] at H
            by_cases c68 : x147_50 = true
            ·subst c68
             have H1 : (some false) = some r := by rw [if_pos rfl] at H; exact H
             clear H
             have H := H1
             clear H1
             exact absurd ((Option.some.inj H).trans HRT_.out) (by decide)
            ·replace c68 := Bool.eq_false_iff.mpr c68
             subst c68
             have H1 : (if 2 < (t339.length : Int) then (if ((rd_T32 t339 2).f0).toList = ([] : List UInt8) then (if 4 < (t339.length : Int) then (if ((rd_T32 t339 4).f0).toList = a2.toList then (if 6 < (t339.length : Int) then (if ((rd_T32 t339 6).f0).toList = a2.toList then (if 7 < (t339.length : Int) then ((laws_samePairs.f kj50 ((rd_T32 t339 7).f4) (([(⟨t334, a2⟩ : S34)] : List (S34)))).bind fun t359 => (if t359 = true then (if 2 < (t347.length : Int) then ((laws_samePairs.f kj50 ((rd_T32 t347 2).f4) (([(⟨a0, a2⟩ : S34)] : List (S34)))).bind fun t364 => (some t364)) else (none)) else (some false))) else (none)) else (some false)) else (none)) else (some false)) else (none)) else (some false)) else (none)) = some r := by rw [if_neg (show ¬ (false = true) by decide)] at H; exact H
             clear H
             have H := H1
             clear H1
             by_cases c69 : 2 < (t339.length : Int)
             ·rw [if_pos c69] at H
              have c69b0 : decide (2 < (t339.length : Int)) = true := decide_eq_true c69
              have c69b1 : decide (2 < t339.length) = true := decide_eq_true (by omega)
              clear c69
              by_cases c70 : ((rd_T32 t339 2).f0).toList = ([] : List UInt8)
              ·rw [if_pos c70] at H
               have c70b0 : (((rd_T32 t339 2).f0).toList == ([] : List UInt8)) = true := beq_iff_eq.mpr c70
               have c70b1 : (((rd_T32 t339 2).f0).toList != ([] : List UInt8)) = false := bne_eq_false_iff_eq.mpr c70
               clear c70
               by_cases c71 : 4 < (t339.length : Int)
               ·rw [if_pos c71] at H
                have c71b0 : decide (4 < (t339.length : Int)) = true := decide_eq_true c71
                have c71b1 : decide (4 < t339.length) = true := decide_eq_true (by omega)
                clear c71
                by_cases c72 : ((rd_T32 t339 4).f0).toList = a2.toList
                ·rw [if_pos c72] at H
                 have c72b0 : (((rd_T32 t339 4).f0).toList == a2.toList) = true := beq_iff_eq.mpr c72
                 have c72b1 : (((rd_T32 t339 4).f0).toList != a2.toList) = false := bne_eq_false_iff_eq.mpr c72
                 clear c72
                 by_cases c73 : 6 < (t339.length : Int)
                 ·rw [if_pos c73] at H
                  have c73b0 : decide (6 < (t339.length : Int)) = true := decide_eq_true c73
                  have c73b1 : decide (6 < t339.length) = true := decide_eq_true (by omega)
                  clear c73
                  by_cases c74 : ((rd_T32 t339 6).f0).toList = a2.toList
                  ·rw [if_pos c74] at H
                   have c74b0 : (((rd_T32 t339 6).f0).toList == a2.toList) = true := beq_iff_eq.mpr c74
                   have c74b1 : (((rd_T32 t339 6).f0).toList != a2.toList) = false := bne_eq_false_iff_eq.mpr c74
                   clear c74
                   by_cases c75 : 7 < (t339.length : Int)
                   ·rw [if_pos c75] at H
                    have c75b0 : decide (7 < (t339.length : Int)) = true := decide_eq_true c75
                    have c75b1 : decide (7 < t339.length) = true := decide_eq_true (by omega)
                    clear c75
                    obtain ⟨y356, hy356⟩ : ∃ y_ : List (S34), y_ = (([(⟨t334, a2⟩ : S34)] : List (S34))) := ⟨_, rfl⟩
                    replace H : ((laws_samePairs.f kj50 ((rd_T32 t339 7).f4) y356).bind fun t359 => (if t359 = true then (if 2 < (t347.length : Int) then ((laws_samePairs.f kj50 ((rd_T32 t347 2).f4) (([(⟨a0, a2⟩ : S34)] : List (S34)))).bind fun t364 => (some t364)) else (none)) else (some false))) = some r := by first | (rw [hy356]; with_reducible exact H) | (have H2_ := (Option.bind_some _ _).symm.trans H; rw [hy356]; with_reducible exact H2_) | (have H2_ := (Option.bind_some _ _).symm.trans H; with_reducible exact H2_) | with_reducible exact H | (rw [hy356]; exact H) | exact H
                    have Ny356 := Aside0.mk hy356
                    clear hy356
                    replace H := Option.bind_eq_some_iff.mp H
                    obtain ⟨t359, A760, H⟩ := H
                    replace H : (if t359 = true then (if 2 < (t347.length : Int) then ((laws_samePairs.f kj50 ((rd_T32 t347 2).f4) (([(⟨a0, a2⟩ : S34)] : List (S34)))).bind fun t364 => (some t364)) else (none)) else (some false)) = some r := H
                    have A76 := Aside0.mk A760
                    clear A760
                    by_cases c77 : t359 = true
                    ·subst c77
                     have H1 : (if 2 < (t347.length : Int) then ((laws_samePairs.f kj50 ((rd_T32 t347 2).f4) (([(⟨a0, a2⟩ : S34)] : List (S34)))).bind fun t364 => (some t364)) else (none)) = some r := by rw [if_pos rfl] at H; exact H
                     clear H
                     have H := H1
                     clear H1
                     by_cases c78 : 2 < (t347.length : Int)
                     ·rw [if_pos c78] at H
                      have c78b0 : decide (2 < (t347.length : Int)) = true := decide_eq_true c78
                      have c78b1 : decide (2 < t347.length) = true := decide_eq_true (by omega)
                      clear c78
                      obtain ⟨y361, hy361⟩ : ∃ y_ : List (S34), y_ = (([(⟨a0, a2⟩ : S34)] : List (S34))) := ⟨_, rfl⟩
                      replace H : ((laws_samePairs.f kj50 ((rd_T32 t347 2).f4) y361).bind fun t364 => (some t364)) = some r := by first | (rw [hy361]; with_reducible exact H) | (have H2_ := (Option.bind_some _ _).symm.trans H; rw [hy361]; with_reducible exact H2_) | (have H2_ := (Option.bind_some _ _).symm.trans H; with_reducible exact H2_) | with_reducible exact H | (rw [hy361]; exact H) | exact H
                      have Ny361 := Aside0.mk hy361
                      clear hy361
                      replace H := Option.bind_eq_some_iff.mp H
                      obtain ⟨t364, A790, H⟩ := H
                      replace H : (some t364) = some r := H
                      have A79 := Aside0.mk A790
                      clear A790
                      obtain rfl := Option.some.inj H
                      obtain ⟨Ao80, co80, eo80⟩ := Kd.S_slice HO_14.out
                      subst eo80
                      have p352 : 0 ≤ (2 : Int) := (by omega)
                      have q352 : 2 < (t339.length : Int) := of_decide_eq_true (by first | (with_reducible assumption) | assumption)
                      obtain ⟨ad352, A352_3, c352_3, A352_4, c352_4, e352, hx352_0, hx352_1, hx352_2, hx352_3, hx352_4, hl352_3, hi352_3, hl352_4, hi352_4⟩ := at_T32 (Kd.S_reads' HO_14.out).2.2 2 p352 q352
                      cases e352
                      obtain ⟨ce352, hce352, hMe352, hcc352⟩ := Kd.S_get HO_14.out z32 2 p352 (by first | exact q352 | exact of_decide_eq_true (by first | (with_reducible assumption) | assumption) | (have e_ := (Kd.S_reads' HO_14.out).1; omega))
                      obtain ⟨ve352_3, ve352_4, rfl, ge352_3, ge352_4⟩ := k32_openM hMe352
                      have hv352_3 := hcc352 3 _ rfl
                      rw [add_field _ _ 3 (by omega)] at hv352_3
                      replace hv352_3 := Option.some.inj (hv352_3.symm.trans hx352_3)
                      rw [hv352_3] at ge352_3
                      have HL352_3 := Aside0.mk (show Kd.R Kd.string 9 _ _ _ _ ((rd_T32 t339 2).f3) from ge352_3)
                      clear hv352_3 ge352_3
                      have hv352_4 := hcc352 4 _ rfl
                      rw [add_field _ _ 4 (by omega)] at hv352_4
                      replace hv352_4 := Option.some.inj (hv352_4.symm.trans hx352_4)
                      rw [hv352_4] at ge352_4
                      have HL352_4 := Aside0.mk (show Kd.R k34 34 _ _ _ _ ((rd_T32 t339 2).f4) from ge352_4)
                      clear hv352_4 ge352_4
                      clear hcc352 hce352
                      (try simp only [show (2 : Int).toNat = 2 from rfl, Nat.reduceMul, Nat.reduceEqDiff, Go.Addr.add, ↓reduceIte] at hx352_0)
                      (try simp only [show (2 : Int).toNat = 2 from rfl, Nat.reduceMul, Nat.reduceEqDiff, Go.Addr.add, ↓reduceIte] at hx352_1)
                      (try simp only [show (2 : Int).toNat = 2 from rfl, Nat.reduceMul, Nat.reduceEqDiff, Go.Addr.add, ↓reduceIte] at hx352_2)
                      (try simp only [show (2 : Int).toNat = 2 from rfl, Nat.reduceMul, Nat.reduceEqDiff, Go.Addr.add, ↓reduceIte] at hx352_3)
                      (try simp only [show (2 : Int).toNat = 2 from rfl, Nat.reduceMul, Nat.reduceEqDiff, Go.Addr.add, ↓reduceIte] at hx352_4)
                      have qi352 : (2 < t339.length) = True := eq_true (by omega)
                      (try rw [show ((2 : Int)).toNat = 2 from rfl] at hx352_0)
                      (try rw [show 2 * 5 = 10 from rfl] at hx352_0)
                      (try rw [show ((2 : Int)).toNat = 2 from rfl] at hx352_1)
                      (try rw [show 2 * 5 = 10 from rfl] at hx352_1)
                      (try rw [show ((2 : Int)).toNat = 2 from rfl] at hx352_2)
                      (try rw [show 2 * 5 = 10 from rfl] at hx352_2)
                      (try rw [show ((2 : Int)).toNat = 2 from rfl] at hx352_3)
                      (try rw [show 2 * 5 = 10 from rfl] at hx352_3)
                      (try rw [show ((2 : Int)).toNat = 2 from rfl] at hx352_4)
                      (try rw [show 2 * 5 = 10 from rfl] at hx352_4)
                      have HR352_3 := Aside0.mk hi352_3
                      have HC352_3 := Aside0.mk hl352_3
                      clear hi352_3 hl352_3
                      have HR352_4 := Aside0.mk hi352_4
                      have HC352_4 := Aside0.mk hl352_4
                      clear hi352_4 hl352_4
                      replace p352 := eq_true p352
                      replace q352 := eq_true q352
                      have p353 : 0 ≤ (4 : Int) := (by omega)
                      have q353 : 4 < (t339.length : Int) := of_decide_eq_true (by first | (with_reducible assumption) | assumption)
                      obtain ⟨ad353, A353_3, c353_3, A353_4, c353_4, e353, hx353_0, hx353_1, hx353_2, hx353_3, hx353_4, hl353_3, hi353_3, hl353_4, hi353_4⟩ := at_T32 (Kd.S_reads' HO_14.out).2.2 4 p353 q353
                      obtain rfl : ad352 = ad353 := (by injection e353)
                      obtain ⟨ce353, hce353, hMe353, hcc353⟩ := Kd.S_get HO_14.out z32 4 p353 (by first | exact q353 | exact of_decide_eq_true (by first | (with_reducible assumption) | assumption) | (have e_ := (Kd.S_reads' HO_14.out).1; omega))
                      obtain ⟨ve353_3, ve353_4, rfl, ge353_3, ge353_4⟩ := k32_openM hMe353
                      have hv353_3 := hcc353 3 _ rfl
                      rw [add_field _ _ 3 (by omega)] at hv353_3
                      replace hv353_3 := Option.some.inj (hv353_3.symm.trans hx353_3)
                      rw [hv353_3] at ge353_3
                      have HL353_3 := Aside0.mk (show Kd.R Kd.string 9 _ _ _ _ ((rd_T32 t339 4).f3) from ge353_3)
                      clear hv353_3 ge353_3
                      have hv353_4 := hcc353 4 _ rfl
                      rw [add_field _ _ 4 (by omega)] at hv353_4
                      replace hv353_4 := Option.some.inj (hv353_4.symm.trans hx353_4)
                      rw [hv353_4] at ge353_4
                      have HL353_4 := Aside0.mk (show Kd.R k34 34 _ _ _ _ ((rd_T32 t339 4).f4) from ge353_4)
                      clear hv353_4 ge353_4
                      clear hcc353 hce353
                      (try simp only [show (4 : Int).toNat = 4 from rfl, Nat.reduceMul, Nat.reduceEqDiff, Go.Addr.add, ↓reduceIte] at hx353_0)
                      (try simp only [show (4 : Int).toNat = 4 from rfl, Nat.reduceMul, Nat.reduceEqDiff, Go.Addr.add, ↓reduceIte] at hx353_1)
                      (try simp only [show (4 : Int).toNat = 4 from rfl, Nat.reduceMul, Nat.reduceEqDiff, Go.Addr.add, ↓reduceIte] at hx353_2)
                      (try simp only [show (4 : Int).toNat = 4 from rfl, Nat.reduceMul, Nat.reduceEqDiff, Go.Addr.add, ↓reduceIte] at hx353_3)
                      (try simp only [show (4 : Int).toNat = 4 from rfl, Nat.reduceMul, Nat.reduceEqDiff, Go.Addr.add, ↓reduceIte] at hx353_4)
                      have qi353 : (4 < t339.length) = True := eq_true (by omega)
                      (try rw [show ((4 : Int)).toNat = 4 from rfl] at hx353_0)
                      (try rw [show 4 * 5 = 20 from rfl] at hx353_0)
                      (try rw [show ((4 : Int)).toNat = 4 from rfl] at hx353_1)
                      (try rw [show 4 * 5 = 20 from rfl] at hx353_1)
                      (try rw [show ((4 : Int)).toNat = 4 from rfl] at hx353_2)
                      (try rw [show 4 * 5 = 20 from rfl] at hx353_2)
                      (try rw [show ((4 : Int)).toNat = 4 from rfl] at hx353_3)
                      (try rw [show 4 * 5 = 20 from rfl] at hx353_3)
                      (try rw [show ((4 : Int)).toNat = 4 from rfl] at hx353_4)
                      (try rw [show 4 * 5 = 20 from rfl] at hx353_4)
                      have HR353_3 := Aside0.mk hi353_3
                      have HC353_3 := Aside0.mk hl353_3
                      clear hi353_3 hl353_3
                      have HR353_4 := Aside0.mk hi353_4
                      have HC353_4 := Aside0.mk hl353_4
                      clear hi353_4 hl353_4
                      replace p353 := eq_true p353
                      replace q353 := eq_true q353
                      have p354 : 0 ≤ (6 : Int) := (by omega)
                      have q354 : 6 < (t339.length : Int) := of_decide_eq_true (by first | (with_reducible assumption) | assumption)
                      obtain ⟨ad354, A354_3, c354_3, A354_4, c354_4, e354, hx354_0, hx354_1, hx354_2, hx354_3, hx354_4, hl354_3, hi354_3, hl354_4, hi354_4⟩ := at_T32 (Kd.S_reads' HO_14.out).2.2 6 p354 q354
                      obtain rfl : ad352 = ad354 := (by injection e354)
                      obtain ⟨ce354, hce354, hMe354, hcc354⟩ := Kd.S_get HO_14.out z32 6 p354 (by first | exact q354 | exact of_decide_eq_true (by first | (with_reducible assumption) | assumption) | (have e_ := (Kd.S_reads' HO_14.out).1; omega))
                      obtain ⟨ve354_3, ve354_4, rfl, ge354_3, ge354_4⟩ := k32_openM hMe354
                      have hv354_3 := hcc354 3 _ rfl
                      rw [add_field _ _ 3 (by omega)] at hv354_3
                      replace hv354_3 := Option.some.inj (hv354_3.symm.trans hx354_3)
                      rw [hv354_3] at ge354_3
                      have HL354_3 := Aside0.mk (show Kd.R Kd.string 9 _ _ _ _ ((rd_T32 t339 6).f3) from ge354_3)
                      clear hv354_3 ge354_3
                      have hv354_4 := hcc354 4 _ rfl
                      rw [add_field _ _ 4 (by omega)] at hv354_4
                      replace hv354_4 := Option.some.inj (hv354_4.symm.trans hx354_4)
                      rw [hv354_4] at ge354_4
                      have HL354_4 := Aside0.mk (show Kd.R k34 34 _ _ _ _ ((rd_T32 t339 6).f4) from ge354_4)
                      clear hv354_4 ge354_4
                      clear hcc354 hce354
                      (try simp only [show (6 : Int).toNat = 6 from rfl, Nat.reduceMul, Nat.reduceEqDiff, Go.Addr.add, ↓reduceIte] at hx354_0)
                      (try simp only [show (6 : Int).toNat = 6 from rfl, Nat.reduceMul, Nat.reduceEqDiff, Go.Addr.add, ↓reduceIte] at hx354_1)
                      (try simp only [show (6 : Int).toNat = 6 from rfl, Nat.reduceMul, Nat.reduceEqDiff, Go.Addr.add, ↓reduceIte] at hx354_2)
                      (try simp only [show (6 : Int).toNat = 6 from rfl, Nat.reduceMul, Nat.reduceEqDiff, Go.Addr.add, ↓reduceIte] at hx354_3)
                      (try simp only [show (6 : Int).toNat = 6 from rfl, Nat.reduceMul, Nat.reduceEqDiff, Go.Addr.add, ↓reduceIte] at hx354_4)
                      have qi354 : (6 < t339.length) = True := eq_true (by omega)
                      (try rw [show ((6 : Int)).toNat = 6 from rfl] at hx354_0)
                      (try rw [show 6 * 5 = 30 from rfl] at hx354_0)
                      (try rw [show ((6 : Int)).toNat = 6 from rfl] at hx354_1)
                      (try rw [show 6 * 5 = 30 from rfl] at hx354_1)
                      (try rw [show ((6 : Int)).toNat = 6 from rfl] at hx354_2)
                      (try rw [show 6 * 5 = 30 from rfl] at hx354_2)
                      (try rw [show ((6 : Int)).toNat = 6 from rfl] at hx354_3)
                      (try rw [show 6 * 5 = 30 from rfl] at hx354_3)
                      (try rw [show ((6 : Int)).toNat = 6 from rfl] at hx354_4)
                      (try rw [show 6 * 5 = 30 from rfl] at hx354_4)
                      have HR354_3 := Aside0.mk hi354_3
                      have HC354_3 := Aside0.mk hl354_3
                      clear hi354_3 hl354_3
                      have HR354_4 := Aside0.mk hi354_4
                      have HC354_4 := Aside0.mk hl354_4
                      clear hi354_4 hl354_4
                      replace p354 := eq_true p354
                      replace q354 := eq_true q354
                      have p355 : 0 ≤ (7 : Int) := (by omega)
                      have q355 : 7 < (t339.length : Int) := of_decide_eq_true (by first | (with_reducible assumption) | assumption)
                      obtain ⟨ad355, A355_3, c355_3, A355_4, c355_4, e355, hx355_0, hx355_1, hx355_2, hx355_3, hx355_4, hl355_3, hi355_3, hl355_4, hi355_4⟩ := at_T32 (Kd.S_reads' HO_14.out).2.2 7 p355 q355
                      obtain rfl : ad352 = ad355 := (by injection e355)
                      obtain ⟨ce355, hce355, hMe355, hcc355⟩ := Kd.S_get HO_14.out z32 7 p355 (by first | exact q355 | exact of_decide_eq_true (by first | (with_reducible assumption) | assumption) | (have e_ := (Kd.S_reads' HO_14.out).1; omega))
                      obtain ⟨ve355_3, ve355_4, rfl, ge355_3, ge355_4⟩ := k32_openM hMe355
                      have hv355_3 := hcc355 3 _ rfl
                      rw [add_field _ _ 3 (by omega)] at hv355_3
                      replace hv355_3 := Option.some.inj (hv355_3.symm.trans hx355_3)
                      rw [hv355_3] at ge355_3
                      have HL355_3 := Aside0.mk (show Kd.R Kd.string 9 _ _ _ _ ((rd_T32 t339 7).f3) from ge355_3)
                      clear hv355_3 ge355_3
                      have hv355_4 := hcc355 4 _ rfl
                      rw [add_field _ _ 4 (by omega)] at hv355_4
                      replace hv355_4 := Option.some.inj (hv355_4.symm.trans hx355_4)
                      rw [hv355_4] at ge355_4
                      have HL355_4 := Aside0.mk (show Kd.R k34 34 _ _ _ _ ((rd_T32 t339 7).f4) from ge355_4)
                      clear hv355_4 ge355_4
                      clear hcc355 hce355
                      (try simp only [show (7 : Int).toNat = 7 from rfl, Nat.reduceMul, Nat.reduceEqDiff, Go.Addr.add, ↓reduceIte] at hx355_0)
                      (try simp only [show (7 : Int).toNat = 7 from rfl, Nat.reduceMul, Nat.reduceEqDiff, Go.Addr.add, ↓reduceIte] at hx355_1)
                      (try simp only [show (7 : Int).toNat = 7 from rfl, Nat.reduceMul, Nat.reduceEqDiff, Go.Addr.add, ↓reduceIte] at hx355_2)
                      (try simp only [show (7 : Int).toNat = 7 from rfl, Nat.reduceMul, Nat.reduceEqDiff, Go.Addr.add, ↓reduceIte] at hx355_3)
                      (try simp only [show (7 : Int).toNat = 7 from rfl, Nat.reduceMul, Nat.reduceEqDiff, Go.Addr.add, ↓reduceIte] at hx355_4)
                      have qi355 : (7 < t339.length) = True := eq_true (by omega)
                      (try rw [show ((7 : Int)).toNat = 7 from rfl] at hx355_0)
                      (try rw [show 7 * 5 = 35 from rfl] at hx355_0)
                      (try rw [show ((7 : Int)).toNat = 7 from rfl] at hx355_1)
                      (try rw [show 7 * 5 = 35 from rfl] at hx355_1)
                      (try rw [show ((7 : Int)).toNat = 7 from rfl] at hx355_2)
                      (try rw [show 7 * 5 = 35 from rfl] at hx355_2)
                      (try rw [show ((7 : Int)).toNat = 7 from rfl] at hx355_3)
                      (try rw [show 7 * 5 = 35 from rfl] at hx355_3)
                      (try rw [show ((7 : Int)).toNat = 7 from rfl] at hx355_4)
                      (try rw [show 7 * 5 = 35 from rfl] at hx355_4)
                      have HR355_3 := Aside0.mk hi355_3
                      have HC355_3 := Aside0.mk hl355_3
                      clear hi355_3 hl355_3
                      have HR355_4 := Aside0.mk hi355_4
                      have HC355_4 := Aside0.mk hl355_4
                      clear hi355_4 hl355_4
                      replace p355 := eq_true p355
                      replace q355 := eq_true q355
                      go_wp2_with (first | ((with_reducible refine gate_dst (N := 177) rfl ?_); (try (refine gate_guard (by rfl) ?_; dsimp only)); refine Kd.R_lit k34 _ 34 ?hg (N := 177) ?hd (xs := ([(⟨t334, a2⟩ : S34)] : List (S34))) (inner := [.string t334, .string a2]) (ok := fun _ => True) (okp := fun _ => True) ?hr ?hp (fun _ hk => hk) trivial (Below.refl _ _) (Nat.le_refl _) (by simp) ?_; (case hd => rfl); (case hg => rfl); (case hr => first | (go_simp; done) | (go_simp; rfl)); (case hp => exact (Reps.c2 (show Kd.M k34 _ _ _ (⟨t334, a2⟩ : S34) [.string t334, .string a2] from (k34_mkM _ _ _ (⟨t334, a2⟩ : S34) )) (Reps.none _ _))); intro v357 w81 ho82 hb hg_ hnew_; clear hg_ hnew_; (first | rw [← Ny356.out] at ho82 | (simp only [Int.reduceToNat] at ho82; rw [← Ny356.out] at ho82)); have n0_ := Aside0.mk (Kd.S_elder' (by (with_reducible repeat (first | apply Kd.S_alloc | apply Kd.S_drewN | apply Kd.S_drew)); exact HO_14.out) (Kd.R_base ho82) hb); have n1_ := Aside0.mk (Kd.S_elder' (by (with_reducible repeat (first | apply Kd.S_alloc | apply Kd.S_drewN | apply Kd.S_drew)); exact HO_17.out) (Kd.R_base ho82) hb); have n2_ := Aside0.mk (Kd.R_below (by (with_reducible repeat (first | apply Kd.R_alloc | apply Kd.R_drewN | apply Kd.R_drew)); exact HL352_3.out) hb); have n3_ := Aside0.mk (Kd.R_elder' (by (with_reducible repeat (first | apply Kd.R_alloc | apply Kd.R_drewN | apply Kd.R_drew)); exact HL352_4.out) (Kd.R_base ho82) hb); have n4_ := Aside0.mk (Kd.R_below (by (with_reducible repeat (first | apply Kd.R_alloc | apply Kd.R_drewN | apply Kd.R_drew)); exact HL353_3.out) hb); have n5_ := Aside0.mk (Kd.R_elder' (by (with_reducible repeat (first | apply Kd.R_alloc | apply Kd.R_drewN | apply Kd.R_drew)); exact HL353_4.out) (Kd.R_base ho82) hb); have n6_ := Aside0.mk (Kd.R_below (by (with_reducible repeat (first | apply Kd.R_alloc | apply Kd.R_drewN | apply Kd.R_drew)); exact HL354_3.out) hb); have n7_ := Aside0.mk (Kd.R_elder' (by (with_reducible repeat (first | apply Kd.R_alloc | apply Kd.R_drewN | apply Kd.R_drew)); exact HL354_4.out) (Kd.R_base ho82) hb); have n8_ := Aside0.mk (Kd.R_below (by (with_reducible repeat (first | apply Kd.R_alloc | apply Kd.R_drewN | apply Kd.R_drew)); exact HL355_3.out) hb); have n9_ := Aside0.mk (Kd.R_elder' (by (with_reducible repeat (first | apply Kd.R_alloc | apply Kd.R_drewN | apply Kd.R_drew)); exact HL355_4.out) (Kd.R_base ho82) hb); have n10_ := Aside0.mk (Kd.R_lower (Kd.R_new' (Kd.R_new' (Kd.R_new' (Kd.R_new' ho82 (Kd.R_lt (by (with_reducible repeat (first | apply Kd.R_alloc | apply Kd.R_drewN | apply Kd.R_drew)); exact HL352_4.out))) (Kd.R_lt (by (with_reducible repeat (first | apply Kd.R_alloc | apply Kd.R_drewN | apply Kd.R_drew)); exact HL353_4.out))) (Kd.R_lt (by (with_reducible repeat (first | apply Kd.R_alloc | apply Kd.R_drewN | apply Kd.R_drew)); exact HL354_4.out))) (Kd.R_lt (by (with_reducible repeat (first | apply Kd.R_alloc | apply Kd.R_drewN | apply Kd.R_drew)); exact HL355_4.out))) (below_size (by repeat (first | (with_reducible first | exact HB.out | apply below_alloc | apply pw_below_drewN | apply below_drew1) | exact HB.out)))); have n11_ := Aside0.mk (Kd.C_below (by first | (with_reducible exact HR352_3.out) | (with_reducible exact Kd.C_drewN HR352_3.out _) | (with_reducible exact Kd.C_drew HR352_3.out) | (with_reducible exact Kd.C_alloc HR352_3.out _) | repeat (first | (with_reducible exact HR352_3.out) | (with_reducible refine Kd.C_alloc ?_ _) | (with_reducible refine Kd.C_drewN ?_ _) | (with_reducible refine Kd.C_drew ?_) | exact HR352_3.out)) hb); have n12_ := Aside0.mk (Kd.C_below (by first | (with_reducible exact HR352_4.out) | (with_reducible exact Kd.C_drewN HR352_4.out _) | (with_reducible exact Kd.C_drew HR352_4.out) | (with_reducible exact Kd.C_alloc HR352_4.out _) | repeat (first | (with_reducible exact HR352_4.out) | (with_reducible refine Kd.C_alloc ?_ _) | (with_reducible refine Kd.C_drewN ?_ _) | (with_reducible refine Kd.C_drew ?_) | exact HR352_4.out)) hb); have n13_ := Aside0.mk (Kd.C_below (by first | (with_reducible exact HR353_3.out) | (with_reducible exact Kd.C_drewN HR353_3.out _) | (with_reducible exact Kd.C_drew HR353_3.out) | (with_reducible exact Kd.C_alloc HR353_3.out _) | repeat (first | (with_reducible exact HR353_3.out) | (with_reducible refine Kd.C_alloc ?_ _) | (with_reducible refine Kd.C_drewN ?_ _) | (with_reducible refine Kd.C_drew ?_) | exact HR353_3.out)) hb); have n14_ := Aside0.mk (Kd.C_below (by first | (with_reducible exact HR353_4.out) | (with_reducible exact Kd.C_drewN HR353_4.out _) | (with_reducible exact Kd.C_drew HR353_4.out) | (with_reducible exact Kd.C_alloc HR353_4.out _) | repeat (first | (with_reducible exact HR353_4.out) | (with_reducible refine Kd.C_alloc ?_ _) | (with_reducible refine Kd.C_drewN ?_ _) | (with_reducible refine Kd.C_drew ?_) | exact HR353_4.out)) hb); have n15_ := Aside0.mk (Kd.C_below (by first | (with_reducible exact HR354_3.out) | (with_reducible exact Kd.C_drewN HR354_3.out _) | (with_reducible exact Kd.C_drew HR354_3.out) | (with_reducible exact Kd.C_alloc HR354_3.out _) | repeat (first | (with_reducible exact HR354_3.out) | (with_reducible refine Kd.C_alloc ?_ _) | (with_reducible refine Kd.C_drewN ?_ _) | (with_reducible refine Kd.C_drew ?_) | exact HR354_3.out)) hb); have n16_ := Aside0.mk (Kd.C_below (by first | (with_reducible exact HR354_4.out) | (with_reducible exact Kd.C_drewN HR354_4.out _) | (with_reducible exact Kd.C_drew HR354_4.out) | (with_reducible exact Kd.C_alloc HR354_4.out _) | repeat (first | (with_reducible exact HR354_4.out) | (with_reducible refine Kd.C_alloc ?_ _) | (with_reducible refine Kd.C_drewN ?_ _) | (with_reducible refine Kd.C_drew ?_) | exact HR354_4.out)) hb); have n17_ := Aside0.mk (Kd.C_below (by first | (with_reducible exact HR355_3.out) | (with_reducible exact Kd.C_drewN HR355_3.out _) | (with_reducible exact Kd.C_drew HR355_3.out) | (with_reducible exact Kd.C_alloc HR355_3.out _) | repeat (first | (with_reducible exact HR355_3.out) | (with_reducible refine Kd.C_alloc ?_ _) | (with_reducible refine Kd.C_drewN ?_ _) | (with_reducible refine Kd.C_drew ?_) | exact HR355_3.out)) hb); have n18_ := Aside0.mk (Kd.C_below (by first | (with_reducible exact HR355_4.out) | (with_reducible exact Kd.C_drewN HR355_4.out _) | (with_reducible exact Kd.C_drew HR355_4.out) | (with_reducible exact Kd.C_alloc HR355_4.out _) | repeat (first | (with_reducible exact HR355_4.out) | (with_reducible refine Kd.C_alloc ?_ _) | (with_reducible refine Kd.C_drewN ?_ _) | (with_reducible refine Kd.C_drew ?_) | exact HR355_4.out)) hb); have n19_ := Aside0.mk (below_step (by repeat (first | (with_reducible first | exact HB.out | apply below_alloc | apply pw_below_drewN | apply below_drew1) | exact HB.out)) hb); clear HO_14; clear HO_17; clear HL352_3; clear HL352_4; clear HL353_3; clear HL353_4; clear HL354_3; clear HL354_4; clear HL355_3; clear HL355_4; clear HR352_3; clear HR352_4; clear HR353_3; clear HR353_4; clear HR354_3; clear HR354_4; clear HR355_3; clear HR355_4; clear HB; have HO_14 := n0_; have HO_17 := n1_; have HL352_3 := n2_; have HL352_4 := n3_; have HL353_3 := n4_; have HL353_4 := n5_; have HL354_3 := n6_; have HL354_4 := n7_; have HL355_3 := n8_; have HL355_4 := n9_; have HO358 := n10_; have HR352_3 := n11_; have HR352_4 := n12_; have HR353_3 := n13_; have HR353_4 := n14_; have HR354_3 := n15_; have HR354_4 := n16_; have HR355_3 := n17_; have HR355_4 := n18_; have HB := n19_; clear n0_ n1_ n2_ n3_ n4_ n5_ n6_ n7_ n8_ n9_ n10_ n11_ n12_ n13_ n14_ n15_ n16_ n17_ n18_ n19_; clear hb ho82; obtain ⟨Ao83, co83, eo83⟩ := Kd.R_slice HO358.out; subst eo83) | (go_at_call 14; (with_reducible refine (laws_samePairs.calls kj50 _ _ ((rd_T32 t339 7).f4) _ _ y356 true _ ?side1 ?side2 ?side3 ?side4 A76.out).mono ?_); (case side1 => repeat (first | exact (by first | (with_reducible exact HR355_4.out) | (with_reducible exact Kd.C_drewN HR355_4.out _) | (with_reducible exact Kd.C_drew HR355_4.out) | (with_reducible exact Kd.C_alloc HR355_4.out _) | repeat (first | (with_reducible exact HR355_4.out) | (with_reducible refine Kd.C_alloc ?_ _) | (with_reducible refine Kd.C_drewN ?_ _) | (with_reducible refine Kd.C_drew ?_) | exact HR355_4.out)) | (with_reducible refine Kd.C_alloc ?_ _) | (with_reducible refine Kd.C_drewN ?_ _) | (with_reducible refine Kd.C_drew ?_))); (case side2 => exact HC355_4.out); (case side3 => repeat (first | exact (Kd.R_reads' HO358.out).2.2 | (with_reducible refine Kd.C_alloc ?_ _) | (with_reducible refine Kd.C_drewN ?_ _) | (with_reducible refine Kd.C_drew ?_))); (case side4 => exact (Kd.R_reads' HO358.out).2.1); rintro e w' ⟨rfl, ⟨nd, rfl⟩⟩; obtain ⟨Ao84, co84, eo84⟩ := Kd.S_slice HO_17.out; subst eo84; have p360 : 0 ≤ (2 : Int) := (by omega); have q360 : 2 < (t347.length : Int) := of_decide_eq_true (by first | (with_reducible assumption) | assumption); obtain ⟨ad360, A360_3, c360_3, A360_4, c360_4, e360, hx360_0, hx360_1, hx360_2, hx360_3, hx360_4, hl360_3, hi360_3, hl360_4, hi360_4⟩ := at_T32 (Kd.S_reads' HO_17.out).2.2 2 p360 q360; cases e360; obtain ⟨ce360, hce360, hMe360, hcc360⟩ := Kd.S_get HO_17.out z32 2 p360 (by first | exact q360 | exact of_decide_eq_true (by first | (with_reducible assumption) | assumption) | (have e_ := (Kd.S_reads' HO_17.out).1; omega)); obtain ⟨ve360_3, ve360_4, rfl, ge360_3, ge360_4⟩ := k32_openM hMe360; have hv360_3 := hcc360 3 _ rfl; rw [add_field _ _ 3 (by omega)] at hv360_3; replace hv360_3 := Option.some.inj (hv360_3.symm.trans hx360_3); rw [hv360_3] at ge360_3; have HL360_3 := Aside0.mk (show Kd.R Kd.string 9 _ _ _ _ ((rd_T32 t347 2).f3) from ge360_3); clear hv360_3 ge360_3; have hv360_4 := hcc360 4 _ rfl; rw [add_field _ _ 4 (by omega)] at hv360_4; replace hv360_4 := Option.some.inj (hv360_4.symm.trans hx360_4); rw [hv360_4] at ge360_4; have HL360_4 := Aside0.mk (show Kd.R k34 34 _ _ _ _ ((rd_T32 t347 2).f4) from ge360_4); clear hv360_4 ge360_4; clear hcc360 hce360; (try simp only [show (2 : Int).toNat = 2 from rfl, Nat.reduceMul, Nat.reduceEqDiff, Go.Addr.add, ↓reduceIte] at hx360_0); (try simp only [show (2 : Int).toNat = 2 from rfl, Nat.reduceMul, Nat.reduceEqDiff, Go.Addr.add, ↓reduceIte] at hx360_1); (try simp only [show (2 : Int).toNat = 2 from rfl, Nat.reduceMul, Nat.reduceEqDiff, Go.Addr.add, ↓reduceIte] at hx360_2); (try simp only [show (2 : Int).toNat = 2 from rfl, Nat.reduceMul, Nat.reduceEqDiff, Go.Addr.add, ↓reduceIte] at hx360_3); (try simp only [show (2 : Int).toNat = 2 from rfl, Nat.reduceMul, Nat.reduceEqDiff, Go.Addr.add, ↓reduceIte] at hx360_4); have qi360 : (2 < t347.length) = True := eq_true (by omega); (try rw [show ((2 : Int)).toNat = 2 from rfl] at hx360_0); (try rw [show 2 * 5 = 10 from rfl] at hx360_0); (try rw [show ((2 : Int)).toNat = 2 from rfl] at hx360_1); (try rw [show 2 * 5 = 10 from rfl] at hx360_1); (try rw [show ((2 : Int)).toNat = 2 from rfl] at hx360_2); (try rw [show 2 * 5 = 10 from rfl] at hx360_2); (try rw [show ((2 : Int)).toNat = 2 from rfl] at hx360_3); (try rw [show 2 * 5 = 10 from rfl] at hx360_3); (try rw [show ((2 : Int)).toNat = 2 from rfl] at hx360_4); (try rw [show 2 * 5 = 10 from rfl] at hx360_4); have HR360_3 := Aside0.mk hi360_3; have HC360_3 := Aside0.mk hl360_3; clear hi360_3 hl360_3; have HR360_4 := Aside0.mk hi360_4; have HC360_4 := Aside0.mk hl360_4; clear hi360_4 hl360_4; replace p360 := eq_true p360; replace q360 := eq_true q360) | ((with_reducible refine gate_dst (N := 188) rfl ?_); (try (refine gate_guard (by rfl) ?_; dsimp only)); refine Kd.R_lit k34 _ 34 ?hg (N := 188) ?hd (xs := ([(⟨a0, a2⟩ : S34)] : List (S34))) (inner := [.string a0, .string a2]) (ok := fun _ => True) (okp := fun _ => True) ?hr ?hp (fun _ hk => hk) trivial (Below.refl _ _) (Nat.le_refl _) (by simp) ?_; (case hd => rfl); (case hg => rfl); (case hr => first | (go_simp; done) | (go_simp; rfl)); (case hp => exact (Reps.c2 (show Kd.M k34 _ _ _ (⟨a0, a2⟩ : S34) [.string a0, .string a2] from (k34_mkM _ _ _ (⟨a0, a2⟩ : S34) )) (Reps.none _ _))); intro v362 w85 ho86 hb hg_ hnew_; clear hg_ hnew_; (first | rw [← Ny361.out] at ho86 | (simp only [Int.reduceToNat] at ho86; rw [← Ny361.out] at ho86)); have n0_ := Aside0.mk (Kd.S_elder' (by (with_reducible repeat (first | apply Kd.S_alloc | apply Kd.S_drewN | apply Kd.S_drew)); exact HO_14.out) (Kd.R_base ho86) hb); have n1_ := Aside0.mk (Kd.S_elder' (by (with_reducible repeat (first | apply Kd.S_alloc | apply Kd.S_drewN | apply Kd.S_drew)); exact HO_17.out) (Kd.R_base ho86) hb); have n2_ := Aside0.mk (Kd.R_below (by (with_reducible repeat (first | apply Kd.R_alloc | apply Kd.R_drewN | apply Kd.R_drew)); exact HL352_3.out) hb); have n3_ := Aside0.mk (Kd.R_elder' (by (with_reducible repeat (first | apply Kd.R_alloc | apply Kd.R_drewN | apply Kd.R_drew)); exact HL352_4.out) (Kd.R_base ho86) hb); have n4_ := Aside0.mk (Kd.R_below (by (with_reducible repeat (first | apply Kd.R_alloc | apply Kd.R_drewN | apply Kd.R_drew)); exact HL353_3.out) hb); have n5_ := Aside0.mk (Kd.R_elder' (by (with_reducible repeat (first | apply Kd.R_alloc | apply Kd.R_drewN | apply Kd.R_drew)); exact HL353_4.out) (Kd.R_base ho86) hb); have n6_ := Aside0.mk (Kd.R_below (by (with_reducible repeat (first | apply Kd.R_alloc | apply Kd.R_drewN | apply Kd.R_drew)); exact HL354_3.out) hb); have n7_ := Aside0.mk (Kd.R_elder' (by (with_reducible repeat (first | apply Kd.R_alloc | apply Kd.R_drewN | apply Kd.R_drew)); exact HL354_4.out) (Kd.R_base ho86) hb); have n8_ := Aside0.mk (Kd.R_below (by (with_reducible repeat (first | apply Kd.R_alloc | apply Kd.R_drewN | apply Kd.R_drew)); exact HL355_3.out) hb); have n9_ := Aside0.mk (Kd.R_elder' (by (with_reducible repeat (first | apply Kd.R_alloc | apply Kd.R_drewN | apply Kd.R_drew)); exact HL355_4.out) (Kd.R_base ho86) hb); have n10_ := Aside0.mk (Kd.R_elder' (by (with_reducible repeat (first | apply Kd.R_alloc | apply Kd.R_drewN | apply Kd.R_drew)); exact HO358.out) (Kd.R_base ho86) hb); have n11_ := Aside0.mk (Kd.R_below (by (with_reducible repeat (first | apply Kd.R_alloc | apply Kd.R_drewN | apply Kd.R_drew)); exact HL360_3.out) hb); have n12_ := Aside0.mk (Kd.R_elder' (by (with_reducible repeat (first | apply Kd.R_alloc | apply Kd.R_drewN | apply Kd.R_drew)); exact HL360_4.out) (Kd.R_base ho86) hb); have n13_ := Aside0.mk (Kd.R_lower (Kd.R_new' (Kd.R_new' (Kd.R_new' (Kd.R_new' (Kd.R_new' (Kd.R_new' ho86 (Kd.R_lt (by (with_reducible repeat (first | apply Kd.R_alloc | apply Kd.R_drewN | apply Kd.R_drew)); exact HL352_4.out))) (Kd.R_lt (by (with_reducible repeat (first | apply Kd.R_alloc | apply Kd.R_drewN | apply Kd.R_drew)); exact HL353_4.out))) (Kd.R_lt (by (with_reducible repeat (first | apply Kd.R_alloc | apply Kd.R_drewN | apply Kd.R_drew)); exact HL354_4.out))) (Kd.R_lt (by (with_reducible repeat (first | apply Kd.R_alloc | apply Kd.R_drewN | apply Kd.R_drew)); exact HL355_4.out))) (Kd.R_lt (by (with_reducible repeat (first | apply Kd.R_alloc | apply Kd.R_drewN | apply Kd.R_drew)); exact HO358.out))) (Kd.R_lt (by (with_reducible repeat (first | apply Kd.R_alloc | apply Kd.R_drewN | apply Kd.R_drew)); exact HL360_4.out))) (below_size (by repeat (first | (with_reducible first | exact HB.out | apply below_alloc | apply pw_below_drewN | apply below_drew1) | exact HB.out)))); have n14_ := Aside0.mk (Kd.C_below (by first | (with_reducible exact HR352_3.out) | (with_reducible exact Kd.C_drewN HR352_3.out _) | (with_reducible exact Kd.C_drew HR352_3.out) | (with_reducible exact Kd.C_alloc HR352_3.out _) | repeat (first | (with_reducible exact HR352_3.out) | (with_reducible refine Kd.C_alloc ?_ _) | (with_reducible refine Kd.C_drewN ?_ _) | (with_reducible refine Kd.C_drew ?_) | exact HR352_3.out)) hb); have n15_ := Aside0.mk (Kd.C_below (by first | (with_reducible exact HR352_4.out) | (with_reducible exact Kd.C_drewN HR352_4.out _) | (with_reducible exact Kd.C_drew HR352_4.out) | (with_reducible exact Kd.C_alloc HR352_4.out _) | repeat (first | (with_reducible exact HR352_4.out) | (with_reducible refine Kd.C_alloc ?_ _) | (with_reducible refine Kd.C_drewN ?_ _) | (with_reducible refine Kd.C_drew ?_) | exact HR352_4.out)) hb); have n16_ := Aside0.mk (Kd.C_below (by first | (with_reducible exact HR353_3.out) | (with_reducible exact Kd.C_drewN HR353_3.out _) | (with_reducible exact Kd.C_drew HR353_3.out) | (with_reducible exact Kd.C_alloc HR353_3.out _) | repeat (first | (with_reducible exact HR353_3.out) | (with_reducible refine Kd.C_alloc ?_ _) | (with_reducible refine Kd.C_drewN ?_ _) | (with_reducible refine Kd.C_drew ?_) | exact HR353_3.out)) hb); have n17_ := Aside0.mk (Kd.C_below (by first | (with_reducible exact HR353_4.out) | (with_reducible exact Kd.C_drewN HR353_4.out _) | (with_reducible exact Kd.C_drew HR353_4.out) | (with_reducible exact Kd.C_alloc HR353_4.out _) | repeat (first | (with_reducible exact HR353_4.out) | (with_reducible refine Kd.C_alloc ?_ _) | (with_reducible refine Kd.C_drewN ?_ _) | (with_reducible refine Kd.C_drew ?_) | exact HR353_4.out)) hb); have n18_ := Aside0.mk (Kd.C_below (by first | (with_reducible exact HR354_3.out) | (with_reducible exact Kd.C_drewN HR354_3.out _) | (with_reducible exact Kd.C_drew HR354_3.out) | (with_reducible exact Kd.C_alloc HR354_3.out _) | repeat (first | (with_reducible exact HR354_3.out) | (with_reducible refine Kd.C_alloc ?_ _) | (with_reducible refine Kd.C_drewN ?_ _) | (with_reducible refine Kd.C_drew ?_) | exact HR354_3.out)) hb); have n19_ := Aside0.mk (Kd.C_below (by first | (with_reducible exact HR354_4.out) | (with_reducible exact Kd.C_drewN HR354_4.out _) | (with_reducible exact Kd.C_drew HR354_4.out) | (with_reducible exact Kd.C_alloc HR354_4.out _) | repeat (first | (with_reducible exact HR354_4.out) | (with_reducible refine Kd.C_alloc ?_ _) | (with_reducible refine Kd.C_drewN ?_ _) | (with_reducible refine Kd.C_drew ?_) | exact HR354_4.out)) hb); have n20_ := Aside0.mk (Kd.C_below (by first | (with_reducible exact HR355_3.out) | (with_reducible exact Kd.C_drewN HR355_3.out _) | (with_reducible exact Kd.C_drew HR355_3.out) | (with_reducible exact Kd.C_alloc HR355_3.out _) | repeat (first | (with_reducible exact HR355_3.out) | (with_reducible refine Kd.C_alloc ?_ _) | (with_reducible refine Kd.C_drewN ?_ _) | (with_reducible refine Kd.C_drew ?_) | exact HR355_3.out)) hb); have n21_ := Aside0.mk (Kd.C_below (by first | (with_reducible exact HR355_4.out) | (with_reducible exact Kd.C_drewN HR355_4.out _) | (with_reducible exact Kd.C_drew HR355_4.out) | (with_reducible exact Kd.C_alloc HR355_4.out _) | repeat (first | (with_reducible exact HR355_4.out) | (with_reducible refine Kd.C_alloc ?_ _) | (with_reducible refine Kd.C_drewN ?_ _) | (with_reducible refine Kd.C_drew ?_) | exact HR355_4.out)) hb); have n22_ := Aside0.mk (Kd.C_below (by first | (with_reducible exact HR360_3.out) | (with_reducible exact Kd.C_drewN HR360_3.out _) | (with_reducible exact Kd.C_drew HR360_3.out) | (with_reducible exact Kd.C_alloc HR360_3.out _) | repeat (first | (with_reducible exact HR360_3.out) | (with_reducible refine Kd.C_alloc ?_ _) | (with_reducible refine Kd.C_drewN ?_ _) | (with_reducible refine Kd.C_drew ?_) | exact HR360_3.out)) hb); have n23_ := Aside0.mk (Kd.C_below (by first | (with_reducible exact HR360_4.out) | (with_reducible exact Kd.C_drewN HR360_4.out _) | (with_reducible exact Kd.C_drew HR360_4.out) | (with_reducible exact Kd.C_alloc HR360_4.out _) | repeat (first | (with_reducible exact HR360_4.out) | (with_reducible refine Kd.C_alloc ?_ _) | (with_reducible refine Kd.C_drewN ?_ _) | (with_reducible refine Kd.C_drew ?_) | exact HR360_4.out)) hb); have n24_ := Aside0.mk (below_step (by repeat (first | (with_reducible first | exact HB.out | apply below_alloc | apply pw_below_drewN | apply below_drew1) | exact HB.out)) hb); clear HO_14; clear HO_17; clear HL352_3; clear HL352_4; clear HL353_3; clear HL353_4; clear HL354_3; clear HL354_4; clear HL355_3; clear HL355_4; clear HO358; clear HL360_3; clear HL360_4; clear HR352_3; clear HR352_4; clear HR353_3; clear HR353_4; clear HR354_3; clear HR354_4; clear HR355_3; clear HR355_4; clear HR360_3; clear HR360_4; clear HB; have HO_14 := n0_; have HO_17 := n1_; have HL352_3 := n2_; have HL352_4 := n3_; have HL353_3 := n4_; have HL353_4 := n5_; have HL354_3 := n6_; have HL354_4 := n7_; have HL355_3 := n8_; have HL355_4 := n9_; have HO358 := n10_; have HL360_3 := n11_; have HL360_4 := n12_; have HO363 := n13_; have HR352_3 := n14_; have HR352_4 := n15_; have HR353_3 := n16_; have HR353_4 := n17_; have HR354_3 := n18_; have HR354_4 := n19_; have HR355_3 := n20_; have HR355_4 := n21_; have HR360_3 := n22_; have HR360_4 := n23_; have HB := n24_; clear n0_ n1_ n2_ n3_ n4_ n5_ n6_ n7_ n8_ n9_ n10_ n11_ n12_ n13_ n14_ n15_ n16_ n17_ n18_ n19_ n20_ n21_ n22_ n23_ n24_; clear hb ho86; obtain ⟨Ao87, co87, eo87⟩ := Kd.R_slice HO363.out; subst eo87) | (go_at_call 14; (with_reducible refine (laws_samePairs.calls kj50 _ _ ((rd_T32 t347 2).f4) _ _ y361 t364 _ ?side1 ?side2 ?side3 ?side4 A79.out).mono ?_); (case side1 => repeat (first | exact (by first | (with_reducible exact HR360_4.out) | (with_reducible exact Kd.C_drewN HR360_4.out _) | (with_reducible exact Kd.C_drew HR360_4.out) | (with_reducible exact Kd.C_alloc HR360_4.out _) | repeat (first | (with_reducible exact HR360_4.out) | (with_reducible refine Kd.C_alloc ?_ _) | (with_reducible refine Kd.C_drewN ?_ _) | (with_reducible refine Kd.C_drew ?_) | exact HR360_4.out)) | (with_reducible refine Kd.C_alloc ?_ _) | (with_reducible refine Kd.C_drewN ?_ _) | (with_reducible refine Kd.C_drew ?_))); (case side2 => exact HC360_4.out); (case side3 => repeat (first | exact (Kd.R_reads' HO363.out).2.2 | (with_reducible refine Kd.C_alloc ?_ _) | (with_reducible refine Kd.C_drewN ?_ _) | (with_reducible refine Kd.C_drew ?_))); (case side4 => exact (Kd.R_reads' HO363.out).2.1); rintro e w' ⟨rfl, ⟨nd, rfl⟩⟩))
                      go_ret
                      exact ⟨by first | rfl | (simp [errW_none, errW_some] <;> rfl) | (simp [*, errW_none, errW_some] <;> rfl), by repeat (first | (with_reducible first | exact HB.out | apply below_alloc | apply pw_below_drewN | apply below_drew1) | exact HB.out)⟩
                     ·rw [if_neg c78] at H
                      exact absurd H (by simp)
                    ·replace c77 := Bool.eq_false_iff.mpr c77
                     subst c77
                     have H1 : (some false) = some r := by rw [if_neg (show ¬ (false = true) by decide)] at H; exact H
                     clear H
                     have H := H1
                     clear H1
                     exact absurd ((Option.some.inj H).trans HRT_.out) (by decide)
                   ·rw [if_neg c75] at H
                    exact absurd H (by simp)
                  ·rw [if_neg c74] at H
                   have c74b0 : (((rd_T32 t339 6).f0).toList == a2.toList) = false := beq_eq_false_iff_ne.mpr c74
                   have c74b1 : (((rd_T32 t339 6).f0).toList != a2.toList) = true := bne_iff_ne.mpr c74
                   exact absurd ((Option.some.inj H).trans HRT_.out) (by decide)
                 ·rw [if_neg c73] at H
                  exact absurd H (by simp)
                ·rw [if_neg c72] at H
                 have c72b0 : (((rd_T32 t339 4).f0).toList == a2.toList) = false := beq_eq_false_iff_ne.mpr c72
                 have c72b1 : (((rd_T32 t339 4).f0).toList != a2.toList) = true := bne_iff_ne.mpr c72
                 exact absurd ((Option.some.inj H).trans HRT_.out) (by decide)
               ·rw [if_neg c71] at H
                exact absurd H (by simp)
              ·rw [if_neg c70] at H
               have c70b0 : (((rd_T32 t339 2).f0).toList == ([] : List UInt8)) = false := beq_eq_false_iff_ne.mpr c70
               have c70b1 : (((rd_T32 t339 2).f0).toList != ([] : List UInt8)) = true := bne_iff_ne.mpr c70
               exact absurd ((Option.some.inj H).trans HRT_.out) (by decide)
             ·rw [if_neg c69] at H
              exact absurd H (by simp)
end Go.Proofs.Ytoimkmoalmmooaa.QA
namespace Go.Proofs.Ytoimkmoalmmooaa.QA
open Go.Proofs.Ytoimkmoalmmooaa.Given
open Go.Proofs.Ytoimkmoalmmooaa.PrX
open Go.RowKit Go.Proofs.YtoimkmoalmmooaaW.PrintWords Go.Proofs.YtoimkmoalmmooaaW.PrintLast Go.Proofs.YtoimkmoalmmooaaW.PrintMore
set_option linter.unusedVariables false
set_option linter.unusedSimpArgs false
theorem laws_FnTrailerUpdates.calls (k : Nat) (a0 : ByteArray) (a1 : ByteArray) (a2 : ByteArray) (a3 : ByteArray) (r : Bool) (w : World) (hrt : r = true) (h : laws_FnTrailerUpdates.f k a0 a1 a2 a3 = some r) :
    Calls Try.prog 4 #[.string a0, .string a1, .string a2, .string a3] w fun e w' => e = .returned (.bool r) ∧ Below w.heap.size w w' := by
  by_cases hm : laws_FnTrailerUpdates.Main a0 a1 a2 a3
  · exact laws_FnTrailerUpdates.main k a0 a1 a2 a3 r w hm hrt h
  · exact laws_FnTrailerUpdates.early k a0 a1 a2 a3 r w hm h
theorem laws_FnTrailerUpdates.walk (P : laws_FnTrailerUpdates.Pure) (a0 : ByteArray) (a1 : ByteArray) (a2 : ByteArray) (a3 : ByteArray) (w : World) (w0 : a0.size ≤ 140737488351232) (w1 : a1.size ≤ 140737488351232) (w2 : a2.size ≤ 140737488351232) (w3 : a3.size ≤ 140737488351232) :
    Calls Try.prog 4 #[.string a0, .string a1, .string a2, .string a3] w fun e w' => e = .returned (.bool true) ∧ Below w.heap.size w w' := by
  obtain ⟨k, h⟩ := P a0 a1 a2 a3 w0 w1 w2 w3
  refine (laws_FnTrailerUpdates.calls k a0 a1 a2 a3 true w rfl h).mono ?_
  rintro e w' ⟨rfl, hd⟩
  exact ⟨rfl, hd⟩
end Go.Proofs.Ytoimkmoalmmooaa.QA
set_option linter.unusedVariables false
set_option linter.unusedSimpArgs false
namespace Go.Proofs.Ytoimkmoalmmooaa.Own
open Go.RowKit Go.Proofs.YtoimkmoalmmooaaW.PrintWords Go.Proofs.YtoimkmoalmmooaaW.PrintLast Go.Proofs.YtoimkmoalmmooaaW.PrintMore Go.Proofs.Ytoimkmoalmmooaa.Base Go.Proofs.Ytoimkmoalmmooaa.Gv Go.Proofs.Ytoimkmoalmmooaa.Given Go.Proofs.Ytoimkmoalmmooaa.QA
theorem idx_none (c : Int) : ∀ (K : List Int), (∀ x ∈ K, x ≠ c) → idx K c = -1
  | [], _ => rfl
  | x :: l, h => by
    rw [idx, if_neg (h x (by simp)), idx_none c l (fun y hy => h y (List.mem_cons_of_mem _ hy)), if_pos rfl]
theorem cutI_none {K : List Int} (h : ∀ x ∈ K, x ≠ 44) : cutI K = K.length := by rw [cutI, if_pos (idx_none 44 K h)]
theorem trimL_none : ∀ {K : List Int}, (∀ x ∈ K, x ≠ 32) → trimL K = K
  | [], _ => rfl
  | x :: l, h => trimL_hd x l (h x (by simp))
theorem trimR_none {K : List Int} (h : ∀ x ∈ K, x ≠ 32) : trimR K = K := by
  unfold trimR
  have := trimL_none (K := K.reverse) (fun x hx => h x (List.mem_reverse.1 hx))
  unfold trimL at this
  rw [this, List.reverse_reverse]
theorem keyT_word (dn : Bool) {K : List Int} (h : ∀ x ∈ K, x ≠ 44 ∧ x ≠ 32) : keyT dn K = nkd dn K := by
  unfold keyT
  rw [cutI_none (fun x hx => (h x hx).1), List.take_length, trimL_none (fun x hx => (h x hx).2), trimR_none (fun x hx => (h x hx).2)]
theorem setGo_one (dn : Bool) (f : Nat) {K : List Int} (hK : K ≠ []) (h : ∀ x ∈ K, x ≠ 44 ∧ x ≠ 32) (acc : List KVx) (b : Bool) :
    setGo dn (f + 1) K acc b = some (if badK (nkd dn K) = true then acc else acc ++ [⟨nkd dn K, [], true⟩], badK (nkd dn K)) := by
  cases K with
  | nil => exact absurd rfl hK
  | cons y ys =>
    have hk := keyT_word dn h
    have hne : ¬ keyT dn (y :: ys) = [] := by
      rw [hk]; intro e
      have := congrArg List.length e
      rw [nkd_length] at this; simp at this
    have hc := cutI_none (K := y :: ys) (fun x hx => (h x hx).1)
    rw [setGo, if_neg hne, hk, hc, List.drop_eq_nil_of_le (by omega)]
    cases f <;> rfl
theorem badK_x {K : List Int} (h : (K.map o32).headD 0 = 120) : badK K = false := bad_x _ h
theorem nkd_x {K : List Int} (dn : Bool) (h : (K.map o32).headD 0 = 120) (hr : ∀ x ∈ K, 0 ≤ x ∧ x ≤ 255) : ((nkd dn K).map o32).headD 0 = 120 := by
  cases dn with
  | true => exact h
  | false =>
    cases K with
    | nil => exact absurd h (by decide)
    | cons x l =>
      have hx := hr x (by simp)
      have h' : o32 x = 120 := h
      show o32 (Gv.up x) = 120
      unfold Gv.up
      split
      · obtain ⟨n, rfl⟩ : ∃ n : Nat, x = n := ⟨x.toNat, by omega⟩
        have : ∀ m : Fin 256, o32 ((m.val : Nat) : Int) = 120 → o32 (((m.val : Nat) : Int) - 32) = 120 ∨ ¬ (97 ≤ m.val) := by decide +kernel
        rcases this ⟨n, by omega⟩ h' with k | k
        · exact k
        · simp at k; omega
      · exact h'
theorem stepF_4 (dn : Bool) (L : List KVx) (s : Step) (hd : s.f0 = 4) (hL : L.length ≤ 1000000) (h1 : s.f1.size ≤ 1000000) (h2 : s.f2.size ≤ 1000000) : stepF dn L s = (setGo dn s.f2.size (ns s.f2) [] false).map fun r => ((⟨#[]⟩, !r.2, []), dn, r.1) := by
  unfold stepF
  rw [if_neg (by omega), if_neg (by omega), if_neg (by omega), if_neg (by omega), if_pos hd]
theorem stepF_3 (dn : Bool) (L : List KVx) (s : Step) (hd : s.f0 = 3) (hL : L.length ≤ 1000000) (h1 : s.f1.size ≤ 1000000) (h2 : s.f2.size ≤ 1000000) : stepF dn L s = some ((strOfNums ((getKV (nkd dn (ns s.f1)) L).getD []), false, []), dn, L) := by
  unfold stepF
  rw [if_neg (by omega), if_neg (by omega), if_neg (by omega), if_pos hd]
theorem stepF_9 (dn : Bool) (L : List KVx) (s : Step) (hd : s.f0 = 9) (hL : L.length ≤ 1000000) (h0 : s.f1.size ≠ 0) (h1 : s.f1.size ≤ 1000000) (h2 : s.f2.size ≤ 1000000) (hb : badK (ns s.f1) = false) : stepF dn L s = some ((⟨#[]⟩, true, []), dn, updKV (ns s.f1) (ns s.f2) L) := by
  unfold stepF
  rw [if_neg (by omega), if_pos (by omega), if_neg h0, if_pos hd, if_neg (by rw [hb]; decide), if_neg (by omega), if_neg (by omega)]
theorem stepF_1 (dn : Bool) (L : List KVx) (s : Step) (hd : s.f0 = 1) (hL : L.length ≤ 1000000) (h0 : s.f1.size ≠ 0) (h1 : s.f1.size ≤ 1000000) (h2 : s.f2.size ≤ 1000000) (hb : badK (nkd dn (ns s.f1)) = false) : stepF dn L s = some ((⟨#[]⟩, true, []), dn, L ++ [⟨nkd dn (ns s.f1), ns s.f2, false⟩]) := by
  unfold stepF
  rw [if_neg (by omega), if_pos (by omega), if_neg h0, if_neg (show ¬ s.f0 = 9 by omega), if_neg (by rw [hb]; decide), if_neg (show ¬ s.f0 = 0 by omega), if_pos hd]
theorem stepF_7 (dn : Bool) (L : List KVx) (s : Step) (hd : s.f0 = 7) (hL : L.length ≤ 1000000) (h1 : s.f1.size ≤ 1000000) (h2 : s.f2.size ≤ 1000000) : stepF dn L s = some ((⟨#[]⟩, false, L.map toP), dn, L) := by
  unfold stepF
  rw [if_neg (by omega), if_neg (by omega), if_neg (by omega), if_neg (by omega), if_neg (by omega), if_neg (by omega), if_neg (by omega), if_pos hd]
theorem stepF_10 (dn : Bool) (L : List KVx) (s : Step) (hd : s.f0 = 10) (hL : L.length ≤ 1000000) (h1 : s.f1.size ≤ 1000000) (h2 : s.f2.size ≤ 1000000) : stepF dn L s = some ((⟨#[]⟩, false, []), true, L) := by
  unfold stepF
  rw [if_neg (by omega), if_neg (by omega), if_neg (by omega), if_neg (by omega), if_neg (by omega), if_neg (by omega), if_neg (by omega), if_neg (by omega), if_neg (by omega), if_pos hd]
end Go.Proofs.Ytoimkmoalmmooaa.Own
set_option linter.unusedVariables false
set_option linter.unusedSimpArgs false
namespace Go.Proofs.Ytoimkmoalmmooaa.Own
open Go.RowKit Go.Proofs.YtoimkmoalmmooaaW.PrintWords Go.Proofs.YtoimkmoalmmooaaW.PrintLast Go.Proofs.YtoimkmoalmmooaaW.PrintMore Go.Proofs.Ytoimkmoalmmooaa.Base Go.Proofs.Ytoimkmoalmmooaa.Gv Go.Proofs.Ytoimkmoalmmooaa.Given Go.Proofs.Ytoimkmoalmmooaa.QA
theorem eqB_self (k : List Int) : eqB k k = true := by unfold eqB; exact beq_self_eq_true _
theorem script_cons {dn : Bool} {L : List KVx} {acc : List Ans} {s : Step} {r : List Step} {T : ByteArray} {is : Bool} {P : List Pair} {dn' : Bool} {L' : List KVx} (h : stepF dn L s = some ((T, is, P), dn', L')) : scriptF dn L acc (s :: r) = scriptF dn' L' (acc ++ [⟨T, is, 0, [], P⟩]) r := by
  rw [scriptF, h]
theorem upd_script (K O NK a b : ByteArray) (hK : K.size ≠ 0) (hKs : K.size ≤ 1000) (hw : ∀ x ∈ ns K, x ≠ 44 ∧ x ≠ 32) (hx : ((ns K).map o32).headD 0 = 120) (hNK : ns NK = nk (ns K)) (hNs : NK.size = K.size) (hO : O.size ≠ 0) (hOs : O.size ≤ 1000) (hOx : badK (ns O) = false) (hne : eqB (ns O) (nk (ns K)) = false) (has : a.size ≤ 1000) (hbs : b.size ≤ 1000) :
    ∃ T, scriptF false [] [] [⟨4, ⟨#[]⟩, K, 0, 0⟩, ⟨9, O, b, 0, 0⟩, ⟨3, K, ⟨#[]⟩, 0, 0⟩, ⟨9, NK, a, 0, 0⟩, ⟨3, K, ⟨#[]⟩, 0, 0⟩, ⟨9, NK, b, 0, 0⟩, ⟨3, K, ⟨#[]⟩, 0, 0⟩, ⟨7, ⟨#[]⟩, ⟨#[]⟩, 0, 0⟩] =
      some ([⟨⟨#[]⟩, true, 0, [], []⟩, ⟨⟨#[]⟩, true, 0, [], []⟩, ⟨strOfNums [], false, 0, [], []⟩, ⟨⟨#[]⟩, true, 0, [], []⟩, ⟨strOfNums (ns a), false, 0, [], []⟩, ⟨⟨#[]⟩, true, 0, [], []⟩, ⟨strOfNums (ns a), false, 0, [], []⟩, ⟨⟨#[]⟩, false, 0, [], [⟨strOfNums (nk (ns K)), strOfNums (ns a)⟩]⟩], T, true) := by
  have hbk : badK (nk (ns K)) = false := badK_x (nkd_x false hx (fun x h => ns_range K x h))
  have hbN : badK (ns NK) = false := by rw [hNK]; exact hbk
  obtain ⟨f, hf⟩ : ∃ f, K.size = f + 1 := ⟨K.size - 1, by omega⟩
  have hKn : ns K ≠ [] := by intro e; have := ns_length K; rw [e] at this; simp at this; omega
  have hz : (⟨#[]⟩ : ByteArray).size = 0 := rfl
  have e1 : stepF false [] ⟨4, ⟨#[]⟩, K, 0, 0⟩ = some ((⟨#[]⟩, true, []), false, [⟨nk (ns K), [], true⟩]) := by
    rw [stepF_4 _ _ _ rfl (by simp) (by simp [hz]) (by show K.size ≤ _; omega)]
    show (setGo false K.size (ns K) [] false).map _ = _
    rw [hf, setGo_one false f hKn hw]
    show some ((_, !badK (nk (ns K)), _), _, if badK (nk (ns K)) = true then _ else _) = _
    rw [hbk]; rfl
  have u1 : updKV (ns O) (ns b) [⟨nk (ns K), [], true⟩] = [⟨nk (ns K), [], true⟩] := by simp [updKV, hne]
  have e2 : stepF false [⟨nk (ns K), [], true⟩] ⟨9, O, b, 0, 0⟩ = some ((⟨#[]⟩, true, []), false, [⟨nk (ns K), [], true⟩]) := by
    rw [stepF_9 _ _ _ rfl (by simp) hO (by show O.size ≤ _; omega) (by show b.size ≤ _; omega) hOx, u1]
  have g1 : ∀ v no, getKV (nk (ns K)) [⟨nk (ns K), v, no⟩] = some v := fun v no => by simp [getKV, eqB_self]
  have e3 : ∀ v no, stepF false [⟨nk (ns K), v, no⟩] ⟨3, K, ⟨#[]⟩, 0, 0⟩ = some ((strOfNums v, false, []), false, [⟨nk (ns K), v, no⟩]) := fun v no => by
    rw [stepF_3 _ _ _ rfl (by simp) (by show K.size ≤ _; omega) (by simp [hz])]
    show some ((strOfNums ((getKV (nk (ns K)) _).getD []), _, _), _, _) = _
    rw [g1]; rfl
  have u4 : updKV (ns NK) (ns a) [⟨nk (ns K), [], true⟩] = [⟨nk (ns K), ns a, false⟩] := by rw [hNK]; simp [updKV, eqB_self]
  have e4 : stepF false [⟨nk (ns K), [], true⟩] ⟨9, NK, a, 0, 0⟩ = some ((⟨#[]⟩, true, []), false, [⟨nk (ns K), ns a, false⟩]) := by
    rw [stepF_9 _ _ _ rfl (by simp) (by show NK.size ≠ 0; omega) (by show NK.size ≤ _; omega) (by show a.size ≤ _; omega) hbN, u4]
  have u6 : updKV (ns NK) (ns b) [⟨nk (ns K), ns a, false⟩] = [⟨nk (ns K), ns a, false⟩] := by simp [updKV]
  have e6 : stepF false [⟨nk (ns K), ns a, false⟩] ⟨9, NK, b, 0, 0⟩ = some ((⟨#[]⟩, true, []), false, [⟨nk (ns K), ns a, false⟩]) := by
    rw [stepF_9 _ _ _ rfl (by simp) (by show NK.size ≠ 0; omega) (by show NK.size ≤ _; omega) (by show b.size ≤ _; omega) hbN, u6]
  have e8 : stepF false [⟨nk (ns K), ns a, false⟩] ⟨7, ⟨#[]⟩, ⟨#[]⟩, 0, 0⟩ = some ((⟨#[]⟩, false, [⟨strOfNums (nk (ns K)), strOfNums (ns a)⟩]), false, [⟨nk (ns K), ns a, false⟩]) := by
    rw [stepF_7 _ _ _ rfl (by simp) (by simp [hz]) (by simp [hz])]; rfl
  rw [script_cons e1, script_cons e2, script_cons (e3 _ _), script_cons e4, script_cons (e3 _ _), script_cons e6, script_cons (e3 _ _), script_cons e8, scriptF]
  have hr : RgK [⟨nk (ns K), ns a, false⟩] := by
    intro x hx' y hy
    rw [List.mem_singleton] at hx'
    subst hx'
    have : y ∈ ns NK := by rw [hNK]; exact hy
    exact ns_range NK y this
  have hsz : sizeKV [⟨nk (ns K), ns a, false⟩] + 2 ≤ 140737488355328 := by
    have h1 : (nk (ns K)).length = K.size := by rw [nk_length, ns_length]
    simp [sizeKV, h1, ns_length]; omega
  rw [if_pos ⟨by simp, hr, hsz⟩]
  exact ⟨_, rfl⟩
end Go.Proofs.Ytoimkmoalmmooaa.Own
set_option linter.unusedVariables false
namespace Go.Proofs.Ytoimkmoalmmooaa.Pure
open Go.RowKit Go.Proofs.Ytoimkmoalmmooaa.QA Go.Proofs.YtoimkmoalmmooaaW.PrintWords Go.Proofs.YtoimkmoalmmooaaW.PrintLast Go.Proofs.YtoimkmoalmmooaaW.PrintMore Go.Proofs.Ytoimkmoalmmooaa.Base Go.Proofs.Ytoimkmoalmmooaa.Given Go.Proofs.Ytoimkmoalmmooaa.Gv Go.Proofs.Ytoimkmoalmmooaa.Own
theorem name_x {s : ByteArray} (h : isName s = true) : 2 ≤ s.size ∧ s.size ≤ 60 ∧ (∀ x ∈ ns s, x ≠ 44 ∧ x ≠ 32) ∧ ((ns s).map o32).headD 0 = 120 := by
  have hm := isName_mem h
  refine ⟨hm.1, hm.2.1, fun x hx => ?_, ?_⟩
  · have := hm.2.2 x hx
    unfold nB at this
    simp only [Bool.or_eq_true, decide_eq_true_eq] at this
    rcases this with rfl | hw
    · decide
    · exact ⟨(wB_ne hw).2.2.1, (wB_ne hw).1⟩
  · unfold isName at h
    simp only [Bool.and_eq_true, decide_eq_true_eq] at h
    rw [← h.1.1.2, show bt s 0 = (ns s).getD 0 0 from bt_ns s 0]
    cases hn : ns s with
    | nil => have := ns_length s; rw [hn] at this; simp at this; omega
    | cons a t => rfl
theorem low_is (s : ByteArray) (h : s.size ≤ 4611686018427387904) : laws_low.f s = some (strOfNums ((ns s).map lo)) := if_pos h
theorem normal_is (s : ByteArray) (h : s.size ≤ 4611686018427387904) : laws_normal.f s = some (strOfNums (nk (ns s))) := if_pos h
theorem nk_row (s : ByteArray) : ∀ x ∈ nk (ns s), 0 ≤ x ∧ x ≤ 255 := nk_range (ns s) (fun x h => ns_range s x h)
theorem self_str (s : ByteArray) : strOfNums (ns s) = s := ns_inj (ns_strOfNums (fun x hx => ns_range s x hx))
theorem lo_up (x : Int) : lo (Gv.up x) = lo x := by
  unfold Gv.up lo
  (repeat' split) <;> omega
theorem nkTail_map_lo : ∀ l : List Int, (nkTail l).map lo = l.map lo
  | [] => rfl
  | [x] => by
    unfold nkTail
    split
    · rename_i h; subst h; rfl
    · simp [lo_lo]
  | x :: y :: l => by
    unfold nkTail
    split
    · rename_i h; subst h; simp [lo_up, nkTail_map_lo l]
    · have := nkTail_map_lo (y :: l)
      simp only [List.map_cons] at this
      simp only [List.map_cons, this, lo_lo]
theorem nk_map_lo (l : List Int) : (nk l).map lo = l.map lo := by
  cases l <;> simp [nk, nkTail_map_lo, lo_up]
theorem script_is {l : List Step} {r : List Ans × ByteArray × Bool} (hl : l.length ≤ 1000000000) (h : scriptF false [] [] l = some r) : impl_TrailerScript.f l = some r := by
  unfold impl_TrailerScript.f
  rw [if_pos hl]; exact h
end Go.Proofs.Ytoimkmoalmmooaa.Pure
set_option linter.unusedVariables false
namespace Go.Proofs.Ytoimkmoalmmooaa.Pure
open Go.RowKit Go.Proofs.Ytoimkmoalmmooaa.QA Go.Proofs.YtoimkmoalmmooaaW.PrintWords Go.Proofs.YtoimkmoalmmooaaW.PrintLast Go.Proofs.YtoimkmoalmmooaaW.PrintMore Go.Proofs.Ytoimkmoalmmooaa.Base Go.Proofs.Ytoimkmoalmmooaa.Given Go.Proofs.Ytoimkmoalmmooaa.Gv Go.Proofs.Ytoimkmoalmmooaa.Own
theorem x_a_script : ∃ T, scriptF false [] [] [⟨4, ⟨#[]⟩, ⟨#[88, 45, 65]⟩, 0, 0⟩, ⟨9, ⟨#[88, 45, 65]⟩, ⟨#[99]⟩, 0, 0⟩, ⟨3, ⟨#[88, 45, 65]⟩, ⟨#[]⟩, 0, 0⟩] = some ([⟨⟨#[]⟩, true, 0, [], []⟩, ⟨⟨#[]⟩, true, 0, [], []⟩, ⟨⟨#[99]⟩, false, 0, [], []⟩], T, true) := by
  have hk : ns (⟨#[88, 45, 65]⟩ : ByteArray) = [88, 45, 65] := by decide
  have hn : nk [88, 45, 65] = [88, 45, 65] := by decide
  have e1 : stepF false [] ⟨4, ⟨#[]⟩, ⟨#[88, 45, 65]⟩, 0, 0⟩ = some ((⟨#[]⟩, true, []), false, [⟨[88, 45, 65], [], true⟩]) := by
    rw [stepF_4 _ _ _ rfl (by simp) (by decide) (by decide)]
    show (setGo false 3 (ns _) [] false).map _ = _
    rw [hk, setGo_one false 2 (by decide) (by decide), badK_x (nkd_x false (by decide) (by decide))]
    show some (_, _, _) = _
    rw [show nkd false [88, 45, 65] = [88, 45, 65] from hn]; rfl
  have e2 : stepF false [⟨[88, 45, 65], [], true⟩] ⟨9, ⟨#[88, 45, 65]⟩, ⟨#[99]⟩, 0, 0⟩ = some ((⟨#[]⟩, true, []), false, [⟨[88, 45, 65], [99], false⟩]) := by
    rw [stepF_9 _ _ _ rfl (by simp) (by decide) (by decide) (by decide) (badK_x (by decide))]
    have : updKV (ns (⟨#[88, 45, 65]⟩ : ByteArray)) (ns (⟨#[99]⟩ : ByteArray)) [⟨[88, 45, 65], [], true⟩] = [⟨[88, 45, 65], [99], false⟩] := by
      rw [hk, show ns (⟨#[99]⟩ : ByteArray) = [99] from by decide]; simp [updKV, eqB_self]
    show some (_, _, updKV (ns (⟨#[88, 45, 65]⟩ : ByteArray)) (ns (⟨#[99]⟩ : ByteArray)) _) = _
    rw [this]
  have e3 : stepF false [⟨[88, 45, 65], [99], false⟩] ⟨3, ⟨#[88, 45, 65]⟩, ⟨#[]⟩, 0, 0⟩ = some ((⟨#[99]⟩, false, []), false, [⟨[88, 45, 65], [99], false⟩]) := by
    rw [stepF_3 _ _ _ rfl (by simp) (by decide) (by decide)]
    show some ((strOfNums ((getKV (nk (ns (⟨#[88, 45, 65]⟩ : ByteArray))) [(⟨[88, 45, 65], [99], false⟩ : KVx)]).getD []), false, ([] : List Pair)), false, [(⟨[88, 45, 65], [99], false⟩ : KVx)]) = _
    rw [hk, hn, show getKV [88, 45, 65] [⟨[88, 45, 65], [99], false⟩] = some [99] from by simp [getKV, eqB_self]]
    rfl
  rw [script_cons e1, script_cons e2, script_cons e3, scriptF, if_pos ⟨by simp, by decide, by decide⟩]
  exact ⟨_, rfl⟩
theorem off_script (K a : ByteArray) (hK : K.size ≠ 0) (hKs : K.size ≤ 1000) (hx : ((ns K).map o32).headD 0 = 120) (has : a.size ≤ 1000) :
    ∃ T, scriptF false [] [] [⟨10, ⟨#[]⟩, ⟨#[]⟩, 0, 0⟩, ⟨1, K, a, 0, 0⟩, ⟨7, ⟨#[]⟩, ⟨#[]⟩, 0, 0⟩] = some ([⟨⟨#[]⟩, false, 0, [], []⟩, ⟨⟨#[]⟩, true, 0, [], []⟩, ⟨⟨#[]⟩, false, 0, [], [⟨K, a⟩]⟩], T, true) := by
  have hz : (⟨#[]⟩ : ByteArray).size = 0 := rfl
  have e1 : stepF false [] ⟨10, ⟨#[]⟩, ⟨#[]⟩, 0, 0⟩ = some ((⟨#[]⟩, false, []), true, []) := stepF_10 _ _ _ rfl (by simp) (by simp [hz]) (by simp [hz])
  have e2 : stepF true [] ⟨1, K, a, 0, 0⟩ = some ((⟨#[]⟩, true, []), true, [⟨ns K, ns a, false⟩]) := stepF_1 true [] _ rfl (by simp) hK (by show K.size ≤ _; omega) (by show a.size ≤ _; omega) (badK_x hx)
  have e3 : stepF true [⟨ns K, ns a, false⟩] ⟨7, ⟨#[]⟩, ⟨#[]⟩, 0, 0⟩ = some ((⟨#[]⟩, false, [⟨K, a⟩]), true, [⟨ns K, ns a, false⟩]) := by
    rw [stepF_7 _ _ _ rfl (by simp) (by simp [hz]) (by simp [hz])]
    show some ((_, _, [(⟨strOfNums (ns K), strOfNums (ns a)⟩ : Pair)]), _, _) = _
    rw [self_str, self_str]
  have hr : RgK [⟨ns K, ns a, false⟩] := by
    intro x hx' y hy
    rw [List.mem_singleton] at hx'
    subst hx'
    exact ns_range K y hy
  rw [script_cons e1, script_cons e2, script_cons e3, scriptF, if_pos ⟨by simp, hr, by simp [sizeKV, ns_length]; omega⟩]
  exact ⟨_, rfl⟩
theorem FnTrailerUpdates : laws_FnTrailerUpdates.Pure := by
  intro key other a b hs0 hs1 hs2 hs3
  refine Ev.rounds ?_
  unfold laws_FnTrailerUpdates.f
  have s0t : Ev (fun k => laws_FnTrailerUpdates.j0 k key other a b true) true := Ev.step (f := fun _ => some true) (fun k => rfl) (Ev.now _)
  have s2t : Ev (fun k => laws_FnTrailerUpdates.j2 k key other a b true) true := Ev.step (f := fun _ => some true) (fun k => rfl) (Ev.now _)
  refine Ev.ite (fun _ => s0t) (fun _ => Ev.ite (fun _ => s0t) (fun _ => Ev.ite (fun _ => s0t) (fun _ => ?_)))
  by_cases h3 : (b.size : Int) > 2147483647
  · rw [decide_eq_true h3]; exact s0t
  rw [decide_eq_false h3]
  obtain ⟨T1, x1⟩ := x_a_script
  refine Ev.step (f := _) (fun k => by simp only [laws_FnTrailerUpdates.j0]; rw [if_neg (by simp)]) ?_
  refine Ev.call (script_is (by decide) x1) (Ev.if_true rfl (Ev.if_true rfl (Ev.if_true (by show (2 : Int) < ((3 : Nat) : Int); decide) ?_)))
  refine Ev.step (f := _) (fun k => by simp only [laws_FnTrailerUpdates.j1]; rw [if_neg (by decide +kernel)]) ?_
  refine Ev.bind (name_ends key (by omega)) (Ev.ite (fun hk => ?_) (fun _ => s2t))
  refine Ev.bind (name_ends other (by omega)) (Ev.ite (fun ho => ?_) (fun _ => s2t))
  refine Ev.call (low_is key (by omega)) (Ev.call (low_is other (by omega)) (Ev.ite (fun _ => s2t) (fun hlow => ?_)))
  refine Ev.bind (word_ends a (by omega)) (Ev.ite (fun ha => ?_) (fun _ => s2t))
  refine Ev.bind (word_ends b (by omega)) (Ev.ite (fun hb => ?_) (fun _ => s2t))
  refine Ev.bind (short_ends [a, b] (by simp)) ?_
  cases hsh : areShort [a, b] with
  | false => exact s2t
  | true =>
    have hsz := (areShort_mem hsh).2
    have ha2 : a.size ≤ 200 := hsz a (by simp)
    have hb2 : b.size ≤ 200 := hsz b (by simp)
    obtain ⟨k1, k2, k3, k4⟩ := name_x hk
    obtain ⟨o1, o2, o3, o4⟩ := name_x ho
    have hK : ns (strOfNums (nk (ns key))) = nk (ns key) := ns_strOfNums (nk_row key)
    have hO : ns (strOfNums (nk (ns other))) = nk (ns other) := ns_strOfNums (nk_row other)
    have zK : (strOfNums (nk (ns key))).size = key.size := by rw [strOfNums_size, nk_length, ns_length]
    have zO : (strOfNums (nk (ns other))).size = other.size := by rw [strOfNums_size, nk_length, ns_length]
    have hne : eqB (ns (strOfNums (nk (ns other)))) (nk (ns key)) = false := by
      rw [hO]
      unfold eqB
      rw [beq_eq_false_iff_ne]
      intro e
      apply hlow
      have e2 := congrArg ns ((toList_eq_iff _ _).1 e)
      rw [hO, hK] at e2
      have := congrArg (List.map lo) e2
      rw [nk_map_lo, nk_map_lo] at this
      rw [this]
    have hbO : badK (ns (strOfNums (nk (ns other)))) = false := by rw [hO]; exact badK_x (nkd_x false o4 (fun x h => ns_range other x h))
    obtain ⟨T2, x2⟩ := upd_script key (strOfNums (nk (ns other))) (strOfNums (nk (ns key))) a b (by omega) (by omega) k3 k4 hK zK (by omega) (by omega) hbO hne (by omega) (by omega)
    obtain ⟨T3, x3⟩ := off_script key a (by omega) (by omega) k4 (by omega)
    refine Ev.step (f := _) (fun k => by simp only [laws_FnTrailerUpdates.j2]; rw [if_neg (by simp)]) ?_
    refine Ev.call (normal_is key (by omega)) (Ev.call (normal_is other (by omega)) (Ev.call (script_is (by simp) x2) (Ev.call (script_is (by simp) x3) (Ev.if_true rfl (Ev.if_true rfl (Ev.if_true rfl ?_))))))
    refine Ev.step (f := _) (fun k => by simp only [laws_FnTrailerUpdates.j3]; rw [if_neg (by simp)]) ?_
    refine Ev.if_true (by simp) (Ev.if_true ?_ (Ev.if_true (by simp) (Ev.if_true ?_ (Ev.if_true (by simp) (Ev.if_true ?_ (Ev.if_true (by simp) ?_))))))
    · show (strOfNums []).toList = []
      rw [Lib.toList_data, strOfNums_data]; rfl
    · show (strOfNums (ns a)).toList = a.toList
      rw [self_str]
    · show (strOfNums (ns a)).toList = a.toList
      rw [self_str]
    · show Ev (fun k => (laws_samePairs.f k [(⟨strOfNums (nk (ns key)), strOfNums (ns a)⟩ : Pair)] [(⟨strOfNums (nk (ns key)), a⟩ : Pair)]).bind _) true
      rw [self_str]
      refine Ev.bind (samePairs_self _ (by simp)) (Ev.if_true rfl (Ev.if_true (by simp) ?_))
      exact Ev.bind (samePairs_self [(⟨key, a⟩ : Pair)] (by simp)) (Ev.now _)
end Go.Proofs.Ytoimkmoalmmooaa.Pure
