/- Texts of this claim, one behind the other (merged by wip/prune.py of this repo, without what the proof does not use): TPan3, TPan4, TPan5, TScriptF, TScript, QA25, LName, LRun, LUpd, LTrail, PureFnTrailersAhead. -/
import Derived.Test.YtoimkmoalmmooaaZA3
import Derived.Test.YtoimkmoalmmooaaZA4
import Derived.Test.YtoimkmoalmmooaaZA5
import Derived.Test.YtoimkmoalmmooaaZA8
import Derived.Test.YtoimkmoalmmooaaZA13
import Derived.Test.YtoimkmoalmmooaaZA14
import Derived.Test.YtoimkmoalmmooaaZA15
set_option linter.unusedVariables false
set_option linter.unusedSimpArgs false
namespace Go.Proofs.Ytoimkmoalmmooaa.Own
open Go.RowKit Go.Proofs.YtoimkmoalmmooaaW.PrintWords Go.Proofs.YtoimkmoalmmooaaW.PrintLast Go.Proofs.YtoimkmoalmmooaaW.PrintMore Go.Proofs.Ytoimkmoalmmooaa.Base Go.Proofs.Ytoimkmoalmmooaa.Gv Go.Proofs.Ytoimkmoalmmooaa.QA Go.Proofs.Ytoimkmoalmmooaa.Given
def SetP (l : Nat → Nat) (w : World) (q zl : Nat) (e : Ending) (w' : World) : Prop := PanE e ∧ ∃ l1, Stp (fun lab => Tz q lab ∨ lab = zl) l l1 w w'
theorem dropW_nil {α : Type} (p : α → Bool) : ∀ l : List α, l.dropWhile p = [] → ∀ x ∈ l, p x = true
  | [], _ => by simp
  | y :: t, h => by
    rw [List.dropWhile_cons] at h
    by_cases hy : p y = true
    · rw [if_pos hy] at h
      intro x hx
      rcases List.mem_cons.1 hx with rfl | hx
      · exact hy
      · exact dropW_nil p t h x hx
    · rw [if_neg hy] at h; cases h
theorem trim_blank : ∀ (L : List Int), trimR (trimL L) = [] → ∀ x ∈ L, x = 32
  | [], _ => by simp
  | x :: t, h => by
    by_cases hx : x = 32
    · subst hx
      rw [trimL_sp] at h
      intro y hy
      rcases List.mem_cons.1 hy with rfl | hy
      · rfl
      · exact trim_blank t h y hy
    · rw [trimL_hd _ _ hx] at h
      unfold trimR at h
      rw [List.reverse_eq_nil_iff] at h
      have := dropW_nil _ _ h x (by simp)
      exact absurd (by simpa using this) hx
set_option maxHeartbeats 4000000 in
set_option maxRecDepth 100000 in
theorem tSetT_panics (l : Nat → Nat) (w : World) (q p n : Nat) (V kv vv : Value) (S : List Slot) (kx vx : List Int) (dn : Bool) (h : TrC l w q p V n S kv kx vv vx dn) (zl g c : Nat) (hz : ¬ Tz q zl) (hg : l g = zl) (xs : List Int) (hx : ∀ x ∈ xs, 0 ≤ x ∧ x ≤ 255) (hbr : BrO w 5 g 0 xs) (hc : xs.length ≤ c) (hl : xs.length ≤ 1099511627775) (f0 : Nat) (hf0 : xs.length ≤ f0) (hgo : setGo dn f0 xs [] false = none) :
  Calls Try.prog 45 #[.pointer (some ⟨p, 0, none⟩), .slice (some ⟨g, 0, none⟩) xs.length c] w fun e w' => SetP l w q zl e w' := by
 have HRS := Lib.hid (tResetSkip_calls l w q p n V kv vv S kx vx dn h)
 obtain ⟨XN, hXN⟩ : ∃ n, xs.length = n := ⟨_, rfl⟩
 rw [hXN] at hc hl ⊢
 have HXN := Lib.hid hXN
 have HZ := Lib.hid hz
 have HG := Lib.hid hg
 have HX := Lib.hid hx
 have HBR := Lib.hid hbr
 have HC := Lib.hid hc
 have HXL := Lib.hid hl
 have HGO := Lib.hid hgo
 have HF0 := Lib.hid hf0
 clear hf0
 clear h hz hg hx hbr hc hl hgo hXN
 go_enter Try.func45, Try.ntmps45
 go_wp2_with (
  go_at_call 63
  refine HRS.out.mono ?_
  rintro e w1 ⟨V1, rfl, h1, h2⟩
  have H1 := Lib.hid h1
  have H2 := Lib.hid h2
  clear h1 h2)
 go_loopw [1, 4, 5, 6] (fun tv ev iv _ wr => ∃ (o N C d n1 f : Nat) (i : Int) (ys : List Int) (acc : List KVx) (b : Bool), tv = .slice (some ⟨g, o, none⟩) N C ∧ iv = .int .i64 i ∧ Hid (i + 1 = (d : Int)) ∧ Hid (N ≤ C) ∧ Hid (ys.length = N - d) ∧ Hid (BrO wr 5 g (o + d) ys) ∧ Hid (setGo dn f ys acc b = none) ∧ Hid (ys.length ≤ f) ∧ Hid (ErrV b ev) ∧ Hid (MidT l w q p kv vv kx vx dn zl g n1 acc wr) ∧ Hid (n1 + ys.length ≤ XN) ∧ Hid (∀ x ∈ ys, 0 ≤ x ∧ x ≤ 255) ∧ Hid (N ≤ XN ∧ d ≤ N + 1)) (fun tv _ iv _ _ => lenV tv - (intOf iv + 1).toNat)
 case atStart =>
  refine ⟨0, XN, c, 0, 0, f0, -1, xs, [], false, rfl, rfl, Lib.hid (by omega), HC, Lib.hid (by have := HXN.out; omega), Lib.hid (HBR.out.same (H2.out.block g HBR.out.lt (by rw [HG.out]; exact HZ.out))), HGO, HF0, Lib.hid (.inr ⟨rfl, rfl⟩), Lib.hid ⟨l, V1, S, H1.out, rfl, H2.out.mono (fun _ k => .inl k), HG.out⟩, Lib.hid (by have := HXN.out; omega), HX, Lib.hid ⟨Nat.le_refl _, by omega⟩⟩
 case round =>
  obtain ⟨o, N, C, d, n1, f, i, ys, acc, b, rfl, rfl, HI, HNC, HYL, HB, HGO, HFL, HEV, HM, HN1, HYR, HNX⟩ := hrel
  have hi := HI.out
  have hnb := HNX.out
  have hxb := HXL.out
  have hi1 : -1 ≤ i := by omega
  have hi2 : i ≤ 1099511627776 := by omega
  cases hys : ys with
  | nil =>
   subst hys
   have := HGO.out
   have e1 : setGo dn f [] acc b = some (acc, b) := by cases f <;> rfl
   rw [e1] at this
   cases this
  | cons y ys' =>
   rw [hys] at HYL HB HGO HN1 HYR HFL
   clear hys
   obtain ⟨YS, hYS⟩ : ∃ Y, y :: ys' = Y := ⟨_, rfl⟩
   have hne : YS ≠ [] := by rw [← hYS]; simp
   cases f with
   | zero => have := HFL.out; simp at this
   | succ f =>
   have hgo := HGO.out
   rw [setGo] at hgo
   rw [hYS] at HYL HB HN1 HYR HFL hgo
   clear HGO hYS
   by_cases hke : keyT dn YS = []
   ·have hlen := HYL.out
    have hpos : 0 < YS.length := by cases YS with
     | nil => exact absurd rfl hne
     | cons _ _ => simp
    have hdN : d < N := by omega
    have hcut := cut8a g o N C d hdN HNC.out
    have p0 : (d : Int) < (N : Int) := by omega
    obtain ⟨CM, hCM⟩ : ∃ m, N - d = m := ⟨_, rfl⟩
    obtain ⟨C1, hC1⟩ : ∃ m, C - d = m := ⟨_, rfl⟩
    obtain ⟨O, hO⟩ : ∃ m, o + d = m := ⟨_, rfl⟩
    rw [hCM] at hlen
    rw [hCM, hC1, hO] at hcut
    rw [hO] at HB
    have HMC := Lib.hid (show CM ≤ C1 by have := HNC.out; omega)
    have HCMX := Lib.hid (show CM ≤ XN ∧ CM = N - d by omega)
    obtain ⟨m, hm⟩ : ∃ m, cutI YS = m := ⟨_, rfl⟩
    have hmle : m ≤ CM := by rw [← hm, ← hlen]; exact cutI_le YS
    have hix := bytes_IndexByte_calls wr (some ⟨g, O, none⟩) C1 YS 44 HYR.out (by decide) (by decide) (HB.out.reads (by omega))
    rw [hlen] at hix
    have hir := idx_range YS 44
    rw [hlen] at hir
    obtain ⟨J, hJ⟩ : ∃ j, idx YS 44 = j := ⟨_, rfl⟩
    rw [hJ] at hix hir
    have hJm : (J = -1 ∧ m = CM) ∨ (0 ≤ J ∧ J = (m : Int)) := by
     unfold cutI at hm
     rw [hJ] at hm
     by_cases hj : J = -1
     ·rw [if_pos hj] at hm; exact .inl ⟨hj, by omega⟩
     ·rw [if_neg hj] at hm; exact .inr ⟨by omega, by omega⟩
    have HIX := Lib.hid hix
    -- the key, cut and trimmed
    obtain ⟨L, hL⟩ : ∃ L, YS.take m = L := ⟨_, rfl⟩
    have HLm := Lib.hid (show L.length = m by rw [← hL, List.length_take]; omega)
    have HBL := Lib.hid (show BrO wr 5 g O L by rw [← hL]; exact HB.out.take m)
    have HRL := Lib.hid (show ∀ x ∈ L, 0 ≤ x ∧ x ≤ 255 from fun x k => HYR.out x (by rw [← hL] at k; exact List.mem_of_mem_take k))
    have HN2 := Lib.hid (show n1 + CM ≤ XN by have := HN1.out; omega)
    have hcuth := cut8h (some ⟨g, O, none⟩) CM C1 m hmle HMC.out
    have hmb : m ≤ 1099511627775 := by omega
    have hcb : CM ≤ 1099511627775 := by omega
    have hlb : ∀ x ∈ L, x = 32 := by
     refine trim_blank L ?_
     have h1 : nkd dn (trimR (trimL (YS.take (cutI YS)))) = [] := hke
     rw [hm, hL] at h1
     exact List.eq_nil_of_length_eq_zero (by have := congrArg List.length h1; rw [nkd_length] at this; exact this)
    have HLB := Lib.hid hlb
    obtain ⟨l1, V1, S1, hT, hacc, hst, hgl⟩ := HM.out
    obtain ⟨x4, _⟩ := hT.c4
    have HST := Lib.hid hst
    have HGL := Lib.hid hgl
    clear hT hacc hst hgl hlb hgo hke hlen hpos hdN hCM hC1 hO hm hix hir hJ hL hne hnb hxb
    rcases hJm with ⟨rfl, hmc⟩ | ⟨hj0, rfl⟩
    ·subst hmc
     have j0 : decide ((-1 : Int) < 0) = true := rfl
     go_upto_region 9 with (
      go_at_call 64
      refine HIX.out.mono ?_
      rintro e w2 ⟨rfl, hw2⟩
      obtain rfl : wr = w2 := hw2.symm)
     go_loopw [6] (fun kv wi => ∃ (o1 M1 C2 : Nat) (L1 : List Int), kv = .slice (some ⟨g, o1, none⟩) M1 C2 ∧ wi = wr ∧ M1 ≤ m ∧ Hid (M1 = L1.length) ∧ Hid (M1 ≤ C2) ∧ Hid (BrO wr 5 g o1 L1) ∧ Hid (∀ x ∈ L1, x = 32)) (fun kv _ => lenV kv)
     case atStart => exact ⟨O, m, C1, L, rfl, rfl, Nat.le_refl _, Lib.hid HLm.out.symm, Lib.hid (by have := HMC.out; omega), HBL, HLB⟩
     case round =>
      obtain ⟨o1, M1, C2, L1, rfl, hwi, hle1, HM1, HC2, HB1, HR1⟩ := hrel
      subst hwi
      cases hl1 : L1 with
      | nil =>
       have hM0 : M1 = 0 := by have := HM1.out; rw [hl1] at this; simpa using this
       subst hM0
       rw [hl1] at HB1
       clear hl1
       go_upto_region 11 with fail
       go_loopw [6] (fun kv wj => kv = .slice (some ⟨g, o1, none⟩) 0 C2 ∧ wj = wr) (fun kv _ => lenV kv)
       case atStart => exact ⟨rfl, rfl⟩
       case round =>
        obtain ⟨rfl, hwj⟩ := hrel
        subst hwj
        go_upto_region 14 with (
         go_at_call 60
         refine (nhkd_calls wr g o1 0 C2 [] dn rfl (fun x k => by simp at k) (by omega) HB1.out).mono ?_
         rintro e w3 ⟨rfl, hb3, ho3⟩
         have HO3 := Lib.hid ho3
         clear hb3 ho3)
        go_wp2_with (
         go_at_call 59
         refine (tAddB_panics _ _ _ _ _ _ _ _).mono ?_
         rintro e w4 ⟨⟨u, v, rfl⟩, rfl⟩)
        have hfin : Stp (fun lab => Tz q lab ∨ lab = zl) l l1 w w3.drew := (HST.out.trans ((HO3.out.stp l1).mono (fun _ e => .inr (e.trans HGL.out)))).trans (drew_stp _ l1 w3 1)
        first | exact ⟨rfl, ⟨u, v, rfl⟩, _, hfin⟩ | exact ⟨rfl, ⟨⟨u, v, rfl⟩, _, hfin⟩⟩
      | cons b1 L2 =>
       rw [hl1] at HM1 HB1 HR1
       clear hl1
       have y0 : wr.cell? ⟨g, o1, none⟩ = some (.int .u8 b1) := HB1.out.cell 0 (by simp)
       obtain rfl : b1 = 32 := HR1.out b1 (by simp)
       have hM1 : 0 < M1 := by have := HM1.out; simp at this; omega
       have p1 : (0 : Int) < (M1 : Int) := by omega
       obtain ⟨o2, hcut1, hb2⟩ : ∃ o2, (∀ W, (Instr.slice 54 (.slice (some ⟨g, o1, none⟩) M1 C2) (some (.int .i64 1)) none none).run Try.prog W = .ok (.slice (some ⟨g, o2, none⟩) (M1 - 1) (C2 - 1)) W) ∧ BrO wr 5 g o2 L2 := by
        by_cases hc1 : C2 = 1
        ·refine ⟨o1, fun W => ?_, ?_⟩
         ·have := cut8 (some ⟨g, o1, none⟩) M1 C2 1 (by omega) W
          rw [if_pos hc1] at this
          exact this
         ·have h0 : L2.length = 0 := by have h1 := HM1.out; have h2 := HC2.out; rw [List.length_cons] at h1; omega
          rw [List.eq_nil_of_length_eq_zero h0]
          have := HB1.out.take 0
          exact this
        ·refine ⟨o1 + 1, fun W => ?_, HB1.out.drop 1⟩
         have := cut8 (some ⟨g, o1, none⟩) M1 C2 1 (by omega) W
         rw [if_neg hc1] at this
         rw [show (some (⟨g, o1, none⟩ : Addr)).map (·.add 1) = some ⟨g, o1 + 1, none⟩ from by rw [Option.map_some, Addr.add_lit]] at this
         exact this
       have HBn := Lib.hid hb2
       have HRn := Lib.hid (show ∀ x ∈ L2, x = 32 from fun x k => HR1.out x (List.mem_cons_of_mem _ k))
       clear hb2
       go_wp2
       go_roundw
       case rel => exact ⟨o2, M1 - 1, C2 - 1, L2, rfl, by first | rfl | trivial, by omega, Lib.hid (by have := HM1.out; rw [List.length_cons] at this; omega), Lib.hid (by have := HC2.out; omega), HBn, HRn⟩
       case measure => simp [lenV]; omega
    ·have j0 : decide ((m : Int) < 0) = false := decide_eq_false (by omega)
     clear hj0
     go_upto_region 9 with (
      go_at_call 64
      refine HIX.out.mono ?_
      rintro e w2 ⟨rfl, hw2⟩
      obtain rfl : wr = w2 := hw2.symm)
     go_loopw [6] (fun kv wi => ∃ (o1 M1 C2 : Nat) (L1 : List Int), kv = .slice (some ⟨g, o1, none⟩) M1 C2 ∧ wi = wr ∧ M1 ≤ m ∧ Hid (M1 = L1.length) ∧ Hid (M1 ≤ C2) ∧ Hid (BrO wr 5 g o1 L1) ∧ Hid (∀ x ∈ L1, x = 32)) (fun kv _ => lenV kv)
     case atStart => exact ⟨O, m, C1, L, rfl, rfl, Nat.le_refl _, Lib.hid HLm.out.symm, Lib.hid (by have := HMC.out; omega), HBL, HLB⟩
     case round =>
      obtain ⟨o1, M1, C2, L1, rfl, hwi, hle1, HM1, HC2, HB1, HR1⟩ := hrel
      subst hwi
      cases hl1 : L1 with
      | nil =>
       have hM0 : M1 = 0 := by have := HM1.out; rw [hl1] at this; simpa using this
       subst hM0
       rw [hl1] at HB1
       clear hl1
       go_upto_region 11 with fail
       go_loopw [6] (fun kv wj => kv = .slice (some ⟨g, o1, none⟩) 0 C2 ∧ wj = wr) (fun kv _ => lenV kv)
       case atStart => exact ⟨rfl, rfl⟩
       case round =>
        obtain ⟨rfl, hwj⟩ := hrel
        subst hwj
        go_upto_region 14 with (
         go_at_call 60
         refine (nhkd_calls wr g o1 0 C2 [] dn rfl (fun x k => by simp at k) (by omega) HB1.out).mono ?_
         rintro e w3 ⟨rfl, hb3, ho3⟩
         have HO3 := Lib.hid ho3
         clear hb3 ho3)
        go_wp2_with (
         go_at_call 59
         refine (tAddB_panics _ _ _ _ _ _ _ _).mono ?_
         rintro e w4 ⟨⟨u, v, rfl⟩, rfl⟩)
        have hfin : Stp (fun lab => Tz q lab ∨ lab = zl) l l1 w w3.drew := (HST.out.trans ((HO3.out.stp l1).mono (fun _ e => .inr (e.trans HGL.out)))).trans (drew_stp _ l1 w3 1)
        first | exact ⟨rfl, ⟨u, v, rfl⟩, _, hfin⟩ | exact ⟨rfl, ⟨⟨u, v, rfl⟩, _, hfin⟩⟩
      | cons b1 L2 =>
       rw [hl1] at HM1 HB1 HR1
       clear hl1
       have y0 : wr.cell? ⟨g, o1, none⟩ = some (.int .u8 b1) := HB1.out.cell 0 (by simp)
       obtain rfl : b1 = 32 := HR1.out b1 (by simp)
       have hM1 : 0 < M1 := by have := HM1.out; simp at this; omega
       have p1 : (0 : Int) < (M1 : Int) := by omega
       obtain ⟨o2, hcut1, hb2⟩ : ∃ o2, (∀ W, (Instr.slice 54 (.slice (some ⟨g, o1, none⟩) M1 C2) (some (.int .i64 1)) none none).run Try.prog W = .ok (.slice (some ⟨g, o2, none⟩) (M1 - 1) (C2 - 1)) W) ∧ BrO wr 5 g o2 L2 := by
        by_cases hc1 : C2 = 1
        ·refine ⟨o1, fun W => ?_, ?_⟩
         ·have := cut8 (some ⟨g, o1, none⟩) M1 C2 1 (by omega) W
          rw [if_pos hc1] at this
          exact this
         ·have h0 : L2.length = 0 := by have h1 := HM1.out; have h2 := HC2.out; rw [List.length_cons] at h1; omega
          rw [List.eq_nil_of_length_eq_zero h0]
          have := HB1.out.take 0
          exact this
        ·refine ⟨o1 + 1, fun W => ?_, HB1.out.drop 1⟩
         have := cut8 (some ⟨g, o1, none⟩) M1 C2 1 (by omega) W
         rw [if_neg hc1] at this
         rw [show (some (⟨g, o1, none⟩ : Addr)).map (·.add 1) = some ⟨g, o1 + 1, none⟩ from by rw [Option.map_some, Addr.add_lit]] at this
         exact this
       have HBn := Lib.hid hb2
       have HRn := Lib.hid (show ∀ x ∈ L2, x = 32 from fun x k => HR1.out x (List.mem_cons_of_mem _ k))
       clear hb2
       go_wp2
       go_roundw
       case rel => exact ⟨o2, M1 - 1, C2 - 1, L2, rfl, by first | rfl | trivial, by omega, Lib.hid (by have := HM1.out; rw [List.length_cons] at this; omega), Lib.hid (by have := HC2.out; omega), HBn, HRn⟩
       case measure => simp [lenV]; omega
   ·have hkn : ¬ keyT dn YS = [] := hke
    clear hke
    rw [if_neg hkn] at hgo
    have hlen := HYL.out
    have hpos : 0 < YS.length := by cases YS with
     | nil => exact absurd rfl hne
     | cons _ _ => simp
    have hdN : d < N := by omega
    have hcut := cut8a g o N C d hdN HNC.out
    have p0 : (d : Int) < (N : Int) := by omega
    obtain ⟨CM, hCM⟩ : ∃ m, N - d = m := ⟨_, rfl⟩
    obtain ⟨C1, hC1⟩ : ∃ m, C - d = m := ⟨_, rfl⟩
    obtain ⟨O, hO⟩ : ∃ m, o + d = m := ⟨_, rfl⟩
    rw [hCM] at hlen
    rw [hCM, hC1, hO] at hcut
    rw [hO] at HB
    have HMC := Lib.hid (show CM ≤ C1 by have := HNC.out; omega)
    have HCMX := Lib.hid (show CM ≤ XN ∧ CM = N - d by omega)
    obtain ⟨m, hm⟩ : ∃ m, cutI YS = m := ⟨_, rfl⟩
    have hmle : m ≤ CM := by rw [← hm, ← hlen]; exact cutI_le YS
    have hix := bytes_IndexByte_calls wr (some ⟨g, O, none⟩) C1 YS 44 HYR.out (by decide) (by decide) (HB.out.reads (by omega))
    rw [hlen] at hix
    have hir := idx_range YS 44
    rw [hlen] at hir
    obtain ⟨J, hJ⟩ : ∃ j, idx YS 44 = j := ⟨_, rfl⟩
    rw [hJ] at hix hir
    have hJm : (J = -1 ∧ m = CM) ∨ (0 ≤ J ∧ J = (m : Int)) := by
     unfold cutI at hm
     rw [hJ] at hm
     by_cases hj : J = -1
     ·rw [if_pos hj] at hm; exact .inl ⟨hj, by omega⟩
     ·rw [if_neg hj] at hm; exact .inr ⟨by omega, by omega⟩
    have HIX := Lib.hid hix
    -- the key, cut and trimmed
    obtain ⟨L, hL⟩ : ∃ L, YS.take m = L := ⟨_, rfl⟩
    have HLm := Lib.hid (show L.length = m by rw [← hL, List.length_take]; omega)
    obtain ⟨K0, hK0⟩ : ∃ K, trimR (trimL L) = K := ⟨_, rfl⟩
    have hkey : keyT dn YS = nkd dn K0 := by unfold keyT; rw [hm, hL, hK0]
    have HKEY := Lib.hid hkey
    have HKN := Lib.hid (show K0 ≠ [] by intro k; rw [k] at hkey; exact hkn (hkey.trans (List.eq_nil_of_length_eq_zero (by rw [nkd_length]; rfl))))
    have HBL := Lib.hid (show BrO wr 5 g O L by rw [← hL]; exact HB.out.take m)
    have HYS' := Lib.hid (show BrO wr 5 g (O + (m + 1)) (YS.drop (m + 1)) from HB.out.drop (m + 1))
    have HRL := Lib.hid (show ∀ x ∈ L, 0 ≤ x ∧ x ≤ 255 from fun x k => HYR.out x (by rw [← hL] at k; exact List.mem_of_mem_take k))
    have HRD := Lib.hid (show ∀ x ∈ YS.drop (m + 1), 0 ≤ x ∧ x ≤ 255 from fun x k => HYR.out x (List.mem_of_mem_drop k))
    have HDL := Lib.hid (show (YS.drop (m + 1)).length = CM - (m + 1) by rw [List.length_drop, hlen])
    rw [hm, hkey] at hgo
    obtain ⟨YD, hYD⟩ : ∃ Y, YS.drop (m + 1) = Y := ⟨_, rfl⟩
    rw [hYD] at HYS' HRD HDL hgo
    have HGO2 := Lib.hid hgo
    have HFL2 := Lib.hid (show YD.length ≤ f by have := HFL.out; have := HDL.out; have := HCMX.out; omega)
    have HK0 := Lib.hid hK0
    have HN2 := Lib.hid (show n1 + CM ≤ XN by have := HN1.out; omega)
    have hcuth := cut8h (some ⟨g, O, none⟩) CM C1 m hmle HMC.out
    have hmb : m ≤ 1099511627775 := by omega
    have hcb : CM ≤ 1099511627775 := by omega
    have hm0 : 0 < m := by
     rcases Nat.eq_zero_or_pos m with k | k
     ·exfalso
      have := HLm.out
      rw [k] at this
      rw [List.eq_nil_of_length_eq_zero this] at hK0
      exact HKN.out hK0.symm
     ·exact k
    clear hgo hkn hlen hpos hdN hCM hC1 hO hm hix hir hJ hL hK0 hkey hne hYD hnb hxb
    rcases hJm with ⟨rfl, hmc⟩ | ⟨hj0, rfl⟩
    ·subst hmc
     have j0 : decide ((-1 : Int) < 0) = true := rfl
     go_upto_region 9 with (
      go_at_call 64
      refine HIX.out.mono ?_
      rintro e w2 ⟨rfl, hw2⟩
      obtain rfl : wr = w2 := hw2.symm)
     go_loopw [6] (fun kv wi => ∃ (o1 M1 C2 : Nat) (L1 : List Int), kv = .slice (some ⟨g, o1, none⟩) M1 C2 ∧ wi = wr ∧ 0 < M1 ∧ M1 ≤ m ∧ Hid (M1 = L1.length) ∧ Hid (M1 ≤ C2) ∧ Hid (BrO wr 5 g o1 L1) ∧ Hid (trimR (trimL L1) = K0) ∧ Hid (∀ x ∈ L1, 0 ≤ x ∧ x ≤ 255) ∧ Hid (o1 + M1 = O + m)) (fun kv _ => lenV kv)
     case atStart => exact ⟨O, m, C1, L, rfl, rfl, hm0, Nat.le_refl _, Lib.hid HLm.out.symm, Lib.hid (by have := HMC.out; omega), HBL, HK0, HRL, Lib.hid rfl⟩
     case round =>
      obtain ⟨o1, M1, C2, L1, rfl, hwi, hM1, hle1, HM1, HC2, HB1, HT1, HR1, HE1⟩ := hrel
      subst hwi
      cases hl1 : L1 with
      | nil => exfalso; have := HM1.out; rw [hl1] at this; simp at this; omega
      | cons b1 L2 =>
       rw [hl1] at HM1 HB1 HT1 HR1
       clear hl1
       have y0 : wr.cell? ⟨g, o1, none⟩ = some (.int .u8 b1) := HB1.out.cell 0 (by simp)
       have p1 : (0 : Int) < (M1 : Int) := by omega
       by_cases hb1 : b1 = 32
       ·have hK2 : trimR (trimL L2) = K0 := by have := HT1.out; rw [hb1, trimL_sp] at this; exact this
        have hnz : 1 < M1 := by
         have h1 := HM1.out
         rw [List.length_cons] at h1
         rcases Nat.eq_zero_or_pos L2.length with h0 | h0
         ·exfalso
          rw [List.eq_nil_of_length_eq_zero h0] at hK2
          exact HKN.out hK2.symm
         ·omega
        have hcut1 : ∀ W, (Instr.slice 54 (.slice (some ⟨g, o1, none⟩) M1 C2) (some (.int .i64 1)) none none).run Try.prog W = .ok (.slice (some ⟨g, o1 + 1, none⟩) (M1 - 1) (C2 - 1)) W := cut8a g o1 M1 C2 1 hnz HC2.out
        have HBn := Lib.hid (show BrO wr 5 g (o1 + 1) L2 from HB1.out.drop 1)
        have HRn := Lib.hid (show ∀ x ∈ L2, 0 ≤ x ∧ x ≤ 255 from fun x k => HR1.out x (List.mem_cons_of_mem _ k))
        have HKn := Lib.hid hK2
        clear hK2
        subst hb1
        go_wp2
        go_roundw
        case rel => exact ⟨o1 + 1, M1 - 1, C2 - 1, L2, rfl, by first | rfl | trivial, by omega, by omega, Lib.hid (by have := HM1.out; rw [List.length_cons] at this; omega), Lib.hid (by have := HC2.out; omega), HBn, HKn, HRn, Lib.hid (by have := HE1.out; omega)⟩
        case measure => simp [lenV]; omega
       ·have hbe : (b1 == 32) = false := beq_eq_false_iff_ne.2 hb1
        have HT2 := Lib.hid (show trimR (b1 :: L2) = K0 by have := HT1.out; rw [trimL_hd _ _ hb1] at this; exact this)
        obtain ⟨LL, hLL⟩ : ∃ X, b1 :: L2 = X := ⟨_, rfl⟩
        rw [hLL] at HM1 HB1 HT1 HT2 HR1
        clear hLL
        go_upto_region 11 with fail
        go_loopw [6] (fun kv wj => ∃ (M2 : Nat) (L2 : List Int), kv = .slice (some ⟨g, o1, none⟩) M2 C2 ∧ wj = wr ∧ 0 < M2 ∧ M2 ≤ M1 ∧ Hid (M2 = L2.length) ∧ Hid (BrO wr 5 g o1 L2) ∧ Hid (trimR L2 = K0) ∧ Hid (∀ x ∈ L2, 0 ≤ x ∧ x ≤ 255)) (fun kv _ => lenV kv)
        case atStart => exact ⟨M1, LL, rfl, rfl, hM1, Nat.le_refl _, HM1, HB1, HT2, HR1⟩
        case round =>
         clear y0 p1 hbe
         obtain ⟨M2, L2, rfl, hwj, hM2, hle2, HM2, HB2, HK2, HR2⟩ := hrel
         subst hwj
         obtain ⟨k, hk⟩ : ∃ k, M2 = k + 1 := ⟨M2 - 1, by omega⟩
         have hL2n : L2 ≠ [] := by intro k; have := HM2.out; rw [k] at this; simp at this; omega
         obtain ⟨L3, b, hL3⟩ : ∃ L3 b, L2 = L3 ++ [b] := ⟨L2.dropLast, L2.getLast hL2n, (List.dropLast_concat_getLast hL2n).symm⟩
         have hk3 : L3.length = k := by have := HM2.out; rw [hL3, List.length_append] at this; simp at this; omega
         have y0 : wr.cell? ⟨g, o1 + k, none⟩ = some (.int .u8 b) := by
          have hkl : k < L2.length := by have := HM2.out; omega
          have hd : L2.getD k 0 = b := by rw [hL3, List.getD_eq_getElem?_getD, List.getElem?_append_right (by omega), hk3, Nat.sub_self]; rfl
          rw [HB2.out.cell k hkl, hd]
         have p1 : (0 : Int) < (M2 : Int) := by omega
         have p2 : (M2 : Int) - 1 = (k : Int) := by omega
         have p3 : k < M2 := by omega
         have HKK := Lib.hid hk
         have HK3 := Lib.hid hk3
         have HL3 := Lib.hid hL3
         clear hk3 hL3 hL2n hk
         by_cases hb : b = 32
         ·have hcutk := cut8h (some ⟨g, o1, none⟩) M2 C2 k (by omega) (by have := HC2.out; omega)
          have hnz : 0 < k := by
           rcases Nat.eq_zero_or_pos k with h0 | h0
           ·exfalso
            have := HK2.out
            rw [HL3.out, show L3 = [] from List.eq_nil_of_length_eq_zero (by rw [HK3.out]; exact h0), hb, trimR_sp] at this
            exact HKN.out this.symm
           ·exact h0
          have HB3 := Lib.hid (show BrO wr 5 g o1 L3 by have := HB2.out.take L3.length; rw [HL3.out, List.take_left'] at this; exact this; rfl)
          have HK4 := Lib.hid (show trimR L3 = K0 by have := HK2.out; rw [HL3.out, hb, trimR_sp] at this; exact this)
          have HR3 := Lib.hid (show ∀ x ∈ L3, 0 ≤ x ∧ x ≤ 255 from fun x hx => HR2.out x (by rw [HL3.out]; exact List.mem_append_left _ hx))
          subst hb
          go_wp2
          go_roundw
          case rel => exact ⟨k, L3, rfl, by first | rfl | trivial, hnz, by omega, Lib.hid HK3.out.symm, HB3, HK4, HR3⟩
          case measure => simp [lenV]; omega
         ·have hbe : (b == 32) = false := beq_eq_false_iff_ne.2 hb
          have HKL := Lib.hid (show K0 = L2 by have := HK2.out; rw [HL3.out, trimR_hd _ _ hb, ← HL3.out] at this; exact this.symm)
          obtain ⟨l1, V1, S1, hT, hacc, hst, hgl⟩ := HM.out
          obtain ⟨x4, _⟩ := hT.c4
          have HT := Lib.hid hT
          have HACC := Lib.hid hacc
          have HST := Lib.hid hst
          have HGL := Lib.hid hgl
          clear hT hacc hst hgl
          go_upto_region 14 with (
           go_at_call 60
           refine (nhkd_calls wr g o1 M2 C2 L2 dn HM2.out.symm HR2.out (by omega) HB2.out).mono ?_
           rintro e w3 ⟨rfl, hb3, ho3⟩
           have st3 := ho3.stp l1
           rw [HGL.out] at st3
           have hT3 := HT.out.keep st3 (fun lab e => by rw [e]; exact HZ.out)
           have hys3 := HYS'.out.apart ho3 (by have := HE1.out; omega)
           have HT3 := Lib.hid hT3
           have HB3 := Lib.hid hb3
           have HY3 := Lib.hid hys3
           have HO3 := Lib.hid st3
           clear hT3 hb3 hys3 ho3 x4 st3)
          have hnl : (nkd dn L2).length = M2 := by rw [nkd_length]; exact HM2.out.symm
          have hrd := HB3.out.reads (by rw [hnl]; omega)
          have hsrc : Src (Zn (q + 3)) l1 w3 (some ⟨g, o1, none⟩) (nkd dn L2).length (nkd dn L2) := Src.of_read hrd (fun a ha => by
           injection ha with ha; subst ha
           refine ⟨HB3.out.lt, ?_⟩
           show ¬ Zn (q + 3) (l1 g)
           rw [HGL.out]
           exact fun k => HZ.out (.inr (.inr (.inr k))))
          have hadd := addN_says (V := V1) hnl (tAddN_calls l1 w3 q p n1 V1 kv vv S1 kx vx dn HT3.out (by have := HN2.out; have := HXL.out; omega) (some ⟨g, o1, none⟩) C2 (nkd dn L2) (by rw [hnl]; exact hM2) (by rw [hnl]; omega) (by rw [hnl]; have := HC2.out; omega) hsrc)
          have hgl3 : g < w3.heap.size := HB3.out.lt
          have HADD := Lib.hid hadd
          have HGL3 := Lib.hid hgl3
          clear hnl hrd hsrc hadd hgl3
          go_wp2_with (
           go_at_call 59
           refine HADD.out.mono ?_
           rintro e w4 ⟨l2, V2, n2, S2, ev2, rfl, k1, k2, k3, k4, k5⟩
           have G2 := Lib.hid ((k3.lab g HGL3.out).trans HGL.out)
           have Y4 := Lib.hid (HY3.out.same (k3.block g HGL3.out (by rw [HGL.out]; exact HZ.out)))
           have K1 := Lib.hid k1
           have K2 := Lib.hid k2
           have K3 := Lib.hid k3
           have K4 := Lib.hid k4
           have K5 := Lib.hid k5
           clear k1 k2 k3 k4 k5)
          go_roundw
          case rel =>
           have hgo := HGO2.out
           rw [HKL.out] at hgo
           refine ⟨O, m, C1, m + 1, n2, f, (m : Int), YD, _, _, rfl, rfl, Lib.hid (by omega), HMC, HDL, Y4, Lib.hid hgo, HFL2, K4, Lib.hid ⟨l2, V2, S2, K1.out, ?_, (HST.out.trans (HO3.out.mono (fun _ e => .inr e))).trans (K3.out.mono (fun _ e => .inl e)), G2.out⟩, Lib.hid (by have := K2.out; have := HN2.out; have := HDL.out; omega), HRD, Lib.hid ⟨HCMX.out.1, by omega⟩⟩
           rw [K5.out, HACC.out]
          case measure =>
           have := HI.out
           have := HCMX.out
           simp [lenV, intOf]
           omega
    ·have j0 : decide ((m : Int) < 0) = false := decide_eq_false (by omega)
     clear hj0
     go_upto_region 9 with (
      go_at_call 64
      refine HIX.out.mono ?_
      rintro e w2 ⟨rfl, hw2⟩
      obtain rfl : wr = w2 := hw2.symm)
     go_loopw [6] (fun kv wi => ∃ (o1 M1 C2 : Nat) (L1 : List Int), kv = .slice (some ⟨g, o1, none⟩) M1 C2 ∧ wi = wr ∧ 0 < M1 ∧ M1 ≤ m ∧ Hid (M1 = L1.length) ∧ Hid (M1 ≤ C2) ∧ Hid (BrO wr 5 g o1 L1) ∧ Hid (trimR (trimL L1) = K0) ∧ Hid (∀ x ∈ L1, 0 ≤ x ∧ x ≤ 255) ∧ Hid (o1 + M1 = O + m)) (fun kv _ => lenV kv)
     case atStart => exact ⟨O, m, C1, L, rfl, rfl, hm0, Nat.le_refl _, Lib.hid HLm.out.symm, Lib.hid (by have := HMC.out; omega), HBL, HK0, HRL, Lib.hid rfl⟩
     case round =>
      obtain ⟨o1, M1, C2, L1, rfl, hwi, hM1, hle1, HM1, HC2, HB1, HT1, HR1, HE1⟩ := hrel
      subst hwi
      cases hl1 : L1 with
      | nil => exfalso; have := HM1.out; rw [hl1] at this; simp at this; omega
      | cons b1 L2 =>
       rw [hl1] at HM1 HB1 HT1 HR1
       clear hl1
       have y0 : wr.cell? ⟨g, o1, none⟩ = some (.int .u8 b1) := HB1.out.cell 0 (by simp)
       have p1 : (0 : Int) < (M1 : Int) := by omega
       by_cases hb1 : b1 = 32
       ·have hK2 : trimR (trimL L2) = K0 := by have := HT1.out; rw [hb1, trimL_sp] at this; exact this
        have hnz : 1 < M1 := by
         have h1 := HM1.out
         rw [List.length_cons] at h1
         rcases Nat.eq_zero_or_pos L2.length with h0 | h0
         ·exfalso
          rw [List.eq_nil_of_length_eq_zero h0] at hK2
          exact HKN.out hK2.symm
         ·omega
        have hcut1 : ∀ W, (Instr.slice 54 (.slice (some ⟨g, o1, none⟩) M1 C2) (some (.int .i64 1)) none none).run Try.prog W = .ok (.slice (some ⟨g, o1 + 1, none⟩) (M1 - 1) (C2 - 1)) W := cut8a g o1 M1 C2 1 hnz HC2.out
        have HBn := Lib.hid (show BrO wr 5 g (o1 + 1) L2 from HB1.out.drop 1)
        have HRn := Lib.hid (show ∀ x ∈ L2, 0 ≤ x ∧ x ≤ 255 from fun x k => HR1.out x (List.mem_cons_of_mem _ k))
        have HKn := Lib.hid hK2
        clear hK2
        subst hb1
        go_wp2
        go_roundw
        case rel => exact ⟨o1 + 1, M1 - 1, C2 - 1, L2, rfl, by first | rfl | trivial, by omega, by omega, Lib.hid (by have := HM1.out; rw [List.length_cons] at this; omega), Lib.hid (by have := HC2.out; omega), HBn, HKn, HRn, Lib.hid (by have := HE1.out; omega)⟩
        case measure => simp [lenV]; omega
       ·have hbe : (b1 == 32) = false := beq_eq_false_iff_ne.2 hb1
        have HT2 := Lib.hid (show trimR (b1 :: L2) = K0 by have := HT1.out; rw [trimL_hd _ _ hb1] at this; exact this)
        obtain ⟨LL, hLL⟩ : ∃ X, b1 :: L2 = X := ⟨_, rfl⟩
        rw [hLL] at HM1 HB1 HT1 HT2 HR1
        clear hLL
        go_upto_region 11 with fail
        go_loopw [6] (fun kv wj => ∃ (M2 : Nat) (L2 : List Int), kv = .slice (some ⟨g, o1, none⟩) M2 C2 ∧ wj = wr ∧ 0 < M2 ∧ M2 ≤ M1 ∧ Hid (M2 = L2.length) ∧ Hid (BrO wr 5 g o1 L2) ∧ Hid (trimR L2 = K0) ∧ Hid (∀ x ∈ L2, 0 ≤ x ∧ x ≤ 255)) (fun kv _ => lenV kv)
        case atStart => exact ⟨M1, LL, rfl, rfl, hM1, Nat.le_refl _, HM1, HB1, HT2, HR1⟩
        case round =>
         clear y0 p1 hbe
         obtain ⟨M2, L2, rfl, hwj, hM2, hle2, HM2, HB2, HK2, HR2⟩ := hrel
         subst hwj
         obtain ⟨k, hk⟩ : ∃ k, M2 = k + 1 := ⟨M2 - 1, by omega⟩
         have hL2n : L2 ≠ [] := by intro k; have := HM2.out; rw [k] at this; simp at this; omega
         obtain ⟨L3, b, hL3⟩ : ∃ L3 b, L2 = L3 ++ [b] := ⟨L2.dropLast, L2.getLast hL2n, (List.dropLast_concat_getLast hL2n).symm⟩
         have hk3 : L3.length = k := by have := HM2.out; rw [hL3, List.length_append] at this; simp at this; omega
         have y0 : wr.cell? ⟨g, o1 + k, none⟩ = some (.int .u8 b) := by
          have hkl : k < L2.length := by have := HM2.out; omega
          have hd : L2.getD k 0 = b := by rw [hL3, List.getD_eq_getElem?_getD, List.getElem?_append_right (by omega), hk3, Nat.sub_self]; rfl
          rw [HB2.out.cell k hkl, hd]
         have p1 : (0 : Int) < (M2 : Int) := by omega
         have p2 : (M2 : Int) - 1 = (k : Int) := by omega
         have p3 : k < M2 := by omega
         have HKK := Lib.hid hk
         have HK3 := Lib.hid hk3
         have HL3 := Lib.hid hL3
         clear hk3 hL3 hL2n hk
         by_cases hb : b = 32
         ·have hcutk := cut8h (some ⟨g, o1, none⟩) M2 C2 k (by omega) (by have := HC2.out; omega)
          have hnz : 0 < k := by
           rcases Nat.eq_zero_or_pos k with h0 | h0
           ·exfalso
            have := HK2.out
            rw [HL3.out, show L3 = [] from List.eq_nil_of_length_eq_zero (by rw [HK3.out]; exact h0), hb, trimR_sp] at this
            exact HKN.out this.symm
           ·exact h0
          have HB3 := Lib.hid (show BrO wr 5 g o1 L3 by have := HB2.out.take L3.length; rw [HL3.out, List.take_left'] at this; exact this; rfl)
          have HK4 := Lib.hid (show trimR L3 = K0 by have := HK2.out; rw [HL3.out, hb, trimR_sp] at this; exact this)
          have HR3 := Lib.hid (show ∀ x ∈ L3, 0 ≤ x ∧ x ≤ 255 from fun x hx => HR2.out x (by rw [HL3.out]; exact List.mem_append_left _ hx))
          subst hb
          go_wp2
          go_roundw
          case rel => exact ⟨k, L3, rfl, by first | rfl | trivial, hnz, by omega, Lib.hid HK3.out.symm, HB3, HK4, HR3⟩
          case measure => simp [lenV]; omega
         ·have hbe : (b == 32) = false := beq_eq_false_iff_ne.2 hb
          have HKL := Lib.hid (show K0 = L2 by have := HK2.out; rw [HL3.out, trimR_hd _ _ hb, ← HL3.out] at this; exact this.symm)
          obtain ⟨l1, V1, S1, hT, hacc, hst, hgl⟩ := HM.out
          obtain ⟨x4, _⟩ := hT.c4
          have HT := Lib.hid hT
          have HACC := Lib.hid hacc
          have HST := Lib.hid hst
          have HGL := Lib.hid hgl
          clear hT hacc hst hgl
          go_upto_region 14 with (
           go_at_call 60
           refine (nhkd_calls wr g o1 M2 C2 L2 dn HM2.out.symm HR2.out (by omega) HB2.out).mono ?_
           rintro e w3 ⟨rfl, hb3, ho3⟩
           have st3 := ho3.stp l1
           rw [HGL.out] at st3
           have hT3 := HT.out.keep st3 (fun lab e => by rw [e]; exact HZ.out)
           have hys3 := HYS'.out.apart ho3 (by have := HE1.out; omega)
           have HT3 := Lib.hid hT3
           have HB3 := Lib.hid hb3
           have HY3 := Lib.hid hys3
           have HO3 := Lib.hid st3
           clear hT3 hb3 hys3 ho3 x4 st3)
          have hnl : (nkd dn L2).length = M2 := by rw [nkd_length]; exact HM2.out.symm
          have hrd := HB3.out.reads (by rw [hnl]; omega)
          have hsrc : Src (Zn (q + 3)) l1 w3 (some ⟨g, o1, none⟩) (nkd dn L2).length (nkd dn L2) := Src.of_read hrd (fun a ha => by
           injection ha with ha; subst ha
           refine ⟨HB3.out.lt, ?_⟩
           show ¬ Zn (q + 3) (l1 g)
           rw [HGL.out]
           exact fun k => HZ.out (.inr (.inr (.inr k))))
          have hadd := addN_says (V := V1) hnl (tAddN_calls l1 w3 q p n1 V1 kv vv S1 kx vx dn HT3.out (by have := HN2.out; have := HXL.out; omega) (some ⟨g, o1, none⟩) C2 (nkd dn L2) (by rw [hnl]; exact hM2) (by rw [hnl]; omega) (by rw [hnl]; have := HC2.out; omega) hsrc)
          have hgl3 : g < w3.heap.size := HB3.out.lt
          have HADD := Lib.hid hadd
          have HGL3 := Lib.hid hgl3
          clear hnl hrd hsrc hadd hgl3
          go_wp2_with (
           go_at_call 59
           refine HADD.out.mono ?_
           rintro e w4 ⟨l2, V2, n2, S2, ev2, rfl, k1, k2, k3, k4, k5⟩
           have G2 := Lib.hid ((k3.lab g HGL3.out).trans HGL.out)
           have Y4 := Lib.hid (HY3.out.same (k3.block g HGL3.out (by rw [HGL.out]; exact HZ.out)))
           have K1 := Lib.hid k1
           have K2 := Lib.hid k2
           have K3 := Lib.hid k3
           have K4 := Lib.hid k4
           have K5 := Lib.hid k5
           clear k1 k2 k3 k4 k5)
          go_roundw
          case rel =>
           have hgo := HGO2.out
           rw [HKL.out] at hgo
           refine ⟨O, CM, C1, m + 1, n2, f, (m : Int), YD, _, _, rfl, rfl, Lib.hid (by omega), HMC, HDL, Y4, Lib.hid hgo, HFL2, K4, Lib.hid ⟨l2, V2, S2, K1.out, ?_, (HST.out.trans (HO3.out.mono (fun _ e => .inr e))).trans (K3.out.mono (fun _ e => .inl e)), G2.out⟩, Lib.hid (by have := K2.out; have := HN2.out; have := HDL.out; omega), HRD, Lib.hid ⟨HCMX.out.1, by omega⟩⟩
           rw [K5.out, HACC.out]
          case measure =>
           have := HI.out
           have := HCMX.out
           simp [lenV, intOf]
           omega
end Go.Proofs.Ytoimkmoalmmooaa.Own
set_option linter.unusedVariables false
set_option linter.unusedSimpArgs false
namespace Go.Proofs.Ytoimkmoalmmooaa.Own
open Go.RowKit Go.Proofs.YtoimkmoalmmooaaW.PrintWords Go.Proofs.YtoimkmoalmmooaaW.PrintLast Go.Proofs.YtoimkmoalmmooaaW.PrintMore Go.Proofs.Ytoimkmoalmmooaa.Base Go.Proofs.Ytoimkmoalmmooaa.Gv Go.Proofs.Ytoimkmoalmmooaa.Given Go.Proofs.Ytoimkmoalmmooaa.QA Go.Proofs.Ytoimkmoalmmooaa.PrX
theorem fail5 {w : World} {b1 b2 : Nat} {c0 c1 c2 c3 c4 a0 a1 a2 a3 a4 x y : Value} (r1 : w.heap[b1]? = some (.cells #[c0, c1, c2, c3, c4] 32 (0, 0))) (r2 : w.heap[b2]? = some (.cells #[x] 4 (0, 0))) (hne : b1 ≠ b2) :
    ((((((w.setCell ⟨b1, 0, none⟩ a0).setCell ⟨b1, 1, none⟩ a1).setCell ⟨b1, 2, none⟩ a2).setCell ⟨b1, 3, none⟩ a3).setCell ⟨b1, 4, none⟩ a4).setCell ⟨b2, 0, none⟩ y).heap[b1]? = some (.cells #[a0, a1, a2, a3, a4] 32 (0, 0)) ∧
    ((((((w.setCell ⟨b1, 0, none⟩ a0).setCell ⟨b1, 1, none⟩ a1).setCell ⟨b1, 2, none⟩ a2).setCell ⟨b1, 3, none⟩ a3).setCell ⟨b1, 4, none⟩ a4).setCell ⟨b2, 0, none⟩ y).heap[b2]? = some (.cells #[y] 4 (0, 0)) := by
  have s0 := heap_setCell_same w b1 0 _ 32 a0 r1
  have s1 := heap_setCell_same _ b1 1 _ 32 a1 s0
  have s2 := heap_setCell_same _ b1 2 _ 32 a2 s1
  have s3 := heap_setCell_same _ b1 3 _ 32 a3 s2
  have s4 := heap_setCell_same _ b1 4 _ 32 a4 s3
  have hn : ∀ (W : World) (o : Nat) (v : Value), (W.setCell ⟨b1, o, none⟩ v).heap[b2]? = W.heap[b2]? := fun W o v => Below.heap_setCell _ _ _ _ (fun e => hne e.symm)
  refine ⟨?_, ?_⟩
  · rw [Below.heap_setCell _ _ _ _ (show b1 ≠ b2 from hne), s4]
    rfl
  · have t0 : (((((w.setCell ⟨b1, 0, none⟩ a0).setCell ⟨b1, 1, none⟩ a1).setCell ⟨b1, 2, none⟩ a2).setCell ⟨b1, 3, none⟩ a3).setCell ⟨b1, 4, none⟩ a4).heap[b2]? = some (.cells #[x] 4 (0, 0)) := by rw [hn, hn, hn, hn, hn]; exact r2
    exact heap_setCell_same _ b2 0 _ 4 y t0
set_option maxHeartbeats 1000000 in
theorem trailer_caught (b1 b2 : Nat) (u : TypeId) (pv : Value) (older : List PanicEntry) (w : World) {c0 c1 c2 c3 c4 x : Value} (r1 : w.heap[b1]? = some (.cells #[c0, c1, c2, c3, c4] 32 (0, 0))) (r2 : w.heap[b2]? = some (.cells #[x] 4 (0, 0))) (hne : b1 ≠ b2) :
    CallsD Try.prog 40 #[.pointer (some ⟨b1, 0, none⟩), .pointer (some ⟨b2, 0, none⟩)] (.panicking ({ v := .iface u pv, recovered := false } :: older)) w fun e u' w' =>
      e = .returned (.tuple #[]) ∧ u' = .panicking ({ v := .iface u pv, recovered := true } :: older) ∧
      w' = (((((w.setCell ⟨b1, 0, none⟩ (.string ⟨#[]⟩)).setCell ⟨b1, 1, none⟩ (.bool false)).setCell ⟨b1, 2, none⟩ (.int .i64 0)).setCell ⟨b1, 3, none⟩ (.slice none 0 0)).setCell ⟨b1, 4, none⟩ (.slice none 0 0)).setCell ⟨b2, 0, none⟩ (.bool false) := by
  have e0 := frozen_of_row w b1 0 _ _ r1
  have e1 := frozen_of_row w b1 1 _ _ r1
  have e2 := frozen_of_row w b1 2 _ _ r1
  have e3 := frozen_of_row w b1 3 _ _ r1
  have e4 := frozen_of_row w b1 4 _ _ r1
  have e5 := frozen_of_row w b2 0 _ _ r2
  have a0 : w.cell? ⟨b1, 0, none⟩ = some c0 := by rw [cell_of_row w _ 0 _ _ (0, 0) r1]; rfl
  have a1 : w.cell? ⟨b1, 1, none⟩ = some c1 := by rw [cell_of_row w _ 1 _ _ (0, 0) r1]; rfl
  have a2 : w.cell? ⟨b1, 2, none⟩ = some c2 := by rw [cell_of_row w _ 2 _ _ (0, 0) r1]; rfl
  have a3 : w.cell? ⟨b1, 3, none⟩ = some c3 := by rw [cell_of_row w _ 3 _ _ (0, 0) r1]; rfl
  have a4 : w.cell? ⟨b1, 4, none⟩ = some c4 := by rw [cell_of_row w _ 4 _ _ (0, 0) r1]; rfl
  have b0 : w.cell? ⟨b2, 0, none⟩ = some x := by rw [cell_of_row w _ 0 _ _ (0, 0) r2]; rfl
  refine callsD_of_wpS Try.func40 rfl fun c₀ cs hu => ?_
  apply wpS_seq
  apply wpS_region
  simp [wpOpsS, go_sem, recoverD, hu, Try.ntmps40, Exit.thenS]
  refine wpS_cond (t := true) (by simp [Act.eval, Array.replicate]) ?_
  simp only [if_true]
  apply wpS_region
  simp [wpOpsS, go_sem, a0, a1, a2, a3, a4, b0, e0, e1, e2, e3, e4, e5, bodyPostS, results, Try.results40]
end Go.Proofs.Ytoimkmoalmmooaa.Own
set_option linter.unusedVariables false
set_option linter.unusedSimpArgs false
namespace Go.Proofs.Ytoimkmoalmmooaa.Own
open Go.RowKit Go.Proofs.YtoimkmoalmmooaaW.PrintWords Go.Proofs.YtoimkmoalmmooaaW.PrintLast Go.Proofs.YtoimkmoalmmooaaW.PrintMore Go.Proofs.Ytoimkmoalmmooaa.Base Go.Proofs.Ytoimkmoalmmooaa.Gv Go.Proofs.Ytoimkmoalmmooaa.Given Go.Proofs.Ytoimkmoalmmooaa.QA Go.Proofs.Ytoimkmoalmmooaa.PrX
def StepP (l : Nat → Nat) (w : World) (q : Nat) (e : Ending) (w' : World) : Prop := e = .returned (.tuple #[.agg #[.string ⟨#[]⟩, .bool false, .int .i64 0, .slice none 0 0, .slice none 0 0], .bool false]) ∧ ∃ l1, Stp (Tz q) l l1 w w'
set_option maxHeartbeats 4000000 in
set_option maxRecDepth 100000 in
theorem trailer_set_panics (l : Nat → Nat) (w : World) (q p n : Nat) (V kv vv : Value) (S : List Slot) (kx vx : List Int) (dn : Bool) (h : TrC l w q p V n S kv kx vv vx dn) (hn : n ≤ 1099511627775) (s : S28) (hk0 : s.f1.size = 0) (hvs : s.f2.size ≤ 140737488351232) (hdo : s.f0 = 0) :
    Calls Try.prog 26 #[.pointer (some ⟨p, 0, none⟩), .agg #[.int .i64 s.f0, .string s.f1, .string s.f2, .int .i64 s.f3, .int .i64 s.f4]] w fun e w' => StepP l w q e w' := by
  have st0 := Stp.of_below (W3_below w s) (fun _ => False) l 0
  have hT := h.keep st0 (fun _ k => k.elim)
  have y0 := W3_0 w s
  have y1 := W3_1 w s
  have y2 := W3_2 w s
  have hsz := W3_size w s
  obtain ⟨W, hW⟩ : ∃ W, W3 w s = W := ⟨_, rfl⟩
  have hW' := hW
  rw [hW] at hT st0 y0 y1 y2 hsz
  unfold W3 at hW'
  have hg := tSet_panics _ W q p n V kv vv S kx vx dn hT hn s.f1 s.f2 hk0 hvs
  have HG := Lib.hid hg
  clear hg
  have HT := Lib.hid hT
  have HS0 := Lib.hid st0
  have Y1 := Lib.hid y1
  have Y2 := Lib.hid y2
  have c0 : W.cell? ⟨w.heap.size, 0, none⟩ = some (.int .i64 s.f0) := by rw [cell_of_row W _ 0 _ _ (0, 0) y0]; rfl
  have c1 : W.cell? ⟨w.heap.size, 1, none⟩ = some (.string s.f1) := by rw [cell_of_row W _ 1 _ _ (0, 0) y0]; rfl
  have c2 : W.cell? ⟨w.heap.size, 2, none⟩ = some (.string s.f2) := by rw [cell_of_row W _ 2 _ _ (0, 0) y0]; rfl
  rw [hdo] at c0
  have HW := Lib.hid hW'
  have HSZ := Lib.hid hsz
  rw [← hW'] at c0 c1 c2
  have hmf : ∀ (fn : Fn) (first cap : Array Value) (w : World), (Instr.makeFunc fn first cap).run Try.prog w = .ok (.func fn first cap) w := fun _ _ _ _ => rfl
  have HDO := Lib.hid hdo
  clear h hT y0 y1 y2 st0 hW hW' hsz hdo
  go_enter_defers Try.func26, Try.ntmps26
  go_wp2_with (first
    | (go_at_call 41
       rw [HW.out]
       refine HG.out.mono ?_
       rintro e w4 ⟨⟨u, v, rfl⟩, l4, st4⟩
       have lt1 : w.heap.size + 1 < W.heap.size := by rw [HSZ.out]; omega
       have lt2 : w.heap.size + 2 < W.heap.size := by rw [HSZ.out]; omega
       have lb0 : ¬ Tz q 0 := by have := HT.out.1; have := HT.out.2.1; unfold Tz; omega
       have r1 := (st4.block (w.heap.size + 1) lt1 (by rw [ext_new l (by omega)]; exact lb0)).trans Y1.out
       have r2 := (st4.block (w.heap.size + 2) lt2 (by rw [ext_new l (by omega)]; exact lb0)).trans Y2.out
       have R1 := Lib.hid r1
       have R2 := Lib.hid r2
       have ST4 := Lib.hid st4
       clear lt1 lt2 lb0 r1 r2 st4))
  refine leaves_cons (f := 40) (args := #[.pointer (some ⟨w.heap.size + 1, 0, none⟩), .pointer (some ⟨w.heap.size + 1 + 1, 0, none⟩)]) (by simp) (by simp [go_sem]) ?_
  refine (trailer_caught (w.heap.size + 1) (w.heap.size + 1 + 1) u v [] w4 R1.out R2.out (by omega)).mono ?_
  rintro e u' w'' ⟨rfl, rfl, rfl⟩
  obtain ⟨f1, f2⟩ := fail5 (a0 := .string ⟨#[]⟩) (a1 := .bool false) (a2 := .int .i64 0) (a3 := .slice none 0 0) (a4 := .slice none 0 0) (y := .bool false) R1.out R2.out (by omega)
  have HS5 := Lib.hid ((((((((HS0.out.mono (fun _ k => k.elim) : Stp (Tz q) _ _ _ _).trans ST4.out).setNew (a := ⟨w.heap.size + 1, 0, none⟩) (by show _ ≤ w.heap.size + 1; omega) (.string ⟨#[]⟩)).setNew (a := ⟨w.heap.size + 1, 1, none⟩) (by show _ ≤ w.heap.size + 1; omega) (.bool false)).setNew (a := ⟨w.heap.size + 1, 2, none⟩) (by show _ ≤ w.heap.size + 1; omega) (.int .i64 0)).setNew (a := ⟨w.heap.size + 1, 3, none⟩) (by show _ ≤ w.heap.size + 1; omega) (.slice none 0 0)).setNew (a := ⟨w.heap.size + 1, 4, none⟩) (by show _ ≤ w.heap.size + 1; omega) (.slice none 0 0)).setNew (a := ⟨w.heap.size + 1 + 1, 0, none⟩) (by show _ ≤ w.heap.size + 1 + 1; omega) (.bool false))
  generalize ((((((w4.setCell ⟨w.heap.size + 1, 0, none⟩ (.string ⟨#[]⟩)).setCell ⟨w.heap.size + 1, 1, none⟩ (.bool false)).setCell ⟨w.heap.size + 1, 2, none⟩ (.int .i64 0)).setCell ⟨w.heap.size + 1, 3, none⟩ (.slice none 0 0)).setCell ⟨w.heap.size + 1, 4, none⟩ (.slice none 0 0)).setCell ⟨w.heap.size + 1 + 1, 0, none⟩ (.bool false)) = w5 at *
  have g0 : w5.cell? ⟨w.heap.size + 1, 0, none⟩ = some (.string ⟨#[]⟩) := by rw [cell_of_row w5 _ 0 _ _ (0, 0) f1]; rfl
  have g1 : w5.cell? ⟨w.heap.size + 1, 1, none⟩ = some (.bool false) := by rw [cell_of_row w5 _ 1 _ _ (0, 0) f1]; rfl
  have g2 : w5.cell? ⟨w.heap.size + 1, 2, none⟩ = some (.int .i64 0) := by rw [cell_of_row w5 _ 2 _ _ (0, 0) f1]; rfl
  have g3 : w5.cell? ⟨w.heap.size + 1, 3, none⟩ = some (.slice none 0 0) := by rw [cell_of_row w5 _ 3 _ _ (0, 0) f1]; rfl
  have g4 : w5.cell? ⟨w.heap.size + 1, 4, none⟩ = some (.slice none 0 0) := by rw [cell_of_row w5 _ 4 _ _ (0, 0) f1]; rfl
  have g5 : w5.cell? ⟨w.heap.size + 1 + 1, 0, none⟩ = some (.bool false) := by rw [cell_of_row w5 _ 0 _ _ (0, 0) f2]; rfl
  simp [Leaves, settle, results, Try.results26, go_sem, g0, g1, g2, g3, g4, g5]
  exact ⟨rfl, _, HS5.out⟩
set_option maxHeartbeats 4000000 in
set_option maxRecDepth 100000 in
theorem trailer_add_panics (l : Nat → Nat) (w : World) (q p n : Nat) (V kv vv : Value) (S : List Slot) (kx vx : List Int) (dn : Bool) (h : TrC l w q p V n S kv kx vv vx dn) (hn : n ≤ 1099511627775) (s : S28) (hk0 : s.f1.size = 0) (hvs : s.f2.size ≤ 140737488351232) (hdo : s.f0 = 1) :
    Calls Try.prog 26 #[.pointer (some ⟨p, 0, none⟩), .agg #[.int .i64 s.f0, .string s.f1, .string s.f2, .int .i64 s.f3, .int .i64 s.f4]] w fun e w' => StepP l w q e w' := by
  have st0 := Stp.of_below (W3_below w s) (fun _ => False) l 0
  have hT := h.keep st0 (fun _ k => k.elim)
  have y0 := W3_0 w s
  have y1 := W3_1 w s
  have y2 := W3_2 w s
  have hsz := W3_size w s
  obtain ⟨W, hW⟩ : ∃ W, W3 w s = W := ⟨_, rfl⟩
  have hW' := hW
  rw [hW] at hT st0 y0 y1 y2 hsz
  unfold W3 at hW'
  have hg := tAdd_panics _ W q p n V kv vv S kx vx dn hT hn s.f1 s.f2 hk0 hvs
  have HG := Lib.hid hg
  clear hg
  have HT := Lib.hid hT
  have HS0 := Lib.hid st0
  have Y1 := Lib.hid y1
  have Y2 := Lib.hid y2
  have c0 : W.cell? ⟨w.heap.size, 0, none⟩ = some (.int .i64 s.f0) := by rw [cell_of_row W _ 0 _ _ (0, 0) y0]; rfl
  have c1 : W.cell? ⟨w.heap.size, 1, none⟩ = some (.string s.f1) := by rw [cell_of_row W _ 1 _ _ (0, 0) y0]; rfl
  have c2 : W.cell? ⟨w.heap.size, 2, none⟩ = some (.string s.f2) := by rw [cell_of_row W _ 2 _ _ (0, 0) y0]; rfl
  rw [hdo] at c0
  have HW := Lib.hid hW'
  have HSZ := Lib.hid hsz
  rw [← hW'] at c0 c1 c2
  have hmf : ∀ (fn : Fn) (first cap : Array Value) (w : World), (Instr.makeFunc fn first cap).run Try.prog w = .ok (.func fn first cap) w := fun _ _ _ _ => rfl
  have HDO := Lib.hid hdo
  clear h hT y0 y1 y2 st0 hW hW' hsz hdo
  go_enter_defers Try.func26, Try.ntmps26
  go_wp2_with (first
    | (go_at_call 42
       rw [HW.out]
       refine HG.out.mono ?_
       rintro e w4 ⟨⟨u, v, rfl⟩, l4, st4⟩
       have lt1 : w.heap.size + 1 < W.heap.size := by rw [HSZ.out]; omega
       have lt2 : w.heap.size + 2 < W.heap.size := by rw [HSZ.out]; omega
       have lb0 : ¬ Tz q 0 := by have := HT.out.1; have := HT.out.2.1; unfold Tz; omega
       have r1 := (st4.block (w.heap.size + 1) lt1 (by rw [ext_new l (by omega)]; exact lb0)).trans Y1.out
       have r2 := (st4.block (w.heap.size + 2) lt2 (by rw [ext_new l (by omega)]; exact lb0)).trans Y2.out
       have R1 := Lib.hid r1
       have R2 := Lib.hid r2
       have ST4 := Lib.hid st4
       clear lt1 lt2 lb0 r1 r2 st4))
  refine leaves_cons (f := 40) (args := #[.pointer (some ⟨w.heap.size + 1, 0, none⟩), .pointer (some ⟨w.heap.size + 1 + 1, 0, none⟩)]) (by simp) (by simp [go_sem]) ?_
  refine (trailer_caught (w.heap.size + 1) (w.heap.size + 1 + 1) u v [] w4 R1.out R2.out (by omega)).mono ?_
  rintro e u' w'' ⟨rfl, rfl, rfl⟩
  obtain ⟨f1, f2⟩ := fail5 (a0 := .string ⟨#[]⟩) (a1 := .bool false) (a2 := .int .i64 0) (a3 := .slice none 0 0) (a4 := .slice none 0 0) (y := .bool false) R1.out R2.out (by omega)
  have HS5 := Lib.hid ((((((((HS0.out.mono (fun _ k => k.elim) : Stp (Tz q) _ _ _ _).trans ST4.out).setNew (a := ⟨w.heap.size + 1, 0, none⟩) (by show _ ≤ w.heap.size + 1; omega) (.string ⟨#[]⟩)).setNew (a := ⟨w.heap.size + 1, 1, none⟩) (by show _ ≤ w.heap.size + 1; omega) (.bool false)).setNew (a := ⟨w.heap.size + 1, 2, none⟩) (by show _ ≤ w.heap.size + 1; omega) (.int .i64 0)).setNew (a := ⟨w.heap.size + 1, 3, none⟩) (by show _ ≤ w.heap.size + 1; omega) (.slice none 0 0)).setNew (a := ⟨w.heap.size + 1, 4, none⟩) (by show _ ≤ w.heap.size + 1; omega) (.slice none 0 0)).setNew (a := ⟨w.heap.size + 1 + 1, 0, none⟩) (by show _ ≤ w.heap.size + 1 + 1; omega) (.bool false))
  generalize ((((((w4.setCell ⟨w.heap.size + 1, 0, none⟩ (.string ⟨#[]⟩)).setCell ⟨w.heap.size + 1, 1, none⟩ (.bool false)).setCell ⟨w.heap.size + 1, 2, none⟩ (.int .i64 0)).setCell ⟨w.heap.size + 1, 3, none⟩ (.slice none 0 0)).setCell ⟨w.heap.size + 1, 4, none⟩ (.slice none 0 0)).setCell ⟨w.heap.size + 1 + 1, 0, none⟩ (.bool false)) = w5 at *
  have g0 : w5.cell? ⟨w.heap.size + 1, 0, none⟩ = some (.string ⟨#[]⟩) := by rw [cell_of_row w5 _ 0 _ _ (0, 0) f1]; rfl
  have g1 : w5.cell? ⟨w.heap.size + 1, 1, none⟩ = some (.bool false) := by rw [cell_of_row w5 _ 1 _ _ (0, 0) f1]; rfl
  have g2 : w5.cell? ⟨w.heap.size + 1, 2, none⟩ = some (.int .i64 0) := by rw [cell_of_row w5 _ 2 _ _ (0, 0) f1]; rfl
  have g3 : w5.cell? ⟨w.heap.size + 1, 3, none⟩ = some (.slice none 0 0) := by rw [cell_of_row w5 _ 3 _ _ (0, 0) f1]; rfl
  have g4 : w5.cell? ⟨w.heap.size + 1, 4, none⟩ = some (.slice none 0 0) := by rw [cell_of_row w5 _ 4 _ _ (0, 0) f1]; rfl
  have g5 : w5.cell? ⟨w.heap.size + 1 + 1, 0, none⟩ = some (.bool false) := by rw [cell_of_row w5 _ 0 _ _ (0, 0) f2]; rfl
  simp [Leaves, settle, results, Try.results26, go_sem, g0, g1, g2, g3, g4, g5]
  exact ⟨rfl, _, HS5.out⟩
set_option maxHeartbeats 4000000 in
set_option maxRecDepth 100000 in
theorem trailer_upd_panics (l : Nat → Nat) (w : World) (q p n : Nat) (V kv vv : Value) (S : List Slot) (kx vx : List Int) (dn : Bool) (h : TrC l w q p V n S kv kx vv vx dn) (hn : n ≤ 1099511627775) (s : S28) (hk0 : s.f1.size = 0) (hvs : s.f2.size ≤ 140737488351232) (hdo : s.f0 = 9) :
    Calls Try.prog 26 #[.pointer (some ⟨p, 0, none⟩), .agg #[.int .i64 s.f0, .string s.f1, .string s.f2, .int .i64 s.f3, .int .i64 s.f4]] w fun e w' => StepP l w q e w' := by
  have st0 := Stp.of_below (W3_below w s) (fun _ => False) l 0
  have hT := h.keep st0 (fun _ k => k.elim)
  have y0 := W3_0 w s
  have y1 := W3_1 w s
  have y2 := W3_2 w s
  have hsz := W3_size w s
  obtain ⟨W, hW⟩ : ∃ W, W3 w s = W := ⟨_, rfl⟩
  have hW' := hW
  rw [hW] at hT st0 y0 y1 y2 hsz
  unfold W3 at hW'
  have hcv1 := Lib.run_convert_string_bytes (P := Try.prog) W 9 54 5 s.f1 Try.underlying9 Try.underlying54 Try.underlying5
  have hbl1 := conv_below W 5 s.f1
  have br1 := Br.conv W 5 s.f1
  have sz1 := Lib.bytesWorld_size W 5 s.f1
  have cap1 := grownCap_ge W s.f1.size 0 5
  obtain ⟨cc1, hcc1⟩ : ∃ c, grownCap W s.f1.size 0 5 = c := ⟨_, rfl⟩
  rw [hcc1] at hcv1 cap1
  obtain ⟨U1, hU1⟩ : ∃ X, Lib.bytesWorld W 5 s.f1 = X := ⟨_, rfl⟩
  rw [hU1] at hcv1 hbl1 br1 sz1
  obtain ⟨g1, hg1⟩ : ∃ g, W.heap.size = g := ⟨_, rfl⟩
  rw [hg1] at hcv1 br1 sz1
  have hT1 := hT.keep (Stp.of_below_same hbl1 (fun _ => False) (ext l w.heap.size 0)) (fun _ k => k.elim)
  have st1 := Stp.of_below_same hbl1 (Tz q) (ext l w.heap.size 0)
  have hcv2 := Lib.run_convert_string_bytes (P := Try.prog) U1 9 54 5 s.f2 Try.underlying9 Try.underlying54 Try.underlying5
  have hbl2 := conv_below U1 5 s.f2
  have br2 := Br.conv U1 5 s.f2
  have sz2 := Lib.bytesWorld_size U1 5 s.f2
  have cap2 := grownCap_ge U1 s.f2.size 0 5
  obtain ⟨cc2, hcc2⟩ : ∃ c, grownCap U1 s.f2.size 0 5 = c := ⟨_, rfl⟩
  rw [hcc2] at hcv2 cap2
  obtain ⟨U2, hU2⟩ : ∃ X, Lib.bytesWorld U1 5 s.f2 = X := ⟨_, rfl⟩
  rw [hU2] at hcv2 hbl2 br2 sz2
  obtain ⟨g2, hg2⟩ : ∃ g, U1.heap.size = g := ⟨_, rfl⟩
  rw [hg2] at hcv2 br2 sz2
  have hT2 := hT1.keep (Stp.of_below_same hbl2 (fun _ => False) (ext l w.heap.size 0)) (fun _ k => k.elim)
  have st2 := Stp.of_below_same hbl2 (Tz q) (ext l w.heap.size 0)
  have hg := tUpd_panics U2 (.pointer (some ⟨p, 0, none⟩)) (some ⟨g1, 0, none⟩) (some ⟨g2, 0, none⟩) cc1 s.f2.size cc2
  rw [hk0] at hcv1
  have HG := Lib.hid hg
  have ST12 := Lib.hid (st1.trans st2)
  have y0' := (hbl1.block w.heap.size (by omega)).trans y0
  have c2' : U1.cell? ⟨w.heap.size, 2, none⟩ = some (.string s.f2) := by rw [cell_of_row U1 _ 2 _ _ (0, 0) y0']; rfl
  rw [← hW'] at hcv1
  clear hg hk0 hvs st1 st2 hT1 hT2 br1 br2 sz1 sz2 hbl1 hbl2 cap1 cap2 hcc1 hcc2 hU1 hU2 hg1 hg2 y0'
  have HT := Lib.hid hT
  have HS0 := Lib.hid st0
  have Y1 := Lib.hid y1
  have Y2 := Lib.hid y2
  have c0 : W.cell? ⟨w.heap.size, 0, none⟩ = some (.int .i64 s.f0) := by rw [cell_of_row W _ 0 _ _ (0, 0) y0]; rfl
  have c1 : W.cell? ⟨w.heap.size, 1, none⟩ = some (.string s.f1) := by rw [cell_of_row W _ 1 _ _ (0, 0) y0]; rfl
  have c2 : W.cell? ⟨w.heap.size, 2, none⟩ = some (.string s.f2) := by rw [cell_of_row W _ 2 _ _ (0, 0) y0]; rfl
  rw [hdo] at c0
  have HW := Lib.hid hW'
  have HSZ := Lib.hid hsz
  rw [← hW'] at c0 c1 c2
  have hmf : ∀ (fn : Fn) (first cap : Array Value) (w : World), (Instr.makeFunc fn first cap).run Try.prog w = .ok (.func fn first cap) w := fun _ _ _ _ => rfl
  have HDO := Lib.hid hdo
  clear h hT y0 y1 y2 st0 hW hW' hsz hdo
  go_enter_defers Try.func26, Try.ntmps26
  go_wp2_with (first
    | (go_at_call 50
       refine HG.out.mono ?_
       rintro e w4 ⟨⟨u, v, rfl⟩, hw4⟩
       have st4 : Stp (Tz q) (ext l w.heap.size 0) (ext l w.heap.size 0) W U2.drew := ST12.out.trans (drew_stp (Tz q) _ U2 1)
       rw [hw4] at st4
       clear hw4
       have lt1 : w.heap.size + 1 < W.heap.size := by rw [HSZ.out]; omega
       have lt2 : w.heap.size + 2 < W.heap.size := by rw [HSZ.out]; omega
       have lb0 : ¬ Tz q 0 := by have := HT.out.1; have := HT.out.2.1; unfold Tz; omega
       have r1 := (st4.block (w.heap.size + 1) lt1 (by rw [ext_new l (by omega)]; exact lb0)).trans Y1.out
       have r2 := (st4.block (w.heap.size + 2) lt2 (by rw [ext_new l (by omega)]; exact lb0)).trans Y2.out
       have R1 := Lib.hid r1
       have R2 := Lib.hid r2
       have ST4 := Lib.hid st4
       clear lt1 lt2 lb0 r1 r2 st4))
  refine leaves_cons (f := 40) (args := #[.pointer (some ⟨w.heap.size + 1, 0, none⟩), .pointer (some ⟨w.heap.size + 1 + 1, 0, none⟩)]) (by simp) (by simp [go_sem]) ?_
  refine (trailer_caught (w.heap.size + 1) (w.heap.size + 1 + 1) u v [] w4 R1.out R2.out (by omega)).mono ?_
  rintro e u' w'' ⟨rfl, rfl, rfl⟩
  obtain ⟨f1, f2⟩ := fail5 (a0 := .string ⟨#[]⟩) (a1 := .bool false) (a2 := .int .i64 0) (a3 := .slice none 0 0) (a4 := .slice none 0 0) (y := .bool false) R1.out R2.out (by omega)
  have HS5 := Lib.hid ((((((((HS0.out.mono (fun _ k => k.elim) : Stp (Tz q) _ _ _ _).trans ST4.out).setNew (a := ⟨w.heap.size + 1, 0, none⟩) (by show _ ≤ w.heap.size + 1; omega) (.string ⟨#[]⟩)).setNew (a := ⟨w.heap.size + 1, 1, none⟩) (by show _ ≤ w.heap.size + 1; omega) (.bool false)).setNew (a := ⟨w.heap.size + 1, 2, none⟩) (by show _ ≤ w.heap.size + 1; omega) (.int .i64 0)).setNew (a := ⟨w.heap.size + 1, 3, none⟩) (by show _ ≤ w.heap.size + 1; omega) (.slice none 0 0)).setNew (a := ⟨w.heap.size + 1, 4, none⟩) (by show _ ≤ w.heap.size + 1; omega) (.slice none 0 0)).setNew (a := ⟨w.heap.size + 1 + 1, 0, none⟩) (by show _ ≤ w.heap.size + 1 + 1; omega) (.bool false))
  generalize ((((((w4.setCell ⟨w.heap.size + 1, 0, none⟩ (.string ⟨#[]⟩)).setCell ⟨w.heap.size + 1, 1, none⟩ (.bool false)).setCell ⟨w.heap.size + 1, 2, none⟩ (.int .i64 0)).setCell ⟨w.heap.size + 1, 3, none⟩ (.slice none 0 0)).setCell ⟨w.heap.size + 1, 4, none⟩ (.slice none 0 0)).setCell ⟨w.heap.size + 1 + 1, 0, none⟩ (.bool false)) = w5 at *
  have g0 : w5.cell? ⟨w.heap.size + 1, 0, none⟩ = some (.string ⟨#[]⟩) := by rw [cell_of_row w5 _ 0 _ _ (0, 0) f1]; rfl
  have g1 : w5.cell? ⟨w.heap.size + 1, 1, none⟩ = some (.bool false) := by rw [cell_of_row w5 _ 1 _ _ (0, 0) f1]; rfl
  have g2 : w5.cell? ⟨w.heap.size + 1, 2, none⟩ = some (.int .i64 0) := by rw [cell_of_row w5 _ 2 _ _ (0, 0) f1]; rfl
  have g3 : w5.cell? ⟨w.heap.size + 1, 3, none⟩ = some (.slice none 0 0) := by rw [cell_of_row w5 _ 3 _ _ (0, 0) f1]; rfl
  have g4 : w5.cell? ⟨w.heap.size + 1, 4, none⟩ = some (.slice none 0 0) := by rw [cell_of_row w5 _ 4 _ _ (0, 0) f1]; rfl
  have g5 : w5.cell? ⟨w.heap.size + 1 + 1, 0, none⟩ = some (.bool false) := by rw [cell_of_row w5 _ 0 _ _ (0, 0) f2]; rfl
  simp [Leaves, settle, results, Try.results26, go_sem, g0, g1, g2, g3, g4, g5]
  exact ⟨rfl, _, HS5.out⟩
set_option maxHeartbeats 4000000 in
set_option maxRecDepth 100000 in
theorem trailer_names_panics (l : Nat → Nat) (w : World) (q p n : Nat) (V kv vv : Value) (S : List Slot) (kx vx : List Int) (dn : Bool) (h : TrC l w q p V n S kv kx vv vx dn) (hn : n ≤ 1099511627775) (s : S28) (hvs : s.f2.size ≤ 1099511627775) (f0 : Nat) (hf0 : s.f2.size ≤ f0) (hset : setGo dn f0 (ns s.f2) [] false = none) (hdo : s.f0 = 4) :
    Calls Try.prog 26 #[.pointer (some ⟨p, 0, none⟩), .agg #[.int .i64 s.f0, .string s.f1, .string s.f2, .int .i64 s.f3, .int .i64 s.f4]] w fun e w' => StepP l w q e w' := by
  have st0 := Stp.of_below (W3_below w s) (fun _ => False) l 0
  have hT := h.keep st0 (fun _ k => k.elim)
  have y0 := W3_0 w s
  have y1 := W3_1 w s
  have y2 := W3_2 w s
  have hsz := W3_size w s
  obtain ⟨W, hW⟩ : ∃ W, W3 w s = W := ⟨_, rfl⟩
  have hW' := hW
  rw [hW] at hT st0 y0 y1 y2 hsz
  unfold W3 at hW'
  have hcv1 := Lib.run_convert_string_bytes (P := Try.prog) W 9 54 5 s.f2 Try.underlying9 Try.underlying54 Try.underlying5
  have hbl1 := conv_below W 5 s.f2
  have br1 := Br.conv W 5 s.f2
  have sz1 := Lib.bytesWorld_size W 5 s.f2
  have cap1 := grownCap_ge W s.f2.size 0 5
  obtain ⟨cc1, hcc1⟩ : ∃ c, grownCap W s.f2.size 0 5 = c := ⟨_, rfl⟩
  rw [hcc1] at hcv1 cap1
  obtain ⟨U1, hU1⟩ : ∃ X, Lib.bytesWorld W 5 s.f2 = X := ⟨_, rfl⟩
  rw [hU1] at hcv1 hbl1 br1 sz1
  obtain ⟨g1, hg1⟩ : ∃ g, W.heap.size = g := ⟨_, rfl⟩
  rw [hg1] at hcv1 br1 sz1
  obtain ⟨zl, z1, z2, z3⟩ := fresh_label (ext l w.heap.size 0) W.heap.size
  have hz : ¬ Tz q zl := by have := hT.1; have := hT.2.1; unfold Tz; omega
  have st1 := Stp.of_below hbl1 (fun lab => Tz q lab ∨ lab = zl) (ext l w.heap.size 0) zl
  have hT1 := hT.keep (Stp.of_below hbl1 (fun _ => False) (ext l w.heap.size 0) zl) (fun _ k => k.elim)
  rw [hg1] at st1 hT1
  have hg := tSetT_panics (ext (ext l w.heap.size 0) g1 zl) U1 q p n V kv vv S kx vx dn hT1 zl g1 cc1 hz (ext_new _ (Nat.le_refl _)) (ns s.f2) (fun x k => ns_range s.f2 x k) (Br.bro br1) (by rw [ns_length]; exact cap1) (by rw [ns_length]; exact hvs) f0 (by rw [ns_length]; exact hf0) hset
  rw [ns_length] at hg
  have HG := Lib.hid hg
  have ST1 := Lib.hid st1
  have HF1 := Lib.hid z1
  rw [← hW'] at hcv1
  clear hg hset hvs hf0 st1 hT1 br1 sz1 hbl1 cap1 hcc1 hU1 hg1 z1 z2 z3 hz
  have HT := Lib.hid hT
  have HS0 := Lib.hid st0
  have Y1 := Lib.hid y1
  have Y2 := Lib.hid y2
  have c0 : W.cell? ⟨w.heap.size, 0, none⟩ = some (.int .i64 s.f0) := by rw [cell_of_row W _ 0 _ _ (0, 0) y0]; rfl
  have c1 : W.cell? ⟨w.heap.size, 1, none⟩ = some (.string s.f1) := by rw [cell_of_row W _ 1 _ _ (0, 0) y0]; rfl
  have c2 : W.cell? ⟨w.heap.size, 2, none⟩ = some (.string s.f2) := by rw [cell_of_row W _ 2 _ _ (0, 0) y0]; rfl
  rw [hdo] at c0
  have HW := Lib.hid hW'
  have HSZ := Lib.hid hsz
  rw [← hW'] at c0 c1 c2
  have hmf : ∀ (fn : Fn) (first cap : Array Value) (w : World), (Instr.makeFunc fn first cap).run Try.prog w = .ok (.func fn first cap) w := fun _ _ _ _ => rfl
  have HDO := Lib.hid hdo
  clear h hT y0 y1 y2 st0 hW hW' hsz hdo
  go_enter_defers Try.func26, Try.ntmps26
  go_wp2_with (first
    | (go_at_call 45
       refine HG.out.mono ?_
       rintro e w4 ⟨⟨u, v, rfl⟩, l4, hst⟩
       have st4 := (ST1.out.trans hst).less HF1.out
       clear hst
       have lt1 : w.heap.size + 1 < W.heap.size := by rw [HSZ.out]; omega
       have lt2 : w.heap.size + 2 < W.heap.size := by rw [HSZ.out]; omega
       have lb0 : ¬ Tz q 0 := by have := HT.out.1; have := HT.out.2.1; unfold Tz; omega
       have r1 := (st4.block (w.heap.size + 1) lt1 (by rw [ext_new l (by omega)]; exact lb0)).trans Y1.out
       have r2 := (st4.block (w.heap.size + 2) lt2 (by rw [ext_new l (by omega)]; exact lb0)).trans Y2.out
       have R1 := Lib.hid r1
       have R2 := Lib.hid r2
       have ST4 := Lib.hid st4
       clear lt1 lt2 lb0 r1 r2 st4))
  refine leaves_cons (f := 40) (args := #[.pointer (some ⟨w.heap.size + 1, 0, none⟩), .pointer (some ⟨w.heap.size + 1 + 1, 0, none⟩)]) (by simp) (by simp [go_sem]) ?_
  refine (trailer_caught (w.heap.size + 1) (w.heap.size + 1 + 1) u v [] w4 R1.out R2.out (by omega)).mono ?_
  rintro e u' w'' ⟨rfl, rfl, rfl⟩
  obtain ⟨f1, f2⟩ := fail5 (a0 := .string ⟨#[]⟩) (a1 := .bool false) (a2 := .int .i64 0) (a3 := .slice none 0 0) (a4 := .slice none 0 0) (y := .bool false) R1.out R2.out (by omega)
  have HS5 := Lib.hid ((((((((HS0.out.mono (fun _ k => k.elim) : Stp (Tz q) _ _ _ _).trans ST4.out).setNew (a := ⟨w.heap.size + 1, 0, none⟩) (by show _ ≤ w.heap.size + 1; omega) (.string ⟨#[]⟩)).setNew (a := ⟨w.heap.size + 1, 1, none⟩) (by show _ ≤ w.heap.size + 1; omega) (.bool false)).setNew (a := ⟨w.heap.size + 1, 2, none⟩) (by show _ ≤ w.heap.size + 1; omega) (.int .i64 0)).setNew (a := ⟨w.heap.size + 1, 3, none⟩) (by show _ ≤ w.heap.size + 1; omega) (.slice none 0 0)).setNew (a := ⟨w.heap.size + 1, 4, none⟩) (by show _ ≤ w.heap.size + 1; omega) (.slice none 0 0)).setNew (a := ⟨w.heap.size + 1 + 1, 0, none⟩) (by show _ ≤ w.heap.size + 1 + 1; omega) (.bool false))
  generalize ((((((w4.setCell ⟨w.heap.size + 1, 0, none⟩ (.string ⟨#[]⟩)).setCell ⟨w.heap.size + 1, 1, none⟩ (.bool false)).setCell ⟨w.heap.size + 1, 2, none⟩ (.int .i64 0)).setCell ⟨w.heap.size + 1, 3, none⟩ (.slice none 0 0)).setCell ⟨w.heap.size + 1, 4, none⟩ (.slice none 0 0)).setCell ⟨w.heap.size + 1 + 1, 0, none⟩ (.bool false)) = w5 at *
  have g0 : w5.cell? ⟨w.heap.size + 1, 0, none⟩ = some (.string ⟨#[]⟩) := by rw [cell_of_row w5 _ 0 _ _ (0, 0) f1]; rfl
  have g1 : w5.cell? ⟨w.heap.size + 1, 1, none⟩ = some (.bool false) := by rw [cell_of_row w5 _ 1 _ _ (0, 0) f1]; rfl
  have g2 : w5.cell? ⟨w.heap.size + 1, 2, none⟩ = some (.int .i64 0) := by rw [cell_of_row w5 _ 2 _ _ (0, 0) f1]; rfl
  have g3 : w5.cell? ⟨w.heap.size + 1, 3, none⟩ = some (.slice none 0 0) := by rw [cell_of_row w5 _ 3 _ _ (0, 0) f1]; rfl
  have g4 : w5.cell? ⟨w.heap.size + 1, 4, none⟩ = some (.slice none 0 0) := by rw [cell_of_row w5 _ 4 _ _ (0, 0) f1]; rfl
  have g5 : w5.cell? ⟨w.heap.size + 1 + 1, 0, none⟩ = some (.bool false) := by rw [cell_of_row w5 _ 0 _ _ (0, 0) f2]; rfl
  simp [Leaves, settle, results, Try.results26, go_sem, g0, g1, g2, g3, g4, g5]
  exact ⟨rfl, _, HS5.out⟩
end Go.Proofs.Ytoimkmoalmmooaa.Own
set_option linter.unusedVariables false
set_option linter.unusedSimpArgs false
namespace Go.Proofs.Ytoimkmoalmmooaa.Own
open Go.RowKit Go.Proofs.YtoimkmoalmmooaaW.PrintWords Go.Proofs.YtoimkmoalmmooaaW.PrintLast Go.Proofs.YtoimkmoalmmooaaW.PrintMore Go.Proofs.Ytoimkmoalmmooaa.Base Go.Proofs.Ytoimkmoalmmooaa.Gv Go.Proofs.Ytoimkmoalmmooaa.Given Go.Proofs.Ytoimkmoalmmooaa.QA Go.Proofs.Ytoimkmoalmmooaa.PrX
abbrev Ans := S32
def stepX (dn : Bool) (L : List KVx) (s : Step) : Bool :=
  decide (L.length ≤ 1099511627775 ∧ s.f1.size ≤ 1099511627775 ∧ s.f2.size ≤ 1099511627775) && ((decide (s.f0 = 0 ∨ s.f0 = 1 ∨ s.f0 = 9) && decide (s.f1.size = 0)) || (decide (s.f0 = 4) && (setGo dn s.f2.size (ns s.f2) [] false).isNone))
theorem trailer_panics (l : Nat → Nat) (w : World) (q p n : Nat) (V kv vv : Value) (S : List Slot) (kx vx : List Int) (dn : Bool) (h : TrC l w q p V n S kv kx vv vx dn) (s : Step) (hx : stepX dn (kvs S n) s = true) :
    Calls Try.prog 26 #[.pointer (some ⟨p, 0, none⟩), .agg #[.int .i64 s.f0, .string s.f1, .string s.f2, .int .i64 s.f3, .int .i64 s.f4]] w fun e w' => StepP l w q e w' := by
  unfold stepX at hx
  simp only [Bool.and_eq_true, Bool.or_eq_true, decide_eq_true_eq] at hx
  obtain ⟨⟨hL, h1, h2⟩, hx⟩ := hx
  have hlen := kvs_length h.2.2.2.1.le
  rw [hlen] at hL
  rcases hx with ⟨hd, h0⟩ | ⟨h4, hs⟩
  · rcases hd with hd | hd | hd
    · exact trailer_set_panics l w q p n V kv vv S kx vx dn h hL s h0 (by omega) hd
    · exact trailer_add_panics l w q p n V kv vv S kx vx dn h hL s h0 (by omega) hd
    · exact trailer_upd_panics l w q p n V kv vv S kx vx dn h hL s h0 (by omega) hd
  · exact trailer_names_panics l w q p n V kv vv S kx vx dn h hL s h2 s.f2.size (Nat.le_refl _) (by cases hg : setGo dn s.f2.size (ns s.f2) [] false with
      | none => rfl
      | some x => rw [hg] at hs; cases hs) h4
def scriptF (dn : Bool) (L : List KVx) (acc : List Ans) : List Step → Option (List Ans × ByteArray × Bool)
  | [] => if L.length ≤ 1099511627775 ∧ RgK L ∧ sizeKV L + 2 ≤ 140737488355328 then some (acc, strOfNums (linesOf L ++ [13, 10]), true) else none
  | s :: r => match stepF dn L s with
    | none => if stepX dn L s = true then some (acc, ⟨#[]⟩, false) else none
    | some ((T, is, P), dn', L') => scriptF dn' L' (acc ++ [⟨T, is, 0, [], P⟩]) r
theorem Stp.below0 {q : Nat} (hq : 0 < q) {l l1 : Nat → Nat} {w w1 : World} {B : Nat} (h : Stp (Tz q) l l1 w w1) (hB : B ≤ w.heap.size) (hl : ∀ b, b < B → l b = 0) (hq2 : q + 3 < 64) : Below B w w1 :=
  ⟨h.os, h.tape, h.output, h.size, fun b hb => h.block b (by omega) (by rw [hl b hb]; unfold Tz; omega)⟩
theorem S_stp {α : Type} {d : Kd α} {e base q : Nat} {l l1 : Nat → Nat} {w w1 : World} {v : Value} {xs : List α} (hq : 0 < q) (hq2 : q + 3 < 64) (h : Kd.S d e w base (fun k => l k = 0) v xs) (s : Stp (Tz q) l l1 w w1) : Kd.S d e w1 base (fun k => l1 k = 0 ∧ k < w.heap.size) v xs := by
  refine Kd.S_mono (Kd.S_step (Kd.S_bound h) (fun k hk hlt => s.block k hlt (by rw [hk.1]; unfold Tz; omega))) (fun k hk => ⟨by rw [s.lab k hk.2.2.1]; exact hk.1, hk.2.2.1⟩)
end Go.Proofs.Ytoimkmoalmmooaa.Own
set_option linter.unusedVariables false
set_option linter.unusedSimpArgs false
namespace Go.Proofs.Ytoimkmoalmmooaa.Own
open Go.RowKit Go.Proofs.YtoimkmoalmmooaaW.PrintWords Go.Proofs.YtoimkmoalmmooaaW.PrintLast Go.Proofs.YtoimkmoalmmooaaW.PrintMore Go.Proofs.Ytoimkmoalmmooaa.Base Go.Proofs.Ytoimkmoalmmooaa.Gv Go.Proofs.Ytoimkmoalmmooaa.Given Go.Proofs.Ytoimkmoalmmooaa.QA Go.Proofs.Ytoimkmoalmmooaa.PrX
def lab1 (p : Nat) : Nat → Nat := fun b => if b = p then 1 else 0
theorem newT (w : World) : TrC (lab1 w.heap.size) (w.alloc (.cells #[.slice none 0 0, .slice none 0 0, .slice none 0 0, .bool false, .bool false] 58)) 1 w.heap.size (.slice none 0 0) 0 [] (.slice none 0 0) [] (.slice none 0 0) [] false :=
  ⟨by omega, by omega, ⟨heap_alloc_new _ _, if_pos rfl⟩, ⟨by omega, by simp, .inl ⟨rfl, rfl, rfl⟩⟩, Bf.nil _ _ _, Bf.nil _ _ _⟩
def MidS (w : World) (dn : Bool) (L : List KVx) (acc : List Ans) (ov : Value) (wr : World) : Prop := ∃ l1 V n S kv kx vv vx, TrC l1 wr 1 w.heap.size V n S kv kx vv vx dn ∧ kvs S n = L ∧ Kd.S k32 32 wr w.heap.size (fun k => l1 k = 0) ov acc ∧ (∀ b, b < w.heap.size → l1 b = 0) ∧ Below w.heap.size w wr
def ScriptT (w : World) (r : List Ans × ByteArray × Bool) (e : Ending) (w' : World) : Prop := ∃ v, e = .returned (.tuple #[v, .string r.2.1, .bool r.2.2]) ∧ Kd.S k32 32 w' w.heap.size (fun _ => True) v r.1 ∧ Below w.heap.size w w'
set_option maxHeartbeats 4000000 in
set_option maxRecDepth 100000 in
theorem script_calls (A0 : Option Addr) (c0 : Nat) (xs : List Step) (r : List Ans × ByteArray × Bool) (w : World) (hr0 : Kd.C k28 w A0 xs.length xs) (hc0 : xs.length ≤ c0) (hN : xs.length ≤ 1000000000) (h : scriptF false [] [] xs = some r) :
    Calls Try.prog 9 #[.slice A0 xs.length c0] w fun e w' => ScriptT w r e w' := by
  have hinfo : (Try.prog.info? 32).map (fun i => (i.zero, i.size, i.bytes)) = some (some (.agg #[.string ⟨#[]⟩, .bool false, .int .i64 0, .slice none 0 0, .slice none 0 0]), 5, 80) := by kernel_rfl
  have hmid : MidS w false [] [] (.slice none 0 0) (w.alloc (.cells #[.slice none 0 0, .slice none 0 0, .slice none 0 0, .bool false, .bool false] 58)) :=
    ⟨lab1 w.heap.size, _, _, _, _, _, _, _, newT w, rfl, Kd.S_nil _ _ _ _ _, fun b hb => if_neg (by omega), (Below.refl _ _).alloc (Nat.le_refl _) _⟩
  obtain ⟨N, hNN⟩ : ∃ n, xs.length = n := ⟨_, rfl⟩
  rw [hNN] at hN hc0 ⊢
  have HNN := Lib.hid hNN
  have HR0 := Lib.hid hr0
  have HMID := Lib.hid hmid
  have HGO := Lib.hid h
  have HI := Lib.hid hinfo
  clear hr0 h hmid hNN hinfo
  go_enter Try.func9, Try.ntmps9
  go_wp2
  go_loopw [6, 15] (fun ov iv wr => ∃ (x : Int) (dn : Bool) (L : List KVx) (acc : List Ans), iv = .int .i64 x ∧ 0 ≤ x ∧ x ≤ (N : Int) ∧ Hid (scriptF dn L acc (xs.drop x.toNat) = some r) ∧ Hid (MidS w dn L acc ov wr) ∧ Hid (acc.length ≤ x.toNat)) (fun _ iv _ => N - (intOf iv).toNat)
  case atStart => exact ⟨0, false, [], [], rfl, by omega, by omega, HGO, HMID, Lib.hid (by simp)⟩
  case round =>
    obtain ⟨x, dn, L, acc, rfl, hx0, hxN, HGO, HMS, HAL⟩ := hrel
    obtain ⟨l1, V, n, S, kv, kx, vv, vx, hT, hkv, hS, hz, hb⟩ := HMS.out
    by_cases hlt : x < (N : Int)
    · obtain ⟨s, r', hdr⟩ : ∃ s r', xs.drop x.toNat = s :: r' := by
        have : x.toNat < xs.length := by have := HNN.out; omega
        exact ⟨_, _, List.drop_eq_getElem_cons this⟩
      have hrd : rd_T28 xs x = s := by
        unfold rd_T28
        have h2 : xs[x.toNat]? = some s := by
          have := congrArg (fun q => q[0]?) hdr
          simpa [List.getElem?_drop] using this
        rw [List.getD_eq_getElem?_getD, h2]; rfl
      have hdr2 : xs.drop (x + 1).toNat = r' := by
        have := congrArg (fun q => q.drop 1) hdr
        simp only [List.drop_drop, List.drop_succ_cons, List.drop_zero] at this
        rw [show (x + 1).toNat = x.toNat + 1 by omega]; exact this
      have hgo := HGO.out
      rw [hdr, scriptF] at hgo
      have hq : x < (xs.length : Int) := by have := HNN.out; omega
      obtain ⟨ad, e0, y0, y1, y2, y3, y4⟩ := at_T28 HR0.out x hx0 hq
      cases e0
      rw [hrd] at y0 y1 y2 y3 y4
      replace y0 := (hb.cell (World.block_lt_of_cell? w _ y0)).trans y0
      replace y1 := (hb.cell (World.block_lt_of_cell? w _ y1)).trans y1
      replace y2 := (hb.cell (World.block_lt_of_cell? w _ y2)).trans y2
      replace y3 := (hb.cell (World.block_lt_of_cell? w _ y3)).trans y3
      replace y4 := (hb.cell (World.block_lt_of_cell? w _ y4)).trans y4
      -- the step's box
      obtain ⟨W1, hW1⟩ : ∃ X, wr.alloc (.cells #[.int .i64 s.f0, .string s.f1, .string s.f2, .int .i64 s.f3, .int .i64 s.f4] 28) = X := ⟨_, rfl⟩
      have hb1 : Below wr.heap.size wr W1 := by rw [← hW1]; exact (Below.refl _ _).alloc (Nat.le_refl _) _
      have hs1 : W1.heap.size = wr.heap.size + 1 := by rw [← hW1]; simp
      have st1 := Stp.of_below hb1 (Tz 1) l1 0
      have hT1 := hT.keep (Stp.of_below hb1 (fun _ => False) l1 0) (fun _ k => k.elim)
      have hS1 := S_stp (by omega) (by omega) hS st1
      cases hst : stepF dn L s with
      | none =>
        rw [hst] at hgo
        by_cases hxx : stepX dn L s = true
        · have hgo2 : some (acc, (⟨#[]⟩ : ByteArray), false) = some r := by
            have : (if stepX dn L s = true then some (acc, (⟨#[]⟩ : ByteArray), false) else none) = some r := hgo
            rw [if_pos hxx] at this; exact this
          injection hgo2 with hgo2
          subst hgo2
          have hcall := trailer_panics _ W1 1 w.heap.size n V kv vv S kx vx dn hT1 s (by rw [hkv]; exact hxx)
          have HW1 := Lib.hid hW1
          have HS1 := Lib.hid hs1
          have HB := Lib.hid hb
          have HZ := Lib.hid hz
          have HSS := Lib.hid hS1
          have HCALL := Lib.hid hcall
          clear hT hkv hS hz hb hdr hrd hdr2 hgo hst hq hb1 hs1 st1 hT1 hS1 hcall hW1 HGO HMS hxx
          go_wp2_with (
            go_at_call 26
            rw [HW1.out]
            refine HCALL.out.mono ?_
            rintro e w4 ⟨rfl, l3, t4⟩
            have hb4 : Below w.heap.size W1 w4 := t4.below0 (by omega) (by have := HS1.out; have := HB.out.size; omega) (fun b hb => (ext_old l1 (by have := HB.out.size; omega)).trans (HZ.out b hb)) (by omega)
            have hb1 : Below wr.heap.size wr W1 := by rw [← HW1.out]; exact (Below.refl _ _).alloc (Nat.le_refl _) _
            have hbw : Below w.heap.size w w4 := (HB.out.trans (below_weaken_t HB.out.size hb1)).trans hb4
            have hSw : Kd.S k32 32 w4 w.heap.size (fun k => ext l1 wr.heap.size 0 k = 0 ∧ k < wr.heap.size) u6 acc := Kd.S_step HSS.out (fun k hk hlt => t4.block k hlt (by rw [hk.1]; unfold Tz; omega))
            have TB := Lib.hid hbw
            have TS := Lib.hid hSw
            clear t4 hb4 hb1 hbw hSw)
          go_ret3
          exact ⟨u6, by simp [Act.put], Kd.S_mono (Kd.S_below TS.out ((Below.refl _ _).alloc (Nat.le_refl _) _)) (fun _ _ => trivial), TB.out.trans (below_weaken_t TB.out.size ((Below.refl _ _).alloc (Nat.le_refl _) _))⟩
        · have : (if stepX dn L s = true then some (acc, (⟨#[]⟩ : ByteArray), false) else none) = some r := hgo
          rw [if_neg hxx] at this; cases this
      | some y =>
      obtain ⟨⟨T, is, P⟩, dn', L'⟩ := y
      rw [hst] at hgo
      have hgo2 : scriptF dn' L' (acc ++ [⟨T, is, 0, [], P⟩]) r' = some r := hgo
      have hcall := trailer_calls _ W1 1 w.heap.size n V kv vv S kx vx dn hT1 s _ (by rw [hkv]; exact hst)
      have HW1 := Lib.hid hW1
      have HS1 := Lib.hid hs1
      have HB := Lib.hid hb
      have HZ := Lib.hid hz
      have HSS := Lib.hid hS1
      have HCALL := Lib.hid hcall
      have HGO2 := Lib.hid hgo2
      have HDR := Lib.hid hdr2
      have HST1 := Lib.hid st1
      clear hT hkv hS hz hb hdr hrd hdr2 hgo hst hgo2 hq hb1 hs1 st1 hT1 hS1 hcall hW1 HGO HMS
      have hwS := (Kd.S_R HSS.out).1
      have HOWN := Lib.hid (show ∀ k, u6.ownBlock = some k → ext l1 wr.heap.size 0 k = 0 ∧ k < wr.heap.size from fun k hk => hwS k hk)
      clear hwS
      go_wp2_with (first
        | (go_at_call 26
           rw [HW1.out]
           refine HCALL.out.mono ?_
           rintro e w4 ⟨l3, V1, n1, S1, kv1, kx1, vv1, vx1, PV, rfl, t1, t2, t3, t4⟩
           have t3 : Kd.R k34 34 w4 W1.heap.size (fun k => l3 k = 0) PV P := t3
           obtain ⟨PA, pc, rfl⟩ := Kd.R_slice t3
           obtain ⟨PN, hPN⟩ : ∃ k, P.length = k := ⟨_, rfl⟩
           rw [hPN] at t3
           simp only
           rw [hPN]
           have hb4 : Below w.heap.size W1 w4 := t4.below0 (by omega) (by have := HS1.out; have := HB.out.size; omega) (fun b hb => (ext_old l1 (by have := HB.out.size; omega)).trans (HZ.out b hb)) (by omega)
           have hb1 : Below wr.heap.size wr W1 := by rw [← HW1.out]; exact (Below.refl _ _).alloc (Nat.le_refl _) _
           have hbw : Below w.heap.size w w4 := (HB.out.trans (below_weaken_t HB.out.size hb1)).trans hb4
           have hSw : Kd.S k32 32 w4 w.heap.size (fun k => ext l1 wr.heap.size 0 k = 0 ∧ k < wr.heap.size) u6 acc := Kd.S_step HSS.out (fun k hk hlt => t4.block k hlt (by rw [hk.1]; unfold Tz; omega))
           have hlab : ∀ k, k < wr.heap.size → l3 k = ext l1 wr.heap.size 0 k := fun k hk => t4.lab k (by have := HS1.out; omega)
           have T1 := Lib.hid t1
           have T2 := Lib.hid t2
           have T3 := Lib.hid t3
           have TB := Lib.hid hbw
           have TS := Lib.hid hSw
           have TL := Lib.hid hlab
           have TZ := Lib.hid (show w.heap.size ≤ wr.heap.size ∧ wr.heap.size ≤ W1.heap.size ∧ W1.heap.size ≤ w4.heap.size from ⟨HB.out.size, by have := HS1.out; omega, hb4.size⟩)
           clear t1 t2 t3 t4 hb4 hb1 hbw hSw hlab hPN)
        | (at_builtin
           obtain ⟨W5, hW5⟩ : ∃ X, w4.alloc (.cells #[.string T, .bool is, .int .i64 0, .slice none 0 0, .slice PA PN pc] 32) = X := ⟨_, rfl⟩
           rw [hW5]
           have b5 : Below w4.heap.size w4 W5 := by rw [← hW5]; exact (Below.refl _ _).alloc (Nat.le_refl _) _
           have s5 : W5.heap.size = w4.heap.size + 1 := by rw [← hW5]; simp
           have z5 := TZ.out
           have hR4 := Kd.R_mono (Kd.R_bound T3.out) (fun k hk => (⟨(ext_old l3 hk.2.2.1).trans hk.1, Nat.le_trans z5.2.1 hk.2.1⟩ : ext l3 w4.heap.size 0 k = 0 ∧ wr.heap.size ≤ k))
           have hR5 := Kd.R_lower (base' := w.heap.size) (Kd.R_below hR4 b5) (by omega)
           have hS5 := Kd.S_mono (Kd.S_below TS.out b5) (fun k hk => (⟨by rw [ext_old l3 (by omega), TL.out k hk.2]; exact hk.1, fun h2 => by omega⟩ : ext l3 w4.heap.size 0 k = 0 ∧ ¬ (ext l3 w4.heap.size 0 k = 0 ∧ wr.heap.size ≤ k)))
           have hB5 : Below w.heap.size w W5 := TB.out.trans (below_weaken_t (by omega) b5)
           have hal := HAL.out
           refine Kd.S_append k32 (w0 := w) w.heap.size rfl (.tmp 28) (.tmp 30) 24 32 (.agg #[.string ⟨#[]⟩, .bool false, .int .i64 0, .slice none 0 0, .slice none 0 0]) 80 rfl Try.underlying24 HI.out rfl (by decide) (by omega) u6 acc (⟨T, is, 0, [], P⟩ : Ans) [.string T, .bool is, .int .i64 0, .slice none 0 0, .slice PA PN pc] (fun k => ext l3 w4.heap.size 0 k = 0) (fun k => ext l3 w4.heap.size 0 k = 0 ∧ wr.heap.size ≤ k) (by first | rfl | (go_simp; done)) (by rw [s5]; first | rfl | (go_simp; done)) (k32_mkM _ _ _ _ (Kd.R_nil _ _ _ _ _) hR5) (fun k hk => ⟨hk.1, fun e => by have := HOWN.out k e.symm; omega⟩) (fun k hk => ext_new _ (by omega)) hS5 hB5 (by omega) (by omega) ?_
           intro v6 w6 hr6 hb6 hg6 hat6
           have hT5 := T1.out.keep (Stp.of_below b5 (fun _ => False) l3 0) (fun _ k => k.elim)
           have hs6 : Stp (· = 0) (ext l3 w4.heap.size 0) (ext l3 w4.heap.size 0) W5 w6 := ⟨hg6.os, hg6.tape, hg6.output, hg6.size, fun _ _ => rfl, fun b hb hf => hg6.block b hb (fun e => hf (by
             obtain ⟨o1, o2⟩ := HOWN.out b e.symm
             rw [ext_old l3 (by omega), TL.out b o2]; exact o1))⟩
           have hT6 := hT5.keep hs6 (fun lab e k => by subst e; unfold Tz at k; omega)
           have NS := Lib.hid (show MidS w dn' L' (acc ++ [⟨T, is, 0, [], P⟩]) v6 w6 from ⟨_, _, _, _, _, _, _, _, hT6, T2.out, hr6, fun b hb => by rw [ext_old l3 (by omega), TL.out b (by omega), ext_old l1 (by omega)]; exact HZ.out b hb, hb6⟩)
           clear hT5 hs6 hT6 hr6 hb6 hg6 hat6 hS5 hB5 hR5 hR4 b5 s5 z5 hal hW5))
      go_roundw
      case rel =>
        exact ⟨x + 1, dn', L', _, by go_num, by omega, by omega, Lib.hid (by rw [HDR.out]; exact HGO2.out), NS, Lib.hid (by rw [List.length_append]; have := HAL.out; simp; omega)⟩
      case measure => simp [intOf]; omega
    · obtain rfl : x = (N : Int) := by omega
      have hdr : xs.drop (N : Int).toNat = [] := List.drop_eq_nil_of_le (by have := HNN.out; omega)
      have hgo := HGO.out
      rw [hdr, scriptF] at hgo
      by_cases hg : L.length ≤ 1099511627775 ∧ RgK L ∧ sizeKV L + 2 ≤ 140737488355328
      · rw [if_pos hg] at hgo
        injection hgo with hgo
        subst hgo
        have hlen := kvs_length hT.2.2.2.1.le
        rw [← hkv, hlen] at hg
        obtain ⟨TX, hTX⟩ : ∃ y, strOfNums (linesOf L ++ [13, 10]) = y := ⟨_, rfl⟩
        have HTX := Lib.hid hTX
        have HTY := Lib.hid (show strOfNums (linesOf (kvs S n) ++ [13, 10]) = TX by rw [hkv]; exact hTX)
        have HHM : Hid (∀ m, Calls Try.prog 27 #[.pointer (some ⟨w.heap.size, 0, none⟩)] (wr.drewN m) fun e w' => HeadT l1 (wr.drewN m) 1 w.heap.size n V kv S kx dn (linesOf (kvs S n) ++ [13, 10]) e w') := Lib.hid (fun m => tHeader_calls l1 _ 1 w.heap.size n V kv vv S kx vx dn (hT.keep (drew_stp (fun _ => False) l1 wr m) (fun _ k => k.elim)) hg.1 hg.2.1 hg.2.2)
        have HSD := Lib.hid hS
        have HBD := Lib.hid hb
        have HZ := Lib.hid hz
        have q1 : ((N : Int) < (N : Int)) = False := by simp
        clear hT hkv hS hz hb hdr hg hlen hTX HMS HGO
        go_wp2
        go_region_with (
          go_simp
          go_at_call 27
          refine (HHM.out _).mono ?_
          rintro e w4 ⟨l4, A1, N1, c1, rfl, hN1, hT4, st4⟩
          have hcv := conv_read (c := c1) hT4.2.2.2.2.2.reads
          rw [← hN1] at hcv
          rw [HTY.out] at hcv
          have ST4 := Lib.hid st4
          clear hN1 hT4 st4)
        all_goals (
          go_wp2
          go_ret3
          have st : Stp (Tz 1) l1 l4 wr _ := (drew_stp (Tz 1) l1 wr _).trans ST4.out
          have hb4 := st.below0 (by omega) HBD.out.size HZ.out (by omega)
          have hS4 := Kd.S_mono (Kd.S_step HSD.out (fun k hk hlt => st.block k hlt (by rw [hk]; unfold Tz; omega))) (fun _ _ => trivial)
          exact ⟨u6, by simp [Act.put, HTX.out], hS4, HBD.out.trans hb4⟩)
      · rw [if_neg hg] at hgo; cases hgo
end Go.Proofs.Ytoimkmoalmmooaa.Own
namespace Go.Proofs.Ytoimkmoalmmooaa.Given
open Go.RowKit Go.Proofs.YtoimkmoalmmooaaW.PrintWords Go.Proofs.YtoimkmoalmmooaaW.PrintLast Go.Proofs.YtoimkmoalmmooaaW.PrintMore Go.Proofs.Ytoimkmoalmmooaa.Base Go.Proofs.Ytoimkmoalmmooaa.QA
def impl_TrailerScript.f (l : List S28) : Option (List S32 × ByteArray × Bool) := if l.length ≤ 1000000000 then Own.scriptF false [] [] l else none
theorem impl_TrailerScript.calls (A0 : Option Addr) (c0 : Nat) (l : List S28) (r1 : List S32) (r2 : ByteArray) (r3 : Bool) (w : World) (hr0 : Kd.C k28 w A0 l.length l) (hc0 : l.length ≤ c0) (h : impl_TrailerScript.f l = some (r1, r2, r3)) :
    Calls Try.prog 9 #[.slice A0 l.length c0] w fun e w' => ∃ v, e = .returned (.tuple #[v, .string r2, .bool r3]) ∧ Kd.S k32 32 w' w.heap.size (fun _ => True) v r1 ∧ Below w.heap.size w w' := by
  unfold impl_TrailerScript.f at h
  by_cases hl : l.length ≤ 1000000000
  · rw [if_pos hl] at h
    exact Own.script_calls A0 c0 l (r1, r2, r3) w hr0 hc0 hl h
  · rw [if_neg hl] at h; cases h
end Go.Proofs.Ytoimkmoalmmooaa.Given
namespace Go.Proofs.Ytoimkmoalmmooaa.QA
open Go.Proofs.Ytoimkmoalmmooaa.Given
open Go.Proofs.Ytoimkmoalmmooaa.PrX
open Go.RowKit Go.Proofs.YtoimkmoalmmooaaW.PrintWords Go.Proofs.YtoimkmoalmmooaaW.PrintLast Go.Proofs.YtoimkmoalmmooaaW.PrintMore
set_option linter.unusedVariables false
set_option linter.unusedSimpArgs false
mutual
def laws_FnTrailersAhead.j0 : Nat → List (S28) → List (S28) → Bool → Option (Bool)
  | 0, _, _, _ => none
  | k + 1, x0, x1, x24 => if x24 = true then (some true) else ((impl_TrailerScript.f (([(⟨1, (⟨#[120, 45, 97]⟩ : ByteArray), (⟨#[98]⟩ : ByteArray), 0, 0⟩ : S28), (⟨3, (⟨#[88, 45, 65]⟩ : ByteArray), (⟨#[]⟩ : ByteArray), 0, 0⟩ : S28)] : List (S28)))).bind fun bt387 => (if bt387.2.2 = true then (if (bt387.1.length : Int) = 2 then (if 1 < (bt387.1.length : Int) then (laws_FnTrailersAhead.j1 k x0 x1 (((rd_T32 bt387.1 1).f0).toList != ([98] : List UInt8))) else (none)) else (laws_FnTrailersAhead.j1 k x0 x1 true)) else (laws_FnTrailersAhead.j1 k x0 x1 true)))
def laws_FnTrailersAhead.j1 : Nat → List (S28) → List (S28) → Bool → Option (Bool)
  | 0, _, _, _ => none
  | k + 1, x0, x1, x46 => if x46 = true then (some false) else ((laws_calm.f k x0).bind fun t393 => (if t393 = true then ((laws_calm.f k x1).bind fun t394 => (laws_FnTrailersAhead.j2 k x0 x1 (!t394))) else (laws_FnTrailersAhead.j2 k x0 x1 true)))
def laws_FnTrailersAhead.j2 : Nat → List (S28) → List (S28) → Bool → Option (Bool)
  | 0, _, _, _ => none
  | k + 1, x0, x1, x54 => if x54 = true then (some true) else ((impl_TrailerScript.f x0).bind fun bt395 => ((impl_TrailerScript.f x1).bind fun bt400 => ((some (([] : List (S28)) : List (S28))).bind fun y405 => (if y405.length + x0.length < 2513169434916 then ((some (y405 ++ x0 : List (S28))).bind fun y408 => (if y408.length < 2513169434916 then ((some (y408 ++ [(⟨11, (⟨#[]⟩ : ByteArray), (⟨#[]⟩ : ByteArray), 0, 0⟩ : S28)] : List (S28))).bind fun y411 => (if y411.length + x1.length < 2513169434916 then ((impl_TrailerScript.f (y411 ++ x1)).bind fun bt417 => (if bt395.2.2 = true then (if (bt417.2.2 == bt400.2.2) = true then (if bt400.2.1.toList = bt417.2.1.toList then (if (bt417.1.length : Int) = (wrap64 ((wrap64 ((x0.length : Int) + 1)) + (bt400.1.length : Int))) then (if 0 ≤ (x0.length : Int) then (if (x0.length : Int) ≤ (bt417.1.length : Int) then ((laws_sameAnswers.f k bt395.1 (bt417.1.take ((x0.length : Int) : Int).toNat)).bind fun t426 => (if t426 = true then (if 0 ≤ (wrap64 ((x0.length : Int) + 1)) then (if (wrap64 ((x0.length : Int) + 1)) ≤ (bt417.1.length : Int) then ((laws_sameAnswers.f k bt400.1 (bt417.1.drop ((wrap64 ((x0.length : Int) + 1)) : Int).toNat)).bind fun t431 => (some t431)) else (none)) else (none)) else (some false))) else (none)) else (none)) else (some false)) else (some false)) else (some false)) else (if bt417.2.2 = true then (some false) else ((laws_sameAnswers.f k bt395.1 bt417.1).bind fun t432 => (some t432))))) else (none))) else (none))) else (none)))))
end
def laws_FnTrailersAhead.f (k : Nat) (l0 : List (S28)) (l1 : List (S28)) : Option (Bool) := (laws_zzFits3.f k l0).bind fun t382 => (if t382 = true then ((laws_zzFits3.f k l1).bind fun t383 => (laws_FnTrailersAhead.j0 k l0 l1 (!t383))) else (laws_FnTrailersAhead.j0 k l0 l1 true))
set_option maxHeartbeats 8000000 in
set_option maxRecDepth 100000 in
theorem laws_FnTrailersAhead.calls (k : Nat) (A0 : Option Addr) (c0 : Nat) (l0 : List (S28)) (A1 : Option Addr) (c1 : Nat) (l1 : List (S28)) (r : Bool) (w : World) (hr0 : Kd.C k28 w A0 l0.length l0) (hc0 : l0.length ≤ c0) (hr1 : Kd.C k28 w A1 l1.length l1) (hc1 : l1.length ≤ c1) (h : laws_FnTrailersAhead.f k l0 l1 = some r) :
  Calls Try.prog 5 #[.slice A0 l0.length c0, .slice A1 l1.length c1] w fun e w' => e = .returned (.bool r) ∧ Below w.heap.size w w' := by
 have hu28 := Try.underlying28
 have HR0 := Aside0.mk hr0
 have HC0 := Aside0.mk hc0
 clear hr0 hc0
 have HR1 := Aside0.mk hr1
 have HC1 := Aside0.mk hc1
 clear hr1 hc1
 have HB := Aside0.mk (Below.refl w.heap.size w)
 have H : ((laws_zzFits3.f k l0).bind fun t382 => (if t382 = true then ((laws_zzFits3.f k l1).bind fun t383 => (laws_FnTrailersAhead.j0 k l0 l1 (!t383))) else (laws_FnTrailersAhead.j0 k l0 l1 true))) = some r := h
 clear h
 have HC3 := Aside0.mk H
 clear H
 go_enter Try.func5, Try.ntmps5
 go_upto_region 1 with (fail)
 go_cut [24] (fun v24 wc => ∃ (kq : Nat) (x24_2 : Bool), v24 = .bool x24_2 ∧ Aside0 (laws_FnTrailersAhead.j0 kq l0 l1 x24_2 = some r) ∧ Aside0 (kq ≤ k) ∧ Aside0 (Below w.heap.size w wc))
 case first =>
  have H := HC3.out
  clear HC3
  replace H := Option.bind_eq_some_iff.mp H
  obtain ⟨t382, A40, H⟩ := H
  replace H : (if t382 = true then ((laws_zzFits3.f k l1).bind fun t383 => (laws_FnTrailersAhead.j0 k l0 l1 (!t383))) else (laws_FnTrailersAhead.j0 k l0 l1 true)) = some r := H
  have A4 := Aside0.mk A40
  clear A40
  by_cases c5 : t382 = true
  ·subst c5
   have H1 : ((laws_zzFits3.f k l1).bind fun t383 => (laws_FnTrailersAhead.j0 k l0 l1 (!t383))) = some r := by rw [if_pos rfl] at H; exact H
   clear H
   have H := H1
   clear H1
   replace H := Option.bind_eq_some_iff.mp H
   obtain ⟨t383, A60, H⟩ := H
   replace H : (laws_FnTrailersAhead.j0 k l0 l1 (!t383)) = some r := H
   have A6 := Aside0.mk A60
   clear A60
   have H' := Aside0.mk H
   clear H
   go_wp2_with (first | ((with_reducible refine gate_callee (f := 18) rfl ?_); refine goesL_ (some 18) rfl rfl Try.func18 (by kernel_rfl) rfl #[.slice A0 l0.length c0] rfl (by (try simp only [List.map_toArray, List.map_cons, List.map_nil]); first | done | rfl | (simp only [List.length_drop, List.length_take]; rfl)) ?_; (with_reducible refine (laws_zzFits3.calls k _ _ l0 true _ ?side1 ?side2 A4.out).mono ?_); (case side1 => repeat (first | exact (Kd.C_below HR0.out HB.out) | (with_reducible refine Kd.C_alloc ?_ _) | (with_reducible refine Kd.C_drewN ?_ _) | (with_reducible refine Kd.C_drew ?_))); (case side2 => exact HC0.out); rintro e w7 ⟨rfl, hb⟩; refine ⟨_, rfl, ?_⟩; have n0_ := Aside0.mk (below_step (by repeat (first | (with_reducible first | exact HB.out | apply below_alloc | apply pw_below_drewN | apply below_drew1) | exact HB.out)) hb); clear HB; have HB := n0_; clear n0_; (try clear hb); (try clear hb2); (try clear hk); (try clear hi)) | (go_at_call 18; (with_reducible refine (laws_zzFits3.calls k _ _ l1 t383 _ ?side1 ?side2 A6.out).mono ?_); (case side1 => repeat (first | exact (Kd.C_below HR1.out HB.out) | (with_reducible refine Kd.C_alloc ?_ _) | (with_reducible refine Kd.C_drewN ?_ _) | (with_reducible refine Kd.C_drew ?_))); (case side2 => exact HC1.out); rintro e w8 ⟨rfl, hb⟩; have n0_ := Aside0.mk (below_step (by repeat (first | (with_reducible first | exact HB.out | apply below_alloc | apply pw_below_drewN | apply below_drew1) | exact HB.out)) hb); clear HB; have HB := n0_; clear n0_; (try clear hb); (try clear hb2); (try clear hk); (try clear hi)))
   go_meet
   case rel => exact ⟨_, (!t383), (by first | rfl | (simp; done) | (rw [prx_ne]; first | done | rfl) | (simp [*]; done)), H', ⟨by first | omega | exact Nat.le_refl _⟩, ⟨by repeat (first | (with_reducible first | exact HB.out | apply below_alloc | apply pw_below_drewN | apply below_drew1) | exact HB.out)⟩⟩
  ·replace c5 := Bool.eq_false_iff.mpr c5
   subst c5
   have H1 : (laws_FnTrailersAhead.j0 k l0 l1 true) = some r := by rw [if_neg (show ¬ (false = true) by decide)] at H; exact H
   clear H
   have H := H1
   clear H1
   have H' := Aside0.mk H
   clear H
   go_wp2_with (first | ((with_reducible refine gate_callee (f := 18) rfl ?_); refine goesL_ (some 18) rfl rfl Try.func18 (by kernel_rfl) rfl #[.slice A0 l0.length c0] rfl (by (try simp only [List.map_toArray, List.map_cons, List.map_nil]); first | done | rfl | (simp only [List.length_drop, List.length_take]; rfl)) ?_; (with_reducible refine (laws_zzFits3.calls k _ _ l0 false _ ?side1 ?side2 A4.out).mono ?_); (case side1 => repeat (first | exact (Kd.C_below HR0.out HB.out) | (with_reducible refine Kd.C_alloc ?_ _) | (with_reducible refine Kd.C_drewN ?_ _) | (with_reducible refine Kd.C_drew ?_))); (case side2 => exact HC0.out); rintro e w9 ⟨rfl, hb⟩; refine ⟨_, rfl, ?_⟩; have n0_ := Aside0.mk (below_step (by repeat (first | (with_reducible first | exact HB.out | apply below_alloc | apply pw_below_drewN | apply below_drew1) | exact HB.out)) hb); clear HB; have HB := n0_; clear n0_; (try clear hb); (try clear hb2); (try clear hk); (try clear hi)))
   go_meet
   case rel => exact ⟨_, (true), (by first | rfl | (simp; done) | (rw [prx_ne]; first | done | rfl) | (simp [*]; done)), H', ⟨by first | omega | exact Nat.le_refl _⟩, ⟨by repeat (first | (with_reducible first | exact HB.out | apply below_alloc | apply pw_below_drewN | apply below_drew1) | exact HB.out)⟩⟩
 case rest =>
  clear HC3
  try clear c1
  try clear p2
  try clear c5
  obtain ⟨kq, x24_2, rfl, HA, HJ2, HB⟩ := hcut
  cases kq with
  | zero => exact absurd HA.out (by simp [laws_FnTrailersAhead.j0])
  | succ kj2 =>
   have H := HA.out
   clear HA
   simp only [laws_FnTrailersAhead.j0] at H
   by_cases c10 : x24_2 = true
   ·subst c10
    have H1 : (some true) = some r := by rw [if_pos rfl] at H; exact H
    clear H
    have H := H1
    clear H1
    obtain rfl := Option.some.inj H
    go_wp2
    go_ret
    exact ⟨by first | rfl | (simp [errW_none, errW_some] <;> rfl) | (simp [*, errW_none, errW_some] <;> rfl), by repeat (first | (with_reducible first | exact HB.out | apply below_alloc | apply pw_below_drewN | apply below_drew1) | exact HB.out)⟩
   ·replace c10 := Bool.eq_false_iff.mpr c10
    subst c10
    have H1 : ((impl_TrailerScript.f (([(⟨1, (⟨#[120, 45, 97]⟩ : ByteArray), (⟨#[98]⟩ : ByteArray), 0, 0⟩ : S28), (⟨3, (⟨#[88, 45, 65]⟩ : ByteArray), (⟨#[]⟩ : ByteArray), 0, 0⟩ : S28)] : List (S28)))).bind fun bt387 => (if bt387.2.2 = true then (if (bt387.1.length : Int) = 2 then (if 1 < (bt387.1.length : Int) then (laws_FnTrailersAhead.j1 kj2 l0 l1 (((rd_T32 bt387.1 1).f0).toList != ([98] : List UInt8))) else (none)) else (laws_FnTrailersAhead.j1 kj2 l0 l1 true)) else (laws_FnTrailersAhead.j1 kj2 l0 l1 true))) = some r := by rw [if_neg (show ¬ (false = true) by decide)] at H; exact H
    clear H
    have H := H1
    clear H1
    obtain ⟨y384, hy384⟩ : ∃ y_ : List (S28), y_ = (([(⟨1, (⟨#[120, 45, 97]⟩ : ByteArray), (⟨#[98]⟩ : ByteArray), 0, 0⟩ : S28), (⟨3, (⟨#[88, 45, 65]⟩ : ByteArray), (⟨#[]⟩ : ByteArray), 0, 0⟩ : S28)] : List (S28))) := ⟨_, rfl⟩
    replace H : ((impl_TrailerScript.f y384).bind fun bt387 => (if bt387.2.2 = true then (if (bt387.1.length : Int) = 2 then (if 1 < (bt387.1.length : Int) then (laws_FnTrailersAhead.j1 kj2 l0 l1 (((rd_T32 bt387.1 1).f0).toList != ([98] : List UInt8))) else (none)) else (laws_FnTrailersAhead.j1 kj2 l0 l1 true)) else (laws_FnTrailersAhead.j1 kj2 l0 l1 true))) = some r := by first | (rw [hy384]; with_reducible exact H) | (have H2_ := (Option.bind_some _ _).symm.trans H; rw [hy384]; with_reducible exact H2_) | (have H2_ := (Option.bind_some _ _).symm.trans H; with_reducible exact H2_) | with_reducible exact H | (rw [hy384]; exact H) | exact H
    have Ny384 := Aside0.mk hy384
    clear hy384
    replace H := Option.bind_eq_some_iff.mp H
    obtain ⟨⟨t387, t388, t389⟩, A110, H⟩ := H
    replace H : (if t389 = true then (if (t387.length : Int) = 2 then (if 1 < (t387.length : Int) then (laws_FnTrailersAhead.j1 kj2 l0 l1 (((rd_T32 t387 1).f0).toList != ([98] : List UInt8))) else (none)) else (laws_FnTrailersAhead.j1 kj2 l0 l1 true)) else (laws_FnTrailersAhead.j1 kj2 l0 l1 true)) = some r := H
    have A11 := Aside0.mk A110
    clear A110
    have HC12 := Aside0.mk H
    clear H
    go_upto_region 4 with (first | ((with_reducible refine gate_dst (N := 28) rfl ?_); (try (refine gate_guard (by rfl) ?_; dsimp only)); refine Kd.R_lit k28 _ 28 ?hg (N := 28) ?hd (xs := ([(⟨1, (⟨#[120, 45, 97]⟩ : ByteArray), (⟨#[98]⟩ : ByteArray), 0, 0⟩ : S28), (⟨3, (⟨#[88, 45, 65]⟩ : ByteArray), (⟨#[]⟩ : ByteArray), 0, 0⟩ : S28)] : List (S28))) (inner := [.int .i64 1, .string (⟨#[120, 45, 97]⟩ : ByteArray), .string (⟨#[98]⟩ : ByteArray), .int .i64 0, .int .i64 0, .int .i64 3, .string (⟨#[88, 45, 65]⟩ : ByteArray), .string (⟨#[]⟩ : ByteArray), .int .i64 0, .int .i64 0]) (ok := fun _ => True) (okp := fun _ => True) ?hr ?hp (fun _ hk => hk) trivial (Below.refl _ _) (Nat.le_refl _) (by simp) ?_; (case hd => rfl); (case hg => rfl); (case hr => first | (go_simp; done) | (go_simp; rfl)); (case hp => exact (Reps.c5 (show Kd.M k28 _ _ _ (⟨1, (⟨#[120, 45, 97]⟩ : ByteArray), (⟨#[98]⟩ : ByteArray), 0, 0⟩ : S28) [.int .i64 1, .string (⟨#[120, 45, 97]⟩ : ByteArray), .string (⟨#[98]⟩ : ByteArray), .int .i64 0, .int .i64 0] from (k28_mkM _ _ _ (⟨1, (⟨#[120, 45, 97]⟩ : ByteArray), (⟨#[98]⟩ : ByteArray), 0, 0⟩ : S28) )) (Reps.c5 (show Kd.M k28 _ _ _ (⟨3, (⟨#[88, 45, 65]⟩ : ByteArray), (⟨#[]⟩ : ByteArray), 0, 0⟩ : S28) [.int .i64 3, .string (⟨#[88, 45, 65]⟩ : ByteArray), .string (⟨#[]⟩ : ByteArray), .int .i64 0, .int .i64 0] from (k28_mkM _ _ _ (⟨3, (⟨#[88, 45, 65]⟩ : ByteArray), (⟨#[]⟩ : ByteArray), 0, 0⟩ : S28) )) (Reps.none _ _)))); intro v385 w13 ho14 hb hg_ hnew_; clear hg_ hnew_; (first | rw [← Ny384.out] at ho14 | (simp only [Int.reduceToNat] at ho14; rw [← Ny384.out] at ho14)); have n0_ := Aside0.mk (Kd.R_lower ho14 (below_size (by repeat (first | (with_reducible first | exact HB.out | apply below_alloc | apply pw_below_drewN | apply below_drew1) | exact HB.out)))); have n1_ := Aside0.mk (below_step (by repeat (first | (with_reducible first | exact HB.out | apply below_alloc | apply pw_below_drewN | apply below_drew1) | exact HB.out)) hb); clear HB; have HO386 := n0_; have HB := n1_; clear n0_ n1_; clear hb ho14; obtain ⟨Ao15, co15, eo15⟩ := Kd.R_slice HO386.out; subst eo15) | ((with_reducible refine gate_callee (f := 9) rfl ?_); refine goesL_ (some 29) rfl rfl Try.func9 (by kernel_rfl) rfl #[.slice Ao15 y384.length co15] rfl (by (try simp only [List.map_toArray, List.map_cons, List.map_nil]); first | done | rfl | (simp only [List.length_drop, List.length_take]; rfl)) ?_; (with_reducible refine (impl_TrailerScript.calls _ _ y384 t387 t388 t389 _ ?side1 ?side2 A11.out).mono ?_); (case side1 => repeat (first | exact (Kd.R_reads' HO386.out).2.2 | (with_reducible refine Kd.C_alloc ?_ _) | (with_reducible refine Kd.C_drewN ?_ _) | (with_reducible refine Kd.C_drew ?_))); (case side2 => exact (Kd.R_reads' HO386.out).2.1); rintro e w16 ⟨v390, rfl, ho0, hb⟩; refine ⟨_, rfl, ?_⟩; have n0_ := Aside0.mk (Kd.R_below (by (with_reducible repeat (first | apply Kd.R_alloc | apply Kd.R_drewN | apply Kd.R_drew)); exact HO386.out) hb); have n1_ := Aside0.mk (Kd.S_lower ho0 (below_size (by repeat (first | (with_reducible first | exact HB.out | apply below_alloc | apply pw_below_drewN | apply below_drew1) | exact HB.out)))); have n2_ := Aside0.mk (below_step (by repeat (first | (with_reducible first | exact HB.out | apply below_alloc | apply pw_below_drewN | apply below_drew1) | exact HB.out)) hb); clear HO386; clear HB; have HO386 := n0_; have HO391 := n1_; have HB := n2_; clear n0_ n1_ n2_; (try clear hb); (try clear hb2); (try clear hk); (try clear hi); (try clear ho0)))
    (try simp only [Act.put, List.setIfInBounds_toArray, List.set_cons_zero, List.set_cons_succ])
    go_cut [46] (fun v46 wc => ∃ (kq : Nat) (x46_11 : Bool), v46 = .bool x46_11 ∧ Aside0 (laws_FnTrailersAhead.j1 kq l0 l1 x46_11 = some r) ∧ Aside0 (kq ≤ kj2) ∧ Aside0 (Below w.heap.size w wc))
    case first =>
     have H := HC12.out
     clear HC12
     by_cases c17 : t389 = true
     ·subst c17
      have H1 : (if (t387.length : Int) = 2 then (if 1 < (t387.length : Int) then (laws_FnTrailersAhead.j1 kj2 l0 l1 (((rd_T32 t387 1).f0).toList != ([98] : List UInt8))) else (none)) else (laws_FnTrailersAhead.j1 kj2 l0 l1 true)) = some r := by rw [if_pos rfl] at H; exact H
      clear H
      have H := H1
      clear H1
      by_cases c18 : (t387.length : Int) = 2
      ·rw [if_pos c18] at H
       have c18b0 : ((t387.length : Int) == 2) = true := beq_iff_eq.mpr c18
       have c18b1 : ((t387.length : Int) != 2) = false := bne_eq_false_iff_eq.mpr c18
       clear c18
       (first | rw [c18b0] | (simp only [i64_w, i32_w]; rw [c18b0]) | skip)
       by_cases c19 : 1 < (t387.length : Int)
       ·rw [if_pos c19] at H
        have c19b0 : decide (1 < (t387.length : Int)) = true := decide_eq_true c19
        have c19b1 : decide (1 < t387.length) = true := decide_eq_true (by omega)
        clear c19
        have H' := Aside0.mk H
        clear H
        obtain ⟨Ao20, co20, eo20⟩ := Kd.S_slice HO391.out
        subst eo20
        have p392 : 0 ≤ (1 : Int) := (by omega)
        have q392 : 1 < (t387.length : Int) := of_decide_eq_true (by first | (with_reducible assumption) | assumption)
        obtain ⟨ad392, A392_3, c392_3, A392_4, c392_4, e392, hx392_0, hx392_1, hx392_2, hx392_3, hx392_4, hl392_3, hi392_3, hl392_4, hi392_4⟩ := at_T32 (Kd.S_reads' HO391.out).2.2 1 p392 q392
        cases e392
        obtain ⟨ce392, hce392, hMe392, hcc392⟩ := Kd.S_get HO391.out z32 1 p392 (by first | exact q392 | exact of_decide_eq_true (by first | (with_reducible assumption) | assumption) | (have e_ := (Kd.S_reads' HO391.out).1; omega))
        obtain ⟨ve392_3, ve392_4, rfl, ge392_3, ge392_4⟩ := k32_openM hMe392
        have hv392_3 := hcc392 3 _ rfl
        rw [add_field _ _ 3 (by omega)] at hv392_3
        replace hv392_3 := Option.some.inj (hv392_3.symm.trans hx392_3)
        rw [hv392_3] at ge392_3
        have HL392_3 := Aside0.mk (show Kd.R Kd.string 9 _ _ _ _ ((rd_T32 t387 1).f3) from ge392_3)
        clear hv392_3 ge392_3
        have hv392_4 := hcc392 4 _ rfl
        rw [add_field _ _ 4 (by omega)] at hv392_4
        replace hv392_4 := Option.some.inj (hv392_4.symm.trans hx392_4)
        rw [hv392_4] at ge392_4
        have HL392_4 := Aside0.mk (show Kd.R k34 34 _ _ _ _ ((rd_T32 t387 1).f4) from ge392_4)
        clear hv392_4 ge392_4
        clear hcc392 hce392
        (try simp only [show (1 : Int).toNat = 1 from rfl, Nat.reduceMul, Nat.reduceEqDiff, Go.Addr.add, ↓reduceIte] at hx392_0)
        (try simp only [show (1 : Int).toNat = 1 from rfl, Nat.reduceMul, Nat.reduceEqDiff, Go.Addr.add, ↓reduceIte] at hx392_1)
        (try simp only [show (1 : Int).toNat = 1 from rfl, Nat.reduceMul, Nat.reduceEqDiff, Go.Addr.add, ↓reduceIte] at hx392_2)
        (try simp only [show (1 : Int).toNat = 1 from rfl, Nat.reduceMul, Nat.reduceEqDiff, Go.Addr.add, ↓reduceIte] at hx392_3)
        (try simp only [show (1 : Int).toNat = 1 from rfl, Nat.reduceMul, Nat.reduceEqDiff, Go.Addr.add, ↓reduceIte] at hx392_4)
        have qi392 : (1 < t387.length) = True := eq_true (by omega)
        (try rw [show ((1 : Int)).toNat = 1 from rfl] at hx392_0)
        (try rw [show 1 * 5 = 5 from rfl] at hx392_0)
        (try rw [show ((1 : Int)).toNat = 1 from rfl] at hx392_1)
        (try rw [show 1 * 5 = 5 from rfl] at hx392_1)
        (try rw [show ((1 : Int)).toNat = 1 from rfl] at hx392_2)
        (try rw [show 1 * 5 = 5 from rfl] at hx392_2)
        (try rw [show ((1 : Int)).toNat = 1 from rfl] at hx392_3)
        (try rw [show 1 * 5 = 5 from rfl] at hx392_3)
        (try rw [show ((1 : Int)).toNat = 1 from rfl] at hx392_4)
        (try rw [show 1 * 5 = 5 from rfl] at hx392_4)
        have HR392_3 := Aside0.mk hi392_3
        have HC392_3 := Aside0.mk hl392_3
        clear hi392_3 hl392_3
        have HR392_4 := Aside0.mk hi392_4
        have HC392_4 := Aside0.mk hl392_4
        clear hi392_4 hl392_4
        replace p392 := eq_true p392
        replace q392 := eq_true q392
        go_wp2
        go_meet
        case rel => exact ⟨_, ((((rd_T32 t387 1).f0).toList != ([98] : List UInt8))), (by first | rfl | (simp; done) | (rw [prx_ne]; first | done | rfl) | (simp [*]; done)), H', ⟨by have := HJ2.out; first | omega | exact Nat.le_refl _⟩, ⟨by repeat (first | (with_reducible first | exact HB.out | apply below_alloc | apply pw_below_drewN | apply below_drew1) | exact HB.out)⟩⟩
       ·rw [if_neg c19] at H
        exact absurd H (by simp)
      ·rw [if_neg c18] at H
       have c18b0 : ((t387.length : Int) == 2) = false := beq_eq_false_iff_ne.mpr c18
       have c18b1 : ((t387.length : Int) != 2) = true := bne_iff_ne.mpr c18
       (first | rw [c18b0] | (simp only [i64_w, i32_w]; rw [c18b0]) | skip)
       have H' := Aside0.mk H
       clear H
       obtain ⟨Ao21, co21, eo21⟩ := Kd.S_slice HO391.out
       subst eo21
       go_wp2
       go_meet
       case rel => exact ⟨_, (true), (by first | rfl | (simp; done) | (rw [prx_ne]; first | done | rfl) | (simp [*]; done)), H', ⟨by have := HJ2.out; first | omega | exact Nat.le_refl _⟩, ⟨by repeat (first | (with_reducible first | exact HB.out | apply below_alloc | apply pw_below_drewN | apply below_drew1) | exact HB.out)⟩⟩
     ·replace c17 := Bool.eq_false_iff.mpr c17
      subst c17
      have H1 : (laws_FnTrailersAhead.j1 kj2 l0 l1 true) = some r := by rw [if_neg (show ¬ (false = true) by decide)] at H; exact H
      clear H
      have H := H1
      clear H1
      have H' := Aside0.mk H
      clear H
      go_wp2
      go_meet
      case rel => exact ⟨_, (true), (by first | rfl | (simp; done) | (rw [prx_ne]; first | done | rfl) | (simp [*]; done)), H', ⟨by have := HJ2.out; first | omega | exact Nat.le_refl _⟩, ⟨by repeat (first | (with_reducible first | exact HB.out | apply below_alloc | apply pw_below_drewN | apply below_drew1) | exact HB.out)⟩⟩
    case rest =>
     clear HC12
     try clear c1
     try clear p2
     try clear c3
     try clear p3
     try clear q3
     try clear hx3
     try clear qi3
     try clear c5
     try clear c9
     try clear c10
     try clear c17
     try clear c18
     try clear c18b0
     try clear c18b1
     try clear c19
     try clear c19b0
     try clear c19b1
     try clear hx392_0
     try clear hx392_1
     try clear hx392_2
     try clear hx392_3
     try clear hx392_4
     try clear p2
     try clear p392
     try clear q392
     obtain ⟨kq, x46_11, rfl, HA, HJ11, HB⟩ := hcut
     cases kq with
     | zero => exact absurd HA.out (by simp [laws_FnTrailersAhead.j1])
     | succ kj11 =>
      have H := HA.out
      clear HA
      simp only [laws_FnTrailersAhead.j1] at H
      by_cases c22 : x46_11 = true
      ·subst c22
       have H1 : (some false) = some r := by rw [if_pos rfl] at H; exact H
       clear H
       have H := H1
       clear H1
       obtain rfl := Option.some.inj H
       go_wp2
       go_ret
       exact ⟨by first | rfl | (simp [errW_none, errW_some] <;> rfl) | (simp [*, errW_none, errW_some] <;> rfl), by repeat (first | (with_reducible first | exact HB.out | apply below_alloc | apply pw_below_drewN | apply below_drew1) | exact HB.out)⟩
      ·replace c22 := Bool.eq_false_iff.mpr c22
       subst c22
       have H1 : ((laws_calm.f kj11 l0).bind fun t393 => (if t393 = true then ((laws_calm.f kj11 l1).bind fun t394 => (laws_FnTrailersAhead.j2 kj11 l0 l1 (!t394))) else (laws_FnTrailersAhead.j2 kj11 l0 l1 true))) = some r := by rw [if_neg (show ¬ (false = true) by decide)] at H; exact H
       clear H
       have H := H1
       clear H1
       have HC23 := Aside0.mk H
       clear H
       go_upto_region 6 with (fail)
       go_cut [54] (fun v54 wc => ∃ (kq : Nat) (x54_22 : Bool), v54 = .bool x54_22 ∧ Aside0 (laws_FnTrailersAhead.j2 kq l0 l1 x54_22 = some r) ∧ Aside0 (kq ≤ kj11) ∧ Aside0 (Below w.heap.size w wc))
       case first =>
        have H := HC23.out
        clear HC23
        replace H := Option.bind_eq_some_iff.mp H
        obtain ⟨t393, A240, H⟩ := H
        replace H : (if t393 = true then ((laws_calm.f kj11 l1).bind fun t394 => (laws_FnTrailersAhead.j2 kj11 l0 l1 (!t394))) else (laws_FnTrailersAhead.j2 kj11 l0 l1 true)) = some r := H
        have A24 := Aside0.mk A240
        clear A240
        by_cases c25 : t393 = true
        ·subst c25
         have H1 : ((laws_calm.f kj11 l1).bind fun t394 => (laws_FnTrailersAhead.j2 kj11 l0 l1 (!t394))) = some r := by rw [if_pos rfl] at H; exact H
         clear H
         have H := H1
         clear H1
         replace H := Option.bind_eq_some_iff.mp H
         obtain ⟨t394, A260, H⟩ := H
         replace H : (laws_FnTrailersAhead.j2 kj11 l0 l1 (!t394)) = some r := H
         have A26 := Aside0.mk A260
         clear A260
         have H' := Aside0.mk H
         clear H
         go_wp2_with (first | ((with_reducible refine gate_callee (f := 19) rfl ?_); refine goesL_ (some 48) rfl rfl Try.func19 (by kernel_rfl) rfl #[.slice A0 l0.length c0] rfl (by (try simp only [List.map_toArray, List.map_cons, List.map_nil]); first | done | rfl | (simp only [List.length_drop, List.length_take]; rfl)) ?_; (with_reducible refine (laws_calm.calls kj11 _ _ l0 true _ ?side1 ?side2 A24.out).mono ?_); (case side1 => repeat (first | exact (Kd.C_below HR0.out HB.out) | (with_reducible refine Kd.C_alloc ?_ _) | (with_reducible refine Kd.C_drewN ?_ _) | (with_reducible refine Kd.C_drew ?_))); (case side2 => exact HC0.out); rintro e w27 ⟨rfl, hb⟩; refine ⟨_, rfl, ?_⟩; have n0_ := Aside0.mk (below_step (by repeat (first | (with_reducible first | exact HB.out | apply below_alloc | apply pw_below_drewN | apply below_drew1) | exact HB.out)) hb); clear HB; have HB := n0_; clear n0_; (try clear hb); (try clear hb2); (try clear hk); (try clear hi)) | (go_at_call 19; (with_reducible refine (laws_calm.calls kj11 _ _ l1 t394 _ ?side1 ?side2 A26.out).mono ?_); (case side1 => repeat (first | exact (Kd.C_below HR1.out HB.out) | (with_reducible refine Kd.C_alloc ?_ _) | (with_reducible refine Kd.C_drewN ?_ _) | (with_reducible refine Kd.C_drew ?_))); (case side2 => exact HC1.out); rintro e w28 ⟨rfl, hb⟩; have n0_ := Aside0.mk (below_step (by repeat (first | (with_reducible first | exact HB.out | apply below_alloc | apply pw_below_drewN | apply below_drew1) | exact HB.out)) hb); clear HB; have HB := n0_; clear n0_; (try clear hb); (try clear hb2); (try clear hk); (try clear hi)))
         go_meet
         case rel => exact ⟨_, (!t394), (by first | rfl | (simp; done) | (rw [prx_ne]; first | done | rfl) | (simp [*]; done)), H', ⟨by have := HJ2.out; have := HJ11.out; first | omega | exact Nat.le_refl _⟩, ⟨by repeat (first | (with_reducible first | exact HB.out | apply below_alloc | apply pw_below_drewN | apply below_drew1) | exact HB.out)⟩⟩
        ·replace c25 := Bool.eq_false_iff.mpr c25
         subst c25
         have H1 : (laws_FnTrailersAhead.j2 kj11 l0 l1 true) = some r := by rw [if_neg (show ¬ (false = true) by decide)] at H; exact H
         clear H
         have H := H1
         clear H1
         have H' := Aside0.mk H
         clear H
         go_wp2_with (first | ((with_reducible refine gate_callee (f := 19) rfl ?_); refine goesL_ (some 48) rfl rfl Try.func19 (by kernel_rfl) rfl #[.slice A0 l0.length c0] rfl (by (try simp only [List.map_toArray, List.map_cons, List.map_nil]); first | done | rfl | (simp only [List.length_drop, List.length_take]; rfl)) ?_; (with_reducible refine (laws_calm.calls kj11 _ _ l0 false _ ?side1 ?side2 A24.out).mono ?_); (case side1 => repeat (first | exact (Kd.C_below HR0.out HB.out) | (with_reducible refine Kd.C_alloc ?_ _) | (with_reducible refine Kd.C_drewN ?_ _) | (with_reducible refine Kd.C_drew ?_))); (case side2 => exact HC0.out); rintro e w29 ⟨rfl, hb⟩; refine ⟨_, rfl, ?_⟩; have n0_ := Aside0.mk (below_step (by repeat (first | (with_reducible first | exact HB.out | apply below_alloc | apply pw_below_drewN | apply below_drew1) | exact HB.out)) hb); clear HB; have HB := n0_; clear n0_; (try clear hb); (try clear hb2); (try clear hk); (try clear hi)))
         go_meet
         case rel => exact ⟨_, (true), (by first | rfl | (simp; done) | (rw [prx_ne]; first | done | rfl) | (simp [*]; done)), H', ⟨by have := HJ2.out; have := HJ11.out; first | omega | exact Nat.le_refl _⟩, ⟨by repeat (first | (with_reducible first | exact HB.out | apply below_alloc | apply pw_below_drewN | apply below_drew1) | exact HB.out)⟩⟩
       case rest =>
        clear HC23
        try clear c1
        try clear c2
        try clear p2
        try clear c3
        try clear p3
        try clear q3
        try clear hx3
        try clear qi3
        try clear c5
        try clear c9
        try clear c10
        try clear c17
        try clear c18
        try clear c18b0
        try clear c18b1
        try clear c19
        try clear c19b0
        try clear c19b1
        try clear c22
        try clear c25
        try clear hx392_0
        try clear hx392_1
        try clear hx392_2
        try clear hx392_3
        try clear hx392_4
        try clear p2
        try clear p3
        try clear p392
        try clear q3
        try clear q392
        obtain ⟨kq, x54_22, rfl, HA, HJ22, HB⟩ := hcut
        cases kq with
        | zero => exact absurd HA.out (by simp [laws_FnTrailersAhead.j2])
        | succ kj22 =>
         have H := HA.out
         clear HA
         simp only [laws_FnTrailersAhead.j2] at H
         by_cases c30 : x54_22 = true
         ·subst c30
          have H1 : (some true) = some r := by rw [if_pos rfl] at H; exact H
          clear H
          have H := H1
          clear H1
          obtain rfl := Option.some.inj H
          go_wp2
          go_ret
          exact ⟨by first | rfl | (simp [errW_none, errW_some] <;> rfl) | (simp [*, errW_none, errW_some] <;> rfl), by repeat (first | (with_reducible first | exact HB.out | apply below_alloc | apply pw_below_drewN | apply below_drew1) | exact HB.out)⟩
         ·replace c30 := Bool.eq_false_iff.mpr c30
          subst c30
          have H1 : ((impl_TrailerScript.f l0).bind fun bt395 => ((impl_TrailerScript.f l1).bind fun bt400 => ((some (([] : List (S28)) : List (S28))).bind fun y405 => (if y405.length + l0.length < 2513169434916 then ((some (y405 ++ l0 : List (S28))).bind fun y408 => (if y408.length < 2513169434916 then ((some (y408 ++ [(⟨11, (⟨#[]⟩ : ByteArray), (⟨#[]⟩ : ByteArray), 0, 0⟩ : S28)] : List (S28))).bind fun y411 => (if y411.length + l1.length < 2513169434916 then ((impl_TrailerScript.f (y411 ++ l1)).bind fun bt417 => (if bt395.2.2 = true then (if (bt417.2.2 == bt400.2.2) = true then (if bt400.2.1.toList = bt417.2.1.toList then (if (bt417.1.length : Int) = (wrap64 ((wrap64 ((l0.length : Int) + 1)) + (bt400.1.length : Int))) then (if 0 ≤ (l0.length : Int) then (if (l0.length : Int) ≤ (bt417.1.length : Int) then ((laws_sameAnswers.f kj22 bt395.1 (bt417.1.take ((l0.length : Int) : Int).toNat)).bind fun t426 => (if t426 = true then (if 0 ≤ (wrap64 ((l0.length : Int) + 1)) then (if (wrap64 ((l0.length : Int) + 1)) ≤ (bt417.1.length : Int) then ((laws_sameAnswers.f kj22 bt400.1 (bt417.1.drop ((wrap64 ((l0.length : Int) + 1)) : Int).toNat)).bind fun t431 => (some t431)) else (none)) else (none)) else (some false))) else (none)) else (none)) else (some false)) else (some false)) else (some false)) else (if bt417.2.2 = true then (some false) else ((laws_sameAnswers.f kj22 bt395.1 bt417.1).bind fun t432 => (some t432))))) else (none))) else (none))) else (none))))) = some r := by rw [if_neg (show ¬ (false = true) by decide)] at H; exact H
          clear H
          have H := H1
          clear H1
          replace H := Option.bind_eq_some_iff.mp H
          obtain ⟨⟨t395, t396, t397⟩, A310, H⟩ := H
          replace H : ((impl_TrailerScript.f l1).bind fun bt400 => ((some (([] : List (S28)) : List (S28))).bind fun y405 => (if y405.length + l0.length < 2513169434916 then ((some (y405 ++ l0 : List (S28))).bind fun y408 => (if y408.length < 2513169434916 then ((some (y408 ++ [(⟨11, (⟨#[]⟩ : ByteArray), (⟨#[]⟩ : ByteArray), 0, 0⟩ : S28)] : List (S28))).bind fun y411 => (if y411.length + l1.length < 2513169434916 then ((impl_TrailerScript.f (y411 ++ l1)).bind fun bt417 => (if t397 = true then (if (bt417.2.2 == bt400.2.2) = true then (if bt400.2.1.toList = bt417.2.1.toList then (if (bt417.1.length : Int) = (wrap64 ((wrap64 ((l0.length : Int) + 1)) + (bt400.1.length : Int))) then (if 0 ≤ (l0.length : Int) then (if (l0.length : Int) ≤ (bt417.1.length : Int) then ((laws_sameAnswers.f kj22 t395 (bt417.1.take ((l0.length : Int) : Int).toNat)).bind fun t426 => (if t426 = true then (if 0 ≤ (wrap64 ((l0.length : Int) + 1)) then (if (wrap64 ((l0.length : Int) + 1)) ≤ (bt417.1.length : Int) then ((laws_sameAnswers.f kj22 bt400.1 (bt417.1.drop ((wrap64 ((l0.length : Int) + 1)) : Int).toNat)).bind fun t431 => (some t431)) else (none)) else (none)) else (some false))) else (none)) else (none)) else (some false)) else (some false)) else (some false)) else (if bt417.2.2 = true then (some false) else ((laws_sameAnswers.f kj22 t395 bt417.1).bind fun t432 => (some t432))))) else (none))) else (none))) else (none)))) = some r := H
          have A31 := Aside0.mk A310
          clear A310
          replace H := Option.bind_eq_some_iff.mp H
          obtain ⟨⟨t400, t401, t402⟩, A320, H⟩ := H
          replace H : ((some (([] : List (S28)) : List (S28))).bind fun y405 => (if y405.length + l0.length < 2513169434916 then ((some (y405 ++ l0 : List (S28))).bind fun y408 => (if y408.length < 2513169434916 then ((some (y408 ++ [(⟨11, (⟨#[]⟩ : ByteArray), (⟨#[]⟩ : ByteArray), 0, 0⟩ : S28)] : List (S28))).bind fun y411 => (if y411.length + l1.length < 2513169434916 then ((impl_TrailerScript.f (y411 ++ l1)).bind fun bt417 => (if t397 = true then (if (bt417.2.2 == t402) = true then (if t401.toList = bt417.2.1.toList then (if (bt417.1.length : Int) = (wrap64 ((wrap64 ((l0.length : Int) + 1)) + (t400.length : Int))) then (if 0 ≤ (l0.length : Int) then (if (l0.length : Int) ≤ (bt417.1.length : Int) then ((laws_sameAnswers.f kj22 t395 (bt417.1.take ((l0.length : Int) : Int).toNat)).bind fun t426 => (if t426 = true then (if 0 ≤ (wrap64 ((l0.length : Int) + 1)) then (if (wrap64 ((l0.length : Int) + 1)) ≤ (bt417.1.length : Int) then ((laws_sameAnswers.f kj22 t400 (bt417.1.drop ((wrap64 ((l0.length : Int) + 1)) : Int).toNat)).bind fun t431 => (some t431)) else (none)) else (none)) else (some false))) else (none)) else (none)) else (some false)) else (some false)) else (some false)) else (if bt417.2.2 = true then (some false) else ((laws_sameAnswers.f kj22 t395 bt417.1).bind fun t432 => (some t432))))) else (none))) else (none))) else (none))) = some r := H
          have A32 := Aside0.mk A320
          clear A320
          obtain ⟨y405, hy405⟩ : ∃ y_ : List (S28), y_ = (([] : List (S28))) := ⟨_, rfl⟩
          replace H : (if y405.length + l0.length < 2513169434916 then ((some (y405 ++ l0 : List (S28))).bind fun y408 => (if y408.length < 2513169434916 then ((some (y408 ++ [(⟨11, (⟨#[]⟩ : ByteArray), (⟨#[]⟩ : ByteArray), 0, 0⟩ : S28)] : List (S28))).bind fun y411 => (if y411.length + l1.length < 2513169434916 then ((impl_TrailerScript.f (y411 ++ l1)).bind fun bt417 => (if t397 = true then (if (bt417.2.2 == t402) = true then (if t401.toList = bt417.2.1.toList then (if (bt417.1.length : Int) = (wrap64 ((wrap64 ((l0.length : Int) + 1)) + (t400.length : Int))) then (if 0 ≤ (l0.length : Int) then (if (l0.length : Int) ≤ (bt417.1.length : Int) then ((laws_sameAnswers.f kj22 t395 (bt417.1.take ((l0.length : Int) : Int).toNat)).bind fun t426 => (if t426 = true then (if 0 ≤ (wrap64 ((l0.length : Int) + 1)) then (if (wrap64 ((l0.length : Int) + 1)) ≤ (bt417.1.length : Int) then ((laws_sameAnswers.f kj22 t400 (bt417.1.drop ((wrap64 ((l0.length : Int) + 1)) : Int).toNat)).bind fun t431 => (some t431)) else (none)) else (none)) else (some false))) else (none)) else (none)) else (some false)) else (some false)) else (some false)) else (if bt417.2.2 = true then (some false) else ((laws_sameAnswers.f kj22 t395 bt417.1).bind fun t432 => (some t432))))) else (none))) else (none))) else (none)) = some r := by first | (rw [hy405]; with_reducible exact H) | (have H2_ := (Option.bind_some _ _).symm.trans H; rw [hy405]; with_reducible exact H2_) | (have H2_ := (Option.bind_some _ _).symm.trans H; with_reducible exact H2_) | with_reducible exact H | (rw [hy405]; exact H) | exact H
          have Ny405 := Aside0.mk hy405
          clear hy405
          by_cases c33 : y405.length + l0.length < 2513169434916
          ·rw [if_pos c33] at H
           have LMc33 := Aside0.mk c33
           clear c33
           obtain ⟨y408, hy408⟩ : ∃ y_ : List (S28), y_ = (y405 ++ l0) := ⟨_, rfl⟩
           replace H : (if y408.length < 2513169434916 then ((some (y408 ++ [(⟨11, (⟨#[]⟩ : ByteArray), (⟨#[]⟩ : ByteArray), 0, 0⟩ : S28)] : List (S28))).bind fun y411 => (if y411.length + l1.length < 2513169434916 then ((impl_TrailerScript.f (y411 ++ l1)).bind fun bt417 => (if t397 = true then (if (bt417.2.2 == t402) = true then (if t401.toList = bt417.2.1.toList then (if (bt417.1.length : Int) = (wrap64 ((wrap64 ((l0.length : Int) + 1)) + (t400.length : Int))) then (if 0 ≤ (l0.length : Int) then (if (l0.length : Int) ≤ (bt417.1.length : Int) then ((laws_sameAnswers.f kj22 t395 (bt417.1.take ((l0.length : Int) : Int).toNat)).bind fun t426 => (if t426 = true then (if 0 ≤ (wrap64 ((l0.length : Int) + 1)) then (if (wrap64 ((l0.length : Int) + 1)) ≤ (bt417.1.length : Int) then ((laws_sameAnswers.f kj22 t400 (bt417.1.drop ((wrap64 ((l0.length : Int) + 1)) : Int).toNat)).bind fun t431 => (some t431)) else (none)) else (none)) else (some false))) else (none)) else (none)) else (some false)) else (some false)) else (some false)) else (if bt417.2.2 = true then (some false) else ((laws_sameAnswers.f kj22 t395 bt417.1).bind fun t432 => (some t432))))) else (none))) else (none)) = some r := by first | (rw [hy408]; with_reducible exact H) | (have H2_ := (Option.bind_some _ _).symm.trans H; rw [hy408]; with_reducible exact H2_) | (have H2_ := (Option.bind_some _ _).symm.trans H; with_reducible exact H2_) | with_reducible exact H | (rw [hy408]; exact H) | exact H
           have Ny408 := Aside0.mk hy408
           clear hy408
           by_cases c34 : y408.length < 2513169434916
           ·rw [if_pos c34] at H
            have LMc34 := Aside0.mk c34
            clear c34
            obtain ⟨y411, hy411⟩ : ∃ y_ : List (S28), y_ = (y408 ++ [(⟨11, (⟨#[]⟩ : ByteArray), (⟨#[]⟩ : ByteArray), 0, 0⟩ : S28)]) := ⟨_, rfl⟩
            replace H : (if y411.length + l1.length < 2513169434916 then ((impl_TrailerScript.f (y411 ++ l1)).bind fun bt417 => (if t397 = true then (if (bt417.2.2 == t402) = true then (if t401.toList = bt417.2.1.toList then (if (bt417.1.length : Int) = (wrap64 ((wrap64 ((l0.length : Int) + 1)) + (t400.length : Int))) then (if 0 ≤ (l0.length : Int) then (if (l0.length : Int) ≤ (bt417.1.length : Int) then ((laws_sameAnswers.f kj22 t395 (bt417.1.take ((l0.length : Int) : Int).toNat)).bind fun t426 => (if t426 = true then (if 0 ≤ (wrap64 ((l0.length : Int) + 1)) then (if (wrap64 ((l0.length : Int) + 1)) ≤ (bt417.1.length : Int) then ((laws_sameAnswers.f kj22 t400 (bt417.1.drop ((wrap64 ((l0.length : Int) + 1)) : Int).toNat)).bind fun t431 => (some t431)) else (none)) else (none)) else (some false))) else (none)) else (none)) else (some false)) else (some false)) else (some false)) else (if bt417.2.2 = true then (some false) else ((laws_sameAnswers.f kj22 t395 bt417.1).bind fun t432 => (some t432))))) else (none)) = some r := by first | (rw [hy411]; with_reducible exact H) | (have H2_ := (Option.bind_some _ _).symm.trans H; rw [hy411]; with_reducible exact H2_) | (have H2_ := (Option.bind_some _ _).symm.trans H; with_reducible exact H2_) | with_reducible exact H | (rw [hy411]; exact H) | exact H
            have Ny411 := Aside0.mk hy411
            clear hy411
            by_cases c35 : y411.length + l1.length < 2513169434916
            ·rw [if_pos c35] at H
             have LMc35 := Aside0.mk c35
             clear c35
             obtain ⟨y414, hy414⟩ : ∃ y_ : List (S28), y_ = (y411 ++ l1) := ⟨_, rfl⟩
             replace H : ((impl_TrailerScript.f y414).bind fun bt417 => (if t397 = true then (if (bt417.2.2 == t402) = true then (if t401.toList = bt417.2.1.toList then (if (bt417.1.length : Int) = (wrap64 ((wrap64 ((l0.length : Int) + 1)) + (t400.length : Int))) then (if 0 ≤ (l0.length : Int) then (if (l0.length : Int) ≤ (bt417.1.length : Int) then ((laws_sameAnswers.f kj22 t395 (bt417.1.take ((l0.length : Int) : Int).toNat)).bind fun t426 => (if t426 = true then (if 0 ≤ (wrap64 ((l0.length : Int) + 1)) then (if (wrap64 ((l0.length : Int) + 1)) ≤ (bt417.1.length : Int) then ((laws_sameAnswers.f kj22 t400 (bt417.1.drop ((wrap64 ((l0.length : Int) + 1)) : Int).toNat)).bind fun t431 => (some t431)) else (none)) else (none)) else (some false))) else (none)) else (none)) else (some false)) else (some false)) else (some false)) else (if bt417.2.2 = true then (some false) else ((laws_sameAnswers.f kj22 t395 bt417.1).bind fun t432 => (some t432))))) = some r := by first | (rw [hy414]; with_reducible exact H) | (have H2_ := (Option.bind_some _ _).symm.trans H; rw [hy414]; with_reducible exact H2_) | (have H2_ := (Option.bind_some _ _).symm.trans H; with_reducible exact H2_) | with_reducible exact H | (rw [hy414]; exact H) | exact H
             have Ny414 := Aside0.mk hy414
             clear hy414
             replace H := Option.bind_eq_some_iff.mp H
             obtain ⟨⟨t417, t418, t419⟩, A360, H⟩ := H
             replace H : (if t397 = true then (if (t419 == t402) = true then (if t401.toList = t418.toList then (if (t417.length : Int) = (wrap64 ((wrap64 ((l0.length : Int) + 1)) + (t400.length : Int))) then (if 0 ≤ (l0.length : Int) then (if (l0.length : Int) ≤ (t417.length : Int) then ((laws_sameAnswers.f kj22 t395 (t417.take ((l0.length : Int) : Int).toNat)).bind fun t426 => (if t426 = true then (if 0 ≤ (wrap64 ((l0.length : Int) + 1)) then (if (wrap64 ((l0.length : Int) + 1)) ≤ (t417.length : Int) then ((laws_sameAnswers.f kj22 t400 (t417.drop ((wrap64 ((l0.length : Int) + 1)) : Int).toNat)).bind fun t431 => (some t431)) else (none)) else (none)) else (some false))) else (none)) else (none)) else (some false)) else (some false)) else (some false)) else (if t419 = true then (some false) else ((laws_sameAnswers.f kj22 t395 t417).bind fun t432 => (some t432)))) = some r := H
             have A36 := Aside0.mk A360
             clear A360
             by_cases c37 : t397 = true
             ·subst c37
              have H1 : (if (t419 == t402) = true then (if t401.toList = t418.toList then (if (t417.length : Int) = (wrap64 ((wrap64 ((l0.length : Int) + 1)) + (t400.length : Int))) then (if 0 ≤ (l0.length : Int) then (if (l0.length : Int) ≤ (t417.length : Int) then ((laws_sameAnswers.f kj22 t395 (t417.take ((l0.length : Int) : Int).toNat)).bind fun t426 => (if t426 = true then (if 0 ≤ (wrap64 ((l0.length : Int) + 1)) then (if (wrap64 ((l0.length : Int) + 1)) ≤ (t417.length : Int) then ((laws_sameAnswers.f kj22 t400 (t417.drop ((wrap64 ((l0.length : Int) + 1)) : Int).toNat)).bind fun t431 => (some t431)) else (none)) else (none)) else (some false))) else (none)) else (none)) else (some false)) else (some false)) else (some false)) = some r := by rw [if_pos rfl] at H; exact H
              clear H
              have H := H1
              clear H1
              by_cases c38 : (t419 == t402) = true
              ·rw [if_pos c38] at H
               have c38b0 : (t419 == t402) = true := c38
               (try (have c38b1 : decide (t419 = t402) = true := by simpa using c38))
               (try (have c38b2 : (t419 == t402) = true := by simpa using c38))
               clear c38
               by_cases c39 : t401.toList = t418.toList
               ·rw [if_pos c39] at H
                have c39b0 : (t401.toList == t418.toList) = true := beq_iff_eq.mpr c39
                have c39b1 : (t401.toList != t418.toList) = false := bne_eq_false_iff_eq.mpr c39
                clear c39
                by_cases c40 : (t417.length : Int) = (wrap64 ((wrap64 ((l0.length : Int) + 1)) + (t400.length : Int)))
                ·rw [if_pos c40] at H
                 have c40b0 : ((t417.length : Int) == (wrap64 ((wrap64 ((l0.length : Int) + 1)) + (t400.length : Int)))) = true := beq_iff_eq.mpr c40
                 have c40b1 : ((t417.length : Int) != (wrap64 ((wrap64 ((l0.length : Int) + 1)) + (t400.length : Int)))) = false := bne_eq_false_iff_eq.mpr c40
                 clear c40
                 by_cases c41 : 0 ≤ (l0.length : Int)
                 ·rw [if_pos c41] at H
                  have c41b0 := eq_true c41
                  have c41b1 : decide (0 ≤ (l0.length : Int)) = true := decide_eq_true c41
                  clear c41
                  by_cases c42 : (l0.length : Int) ≤ (t417.length : Int)
                  ·rw [if_pos c42] at H
                   have c42b0 := eq_true c42
                   have c42b1 : decide ((l0.length : Int) ≤ (t417.length : Int)) = true := decide_eq_true c42
                   clear c42
                   obtain ⟨y422, hy422⟩ : ∃ y_ : List (S32), y_ = (t417.take ((l0.length : Int) : Int).toNat) := ⟨_, rfl⟩
                   replace H : ((laws_sameAnswers.f kj22 t395 y422).bind fun t426 => (if t426 = true then (if 0 ≤ (wrap64 ((l0.length : Int) + 1)) then (if (wrap64 ((l0.length : Int) + 1)) ≤ (t417.length : Int) then ((laws_sameAnswers.f kj22 t400 (t417.drop ((wrap64 ((l0.length : Int) + 1)) : Int).toNat)).bind fun t431 => (some t431)) else (none)) else (none)) else (some false))) = some r := by first | (rw [hy422]; with_reducible exact H) | (have H2_ := (Option.bind_some _ _).symm.trans H; rw [hy422]; with_reducible exact H2_) | (have H2_ := (Option.bind_some _ _).symm.trans H; with_reducible exact H2_) | with_reducible exact H | (rw [hy422]; exact H) | exact H
                   have Ny422 := Aside0.mk hy422
                   clear hy422
                   replace H := Option.bind_eq_some_iff.mp H
                   obtain ⟨t426, A430, H⟩ := H
                   replace H : (if t426 = true then (if 0 ≤ (wrap64 ((l0.length : Int) + 1)) then (if (wrap64 ((l0.length : Int) + 1)) ≤ (t417.length : Int) then ((laws_sameAnswers.f kj22 t400 (t417.drop ((wrap64 ((l0.length : Int) + 1)) : Int).toNat)).bind fun t431 => (some t431)) else (none)) else (none)) else (some false)) = some r := H
                   have A43 := Aside0.mk A430
                   clear A430
                   by_cases c44 : t426 = true
                   ·subst c44
                    have H1 : (if 0 ≤ (wrap64 ((l0.length : Int) + 1)) then (if (wrap64 ((l0.length : Int) + 1)) ≤ (t417.length : Int) then ((laws_sameAnswers.f kj22 t400 (t417.drop ((wrap64 ((l0.length : Int) + 1)) : Int).toNat)).bind fun t431 => (some t431)) else (none)) else (none)) = some r := by rw [if_pos rfl] at H; exact H
                    clear H
                    have H := H1
                    clear H1
                    obtain ⟨ji45, hji45⟩ : ∃ j_ : Int, (wrap64 ((l0.length : Int) + 1)) = j_ := ⟨_, rfl⟩
                    replace H : (if 0 ≤ (ji45) then (if (ji45) ≤ (t417.length : Int) then ((laws_sameAnswers.f kj22 t400 (t417.drop ((ji45) : Int).toNat)).bind fun t431 => (some t431)) else (none)) else (none)) = some r := by first | (rw [hji45] at H; exact H) | (simp only [hji45] at H ⊢; exact H)
                    (try rw [hji45] at c40b0)
                    (try rw [hji45] at c40b1)
                    (try rw [hji45] at A31)
                    (try rw [hji45] at A32)
                    (try rw [hji45] at A36)
                    (try rw [hji45] at A43)
                    have hji45w : (IntKind.i64.wrap ((l0.length : Int) + 1)) = ji45 := (i64_w _).trans hji45
                    by_cases c46 : 0 ≤ (ji45)
                    ·rw [if_pos c46] at H
                     have c46b0 := eq_true c46
                     have c46b1 : decide (0 ≤ (ji45)) = true := decide_eq_true c46
                     clear c46
                     by_cases c47 : (ji45) ≤ (t417.length : Int)
                     ·rw [if_pos c47] at H
                      have c47b0 := eq_true c47
                      have c47b1 : decide ((ji45) ≤ (t417.length : Int)) = true := decide_eq_true c47
                      clear c47
                      obtain ⟨y427, hy427⟩ : ∃ y_ : List (S32), y_ = (t417.drop ((ji45) : Int).toNat) := ⟨_, rfl⟩
                      replace H : ((laws_sameAnswers.f kj22 t400 y427).bind fun t431 => (some t431)) = some r := by first | (rw [hy427]; with_reducible exact H) | (have H2_ := (Option.bind_some _ _).symm.trans H; rw [hy427]; with_reducible exact H2_) | (have H2_ := (Option.bind_some _ _).symm.trans H; with_reducible exact H2_) | with_reducible exact H | (rw [hy427]; exact H) | exact H
                      have Ny427 := Aside0.mk hy427
                      clear hy427
                      replace H := Option.bind_eq_some_iff.mp H
                      obtain ⟨t431, A480, H⟩ := H
                      replace H : (some t431) = some r := H
                      have A48 := Aside0.mk A480
                      clear A480
                      obtain rfl := Option.some.inj H
                      go_wp2_with (first | ((with_reducible refine gate_callee (f := 9) rfl ?_); refine goesL_ (some 57) rfl rfl Try.func9 (by kernel_rfl) rfl #[.slice A0 l0.length c0] rfl (by (try simp only [List.map_toArray, List.map_cons, List.map_nil]); first | done | rfl | (simp only [List.length_drop, List.length_take]; rfl)) ?_; (with_reducible refine (impl_TrailerScript.calls _ _ l0 t395 t396 true _ ?side1 ?side2 A31.out).mono ?_); (case side1 => repeat (first | exact (Kd.C_below HR0.out HB.out) | (with_reducible refine Kd.C_alloc ?_ _) | (with_reducible refine Kd.C_drewN ?_ _) | (with_reducible refine Kd.C_drew ?_))); (case side2 => exact HC0.out); rintro e w49 ⟨v398, rfl, ho0, hb⟩; refine ⟨_, rfl, ?_⟩; have n0_ := Aside0.mk (Kd.S_lower ho0 (below_size (by repeat (first | (with_reducible first | exact HB.out | apply below_alloc | apply pw_below_drewN | apply below_drew1) | exact HB.out)))); have n1_ := Aside0.mk (below_step (by repeat (first | (with_reducible first | exact HB.out | apply below_alloc | apply pw_below_drewN | apply below_drew1) | exact HB.out)) hb); clear HB; have HO399 := n0_; have HB := n1_; clear n0_ n1_; (try clear hb); (try clear hb2); (try clear hk); (try clear hi); (try clear ho0)) | ((with_reducible refine gate_callee (f := 9) rfl ?_); refine goesL_ (some 63) rfl rfl Try.func9 (by kernel_rfl) rfl #[.slice A1 l1.length c1] rfl (by (try simp only [List.map_toArray, List.map_cons, List.map_nil]); first | done | rfl | (simp only [List.length_drop, List.length_take]; rfl)) ?_; (with_reducible refine (impl_TrailerScript.calls _ _ l1 t400 t401 t402 _ ?side1 ?side2 A32.out).mono ?_); (case side1 => repeat (first | exact (Kd.C_below HR1.out HB.out) | (with_reducible refine Kd.C_alloc ?_ _) | (with_reducible refine Kd.C_drewN ?_ _) | (with_reducible refine Kd.C_drew ?_))); (case side2 => exact HC1.out); rintro e w50 ⟨v403, rfl, ho0, hb⟩; refine ⟨_, rfl, ?_⟩; have n0_ := Aside0.mk (Kd.S_elder' (by (with_reducible repeat (first | apply Kd.S_alloc | apply Kd.S_drewN | apply Kd.S_drew)); exact HO399.out) (Kd.S_base ho0) hb); have n1_ := Aside0.mk (Kd.S_lower (Kd.S_new' ho0 (Kd.S_lt (by (with_reducible repeat (first | apply Kd.S_alloc | apply Kd.S_drewN | apply Kd.S_drew)); exact HO399.out))) (below_size (by repeat (first | (with_reducible first | exact HB.out | apply below_alloc | apply pw_below_drewN | apply below_drew1) | exact HB.out)))); have n2_ := Aside0.mk (below_step (by repeat (first | (with_reducible first | exact HB.out | apply below_alloc | apply pw_below_drewN | apply below_drew1) | exact HB.out)) hb); clear HO399; clear HB; have HO399 := n0_; have HO404 := n1_; have HB := n2_; clear n0_ n1_ n2_; (try clear hb); (try clear hb2); (try clear hk); (try clear hi); (try clear ho0)) | ((with_reducible refine gate_dst (N := 68) rfl ?_); (try (refine gate_guard (by rfl) ?_; dsimp only)); refine Kd.R_lit k28 _ 28 ?hg (N := 68) ?hd (xs := ([] : List (S28))) (inner := []) (ok := fun _ => True) (okp := fun _ => True) ?hr ?hp (fun _ hk => hk) trivial (Below.refl _ _) (Nat.le_refl _) (by simp) ?_; (case hd => rfl); (case hg => rfl); (case hr => first | (go_simp; done) | (go_simp; rfl)); (case hp => exact (Reps.none _ _)); intro v406 w51 ho52 hb hg_ hnew_; clear hg_ hnew_; (first | rw [← Ny405.out] at ho52 | (simp only [Int.reduceToNat] at ho52; rw [← Ny405.out] at ho52)); have n0_ := Aside0.mk (Kd.S_below (by (with_reducible repeat (first | apply Kd.S_alloc | apply Kd.S_drewN | apply Kd.S_drew)); exact HO399.out) hb); have n1_ := Aside0.mk (Kd.S_below (by (with_reducible repeat (first | apply Kd.S_alloc | apply Kd.S_drewN | apply Kd.S_drew)); exact HO404.out) hb); have n2_ := Aside0.mk (Kd.R_lower ho52 (below_size (by repeat (first | (with_reducible first | exact HB.out | apply below_alloc | apply pw_below_drewN | apply below_drew1) | exact HB.out)))); have n3_ := Aside0.mk (below_step (by repeat (first | (with_reducible first | exact HB.out | apply below_alloc | apply pw_below_drewN | apply below_drew1) | exact HB.out)) hb); clear HO399; clear HO404; clear HB; have HO399 := n0_; have HO404 := n1_; have HO407 := n2_; have HB := n3_; clear n0_ n1_ n2_ n3_; clear hb ho52) | ((with_reducible refine gate_builtin (b := .append) (xs := #[.tmp 68, .tmp 69]) rfl ?_); (try (refine gate_guard (by rfl) ?_; dsimp only)); at_builtin; refine Kd.R_append_rows k28 (w0 := w) w.heap.size rfl (.tmp 68) (.tmp 69) 29 28 (.agg #[(.int .i64 0), (.string ⟨#[]⟩), (.string ⟨#[]⟩), (.int .i64 0), (.int .i64 0)]) 56 rfl Try.underlying29 info28 rfl (by decide) (by omega) v406 y405 l0 _ _ _ (fun _ => True) (fun _ => False) rfl rfl ?aO ?aR (fun _ _ h => h) (fun _ h => h.elim) ?aF ?aB ?aS ?aL ?_; (case aR => repeat (first | exact (Kd.C_below HR0.out HB.out) | (with_reducible refine Kd.C_alloc ?_ _) | (with_reducible refine Kd.C_drewN ?_ _) | (with_reducible refine Kd.C_drew ?_))); (case aB => exact (by repeat (first | (with_reducible first | exact HB.out | apply below_alloc | apply pw_below_drewN | apply below_drew1) | exact HB.out))); (case aF => exact (fun _ _ => trivial)); (case aO => exact (by (with_reducible repeat (first | apply Kd.R_alloc | apply Kd.R_drewN | apply Kd.R_drew)); exact HO407.out)); (case aS => exact (below_size (by repeat (first | (with_reducible first | exact HB.out | apply below_alloc | apply pw_below_drewN | apply below_drew1) | exact HB.out)))); (case aL => have := LMc33.out; omega); intro v409 w53 ho hb hg hat; rw [← Ny408.out] at ho; have n0_ := Aside0.mk (Kd.S_over' (by (with_reducible repeat (first | apply Kd.S_alloc | apply Kd.S_drewN | apply Kd.S_drew)); exact HO399.out) (Kd.R_typed (by (with_reducible repeat (first | apply Kd.R_alloc | apply Kd.R_drewN | apply Kd.R_drew)); exact HO407.out)) (by decide) hg); have n1_ := Aside0.mk (Kd.S_over' (by (with_reducible repeat (first | apply Kd.S_alloc | apply Kd.S_drewN | apply Kd.S_drew)); exact HO404.out) (Kd.R_typed (by (with_reducible repeat (first | apply Kd.R_alloc | apply Kd.R_drewN | apply Kd.R_drew)); exact HO407.out)) (by decide) hg); have n2_ := Aside0.mk (hb); have n3_ := Aside0.mk (ho); clear HO399; clear HO404; clear HB; clear HO407; have HO399 := n0_; have HO404 := n1_; have HB := n2_; have HO410 := n3_; clear n0_ n1_ n2_ n3_; clear ho hb hg hat) | ((with_reducible refine gate_builtin (b := .append) (xs := #[.tmp 70, .tmp 72]) rfl ?_); (try (refine gate_guard (by rfl) ?_; dsimp only)); at_builtin; refine Kd.R_append k28 (w0 := w) w.heap.size rfl (.tmp 70) (.tmp 72) 29 28 (.agg #[(.int .i64 0), (.string ⟨#[]⟩), (.string ⟨#[]⟩), (.int .i64 0), (.int .i64 0)]) 56 rfl Try.underlying29 info28 rfl (by decide) (by omega) v409 y408 (⟨11, (⟨#[]⟩ : ByteArray), (⟨#[]⟩ : ByteArray), 0, 0⟩ : S28) [.int .i64 11, .string (⟨#[]⟩ : ByteArray), .string (⟨#[]⟩ : ByteArray), .int .i64 0, .int .i64 0] (fun _ => True) (fun _ => False) rfl rfl ?aP (fun _ hk => hk.elim) ?aF ?aO ?aB ?aS ?aL ?_; (case aP => exact k28_mkM _ _ _ (⟨11, (⟨#[]⟩ : ByteArray), (⟨#[]⟩ : ByteArray), 0, 0⟩ : S28)); (case aB => exact (by repeat (first | (with_reducible first | exact HB.out | apply below_alloc | apply pw_below_drewN | apply below_drew1) | exact HB.out))); (case aF => exact (fun _ _ => trivial)); (case aO => exact (by (with_reducible repeat (first | apply Kd.R_alloc | apply Kd.R_drewN | apply Kd.R_drew)); exact HO410.out)); (case aS => exact (below_size (by repeat (first | (with_reducible first | exact HB.out | apply below_alloc | apply pw_below_drewN | apply below_drew1) | exact HB.out)))); (case aL => have := LMc34.out; omega); intro v412 w54 ho hb hg hat; rw [← Ny411.out] at ho; have n0_ := Aside0.mk (Kd.S_over' (by (with_reducible repeat (first | apply Kd.S_alloc | apply Kd.S_drewN | apply Kd.S_drew)); exact HO399.out) (Kd.R_typed (by (with_reducible repeat (first | apply Kd.R_alloc | apply Kd.R_drewN | apply Kd.R_drew)); exact HO410.out)) (by decide) hg); have n1_ := Aside0.mk (Kd.S_over' (by (with_reducible repeat (first | apply Kd.S_alloc | apply Kd.S_drewN | apply Kd.S_drew)); exact HO404.out) (Kd.R_typed (by (with_reducible repeat (first | apply Kd.R_alloc | apply Kd.R_drewN | apply Kd.R_drew)); exact HO410.out)) (by decide) hg); have n2_ := Aside0.mk (hb); have n3_ := Aside0.mk (ho); clear HO399; clear HO404; clear HB; clear HO410; have HO399 := n0_; have HO404 := n1_; have HB := n2_; have HO413 := n3_; clear n0_ n1_ n2_ n3_; clear ho hb hg hat) | ((with_reducible refine gate_builtin (b := .append) (xs := #[.tmp 73, .tmp 74]) rfl ?_); (try (refine gate_guard (by rfl) ?_; dsimp only)); at_builtin; refine Kd.R_append_rows k28 (w0 := w) w.heap.size rfl (.tmp 73) (.tmp 74) 29 28 (.agg #[(.int .i64 0), (.string ⟨#[]⟩), (.string ⟨#[]⟩), (.int .i64 0), (.int .i64 0)]) 56 rfl Try.underlying29 info28 rfl (by decide) (by omega) v412 y411 l1 _ _ _ (fun _ => True) (fun _ => False) rfl rfl ?aO ?aR (fun _ _ h => h) (fun _ h => h.elim) ?aF ?aB ?aS ?aL ?_; (case aR => repeat (first | exact (Kd.C_below HR1.out HB.out) | (with_reducible refine Kd.C_alloc ?_ _) | (with_reducible refine Kd.C_drewN ?_ _) | (with_reducible refine Kd.C_drew ?_))); (case aB => exact (by repeat (first | (with_reducible first | exact HB.out | apply below_alloc | apply pw_below_drewN | apply below_drew1) | exact HB.out))); (case aF => exact (fun _ _ => trivial)); (case aO => exact (by (with_reducible repeat (first | apply Kd.R_alloc | apply Kd.R_drewN | apply Kd.R_drew)); exact HO413.out)); (case aS => exact (below_size (by repeat (first | (with_reducible first | exact HB.out | apply below_alloc | apply pw_below_drewN | apply below_drew1) | exact HB.out)))); (case aL => have := LMc35.out; omega); intro v415 w55 ho hb hg hat; rw [← Ny414.out] at ho; have n0_ := Aside0.mk (Kd.S_over' (by (with_reducible repeat (first | apply Kd.S_alloc | apply Kd.S_drewN | apply Kd.S_drew)); exact HO399.out) (Kd.R_typed (by (with_reducible repeat (first | apply Kd.R_alloc | apply Kd.R_drewN | apply Kd.R_drew)); exact HO413.out)) (by decide) hg); have n1_ := Aside0.mk (Kd.S_over' (by (with_reducible repeat (first | apply Kd.S_alloc | apply Kd.S_drewN | apply Kd.S_drew)); exact HO404.out) (Kd.R_typed (by (with_reducible repeat (first | apply Kd.R_alloc | apply Kd.R_drewN | apply Kd.R_drew)); exact HO413.out)) (by decide) hg); have n2_ := Aside0.mk (hb); have n3_ := Aside0.mk (ho); clear HO399; clear HO404; clear HB; clear HO413; have HO399 := n0_; have HO404 := n1_; have HB := n2_; have HO416 := n3_; clear n0_ n1_ n2_ n3_; clear ho hb hg hat; obtain ⟨Ao56, co56, eo56⟩ := Kd.R_slice HO416.out; subst eo56) | ((with_reducible refine gate_callee (f := 9) rfl ?_); refine goesL_ (some 76) rfl rfl Try.func9 (by kernel_rfl) rfl #[.slice Ao56 y414.length co56] rfl (by (try simp only [List.map_toArray, List.map_cons, List.map_nil]); first | done | rfl | (simp only [List.length_drop, List.length_take]; rfl)) ?_; (with_reducible refine (impl_TrailerScript.calls _ _ y414 t417 t418 t419 _ ?side1 ?side2 A36.out).mono ?_); (case side1 => repeat (first | exact (Kd.R_reads' HO416.out).2.2 | (with_reducible refine Kd.C_alloc ?_ _) | (with_reducible refine Kd.C_drewN ?_ _) | (with_reducible refine Kd.C_drew ?_))); (case side2 => exact (Kd.R_reads' HO416.out).2.1); rintro e w57 ⟨v420, rfl, ho0, hb⟩; refine ⟨_, rfl, ?_⟩; have n0_ := Aside0.mk (Kd.S_elder' (by (with_reducible repeat (first | apply Kd.S_alloc | apply Kd.S_drewN | apply Kd.S_drew)); exact HO399.out) (Kd.S_base ho0) hb); have n1_ := Aside0.mk (Kd.S_elder' (by (with_reducible repeat (first | apply Kd.S_alloc | apply Kd.S_drewN | apply Kd.S_drew)); exact HO404.out) (Kd.S_base ho0) hb); have n2_ := Aside0.mk (Kd.R_below (by (with_reducible repeat (first | apply Kd.R_alloc | apply Kd.R_drewN | apply Kd.R_drew)); exact HO416.out) hb); have n3_ := Aside0.mk (Kd.S_lower (Kd.S_new' (Kd.S_new' ho0 (Kd.S_lt (by (with_reducible repeat (first | apply Kd.S_alloc | apply Kd.S_drewN | apply Kd.S_drew)); exact HO399.out))) (Kd.S_lt (by (with_reducible repeat (first | apply Kd.S_alloc | apply Kd.S_drewN | apply Kd.S_drew)); exact HO404.out))) (below_size (by repeat (first | (with_reducible first | exact HB.out | apply below_alloc | apply pw_below_drewN | apply below_drew1) | exact HB.out)))); have n4_ := Aside0.mk (below_step (by repeat (first | (with_reducible first | exact HB.out | apply below_alloc | apply pw_below_drewN | apply below_drew1) | exact HB.out)) hb); clear HO399; clear HO404; clear HO416; clear HB; have HO399 := n0_; have HO404 := n1_; have HO416 := n2_; have HO421 := n3_; have HB := n4_; clear n0_ n1_ n2_ n3_ n4_; (try clear hb); (try clear hb2); (try clear hk); (try clear hi); (try clear ho0); obtain ⟨Ao58, co58, eo58⟩ := Kd.S_slice HO421.out; subst eo58; obtain ⟨Ao59, co59, eo59⟩ := Kd.S_slice HO404.out; subst eo59; have q60 : ((l0.length : Int) : Int) ≤ ((t417.length : Int) : Int) := of_decide_eq_true (by first | (with_reducible assumption) | assumption); obtain ⟨i060, hi060, _, hsz60, _⟩ := info_parts info32; have hroom60 : t417.length ≤ co58 := (Kd.S_reads' HO421.out).2.1; have hC60 : Kd.C k32 _ Ao58 t417.length t417 := (Kd.S_reads' HO421.out).2.2; have hcut60 := cut_to (P := Try.prog) 24 32 .i64 Try.underlying24 hi060 Ao58 t417.length co58 (l0.length : Int) (of_decide_eq_true (by first | (with_reducible assumption) | assumption)) q60 hroom60; have hr60 := Kd.C_take (m := ((l0.length : Int) : Int).toNat) hC60 (by omega); have hy60 : y422.length = ((l0.length : Int) : Int).toNat := (by rw [Ny422.out, List.length_take]; omega); rw [← Ny422.out] at hr60; rw [← hy60] at hcut60; have HR425 := Aside0.mk hr60; have HC425 := Aside0.mk (show y422.length ≤ co58 from by omega); clear hr60 hC60 hroom60 hi060 hsz60; have KY60 := Aside0.mk hy60; clear hy60; have KL60 := Aside0.mk (show ((l0.length : Int) : Int).toNat ≤ t417.length from by omega); replace q60 := eq_true q60; obtain ⟨Ao61, co61, eo61⟩ := Kd.S_slice HO399.out; subst eo61) | (go_at_call 20; (with_reducible refine (laws_sameAnswers.calls kj22 _ _ t395 _ _ y422 true _ ?side1 ?side2 ?side3 ?side4 A43.out).mono ?_); (case side1 => repeat (first | exact (Kd.S_reads' HO399.out).2.2 | (with_reducible refine Kd.C_alloc ?_ _) | (with_reducible refine Kd.C_drewN ?_ _) | (with_reducible refine Kd.C_drew ?_))); (case side2 => exact (Kd.S_reads' HO399.out).2.1); (case side3 => repeat (first | exact (by first | (with_reducible exact HR425.out) | (with_reducible exact Kd.C_drewN HR425.out _) | (with_reducible exact Kd.C_drew HR425.out) | (with_reducible exact Kd.C_alloc HR425.out _) | repeat (first | (with_reducible exact HR425.out) | (with_reducible refine Kd.C_alloc ?_ _) | (with_reducible refine Kd.C_drewN ?_ _) | (with_reducible refine Kd.C_drew ?_) | exact HR425.out)) | (with_reducible refine Kd.C_alloc ?_ _) | (with_reducible refine Kd.C_drewN ?_ _) | (with_reducible refine Kd.C_drew ?_))); (case side4 => exact HC425.out); rintro e w62 ⟨rfl, hb⟩; have n0_ := Aside0.mk (Kd.S_below (by (with_reducible repeat (first | apply Kd.S_alloc | apply Kd.S_drewN | apply Kd.S_drew)); exact HO399.out) hb); have n1_ := Aside0.mk (Kd.S_below (by (with_reducible repeat (first | apply Kd.S_alloc | apply Kd.S_drewN | apply Kd.S_drew)); exact HO404.out) hb); have n2_ := Aside0.mk (Kd.R_below (by (with_reducible repeat (first | apply Kd.R_alloc | apply Kd.R_drewN | apply Kd.R_drew)); exact HO416.out) hb); have n3_ := Aside0.mk (Kd.S_below (by (with_reducible repeat (first | apply Kd.S_alloc | apply Kd.S_drewN | apply Kd.S_drew)); exact HO421.out) hb); have n4_ := Aside0.mk (Kd.C_below (by first | (with_reducible exact HR425.out) | (with_reducible exact Kd.C_drewN HR425.out _) | (with_reducible exact Kd.C_drew HR425.out) | (with_reducible exact Kd.C_alloc HR425.out _) | repeat (first | (with_reducible exact HR425.out) | (with_reducible refine Kd.C_alloc ?_ _) | (with_reducible refine Kd.C_drewN ?_ _) | (with_reducible refine Kd.C_drew ?_) | exact HR425.out)) hb); have n5_ := Aside0.mk (below_step (by repeat (first | (with_reducible first | exact HB.out | apply below_alloc | apply pw_below_drewN | apply below_drew1) | exact HB.out)) hb); clear HO399; clear HO404; clear HO416; clear HO421; clear HR425; clear HB; have HO399 := n0_; have HO404 := n1_; have HO416 := n2_; have HO421 := n3_; have HR425 := n4_; have HB := n5_; clear n0_ n1_ n2_ n3_ n4_ n5_; (try clear hb); (try clear hb2); (try clear hk); (try clear hi); have q63 : ((ji45) : Int) ≤ ((t417.length : Int) : Int) := of_decide_eq_true (by first | (with_reducible assumption) | assumption); obtain ⟨i063, hi063, _, hsz63, _⟩ := info_parts info32; have hroom63 : t417.length ≤ co58 := (Kd.S_reads' HO421.out).2.1; have hC63 : Kd.C k32 _ Ao58 t417.length t417 := (Kd.S_reads' HO421.out).2.2; have q063 : (0 : Int) ≤ ((ji45) : Int) := of_decide_eq_true (by first | (with_reducible assumption) | assumption); have hcut63 := cut_from (P := Try.prog) 24 32 .i64 Try.underlying24 hi063 5 hsz63 Ao58 t417.length co58 (ji45) q063 q63; have hr63 := Kd.C_drop (m := ((ji45) : Int).toNat) (c := co58) hC63 (by omega) hroom63; obtain ⟨A63, hA63⟩ : ∃ A1, A1 = (if co58 = ((ji45) : Int).toNat then Ao58 else (Ao58 : Option Addr).map (·.add (((ji45) : Int).toNat * 5))) := ⟨_, rfl⟩; obtain ⟨c63, hc63⟩ : ∃ c1, c1 = co58 - ((ji45) : Int).toNat := ⟨_, rfl⟩; have hy63 : y427.length = t417.length - ((ji45) : Int).toNat := (by rw [Ny427.out, List.length_drop] <;> omega); rw [show (t417).drop ((ji45) : Int).toNat = y427 from Ny427.out.symm] at hr63; replace hr63 : Kd.C k32 _ A63 y427.length y427 := (by rw [hA63]; exact hr63); rw [← hy63, ← hA63, ← hc63] at hcut63; have HR430 := Aside0.mk hr63; have HC430 := Aside0.mk (show y427.length ≤ c63 from by rw [hy63, hc63]; exact Nat.sub_le_sub_right hroom63 _); clear hr63 hC63 hroom63 hi063 hsz63 hc63; have KY63 := Aside0.mk hy63; have KA63 := Aside0.mk hA63; clear hy63 hA63; have KL63 := Aside0.mk (show ((ji45) : Int).toNat ≤ t417.length from by omega); replace q63 := eq_true q63) | (go_at_call 20; (with_reducible refine (laws_sameAnswers.calls kj22 _ _ t400 _ _ y427 t431 _ ?side1 ?side2 ?side3 ?side4 A48.out).mono ?_); (case side1 => repeat (first | exact (Kd.S_reads' HO404.out).2.2 | (with_reducible refine Kd.C_alloc ?_ _) | (with_reducible refine Kd.C_drewN ?_ _) | (with_reducible refine Kd.C_drew ?_))); (case side2 => exact (Kd.S_reads' HO404.out).2.1); (case side3 => repeat (first | exact (by first | (with_reducible exact HR430.out) | (with_reducible exact Kd.C_drewN HR430.out _) | (with_reducible exact Kd.C_drew HR430.out) | (with_reducible exact Kd.C_alloc HR430.out _) | repeat (first | (with_reducible exact HR430.out) | (with_reducible refine Kd.C_alloc ?_ _) | (with_reducible refine Kd.C_drewN ?_ _) | (with_reducible refine Kd.C_drew ?_) | exact HR430.out)) | (with_reducible refine Kd.C_alloc ?_ _) | (with_reducible refine Kd.C_drewN ?_ _) | (with_reducible refine Kd.C_drew ?_))); (case side4 => exact HC430.out); rintro e w64 ⟨rfl, hb⟩; have n0_ := Aside0.mk (Kd.S_below (by (with_reducible repeat (first | apply Kd.S_alloc | apply Kd.S_drewN | apply Kd.S_drew)); exact HO399.out) hb); have n1_ := Aside0.mk (Kd.S_below (by (with_reducible repeat (first | apply Kd.S_alloc | apply Kd.S_drewN | apply Kd.S_drew)); exact HO404.out) hb); have n2_ := Aside0.mk (Kd.R_below (by (with_reducible repeat (first | apply Kd.R_alloc | apply Kd.R_drewN | apply Kd.R_drew)); exact HO416.out) hb); have n3_ := Aside0.mk (Kd.S_below (by (with_reducible repeat (first | apply Kd.S_alloc | apply Kd.S_drewN | apply Kd.S_drew)); exact HO421.out) hb); have n4_ := Aside0.mk (Kd.C_below (by first | (with_reducible exact HR425.out) | (with_reducible exact Kd.C_drewN HR425.out _) | (with_reducible exact Kd.C_drew HR425.out) | (with_reducible exact Kd.C_alloc HR425.out _) | repeat (first | (with_reducible exact HR425.out) | (with_reducible refine Kd.C_alloc ?_ _) | (with_reducible refine Kd.C_drewN ?_ _) | (with_reducible refine Kd.C_drew ?_) | exact HR425.out)) hb); have n5_ := Aside0.mk (Kd.C_below (by first | (with_reducible exact HR430.out) | (with_reducible exact Kd.C_drewN HR430.out _) | (with_reducible exact Kd.C_drew HR430.out) | (with_reducible exact Kd.C_alloc HR430.out _) | repeat (first | (with_reducible exact HR430.out) | (with_reducible refine Kd.C_alloc ?_ _) | (with_reducible refine Kd.C_drewN ?_ _) | (with_reducible refine Kd.C_drew ?_) | exact HR430.out)) hb); have n6_ := Aside0.mk (below_step (by repeat (first | (with_reducible first | exact HB.out | apply below_alloc | apply pw_below_drewN | apply below_drew1) | exact HB.out)) hb); clear HO399; clear HO404; clear HO416; clear HO421; clear HR425; clear HR430; clear HB; have HO399 := n0_; have HO404 := n1_; have HO416 := n2_; have HO421 := n3_; have HR425 := n4_; have HR430 := n5_; have HB := n6_; clear n0_ n1_ n2_ n3_ n4_ n5_ n6_; (try clear hb); (try clear hb2); (try clear hk); (try clear hi)))
                      go_ret
                      exact ⟨by first | rfl | (simp [errW_none, errW_some] <;> rfl) | (simp only [← hji45]; first | rfl | (simp [errW_none, errW_some] <;> rfl)) | (simp [*, errW_none, errW_some] <;> rfl), by repeat (first | (with_reducible first | exact HB.out | apply below_alloc | apply pw_below_drewN | apply below_drew1) | exact HB.out)⟩
                     ·rw [if_neg c47] at H
                      exact absurd H (by simp)
                    ·rw [if_neg c46] at H
                     exact absurd H (by simp)
                   ·replace c44 := Bool.eq_false_iff.mpr c44
                    subst c44
                    have H1 : (some false) = some r := by rw [if_neg (show ¬ (false = true) by decide)] at H; exact H
                    clear H
                    have H := H1
                    clear H1
                    obtain rfl := Option.some.inj H
                    go_wp2_with (first | ((with_reducible refine gate_callee (f := 9) rfl ?_); refine goesL_ (some 57) rfl rfl Try.func9 (by kernel_rfl) rfl #[.slice A0 l0.length c0] rfl (by (try simp only [List.map_toArray, List.map_cons, List.map_nil]); first | done | rfl | (simp only [List.length_drop, List.length_take]; rfl)) ?_; (with_reducible refine (impl_TrailerScript.calls _ _ l0 t395 t396 true _ ?side1 ?side2 A31.out).mono ?_); (case side1 => repeat (first | exact (Kd.C_below HR0.out HB.out) | (with_reducible refine Kd.C_alloc ?_ _) | (with_reducible refine Kd.C_drewN ?_ _) | (with_reducible refine Kd.C_drew ?_))); (case side2 => exact HC0.out); rintro e w65 ⟨v398, rfl, ho0, hb⟩; refine ⟨_, rfl, ?_⟩; have n0_ := Aside0.mk (Kd.S_lower ho0 (below_size (by repeat (first | (with_reducible first | exact HB.out | apply below_alloc | apply pw_below_drewN | apply below_drew1) | exact HB.out)))); have n1_ := Aside0.mk (below_step (by repeat (first | (with_reducible first | exact HB.out | apply below_alloc | apply pw_below_drewN | apply below_drew1) | exact HB.out)) hb); clear HB; have HO399 := n0_; have HB := n1_; clear n0_ n1_; (try clear hb); (try clear hb2); (try clear hk); (try clear hi); (try clear ho0)) | ((with_reducible refine gate_callee (f := 9) rfl ?_); refine goesL_ (some 63) rfl rfl Try.func9 (by kernel_rfl) rfl #[.slice A1 l1.length c1] rfl (by (try simp only [List.map_toArray, List.map_cons, List.map_nil]); first | done | rfl | (simp only [List.length_drop, List.length_take]; rfl)) ?_; (with_reducible refine (impl_TrailerScript.calls _ _ l1 t400 t401 t402 _ ?side1 ?side2 A32.out).mono ?_); (case side1 => repeat (first | exact (Kd.C_below HR1.out HB.out) | (with_reducible refine Kd.C_alloc ?_ _) | (with_reducible refine Kd.C_drewN ?_ _) | (with_reducible refine Kd.C_drew ?_))); (case side2 => exact HC1.out); rintro e w66 ⟨v403, rfl, ho0, hb⟩; refine ⟨_, rfl, ?_⟩; have n0_ := Aside0.mk (Kd.S_elder' (by (with_reducible repeat (first | apply Kd.S_alloc | apply Kd.S_drewN | apply Kd.S_drew)); exact HO399.out) (Kd.S_base ho0) hb); have n1_ := Aside0.mk (Kd.S_lower (Kd.S_new' ho0 (Kd.S_lt (by (with_reducible repeat (first | apply Kd.S_alloc | apply Kd.S_drewN | apply Kd.S_drew)); exact HO399.out))) (below_size (by repeat (first | (with_reducible first | exact HB.out | apply below_alloc | apply pw_below_drewN | apply below_drew1) | exact HB.out)))); have n2_ := Aside0.mk (below_step (by repeat (first | (with_reducible first | exact HB.out | apply below_alloc | apply pw_below_drewN | apply below_drew1) | exact HB.out)) hb); clear HO399; clear HB; have HO399 := n0_; have HO404 := n1_; have HB := n2_; clear n0_ n1_ n2_; (try clear hb); (try clear hb2); (try clear hk); (try clear hi); (try clear ho0)) | ((with_reducible refine gate_dst (N := 68) rfl ?_); (try (refine gate_guard (by rfl) ?_; dsimp only)); refine Kd.R_lit k28 _ 28 ?hg (N := 68) ?hd (xs := ([] : List (S28))) (inner := []) (ok := fun _ => True) (okp := fun _ => True) ?hr ?hp (fun _ hk => hk) trivial (Below.refl _ _) (Nat.le_refl _) (by simp) ?_; (case hd => rfl); (case hg => rfl); (case hr => first | (go_simp; done) | (go_simp; rfl)); (case hp => exact (Reps.none _ _)); intro v406 w67 ho68 hb hg_ hnew_; clear hg_ hnew_; (first | rw [← Ny405.out] at ho68 | (simp only [Int.reduceToNat] at ho68; rw [← Ny405.out] at ho68)); have n0_ := Aside0.mk (Kd.S_below (by (with_reducible repeat (first | apply Kd.S_alloc | apply Kd.S_drewN | apply Kd.S_drew)); exact HO399.out) hb); have n1_ := Aside0.mk (Kd.S_below (by (with_reducible repeat (first | apply Kd.S_alloc | apply Kd.S_drewN | apply Kd.S_drew)); exact HO404.out) hb); have n2_ := Aside0.mk (Kd.R_lower ho68 (below_size (by repeat (first | (with_reducible first | exact HB.out | apply below_alloc | apply pw_below_drewN | apply below_drew1) | exact HB.out)))); have n3_ := Aside0.mk (below_step (by repeat (first | (with_reducible first | exact HB.out | apply below_alloc | apply pw_below_drewN | apply below_drew1) | exact HB.out)) hb); clear HO399; clear HO404; clear HB; have HO399 := n0_; have HO404 := n1_; have HO407 := n2_; have HB := n3_; clear n0_ n1_ n2_ n3_; clear hb ho68) | ((with_reducible refine gate_builtin (b := .append) (xs := #[.tmp 68, .tmp 69]) rfl ?_); (try (refine gate_guard (by rfl) ?_; dsimp only)); at_builtin; refine Kd.R_append_rows k28 (w0 := w) w.heap.size rfl (.tmp 68) (.tmp 69) 29 28 (.agg #[(.int .i64 0), (.string ⟨#[]⟩), (.string ⟨#[]⟩), (.int .i64 0), (.int .i64 0)]) 56 rfl Try.underlying29 info28 rfl (by decide) (by omega) v406 y405 l0 _ _ _ (fun _ => True) (fun _ => False) rfl rfl ?aO ?aR (fun _ _ h => h) (fun _ h => h.elim) ?aF ?aB ?aS ?aL ?_; (case aR => repeat (first | exact (Kd.C_below HR0.out HB.out) | (with_reducible refine Kd.C_alloc ?_ _) | (with_reducible refine Kd.C_drewN ?_ _) | (with_reducible refine Kd.C_drew ?_))); (case aB => exact (by repeat (first | (with_reducible first | exact HB.out | apply below_alloc | apply pw_below_drewN | apply below_drew1) | exact HB.out))); (case aF => exact (fun _ _ => trivial)); (case aO => exact (by (with_reducible repeat (first | apply Kd.R_alloc | apply Kd.R_drewN | apply Kd.R_drew)); exact HO407.out)); (case aS => exact (below_size (by repeat (first | (with_reducible first | exact HB.out | apply below_alloc | apply pw_below_drewN | apply below_drew1) | exact HB.out)))); (case aL => have := LMc33.out; omega); intro v409 w69 ho hb hg hat; rw [← Ny408.out] at ho; have n0_ := Aside0.mk (Kd.S_over' (by (with_reducible repeat (first | apply Kd.S_alloc | apply Kd.S_drewN | apply Kd.S_drew)); exact HO399.out) (Kd.R_typed (by (with_reducible repeat (first | apply Kd.R_alloc | apply Kd.R_drewN | apply Kd.R_drew)); exact HO407.out)) (by decide) hg); have n1_ := Aside0.mk (Kd.S_over' (by (with_reducible repeat (first | apply Kd.S_alloc | apply Kd.S_drewN | apply Kd.S_drew)); exact HO404.out) (Kd.R_typed (by (with_reducible repeat (first | apply Kd.R_alloc | apply Kd.R_drewN | apply Kd.R_drew)); exact HO407.out)) (by decide) hg); have n2_ := Aside0.mk (hb); have n3_ := Aside0.mk (ho); clear HO399; clear HO404; clear HB; clear HO407; have HO399 := n0_; have HO404 := n1_; have HB := n2_; have HO410 := n3_; clear n0_ n1_ n2_ n3_; clear ho hb hg hat) | ((with_reducible refine gate_builtin (b := .append) (xs := #[.tmp 70, .tmp 72]) rfl ?_); (try (refine gate_guard (by rfl) ?_; dsimp only)); at_builtin; refine Kd.R_append k28 (w0 := w) w.heap.size rfl (.tmp 70) (.tmp 72) 29 28 (.agg #[(.int .i64 0), (.string ⟨#[]⟩), (.string ⟨#[]⟩), (.int .i64 0), (.int .i64 0)]) 56 rfl Try.underlying29 info28 rfl (by decide) (by omega) v409 y408 (⟨11, (⟨#[]⟩ : ByteArray), (⟨#[]⟩ : ByteArray), 0, 0⟩ : S28) [.int .i64 11, .string (⟨#[]⟩ : ByteArray), .string (⟨#[]⟩ : ByteArray), .int .i64 0, .int .i64 0] (fun _ => True) (fun _ => False) rfl rfl ?aP (fun _ hk => hk.elim) ?aF ?aO ?aB ?aS ?aL ?_; (case aP => exact k28_mkM _ _ _ (⟨11, (⟨#[]⟩ : ByteArray), (⟨#[]⟩ : ByteArray), 0, 0⟩ : S28)); (case aB => exact (by repeat (first | (with_reducible first | exact HB.out | apply below_alloc | apply pw_below_drewN | apply below_drew1) | exact HB.out))); (case aF => exact (fun _ _ => trivial)); (case aO => exact (by (with_reducible repeat (first | apply Kd.R_alloc | apply Kd.R_drewN | apply Kd.R_drew)); exact HO410.out)); (case aS => exact (below_size (by repeat (first | (with_reducible first | exact HB.out | apply below_alloc | apply pw_below_drewN | apply below_drew1) | exact HB.out)))); (case aL => have := LMc34.out; omega); intro v412 w70 ho hb hg hat; rw [← Ny411.out] at ho; have n0_ := Aside0.mk (Kd.S_over' (by (with_reducible repeat (first | apply Kd.S_alloc | apply Kd.S_drewN | apply Kd.S_drew)); exact HO399.out) (Kd.R_typed (by (with_reducible repeat (first | apply Kd.R_alloc | apply Kd.R_drewN | apply Kd.R_drew)); exact HO410.out)) (by decide) hg); have n1_ := Aside0.mk (Kd.S_over' (by (with_reducible repeat (first | apply Kd.S_alloc | apply Kd.S_drewN | apply Kd.S_drew)); exact HO404.out) (Kd.R_typed (by (with_reducible repeat (first | apply Kd.R_alloc | apply Kd.R_drewN | apply Kd.R_drew)); exact HO410.out)) (by decide) hg); have n2_ := Aside0.mk (hb); have n3_ := Aside0.mk (ho); clear HO399; clear HO404; clear HB; clear HO410; have HO399 := n0_; have HO404 := n1_; have HB := n2_; have HO413 := n3_; clear n0_ n1_ n2_ n3_; clear ho hb hg hat) | ((with_reducible refine gate_builtin (b := .append) (xs := #[.tmp 73, .tmp 74]) rfl ?_); (try (refine gate_guard (by rfl) ?_; dsimp only)); at_builtin; refine Kd.R_append_rows k28 (w0 := w) w.heap.size rfl (.tmp 73) (.tmp 74) 29 28 (.agg #[(.int .i64 0), (.string ⟨#[]⟩), (.string ⟨#[]⟩), (.int .i64 0), (.int .i64 0)]) 56 rfl Try.underlying29 info28 rfl (by decide) (by omega) v412 y411 l1 _ _ _ (fun _ => True) (fun _ => False) rfl rfl ?aO ?aR (fun _ _ h => h) (fun _ h => h.elim) ?aF ?aB ?aS ?aL ?_; (case aR => repeat (first | exact (Kd.C_below HR1.out HB.out) | (with_reducible refine Kd.C_alloc ?_ _) | (with_reducible refine Kd.C_drewN ?_ _) | (with_reducible refine Kd.C_drew ?_))); (case aB => exact (by repeat (first | (with_reducible first | exact HB.out | apply below_alloc | apply pw_below_drewN | apply below_drew1) | exact HB.out))); (case aF => exact (fun _ _ => trivial)); (case aO => exact (by (with_reducible repeat (first | apply Kd.R_alloc | apply Kd.R_drewN | apply Kd.R_drew)); exact HO413.out)); (case aS => exact (below_size (by repeat (first | (with_reducible first | exact HB.out | apply below_alloc | apply pw_below_drewN | apply below_drew1) | exact HB.out)))); (case aL => have := LMc35.out; omega); intro v415 w71 ho hb hg hat; rw [← Ny414.out] at ho; have n0_ := Aside0.mk (Kd.S_over' (by (with_reducible repeat (first | apply Kd.S_alloc | apply Kd.S_drewN | apply Kd.S_drew)); exact HO399.out) (Kd.R_typed (by (with_reducible repeat (first | apply Kd.R_alloc | apply Kd.R_drewN | apply Kd.R_drew)); exact HO413.out)) (by decide) hg); have n1_ := Aside0.mk (Kd.S_over' (by (with_reducible repeat (first | apply Kd.S_alloc | apply Kd.S_drewN | apply Kd.S_drew)); exact HO404.out) (Kd.R_typed (by (with_reducible repeat (first | apply Kd.R_alloc | apply Kd.R_drewN | apply Kd.R_drew)); exact HO413.out)) (by decide) hg); have n2_ := Aside0.mk (hb); have n3_ := Aside0.mk (ho); clear HO399; clear HO404; clear HB; clear HO413; have HO399 := n0_; have HO404 := n1_; have HB := n2_; have HO416 := n3_; clear n0_ n1_ n2_ n3_; clear ho hb hg hat; obtain ⟨Ao72, co72, eo72⟩ := Kd.R_slice HO416.out; subst eo72) | ((with_reducible refine gate_callee (f := 9) rfl ?_); refine goesL_ (some 76) rfl rfl Try.func9 (by kernel_rfl) rfl #[.slice Ao72 y414.length co72] rfl (by (try simp only [List.map_toArray, List.map_cons, List.map_nil]); first | done | rfl | (simp only [List.length_drop, List.length_take]; rfl)) ?_; (with_reducible refine (impl_TrailerScript.calls _ _ y414 t417 t418 t419 _ ?side1 ?side2 A36.out).mono ?_); (case side1 => repeat (first | exact (Kd.R_reads' HO416.out).2.2 | (with_reducible refine Kd.C_alloc ?_ _) | (with_reducible refine Kd.C_drewN ?_ _) | (with_reducible refine Kd.C_drew ?_))); (case side2 => exact (Kd.R_reads' HO416.out).2.1); rintro e w73 ⟨v420, rfl, ho0, hb⟩; refine ⟨_, rfl, ?_⟩; have n0_ := Aside0.mk (Kd.S_elder' (by (with_reducible repeat (first | apply Kd.S_alloc | apply Kd.S_drewN | apply Kd.S_drew)); exact HO399.out) (Kd.S_base ho0) hb); have n1_ := Aside0.mk (Kd.S_elder' (by (with_reducible repeat (first | apply Kd.S_alloc | apply Kd.S_drewN | apply Kd.S_drew)); exact HO404.out) (Kd.S_base ho0) hb); have n2_ := Aside0.mk (Kd.R_below (by (with_reducible repeat (first | apply Kd.R_alloc | apply Kd.R_drewN | apply Kd.R_drew)); exact HO416.out) hb); have n3_ := Aside0.mk (Kd.S_lower (Kd.S_new' (Kd.S_new' ho0 (Kd.S_lt (by (with_reducible repeat (first | apply Kd.S_alloc | apply Kd.S_drewN | apply Kd.S_drew)); exact HO399.out))) (Kd.S_lt (by (with_reducible repeat (first | apply Kd.S_alloc | apply Kd.S_drewN | apply Kd.S_drew)); exact HO404.out))) (below_size (by repeat (first | (with_reducible first | exact HB.out | apply below_alloc | apply pw_below_drewN | apply below_drew1) | exact HB.out)))); have n4_ := Aside0.mk (below_step (by repeat (first | (with_reducible first | exact HB.out | apply below_alloc | apply pw_below_drewN | apply below_drew1) | exact HB.out)) hb); clear HO399; clear HO404; clear HO416; clear HB; have HO399 := n0_; have HO404 := n1_; have HO416 := n2_; have HO421 := n3_; have HB := n4_; clear n0_ n1_ n2_ n3_ n4_; (try clear hb); (try clear hb2); (try clear hk); (try clear hi); (try clear ho0); obtain ⟨Ao74, co74, eo74⟩ := Kd.S_slice HO421.out; subst eo74; obtain ⟨Ao75, co75, eo75⟩ := Kd.S_slice HO404.out; subst eo75; have q76 : ((l0.length : Int) : Int) ≤ ((t417.length : Int) : Int) := of_decide_eq_true (by first | (with_reducible assumption) | assumption); obtain ⟨i076, hi076, _, hsz76, _⟩ := info_parts info32; have hroom76 : t417.length ≤ co74 := (Kd.S_reads' HO421.out).2.1; have hC76 : Kd.C k32 _ Ao74 t417.length t417 := (Kd.S_reads' HO421.out).2.2; have hcut76 := cut_to (P := Try.prog) 24 32 .i64 Try.underlying24 hi076 Ao74 t417.length co74 (l0.length : Int) (of_decide_eq_true (by first | (with_reducible assumption) | assumption)) q76 hroom76; have hr76 := Kd.C_take (m := ((l0.length : Int) : Int).toNat) hC76 (by omega); have hy76 : y422.length = ((l0.length : Int) : Int).toNat := (by rw [Ny422.out, List.length_take]; omega); rw [← Ny422.out] at hr76; rw [← hy76] at hcut76; have HR425 := Aside0.mk hr76; have HC425 := Aside0.mk (show y422.length ≤ co74 from by omega); clear hr76 hC76 hroom76 hi076 hsz76; have KY76 := Aside0.mk hy76; clear hy76; have KL76 := Aside0.mk (show ((l0.length : Int) : Int).toNat ≤ t417.length from by omega); replace q76 := eq_true q76; obtain ⟨Ao77, co77, eo77⟩ := Kd.S_slice HO399.out; subst eo77) | (go_at_call 20; (with_reducible refine (laws_sameAnswers.calls kj22 _ _ t395 _ _ y422 false _ ?side1 ?side2 ?side3 ?side4 A43.out).mono ?_); (case side1 => repeat (first | exact (Kd.S_reads' HO399.out).2.2 | (with_reducible refine Kd.C_alloc ?_ _) | (with_reducible refine Kd.C_drewN ?_ _) | (with_reducible refine Kd.C_drew ?_))); (case side2 => exact (Kd.S_reads' HO399.out).2.1); (case side3 => repeat (first | exact (by first | (with_reducible exact HR425.out) | (with_reducible exact Kd.C_drewN HR425.out _) | (with_reducible exact Kd.C_drew HR425.out) | (with_reducible exact Kd.C_alloc HR425.out _) | repeat (first | (with_reducible exact HR425.out) | (with_reducible refine Kd.C_alloc ?_ _) | (with_reducible refine Kd.C_drewN ?_ _) | (with_reducible refine Kd.C_drew ?_) | exact HR425.out)) | (with_reducible refine Kd.C_alloc ?_ _) | (with_reducible refine Kd.C_drewN ?_ _) | (with_reducible refine Kd.C_drew ?_))); (case side4 => exact HC425.out); rintro e w78 ⟨rfl, hb⟩; have n0_ := Aside0.mk (Kd.S_below (by (with_reducible repeat (first | apply Kd.S_alloc | apply Kd.S_drewN | apply Kd.S_drew)); exact HO399.out) hb); have n1_ := Aside0.mk (Kd.S_below (by (with_reducible repeat (first | apply Kd.S_alloc | apply Kd.S_drewN | apply Kd.S_drew)); exact HO404.out) hb); have n2_ := Aside0.mk (Kd.R_below (by (with_reducible repeat (first | apply Kd.R_alloc | apply Kd.R_drewN | apply Kd.R_drew)); exact HO416.out) hb); have n3_ := Aside0.mk (Kd.S_below (by (with_reducible repeat (first | apply Kd.S_alloc | apply Kd.S_drewN | apply Kd.S_drew)); exact HO421.out) hb); have n4_ := Aside0.mk (Kd.C_below (by first | (with_reducible exact HR425.out) | (with_reducible exact Kd.C_drewN HR425.out _) | (with_reducible exact Kd.C_drew HR425.out) | (with_reducible exact Kd.C_alloc HR425.out _) | repeat (first | (with_reducible exact HR425.out) | (with_reducible refine Kd.C_alloc ?_ _) | (with_reducible refine Kd.C_drewN ?_ _) | (with_reducible refine Kd.C_drew ?_) | exact HR425.out)) hb); have n5_ := Aside0.mk (below_step (by repeat (first | (with_reducible first | exact HB.out | apply below_alloc | apply pw_below_drewN | apply below_drew1) | exact HB.out)) hb); clear HO399; clear HO404; clear HO416; clear HO421; clear HR425; clear HB; have HO399 := n0_; have HO404 := n1_; have HO416 := n2_; have HO421 := n3_; have HR425 := n4_; have HB := n5_; clear n0_ n1_ n2_ n3_ n4_ n5_; (try clear hb); (try clear hb2); (try clear hk); (try clear hi)))
                    go_ret
                    exact ⟨by first | rfl | (simp [errW_none, errW_some] <;> rfl) | (simp [*, errW_none, errW_some] <;> rfl), by repeat (first | (with_reducible first | exact HB.out | apply below_alloc | apply pw_below_drewN | apply below_drew1) | exact HB.out)⟩
                  ·rw [if_neg c42] at H
                   exact absurd H (by simp)
                 ·rw [if_neg c41] at H
                  exact absurd H (by simp)
                ·rw [if_neg c40] at H
                 have c40b0 : ((t417.length : Int) == (wrap64 ((wrap64 ((l0.length : Int) + 1)) + (t400.length : Int)))) = false := beq_eq_false_iff_ne.mpr c40
                 have c40b1 : ((t417.length : Int) != (wrap64 ((wrap64 ((l0.length : Int) + 1)) + (t400.length : Int)))) = true := bne_iff_ne.mpr c40
                 obtain rfl := Option.some.inj H
                 go_wp2_with (first | ((with_reducible refine gate_callee (f := 9) rfl ?_); refine goesL_ (some 57) rfl rfl Try.func9 (by kernel_rfl) rfl #[.slice A0 l0.length c0] rfl (by (try simp only [List.map_toArray, List.map_cons, List.map_nil]); first | done | rfl | (simp only [List.length_drop, List.length_take]; rfl)) ?_; (with_reducible refine (impl_TrailerScript.calls _ _ l0 t395 t396 true _ ?side1 ?side2 A31.out).mono ?_); (case side1 => repeat (first | exact (Kd.C_below HR0.out HB.out) | (with_reducible refine Kd.C_alloc ?_ _) | (with_reducible refine Kd.C_drewN ?_ _) | (with_reducible refine Kd.C_drew ?_))); (case side2 => exact HC0.out); rintro e w79 ⟨v398, rfl, ho0, hb⟩; refine ⟨_, rfl, ?_⟩; have n0_ := Aside0.mk (Kd.S_lower ho0 (below_size (by repeat (first | (with_reducible first | exact HB.out | apply below_alloc | apply pw_below_drewN | apply below_drew1) | exact HB.out)))); have n1_ := Aside0.mk (below_step (by repeat (first | (with_reducible first | exact HB.out | apply below_alloc | apply pw_below_drewN | apply below_drew1) | exact HB.out)) hb); clear HB; have HO399 := n0_; have HB := n1_; clear n0_ n1_; (try clear hb); (try clear hb2); (try clear hk); (try clear hi); (try clear ho0)) | ((with_reducible refine gate_callee (f := 9) rfl ?_); refine goesL_ (some 63) rfl rfl Try.func9 (by kernel_rfl) rfl #[.slice A1 l1.length c1] rfl (by (try simp only [List.map_toArray, List.map_cons, List.map_nil]); first | done | rfl | (simp only [List.length_drop, List.length_take]; rfl)) ?_; (with_reducible refine (impl_TrailerScript.calls _ _ l1 t400 t401 t402 _ ?side1 ?side2 A32.out).mono ?_); (case side1 => repeat (first | exact (Kd.C_below HR1.out HB.out) | (with_reducible refine Kd.C_alloc ?_ _) | (with_reducible refine Kd.C_drewN ?_ _) | (with_reducible refine Kd.C_drew ?_))); (case side2 => exact HC1.out); rintro e w80 ⟨v403, rfl, ho0, hb⟩; refine ⟨_, rfl, ?_⟩; have n0_ := Aside0.mk (Kd.S_elder' (by (with_reducible repeat (first | apply Kd.S_alloc | apply Kd.S_drewN | apply Kd.S_drew)); exact HO399.out) (Kd.S_base ho0) hb); have n1_ := Aside0.mk (Kd.S_lower (Kd.S_new' ho0 (Kd.S_lt (by (with_reducible repeat (first | apply Kd.S_alloc | apply Kd.S_drewN | apply Kd.S_drew)); exact HO399.out))) (below_size (by repeat (first | (with_reducible first | exact HB.out | apply below_alloc | apply pw_below_drewN | apply below_drew1) | exact HB.out)))); have n2_ := Aside0.mk (below_step (by repeat (first | (with_reducible first | exact HB.out | apply below_alloc | apply pw_below_drewN | apply below_drew1) | exact HB.out)) hb); clear HO399; clear HB; have HO399 := n0_; have HO404 := n1_; have HB := n2_; clear n0_ n1_ n2_; (try clear hb); (try clear hb2); (try clear hk); (try clear hi); (try clear ho0)) | ((with_reducible refine gate_dst (N := 68) rfl ?_); (try (refine gate_guard (by rfl) ?_; dsimp only)); refine Kd.R_lit k28 _ 28 ?hg (N := 68) ?hd (xs := ([] : List (S28))) (inner := []) (ok := fun _ => True) (okp := fun _ => True) ?hr ?hp (fun _ hk => hk) trivial (Below.refl _ _) (Nat.le_refl _) (by simp) ?_; (case hd => rfl); (case hg => rfl); (case hr => first | (go_simp; done) | (go_simp; rfl)); (case hp => exact (Reps.none _ _)); intro v406 w81 ho82 hb hg_ hnew_; clear hg_ hnew_; (first | rw [← Ny405.out] at ho82 | (simp only [Int.reduceToNat] at ho82; rw [← Ny405.out] at ho82)); have n0_ := Aside0.mk (Kd.S_below (by (with_reducible repeat (first | apply Kd.S_alloc | apply Kd.S_drewN | apply Kd.S_drew)); exact HO399.out) hb); have n1_ := Aside0.mk (Kd.S_below (by (with_reducible repeat (first | apply Kd.S_alloc | apply Kd.S_drewN | apply Kd.S_drew)); exact HO404.out) hb); have n2_ := Aside0.mk (Kd.R_lower ho82 (below_size (by repeat (first | (with_reducible first | exact HB.out | apply below_alloc | apply pw_below_drewN | apply below_drew1) | exact HB.out)))); have n3_ := Aside0.mk (below_step (by repeat (first | (with_reducible first | exact HB.out | apply below_alloc | apply pw_below_drewN | apply below_drew1) | exact HB.out)) hb); clear HO399; clear HO404; clear HB; have HO399 := n0_; have HO404 := n1_; have HO407 := n2_; have HB := n3_; clear n0_ n1_ n2_ n3_; clear hb ho82) | ((with_reducible refine gate_builtin (b := .append) (xs := #[.tmp 68, .tmp 69]) rfl ?_); (try (refine gate_guard (by rfl) ?_; dsimp only)); at_builtin; refine Kd.R_append_rows k28 (w0 := w) w.heap.size rfl (.tmp 68) (.tmp 69) 29 28 (.agg #[(.int .i64 0), (.string ⟨#[]⟩), (.string ⟨#[]⟩), (.int .i64 0), (.int .i64 0)]) 56 rfl Try.underlying29 info28 rfl (by decide) (by omega) v406 y405 l0 _ _ _ (fun _ => True) (fun _ => False) rfl rfl ?aO ?aR (fun _ _ h => h) (fun _ h => h.elim) ?aF ?aB ?aS ?aL ?_; (case aR => repeat (first | exact (Kd.C_below HR0.out HB.out) | (with_reducible refine Kd.C_alloc ?_ _) | (with_reducible refine Kd.C_drewN ?_ _) | (with_reducible refine Kd.C_drew ?_))); (case aB => exact (by repeat (first | (with_reducible first | exact HB.out | apply below_alloc | apply pw_below_drewN | apply below_drew1) | exact HB.out))); (case aF => exact (fun _ _ => trivial)); (case aO => exact (by (with_reducible repeat (first | apply Kd.R_alloc | apply Kd.R_drewN | apply Kd.R_drew)); exact HO407.out)); (case aS => exact (below_size (by repeat (first | (with_reducible first | exact HB.out | apply below_alloc | apply pw_below_drewN | apply below_drew1) | exact HB.out)))); (case aL => have := LMc33.out; omega); intro v409 w83 ho hb hg hat; rw [← Ny408.out] at ho; have n0_ := Aside0.mk (Kd.S_over' (by (with_reducible repeat (first | apply Kd.S_alloc | apply Kd.S_drewN | apply Kd.S_drew)); exact HO399.out) (Kd.R_typed (by (with_reducible repeat (first | apply Kd.R_alloc | apply Kd.R_drewN | apply Kd.R_drew)); exact HO407.out)) (by decide) hg); have n1_ := Aside0.mk (Kd.S_over' (by (with_reducible repeat (first | apply Kd.S_alloc | apply Kd.S_drewN | apply Kd.S_drew)); exact HO404.out) (Kd.R_typed (by (with_reducible repeat (first | apply Kd.R_alloc | apply Kd.R_drewN | apply Kd.R_drew)); exact HO407.out)) (by decide) hg); have n2_ := Aside0.mk (hb); have n3_ := Aside0.mk (ho); clear HO399; clear HO404; clear HB; clear HO407; have HO399 := n0_; have HO404 := n1_; have HB := n2_; have HO410 := n3_; clear n0_ n1_ n2_ n3_; clear ho hb hg hat) | ((with_reducible refine gate_builtin (b := .append) (xs := #[.tmp 70, .tmp 72]) rfl ?_); (try (refine gate_guard (by rfl) ?_; dsimp only)); at_builtin; refine Kd.R_append k28 (w0 := w) w.heap.size rfl (.tmp 70) (.tmp 72) 29 28 (.agg #[(.int .i64 0), (.string ⟨#[]⟩), (.string ⟨#[]⟩), (.int .i64 0), (.int .i64 0)]) 56 rfl Try.underlying29 info28 rfl (by decide) (by omega) v409 y408 (⟨11, (⟨#[]⟩ : ByteArray), (⟨#[]⟩ : ByteArray), 0, 0⟩ : S28) [.int .i64 11, .string (⟨#[]⟩ : ByteArray), .string (⟨#[]⟩ : ByteArray), .int .i64 0, .int .i64 0] (fun _ => True) (fun _ => False) rfl rfl ?aP (fun _ hk => hk.elim) ?aF ?aO ?aB ?aS ?aL ?_; (case aP => exact k28_mkM _ _ _ (⟨11, (⟨#[]⟩ : ByteArray), (⟨#[]⟩ : ByteArray), 0, 0⟩ : S28)); (case aB => exact (by repeat (first | (with_reducible first | exact HB.out | apply below_alloc | apply pw_below_drewN | apply below_drew1) | exact HB.out))); (case aF => exact (fun _ _ => trivial)); (case aO => exact (by (with_reducible repeat (first | apply Kd.R_alloc | apply Kd.R_drewN | apply Kd.R_drew)); exact HO410.out)); (case aS => exact (below_size (by repeat (first | (with_reducible first | exact HB.out | apply below_alloc | apply pw_below_drewN | apply below_drew1) | exact HB.out)))); (case aL => have := LMc34.out; omega); intro v412 w84 ho hb hg hat; rw [← Ny411.out] at ho; have n0_ := Aside0.mk (Kd.S_over' (by (with_reducible repeat (first | apply Kd.S_alloc | apply Kd.S_drewN | apply Kd.S_drew)); exact HO399.out) (Kd.R_typed (by (with_reducible repeat (first | apply Kd.R_alloc | apply Kd.R_drewN | apply Kd.R_drew)); exact HO410.out)) (by decide) hg); have n1_ := Aside0.mk (Kd.S_over' (by (with_reducible repeat (first | apply Kd.S_alloc | apply Kd.S_drewN | apply Kd.S_drew)); exact HO404.out) (Kd.R_typed (by (with_reducible repeat (first | apply Kd.R_alloc | apply Kd.R_drewN | apply Kd.R_drew)); exact HO410.out)) (by decide) hg); have n2_ := Aside0.mk (hb); have n3_ := Aside0.mk (ho); clear HO399; clear HO404; clear HB; clear HO410; have HO399 := n0_; have HO404 := n1_; have HB := n2_; have HO413 := n3_; clear n0_ n1_ n2_ n3_; clear ho hb hg hat) | ((with_reducible refine gate_builtin (b := .append) (xs := #[.tmp 73, .tmp 74]) rfl ?_); (try (refine gate_guard (by rfl) ?_; dsimp only)); at_builtin; refine Kd.R_append_rows k28 (w0 := w) w.heap.size rfl (.tmp 73) (.tmp 74) 29 28 (.agg #[(.int .i64 0), (.string ⟨#[]⟩), (.string ⟨#[]⟩), (.int .i64 0), (.int .i64 0)]) 56 rfl Try.underlying29 info28 rfl (by decide) (by omega) v412 y411 l1 _ _ _ (fun _ => True) (fun _ => False) rfl rfl ?aO ?aR (fun _ _ h => h) (fun _ h => h.elim) ?aF ?aB ?aS ?aL ?_; (case aR => repeat (first | exact (Kd.C_below HR1.out HB.out) | (with_reducible refine Kd.C_alloc ?_ _) | (with_reducible refine Kd.C_drewN ?_ _) | (with_reducible refine Kd.C_drew ?_))); (case aB => exact (by repeat (first | (with_reducible first | exact HB.out | apply below_alloc | apply pw_below_drewN | apply below_drew1) | exact HB.out))); (case aF => exact (fun _ _ => trivial)); (case aO => exact (by (with_reducible repeat (first | apply Kd.R_alloc | apply Kd.R_drewN | apply Kd.R_drew)); exact HO413.out)); (case aS => exact (below_size (by repeat (first | (with_reducible first | exact HB.out | apply below_alloc | apply pw_below_drewN | apply below_drew1) | exact HB.out)))); (case aL => have := LMc35.out; omega); intro v415 w85 ho hb hg hat; rw [← Ny414.out] at ho; have n0_ := Aside0.mk (Kd.S_over' (by (with_reducible repeat (first | apply Kd.S_alloc | apply Kd.S_drewN | apply Kd.S_drew)); exact HO399.out) (Kd.R_typed (by (with_reducible repeat (first | apply Kd.R_alloc | apply Kd.R_drewN | apply Kd.R_drew)); exact HO413.out)) (by decide) hg); have n1_ := Aside0.mk (Kd.S_over' (by (with_reducible repeat (first | apply Kd.S_alloc | apply Kd.S_drewN | apply Kd.S_drew)); exact HO404.out) (Kd.R_typed (by (with_reducible repeat (first | apply Kd.R_alloc | apply Kd.R_drewN | apply Kd.R_drew)); exact HO413.out)) (by decide) hg); have n2_ := Aside0.mk (hb); have n3_ := Aside0.mk (ho); clear HO399; clear HO404; clear HB; clear HO413; have HO399 := n0_; have HO404 := n1_; have HB := n2_; have HO416 := n3_; clear n0_ n1_ n2_ n3_; clear ho hb hg hat; obtain ⟨Ao86, co86, eo86⟩ := Kd.R_slice HO416.out; subst eo86) | ((with_reducible refine gate_callee (f := 9) rfl ?_); refine goesL_ (some 76) rfl rfl Try.func9 (by kernel_rfl) rfl #[.slice Ao86 y414.length co86] rfl (by (try simp only [List.map_toArray, List.map_cons, List.map_nil]); first | done | rfl | (simp only [List.length_drop, List.length_take]; rfl)) ?_; (with_reducible refine (impl_TrailerScript.calls _ _ y414 t417 t418 t419 _ ?side1 ?side2 A36.out).mono ?_); (case side1 => repeat (first | exact (Kd.R_reads' HO416.out).2.2 | (with_reducible refine Kd.C_alloc ?_ _) | (with_reducible refine Kd.C_drewN ?_ _) | (with_reducible refine Kd.C_drew ?_))); (case side2 => exact (Kd.R_reads' HO416.out).2.1); rintro e w87 ⟨v420, rfl, ho0, hb⟩; refine ⟨_, rfl, ?_⟩; have n0_ := Aside0.mk (Kd.S_elder' (by (with_reducible repeat (first | apply Kd.S_alloc | apply Kd.S_drewN | apply Kd.S_drew)); exact HO399.out) (Kd.S_base ho0) hb); have n1_ := Aside0.mk (Kd.S_elder' (by (with_reducible repeat (first | apply Kd.S_alloc | apply Kd.S_drewN | apply Kd.S_drew)); exact HO404.out) (Kd.S_base ho0) hb); have n2_ := Aside0.mk (Kd.R_below (by (with_reducible repeat (first | apply Kd.R_alloc | apply Kd.R_drewN | apply Kd.R_drew)); exact HO416.out) hb); have n3_ := Aside0.mk (Kd.S_lower (Kd.S_new' (Kd.S_new' ho0 (Kd.S_lt (by (with_reducible repeat (first | apply Kd.S_alloc | apply Kd.S_drewN | apply Kd.S_drew)); exact HO399.out))) (Kd.S_lt (by (with_reducible repeat (first | apply Kd.S_alloc | apply Kd.S_drewN | apply Kd.S_drew)); exact HO404.out))) (below_size (by repeat (first | (with_reducible first | exact HB.out | apply below_alloc | apply pw_below_drewN | apply below_drew1) | exact HB.out)))); have n4_ := Aside0.mk (below_step (by repeat (first | (with_reducible first | exact HB.out | apply below_alloc | apply pw_below_drewN | apply below_drew1) | exact HB.out)) hb); clear HO399; clear HO404; clear HO416; clear HB; have HO399 := n0_; have HO404 := n1_; have HO416 := n2_; have HO421 := n3_; have HB := n4_; clear n0_ n1_ n2_ n3_ n4_; (try clear hb); (try clear hb2); (try clear hk); (try clear hi); (try clear ho0); obtain ⟨Ao88, co88, eo88⟩ := Kd.S_slice HO421.out; subst eo88; obtain ⟨Ao89, co89, eo89⟩ := Kd.S_slice HO404.out; subst eo89))
                 go_ret
                 exact ⟨by first | rfl | (simp [errW_none, errW_some] <;> rfl) | (simp [*, errW_none, errW_some] <;> rfl), by repeat (first | (with_reducible first | exact HB.out | apply below_alloc | apply pw_below_drewN | apply below_drew1) | exact HB.out)⟩
               ·rw [if_neg c39] at H
                have c39b0 : (t401.toList == t418.toList) = false := beq_eq_false_iff_ne.mpr c39
                have c39b1 : (t401.toList != t418.toList) = true := bne_iff_ne.mpr c39
                obtain rfl := Option.some.inj H
                go_wp2_with (first | ((with_reducible refine gate_callee (f := 9) rfl ?_); refine goesL_ (some 57) rfl rfl Try.func9 (by kernel_rfl) rfl #[.slice A0 l0.length c0] rfl (by (try simp only [List.map_toArray, List.map_cons, List.map_nil]); first | done | rfl | (simp only [List.length_drop, List.length_take]; rfl)) ?_; (with_reducible refine (impl_TrailerScript.calls _ _ l0 t395 t396 true _ ?side1 ?side2 A31.out).mono ?_); (case side1 => repeat (first | exact (Kd.C_below HR0.out HB.out) | (with_reducible refine Kd.C_alloc ?_ _) | (with_reducible refine Kd.C_drewN ?_ _) | (with_reducible refine Kd.C_drew ?_))); (case side2 => exact HC0.out); rintro e w90 ⟨v398, rfl, ho0, hb⟩; refine ⟨_, rfl, ?_⟩; have n0_ := Aside0.mk (Kd.S_lower ho0 (below_size (by repeat (first | (with_reducible first | exact HB.out | apply below_alloc | apply pw_below_drewN | apply below_drew1) | exact HB.out)))); have n1_ := Aside0.mk (below_step (by repeat (first | (with_reducible first | exact HB.out | apply below_alloc | apply pw_below_drewN | apply below_drew1) | exact HB.out)) hb); clear HB; have HO399 := n0_; have HB := n1_; clear n0_ n1_; (try clear hb); (try clear hb2); (try clear hk); (try clear hi); (try clear ho0)) | ((with_reducible refine gate_callee (f := 9) rfl ?_); refine goesL_ (some 63) rfl rfl Try.func9 (by kernel_rfl) rfl #[.slice A1 l1.length c1] rfl (by (try simp only [List.map_toArray, List.map_cons, List.map_nil]); first | done | rfl | (simp only [List.length_drop, List.length_take]; rfl)) ?_; (with_reducible refine (impl_TrailerScript.calls _ _ l1 t400 t401 t402 _ ?side1 ?side2 A32.out).mono ?_); (case side1 => repeat (first | exact (Kd.C_below HR1.out HB.out) | (with_reducible refine Kd.C_alloc ?_ _) | (with_reducible refine Kd.C_drewN ?_ _) | (with_reducible refine Kd.C_drew ?_))); (case side2 => exact HC1.out); rintro e w91 ⟨v403, rfl, ho0, hb⟩; refine ⟨_, rfl, ?_⟩; have n0_ := Aside0.mk (Kd.S_elder' (by (with_reducible repeat (first | apply Kd.S_alloc | apply Kd.S_drewN | apply Kd.S_drew)); exact HO399.out) (Kd.S_base ho0) hb); have n1_ := Aside0.mk (Kd.S_lower (Kd.S_new' ho0 (Kd.S_lt (by (with_reducible repeat (first | apply Kd.S_alloc | apply Kd.S_drewN | apply Kd.S_drew)); exact HO399.out))) (below_size (by repeat (first | (with_reducible first | exact HB.out | apply below_alloc | apply pw_below_drewN | apply below_drew1) | exact HB.out)))); have n2_ := Aside0.mk (below_step (by repeat (first | (with_reducible first | exact HB.out | apply below_alloc | apply pw_below_drewN | apply below_drew1) | exact HB.out)) hb); clear HO399; clear HB; have HO399 := n0_; have HO404 := n1_; have HB := n2_; clear n0_ n1_ n2_; (try clear hb); (try clear hb2); (try clear hk); (try clear hi); (try clear ho0)) | ((with_reducible refine gate_dst (N := 68) rfl ?_); (try (refine gate_guard (by rfl) ?_; dsimp only)); refine Kd.R_lit k28 _ 28 ?hg (N := 68) ?hd (xs := ([] : List (S28))) (inner := []) (ok := fun _ => True) (okp := fun _ => True) ?hr ?hp (fun _ hk => hk) trivial (Below.refl _ _) (Nat.le_refl _) (by simp) ?_; (case hd => rfl); (case hg => rfl); (case hr => first | (go_simp; done) | (go_simp; rfl)); (case hp => exact (Reps.none _ _)); intro v406 w92 ho93 hb hg_ hnew_; clear hg_ hnew_; (first | rw [← Ny405.out] at ho93 | (simp only [Int.reduceToNat] at ho93; rw [← Ny405.out] at ho93)); have n0_ := Aside0.mk (Kd.S_below (by (with_reducible repeat (first | apply Kd.S_alloc | apply Kd.S_drewN | apply Kd.S_drew)); exact HO399.out) hb); have n1_ := Aside0.mk (Kd.S_below (by (with_reducible repeat (first | apply Kd.S_alloc | apply Kd.S_drewN | apply Kd.S_drew)); exact HO404.out) hb); have n2_ := Aside0.mk (Kd.R_lower ho93 (below_size (by repeat (first | (with_reducible first | exact HB.out | apply below_alloc | apply pw_below_drewN | apply below_drew1) | exact HB.out)))); have n3_ := Aside0.mk (below_step (by repeat (first | (with_reducible first | exact HB.out | apply below_alloc | apply pw_below_drewN | apply below_drew1) | exact HB.out)) hb); clear HO399; clear HO404; clear HB; have HO399 := n0_; have HO404 := n1_; have HO407 := n2_; have HB := n3_; clear n0_ n1_ n2_ n3_; clear hb ho93) | ((with_reducible refine gate_builtin (b := .append) (xs := #[.tmp 68, .tmp 69]) rfl ?_); (try (refine gate_guard (by rfl) ?_; dsimp only)); at_builtin; refine Kd.R_append_rows k28 (w0 := w) w.heap.size rfl (.tmp 68) (.tmp 69) 29 28 (.agg #[(.int .i64 0), (.string ⟨#[]⟩), (.string ⟨#[]⟩), (.int .i64 0), (.int .i64 0)]) 56 rfl Try.underlying29 info28 rfl (by decide) (by omega) v406 y405 l0 _ _ _ (fun _ => True) (fun _ => False) rfl rfl ?aO ?aR (fun _ _ h => h) (fun _ h => h.elim) ?aF ?aB ?aS ?aL ?_; (case aR => repeat (first | exact (Kd.C_below HR0.out HB.out) | (with_reducible refine Kd.C_alloc ?_ _) | (with_reducible refine Kd.C_drewN ?_ _) | (with_reducible refine Kd.C_drew ?_))); (case aB => exact (by repeat (first | (with_reducible first | exact HB.out | apply below_alloc | apply pw_below_drewN | apply below_drew1) | exact HB.out))); (case aF => exact (fun _ _ => trivial)); (case aO => exact (by (with_reducible repeat (first | apply Kd.R_alloc | apply Kd.R_drewN | apply Kd.R_drew)); exact HO407.out)); (case aS => exact (below_size (by repeat (first | (with_reducible first | exact HB.out | apply below_alloc | apply pw_below_drewN | apply below_drew1) | exact HB.out)))); (case aL => have := LMc33.out; omega); intro v409 w94 ho hb hg hat; rw [← Ny408.out] at ho; have n0_ := Aside0.mk (Kd.S_over' (by (with_reducible repeat (first | apply Kd.S_alloc | apply Kd.S_drewN | apply Kd.S_drew)); exact HO399.out) (Kd.R_typed (by (with_reducible repeat (first | apply Kd.R_alloc | apply Kd.R_drewN | apply Kd.R_drew)); exact HO407.out)) (by decide) hg); have n1_ := Aside0.mk (Kd.S_over' (by (with_reducible repeat (first | apply Kd.S_alloc | apply Kd.S_drewN | apply Kd.S_drew)); exact HO404.out) (Kd.R_typed (by (with_reducible repeat (first | apply Kd.R_alloc | apply Kd.R_drewN | apply Kd.R_drew)); exact HO407.out)) (by decide) hg); have n2_ := Aside0.mk (hb); have n3_ := Aside0.mk (ho); clear HO399; clear HO404; clear HB; clear HO407; have HO399 := n0_; have HO404 := n1_; have HB := n2_; have HO410 := n3_; clear n0_ n1_ n2_ n3_; clear ho hb hg hat) | ((with_reducible refine gate_builtin (b := .append) (xs := #[.tmp 70, .tmp 72]) rfl ?_); (try (refine gate_guard (by rfl) ?_; dsimp only)); at_builtin; refine Kd.R_append k28 (w0 := w) w.heap.size rfl (.tmp 70) (.tmp 72) 29 28 (.agg #[(.int .i64 0), (.string ⟨#[]⟩), (.string ⟨#[]⟩), (.int .i64 0), (.int .i64 0)]) 56 rfl Try.underlying29 info28 rfl (by decide) (by omega) v409 y408 (⟨11, (⟨#[]⟩ : ByteArray), (⟨#[]⟩ : ByteArray), 0, 0⟩ : S28) [.int .i64 11, .string (⟨#[]⟩ : ByteArray), .string (⟨#[]⟩ : ByteArray), .int .i64 0, .int .i64 0] (fun _ => True) (fun _ => False) rfl rfl ?aP (fun _ hk => hk.elim) ?aF ?aO ?aB ?aS ?aL ?_; (case aP => exact k28_mkM _ _ _ (⟨11, (⟨#[]⟩ : ByteArray), (⟨#[]⟩ : ByteArray), 0, 0⟩ : S28)); (case aB => exact (by repeat (first | (with_reducible first | exact HB.out | apply below_alloc | apply pw_below_drewN | apply below_drew1) | exact HB.out))); (case aF => exact (fun _ _ => trivial)); (case aO => exact (by (with_reducible repeat (first | apply Kd.R_alloc | apply Kd.R_drewN | apply Kd.R_drew)); exact HO410.out)); (case aS => exact (below_size (by repeat (first | (with_reducible first | exact HB.out | apply below_alloc | apply pw_below_drewN | apply below_drew1) | exact HB.out)))); (case aL => have := LMc34.out; omega); intro v412 w95 ho hb hg hat; rw [← Ny411.out] at ho; have n0_ := Aside0.mk (Kd.S_over' (by (with_reducible repeat (first | apply Kd.S_alloc | apply Kd.S_drewN | apply Kd.S_drew)); exact HO399.out) (Kd.R_typed (by (with_reducible repeat (first | apply Kd.R_alloc | apply Kd.R_drewN | apply Kd.R_drew)); exact HO410.out)) (by decide) hg); have n1_ := Aside0.mk (Kd.S_over' (by (with_reducible repeat (first | apply Kd.S_alloc | apply Kd.S_drewN | apply Kd.S_drew)); exact HO404.out) (Kd.R_typed (by (with_reducible repeat (first | apply Kd.R_alloc | apply Kd.R_drewN | apply Kd.R_drew)); exact HO410.out)) (by decide) hg); have n2_ := Aside0.mk (hb); have n3_ := Aside0.mk (ho); clear HO399; clear HO404; clear HB; clear HO410; have HO399 := n0_; have HO404 := n1_; have HB := n2_; have HO413 := n3_; clear n0_ n1_ n2_ n3_; clear ho hb hg hat) | ((with_reducible refine gate_builtin (b := .append) (xs := #[.tmp 73, .tmp 74]) rfl ?_); (try (refine gate_guard (by rfl) ?_; dsimp only)); at_builtin; refine Kd.R_append_rows k28 (w0 := w) w.heap.size rfl (.tmp 73) (.tmp 74) 29 28 (.agg #[(.int .i64 0), (.string ⟨#[]⟩), (.string ⟨#[]⟩), (.int .i64 0), (.int .i64 0)]) 56 rfl Try.underlying29 info28 rfl (by decide) (by omega) v412 y411 l1 _ _ _ (fun _ => True) (fun _ => False) rfl rfl ?aO ?aR (fun _ _ h => h) (fun _ h => h.elim) ?aF ?aB ?aS ?aL ?_; (case aR => repeat (first | exact (Kd.C_below HR1.out HB.out) | (with_reducible refine Kd.C_alloc ?_ _) | (with_reducible refine Kd.C_drewN ?_ _) | (with_reducible refine Kd.C_drew ?_))); (case aB => exact (by repeat (first | (with_reducible first | exact HB.out | apply below_alloc | apply pw_below_drewN | apply below_drew1) | exact HB.out))); (case aF => exact (fun _ _ => trivial)); (case aO => exact (by (with_reducible repeat (first | apply Kd.R_alloc | apply Kd.R_drewN | apply Kd.R_drew)); exact HO413.out)); (case aS => exact (below_size (by repeat (first | (with_reducible first | exact HB.out | apply below_alloc | apply pw_below_drewN | apply below_drew1) | exact HB.out)))); (case aL => have := LMc35.out; omega); intro v415 w96 ho hb hg hat; rw [← Ny414.out] at ho; have n0_ := Aside0.mk (Kd.S_over' (by (with_reducible repeat (first | apply Kd.S_alloc | apply Kd.S_drewN | apply Kd.S_drew)); exact HO399.out) (Kd.R_typed (by (with_reducible repeat (first | apply Kd.R_alloc | apply Kd.R_drewN | apply Kd.R_drew)); exact HO413.out)) (by decide) hg); have n1_ := Aside0.mk (Kd.S_over' (by (with_reducible repeat (first | apply Kd.S_alloc | apply Kd.S_drewN | apply Kd.S_drew)); exact HO404.out) (Kd.R_typed (by (with_reducible repeat (first | apply Kd.R_alloc | apply Kd.R_drewN | apply Kd.R_drew)); exact HO413.out)) (by decide) hg); have n2_ := Aside0.mk (hb); have n3_ := Aside0.mk (ho); clear HO399; clear HO404; clear HB; clear HO413; have HO399 := n0_; have HO404 := n1_; have HB := n2_; have HO416 := n3_; clear n0_ n1_ n2_ n3_; clear ho hb hg hat; obtain ⟨Ao97, co97, eo97⟩ := Kd.R_slice HO416.out; subst eo97) | ((with_reducible refine gate_callee (f := 9) rfl ?_); refine goesL_ (some 76) rfl rfl Try.func9 (by kernel_rfl) rfl #[.slice Ao97 y414.length co97] rfl (by (try simp only [List.map_toArray, List.map_cons, List.map_nil]); first | done | rfl | (simp only [List.length_drop, List.length_take]; rfl)) ?_; (with_reducible refine (impl_TrailerScript.calls _ _ y414 t417 t418 t419 _ ?side1 ?side2 A36.out).mono ?_); (case side1 => repeat (first | exact (Kd.R_reads' HO416.out).2.2 | (with_reducible refine Kd.C_alloc ?_ _) | (with_reducible refine Kd.C_drewN ?_ _) | (with_reducible refine Kd.C_drew ?_))); (case side2 => exact (Kd.R_reads' HO416.out).2.1); rintro e w98 ⟨v420, rfl, ho0, hb⟩; refine ⟨_, rfl, ?_⟩; have n0_ := Aside0.mk (Kd.S_elder' (by (with_reducible repeat (first | apply Kd.S_alloc | apply Kd.S_drewN | apply Kd.S_drew)); exact HO399.out) (Kd.S_base ho0) hb); have n1_ := Aside0.mk (Kd.S_elder' (by (with_reducible repeat (first | apply Kd.S_alloc | apply Kd.S_drewN | apply Kd.S_drew)); exact HO404.out) (Kd.S_base ho0) hb); have n2_ := Aside0.mk (Kd.R_below (by (with_reducible repeat (first | apply Kd.R_alloc | apply Kd.R_drewN | apply Kd.R_drew)); exact HO416.out) hb); have n3_ := Aside0.mk (Kd.S_lower (Kd.S_new' (Kd.S_new' ho0 (Kd.S_lt (by (with_reducible repeat (first | apply Kd.S_alloc | apply Kd.S_drewN | apply Kd.S_drew)); exact HO399.out))) (Kd.S_lt (by (with_reducible repeat (first | apply Kd.S_alloc | apply Kd.S_drewN | apply Kd.S_drew)); exact HO404.out))) (below_size (by repeat (first | (with_reducible first | exact HB.out | apply below_alloc | apply pw_below_drewN | apply below_drew1) | exact HB.out)))); have n4_ := Aside0.mk (below_step (by repeat (first | (with_reducible first | exact HB.out | apply below_alloc | apply pw_below_drewN | apply below_drew1) | exact HB.out)) hb); clear HO399; clear HO404; clear HO416; clear HB; have HO399 := n0_; have HO404 := n1_; have HO416 := n2_; have HO421 := n3_; have HB := n4_; clear n0_ n1_ n2_ n3_ n4_; (try clear hb); (try clear hb2); (try clear hk); (try clear hi); (try clear ho0)))
                go_ret
                exact ⟨by first | rfl | (simp [errW_none, errW_some] <;> rfl) | (simp [*, errW_none, errW_some] <;> rfl), by repeat (first | (with_reducible first | exact HB.out | apply below_alloc | apply pw_below_drewN | apply below_drew1) | exact HB.out)⟩
              ·rw [if_neg c38] at H
               have c38b0 : (t419 == t402) = false := by simpa using c38
               (try (have c38b1 : decide (t419 = t402) = false := by simpa using c38))
               (try (have c38b2 : (t419 == t402) = false := by simpa using c38))
               (try (have c38b3 : ¬ (t419 = t402) := by simpa using c38))
               clear c38
               obtain rfl := Option.some.inj H
               go_wp2_with (first | ((with_reducible refine gate_callee (f := 9) rfl ?_); refine goesL_ (some 57) rfl rfl Try.func9 (by kernel_rfl) rfl #[.slice A0 l0.length c0] rfl (by (try simp only [List.map_toArray, List.map_cons, List.map_nil]); first | done | rfl | (simp only [List.length_drop, List.length_take]; rfl)) ?_; (with_reducible refine (impl_TrailerScript.calls _ _ l0 t395 t396 true _ ?side1 ?side2 A31.out).mono ?_); (case side1 => repeat (first | exact (Kd.C_below HR0.out HB.out) | (with_reducible refine Kd.C_alloc ?_ _) | (with_reducible refine Kd.C_drewN ?_ _) | (with_reducible refine Kd.C_drew ?_))); (case side2 => exact HC0.out); rintro e w99 ⟨v398, rfl, ho0, hb⟩; refine ⟨_, rfl, ?_⟩; have n0_ := Aside0.mk (Kd.S_lower ho0 (below_size (by repeat (first | (with_reducible first | exact HB.out | apply below_alloc | apply pw_below_drewN | apply below_drew1) | exact HB.out)))); have n1_ := Aside0.mk (below_step (by repeat (first | (with_reducible first | exact HB.out | apply below_alloc | apply pw_below_drewN | apply below_drew1) | exact HB.out)) hb); clear HB; have HO399 := n0_; have HB := n1_; clear n0_ n1_; (try clear hb); (try clear hb2); (try clear hk); (try clear hi); (try clear ho0)) | ((with_reducible refine gate_callee (f := 9) rfl ?_); refine goesL_ (some 63) rfl rfl Try.func9 (by kernel_rfl) rfl #[.slice A1 l1.length c1] rfl (by (try simp only [List.map_toArray, List.map_cons, List.map_nil]); first | done | rfl | (simp only [List.length_drop, List.length_take]; rfl)) ?_; (with_reducible refine (impl_TrailerScript.calls _ _ l1 t400 t401 t402 _ ?side1 ?side2 A32.out).mono ?_); (case side1 => repeat (first | exact (Kd.C_below HR1.out HB.out) | (with_reducible refine Kd.C_alloc ?_ _) | (with_reducible refine Kd.C_drewN ?_ _) | (with_reducible refine Kd.C_drew ?_))); (case side2 => exact HC1.out); rintro e w100 ⟨v403, rfl, ho0, hb⟩; refine ⟨_, rfl, ?_⟩; have n0_ := Aside0.mk (Kd.S_elder' (by (with_reducible repeat (first | apply Kd.S_alloc | apply Kd.S_drewN | apply Kd.S_drew)); exact HO399.out) (Kd.S_base ho0) hb); have n1_ := Aside0.mk (Kd.S_lower (Kd.S_new' ho0 (Kd.S_lt (by (with_reducible repeat (first | apply Kd.S_alloc | apply Kd.S_drewN | apply Kd.S_drew)); exact HO399.out))) (below_size (by repeat (first | (with_reducible first | exact HB.out | apply below_alloc | apply pw_below_drewN | apply below_drew1) | exact HB.out)))); have n2_ := Aside0.mk (below_step (by repeat (first | (with_reducible first | exact HB.out | apply below_alloc | apply pw_below_drewN | apply below_drew1) | exact HB.out)) hb); clear HO399; clear HB; have HO399 := n0_; have HO404 := n1_; have HB := n2_; clear n0_ n1_ n2_; (try clear hb); (try clear hb2); (try clear hk); (try clear hi); (try clear ho0)) | ((with_reducible refine gate_dst (N := 68) rfl ?_); (try (refine gate_guard (by rfl) ?_; dsimp only)); refine Kd.R_lit k28 _ 28 ?hg (N := 68) ?hd (xs := ([] : List (S28))) (inner := []) (ok := fun _ => True) (okp := fun _ => True) ?hr ?hp (fun _ hk => hk) trivial (Below.refl _ _) (Nat.le_refl _) (by simp) ?_; (case hd => rfl); (case hg => rfl); (case hr => first | (go_simp; done) | (go_simp; rfl)); (case hp => exact (Reps.none _ _)); intro v406 w101 ho102 hb hg_ hnew_; clear hg_ hnew_; (first | rw [← Ny405.out] at ho102 | (simp only [Int.reduceToNat] at ho102; rw [← Ny405.out] at ho102)); have n0_ := Aside0.mk (Kd.S_below (by (with_reducible repeat (first | apply Kd.S_alloc | apply Kd.S_drewN | apply Kd.S_drew)); exact HO399.out) hb); have n1_ := Aside0.mk (Kd.S_below (by (with_reducible repeat (first | apply Kd.S_alloc | apply Kd.S_drewN | apply Kd.S_drew)); exact HO404.out) hb); have n2_ := Aside0.mk (Kd.R_lower ho102 (below_size (by repeat (first | (with_reducible first | exact HB.out | apply below_alloc | apply pw_below_drewN | apply below_drew1) | exact HB.out)))); have n3_ := Aside0.mk (below_step (by repeat (first | (with_reducible first | exact HB.out | apply below_alloc | apply pw_below_drewN | apply below_drew1) | exact HB.out)) hb); clear HO399; clear HO404; clear HB; have HO399 := n0_; have HO404 := n1_; have HO407 := n2_; have HB := n3_; clear n0_ n1_ n2_ n3_; clear hb ho102) | ((with_reducible refine gate_builtin (b := .append) (xs := #[.tmp 68, .tmp 69]) rfl ?_); (try (refine gate_guard (by rfl) ?_; dsimp only)); at_builtin; refine Kd.R_append_rows k28 (w0 := w) w.heap.size rfl (.tmp 68) (.tmp 69) 29 28 (.agg #[(.int .i64 0), (.string ⟨#[]⟩), (.string ⟨#[]⟩), (.int .i64 0), (.int .i64 0)]) 56 rfl Try.underlying29 info28 rfl (by decide) (by omega) v406 y405 l0 _ _ _ (fun _ => True) (fun _ => False) rfl rfl ?aO ?aR (fun _ _ h => h) (fun _ h => h.elim) ?aF ?aB ?aS ?aL ?_; (case aR => repeat (first | exact (Kd.C_below HR0.out HB.out) | (with_reducible refine Kd.C_alloc ?_ _) | (with_reducible refine Kd.C_drewN ?_ _) | (with_reducible refine Kd.C_drew ?_))); (case aB => exact (by repeat (first | (with_reducible first | exact HB.out | apply below_alloc | apply pw_below_drewN | apply below_drew1) | exact HB.out))); (case aF => exact (fun _ _ => trivial)); (case aO => exact (by (with_reducible repeat (first | apply Kd.R_alloc | apply Kd.R_drewN | apply Kd.R_drew)); exact HO407.out)); (case aS => exact (below_size (by repeat (first | (with_reducible first | exact HB.out | apply below_alloc | apply pw_below_drewN | apply below_drew1) | exact HB.out)))); (case aL => have := LMc33.out; omega); intro v409 w103 ho hb hg hat; rw [← Ny408.out] at ho; have n0_ := Aside0.mk (Kd.S_over' (by (with_reducible repeat (first | apply Kd.S_alloc | apply Kd.S_drewN | apply Kd.S_drew)); exact HO399.out) (Kd.R_typed (by (with_reducible repeat (first | apply Kd.R_alloc | apply Kd.R_drewN | apply Kd.R_drew)); exact HO407.out)) (by decide) hg); have n1_ := Aside0.mk (Kd.S_over' (by (with_reducible repeat (first | apply Kd.S_alloc | apply Kd.S_drewN | apply Kd.S_drew)); exact HO404.out) (Kd.R_typed (by (with_reducible repeat (first | apply Kd.R_alloc | apply Kd.R_drewN | apply Kd.R_drew)); exact HO407.out)) (by decide) hg); have n2_ := Aside0.mk (hb); have n3_ := Aside0.mk (ho); clear HO399; clear HO404; clear HB; clear HO407; have HO399 := n0_; have HO404 := n1_; have HB := n2_; have HO410 := n3_; clear n0_ n1_ n2_ n3_; clear ho hb hg hat) | ((with_reducible refine gate_builtin (b := .append) (xs := #[.tmp 70, .tmp 72]) rfl ?_); (try (refine gate_guard (by rfl) ?_; dsimp only)); at_builtin; refine Kd.R_append k28 (w0 := w) w.heap.size rfl (.tmp 70) (.tmp 72) 29 28 (.agg #[(.int .i64 0), (.string ⟨#[]⟩), (.string ⟨#[]⟩), (.int .i64 0), (.int .i64 0)]) 56 rfl Try.underlying29 info28 rfl (by decide) (by omega) v409 y408 (⟨11, (⟨#[]⟩ : ByteArray), (⟨#[]⟩ : ByteArray), 0, 0⟩ : S28) [.int .i64 11, .string (⟨#[]⟩ : ByteArray), .string (⟨#[]⟩ : ByteArray), .int .i64 0, .int .i64 0] (fun _ => True) (fun _ => False) rfl rfl ?aP (fun _ hk => hk.elim) ?aF ?aO ?aB ?aS ?aL ?_; (case aP => exact k28_mkM _ _ _ (⟨11, (⟨#[]⟩ : ByteArray), (⟨#[]⟩ : ByteArray), 0, 0⟩ : S28)); (case aB => exact (by repeat (first | (with_reducible first | exact HB.out | apply below_alloc | apply pw_below_drewN | apply below_drew1) | exact HB.out))); (case aF => exact (fun _ _ => trivial)); (case aO => exact (by (with_reducible repeat (first | apply Kd.R_alloc | apply Kd.R_drewN | apply Kd.R_drew)); exact HO410.out)); (case aS => exact (below_size (by repeat (first | (with_reducible first | exact HB.out | apply below_alloc | apply pw_below_drewN | apply below_drew1) | exact HB.out)))); (case aL => have := LMc34.out; omega); intro v412 w104 ho hb hg hat; rw [← Ny411.out] at ho; have n0_ := Aside0.mk (Kd.S_over' (by (with_reducible repeat (first | apply Kd.S_alloc | apply Kd.S_drewN | apply Kd.S_drew)); exact HO399.out) (Kd.R_typed (by (with_reducible repeat (first | apply Kd.R_alloc | apply Kd.R_drewN | apply Kd.R_drew)); exact HO410.out)) (by decide) hg); have n1_ := Aside0.mk (Kd.S_over' (by (with_reducible repeat (first | apply Kd.S_alloc | apply Kd.S_drewN | apply Kd.S_drew)); exact HO404.out) (Kd.R_typed (by (with_reducible repeat (first | apply Kd.R_alloc | apply Kd.R_drewN | apply Kd.R_drew)); exact HO410.out)) (by decide) hg); have n2_ := Aside0.mk (hb); have n3_ := Aside0.mk (ho); clear HO399; clear HO404; clear HB; clear HO410; have HO399 := n0_; have HO404 := n1_; have HB := n2_; have HO413 := n3_; clear n0_ n1_ n2_ n3_; clear ho hb hg hat) | ((with_reducible refine gate_builtin (b := .append) (xs := #[.tmp 73, .tmp 74]) rfl ?_); (try (refine gate_guard (by rfl) ?_; dsimp only)); at_builtin; refine Kd.R_append_rows k28 (w0 := w) w.heap.size rfl (.tmp 73) (.tmp 74) 29 28 (.agg #[(.int .i64 0), (.string ⟨#[]⟩), (.string ⟨#[]⟩), (.int .i64 0), (.int .i64 0)]) 56 rfl Try.underlying29 info28 rfl (by decide) (by omega) v412 y411 l1 _ _ _ (fun _ => True) (fun _ => False) rfl rfl ?aO ?aR (fun _ _ h => h) (fun _ h => h.elim) ?aF ?aB ?aS ?aL ?_; (case aR => repeat (first | exact (Kd.C_below HR1.out HB.out) | (with_reducible refine Kd.C_alloc ?_ _) | (with_reducible refine Kd.C_drewN ?_ _) | (with_reducible refine Kd.C_drew ?_))); (case aB => exact (by repeat (first | (with_reducible first | exact HB.out | apply below_alloc | apply pw_below_drewN | apply below_drew1) | exact HB.out))); (case aF => exact (fun _ _ => trivial)); (case aO => exact (by (with_reducible repeat (first | apply Kd.R_alloc | apply Kd.R_drewN | apply Kd.R_drew)); exact HO413.out)); (case aS => exact (below_size (by repeat (first | (with_reducible first | exact HB.out | apply below_alloc | apply pw_below_drewN | apply below_drew1) | exact HB.out)))); (case aL => have := LMc35.out; omega); intro v415 w105 ho hb hg hat; rw [← Ny414.out] at ho; have n0_ := Aside0.mk (Kd.S_over' (by (with_reducible repeat (first | apply Kd.S_alloc | apply Kd.S_drewN | apply Kd.S_drew)); exact HO399.out) (Kd.R_typed (by (with_reducible repeat (first | apply Kd.R_alloc | apply Kd.R_drewN | apply Kd.R_drew)); exact HO413.out)) (by decide) hg); have n1_ := Aside0.mk (Kd.S_over' (by (with_reducible repeat (first | apply Kd.S_alloc | apply Kd.S_drewN | apply Kd.S_drew)); exact HO404.out) (Kd.R_typed (by (with_reducible repeat (first | apply Kd.R_alloc | apply Kd.R_drewN | apply Kd.R_drew)); exact HO413.out)) (by decide) hg); have n2_ := Aside0.mk (hb); have n3_ := Aside0.mk (ho); clear HO399; clear HO404; clear HB; clear HO413; have HO399 := n0_; have HO404 := n1_; have HB := n2_; have HO416 := n3_; clear n0_ n1_ n2_ n3_; clear ho hb hg hat; obtain ⟨Ao106, co106, eo106⟩ := Kd.R_slice HO416.out; subst eo106) | ((with_reducible refine gate_callee (f := 9) rfl ?_); refine goesL_ (some 76) rfl rfl Try.func9 (by kernel_rfl) rfl #[.slice Ao106 y414.length co106] rfl (by (try simp only [List.map_toArray, List.map_cons, List.map_nil]); first | done | rfl | (simp only [List.length_drop, List.length_take]; rfl)) ?_; (with_reducible refine (impl_TrailerScript.calls _ _ y414 t417 t418 t419 _ ?side1 ?side2 A36.out).mono ?_); (case side1 => repeat (first | exact (Kd.R_reads' HO416.out).2.2 | (with_reducible refine Kd.C_alloc ?_ _) | (with_reducible refine Kd.C_drewN ?_ _) | (with_reducible refine Kd.C_drew ?_))); (case side2 => exact (Kd.R_reads' HO416.out).2.1); rintro e w107 ⟨v420, rfl, ho0, hb⟩; refine ⟨_, rfl, ?_⟩; have n0_ := Aside0.mk (Kd.S_elder' (by (with_reducible repeat (first | apply Kd.S_alloc | apply Kd.S_drewN | apply Kd.S_drew)); exact HO399.out) (Kd.S_base ho0) hb); have n1_ := Aside0.mk (Kd.S_elder' (by (with_reducible repeat (first | apply Kd.S_alloc | apply Kd.S_drewN | apply Kd.S_drew)); exact HO404.out) (Kd.S_base ho0) hb); have n2_ := Aside0.mk (Kd.R_below (by (with_reducible repeat (first | apply Kd.R_alloc | apply Kd.R_drewN | apply Kd.R_drew)); exact HO416.out) hb); have n3_ := Aside0.mk (Kd.S_lower (Kd.S_new' (Kd.S_new' ho0 (Kd.S_lt (by (with_reducible repeat (first | apply Kd.S_alloc | apply Kd.S_drewN | apply Kd.S_drew)); exact HO399.out))) (Kd.S_lt (by (with_reducible repeat (first | apply Kd.S_alloc | apply Kd.S_drewN | apply Kd.S_drew)); exact HO404.out))) (below_size (by repeat (first | (with_reducible first | exact HB.out | apply below_alloc | apply pw_below_drewN | apply below_drew1) | exact HB.out)))); have n4_ := Aside0.mk (below_step (by repeat (first | (with_reducible first | exact HB.out | apply below_alloc | apply pw_below_drewN | apply below_drew1) | exact HB.out)) hb); clear HO399; clear HO404; clear HO416; clear HB; have HO399 := n0_; have HO404 := n1_; have HO416 := n2_; have HO421 := n3_; have HB := n4_; clear n0_ n1_ n2_ n3_ n4_; (try clear hb); (try clear hb2); (try clear hk); (try clear hi); (try clear ho0)))
               go_ret
               exact ⟨by first | rfl | (simp [errW_none, errW_some] <;> rfl) | (simp [*, errW_none, errW_some] <;> rfl), by repeat (first | (with_reducible first | exact HB.out | apply below_alloc | apply pw_below_drewN | apply below_drew1) | exact HB.out)⟩
             ·replace c37 := Bool.eq_false_iff.mpr c37
              subst c37
              have H1 : (if t419 = true then (some false) else ((laws_sameAnswers.f kj22 t395 t417).bind fun t432 => (some t432))) = some r := by rw [if_neg (show ¬ (false = true) by decide)] at H; exact H
              clear H
              have H := H1
              clear H1
              by_cases c108 : t419 = true
              ·subst c108
               have H1 : (some false) = some r := by rw [if_pos rfl] at H; exact H
               clear H
               have H := H1
               clear H1
               obtain rfl := Option.some.inj H
               go_wp2_with (first | ((with_reducible refine gate_callee (f := 9) rfl ?_); refine goesL_ (some 57) rfl rfl Try.func9 (by kernel_rfl) rfl #[.slice A0 l0.length c0] rfl (by (try simp only [List.map_toArray, List.map_cons, List.map_nil]); first | done | rfl | (simp only [List.length_drop, List.length_take]; rfl)) ?_; (with_reducible refine (impl_TrailerScript.calls _ _ l0 t395 t396 false _ ?side1 ?side2 A31.out).mono ?_); (case side1 => repeat (first | exact (Kd.C_below HR0.out HB.out) | (with_reducible refine Kd.C_alloc ?_ _) | (with_reducible refine Kd.C_drewN ?_ _) | (with_reducible refine Kd.C_drew ?_))); (case side2 => exact HC0.out); rintro e w109 ⟨v398, rfl, ho0, hb⟩; refine ⟨_, rfl, ?_⟩; have n0_ := Aside0.mk (Kd.S_lower ho0 (below_size (by repeat (first | (with_reducible first | exact HB.out | apply below_alloc | apply pw_below_drewN | apply below_drew1) | exact HB.out)))); have n1_ := Aside0.mk (below_step (by repeat (first | (with_reducible first | exact HB.out | apply below_alloc | apply pw_below_drewN | apply below_drew1) | exact HB.out)) hb); clear HB; have HO399 := n0_; have HB := n1_; clear n0_ n1_; (try clear hb); (try clear hb2); (try clear hk); (try clear hi); (try clear ho0)) | ((with_reducible refine gate_callee (f := 9) rfl ?_); refine goesL_ (some 63) rfl rfl Try.func9 (by kernel_rfl) rfl #[.slice A1 l1.length c1] rfl (by (try simp only [List.map_toArray, List.map_cons, List.map_nil]); first | done | rfl | (simp only [List.length_drop, List.length_take]; rfl)) ?_; (with_reducible refine (impl_TrailerScript.calls _ _ l1 t400 t401 t402 _ ?side1 ?side2 A32.out).mono ?_); (case side1 => repeat (first | exact (Kd.C_below HR1.out HB.out) | (with_reducible refine Kd.C_alloc ?_ _) | (with_reducible refine Kd.C_drewN ?_ _) | (with_reducible refine Kd.C_drew ?_))); (case side2 => exact HC1.out); rintro e w110 ⟨v403, rfl, ho0, hb⟩; refine ⟨_, rfl, ?_⟩; have n0_ := Aside0.mk (Kd.S_elder' (by (with_reducible repeat (first | apply Kd.S_alloc | apply Kd.S_drewN | apply Kd.S_drew)); exact HO399.out) (Kd.S_base ho0) hb); have n1_ := Aside0.mk (Kd.S_lower (Kd.S_new' ho0 (Kd.S_lt (by (with_reducible repeat (first | apply Kd.S_alloc | apply Kd.S_drewN | apply Kd.S_drew)); exact HO399.out))) (below_size (by repeat (first | (with_reducible first | exact HB.out | apply below_alloc | apply pw_below_drewN | apply below_drew1) | exact HB.out)))); have n2_ := Aside0.mk (below_step (by repeat (first | (with_reducible first | exact HB.out | apply below_alloc | apply pw_below_drewN | apply below_drew1) | exact HB.out)) hb); clear HO399; clear HB; have HO399 := n0_; have HO404 := n1_; have HB := n2_; clear n0_ n1_ n2_; (try clear hb); (try clear hb2); (try clear hk); (try clear hi); (try clear ho0)) | ((with_reducible refine gate_dst (N := 68) rfl ?_); (try (refine gate_guard (by rfl) ?_; dsimp only)); refine Kd.R_lit k28 _ 28 ?hg (N := 68) ?hd (xs := ([] : List (S28))) (inner := []) (ok := fun _ => True) (okp := fun _ => True) ?hr ?hp (fun _ hk => hk) trivial (Below.refl _ _) (Nat.le_refl _) (by simp) ?_; (case hd => rfl); (case hg => rfl); (case hr => first | (go_simp; done) | (go_simp; rfl)); (case hp => exact (Reps.none _ _)); intro v406 w111 ho112 hb hg_ hnew_; clear hg_ hnew_; (first | rw [← Ny405.out] at ho112 | (simp only [Int.reduceToNat] at ho112; rw [← Ny405.out] at ho112)); have n0_ := Aside0.mk (Kd.S_below (by (with_reducible repeat (first | apply Kd.S_alloc | apply Kd.S_drewN | apply Kd.S_drew)); exact HO399.out) hb); have n1_ := Aside0.mk (Kd.S_below (by (with_reducible repeat (first | apply Kd.S_alloc | apply Kd.S_drewN | apply Kd.S_drew)); exact HO404.out) hb); have n2_ := Aside0.mk (Kd.R_lower ho112 (below_size (by repeat (first | (with_reducible first | exact HB.out | apply below_alloc | apply pw_below_drewN | apply below_drew1) | exact HB.out)))); have n3_ := Aside0.mk (below_step (by repeat (first | (with_reducible first | exact HB.out | apply below_alloc | apply pw_below_drewN | apply below_drew1) | exact HB.out)) hb); clear HO399; clear HO404; clear HB; have HO399 := n0_; have HO404 := n1_; have HO407 := n2_; have HB := n3_; clear n0_ n1_ n2_ n3_; clear hb ho112) | ((with_reducible refine gate_builtin (b := .append) (xs := #[.tmp 68, .tmp 69]) rfl ?_); (try (refine gate_guard (by rfl) ?_; dsimp only)); at_builtin; refine Kd.R_append_rows k28 (w0 := w) w.heap.size rfl (.tmp 68) (.tmp 69) 29 28 (.agg #[(.int .i64 0), (.string ⟨#[]⟩), (.string ⟨#[]⟩), (.int .i64 0), (.int .i64 0)]) 56 rfl Try.underlying29 info28 rfl (by decide) (by omega) v406 y405 l0 _ _ _ (fun _ => True) (fun _ => False) rfl rfl ?aO ?aR (fun _ _ h => h) (fun _ h => h.elim) ?aF ?aB ?aS ?aL ?_; (case aR => repeat (first | exact (Kd.C_below HR0.out HB.out) | (with_reducible refine Kd.C_alloc ?_ _) | (with_reducible refine Kd.C_drewN ?_ _) | (with_reducible refine Kd.C_drew ?_))); (case aB => exact (by repeat (first | (with_reducible first | exact HB.out | apply below_alloc | apply pw_below_drewN | apply below_drew1) | exact HB.out))); (case aF => exact (fun _ _ => trivial)); (case aO => exact (by (with_reducible repeat (first | apply Kd.R_alloc | apply Kd.R_drewN | apply Kd.R_drew)); exact HO407.out)); (case aS => exact (below_size (by repeat (first | (with_reducible first | exact HB.out | apply below_alloc | apply pw_below_drewN | apply below_drew1) | exact HB.out)))); (case aL => have := LMc33.out; omega); intro v409 w113 ho hb hg hat; rw [← Ny408.out] at ho; have n0_ := Aside0.mk (Kd.S_over' (by (with_reducible repeat (first | apply Kd.S_alloc | apply Kd.S_drewN | apply Kd.S_drew)); exact HO399.out) (Kd.R_typed (by (with_reducible repeat (first | apply Kd.R_alloc | apply Kd.R_drewN | apply Kd.R_drew)); exact HO407.out)) (by decide) hg); have n1_ := Aside0.mk (Kd.S_over' (by (with_reducible repeat (first | apply Kd.S_alloc | apply Kd.S_drewN | apply Kd.S_drew)); exact HO404.out) (Kd.R_typed (by (with_reducible repeat (first | apply Kd.R_alloc | apply Kd.R_drewN | apply Kd.R_drew)); exact HO407.out)) (by decide) hg); have n2_ := Aside0.mk (hb); have n3_ := Aside0.mk (ho); clear HO399; clear HO404; clear HB; clear HO407; have HO399 := n0_; have HO404 := n1_; have HB := n2_; have HO410 := n3_; clear n0_ n1_ n2_ n3_; clear ho hb hg hat) | ((with_reducible refine gate_builtin (b := .append) (xs := #[.tmp 70, .tmp 72]) rfl ?_); (try (refine gate_guard (by rfl) ?_; dsimp only)); at_builtin; refine Kd.R_append k28 (w0 := w) w.heap.size rfl (.tmp 70) (.tmp 72) 29 28 (.agg #[(.int .i64 0), (.string ⟨#[]⟩), (.string ⟨#[]⟩), (.int .i64 0), (.int .i64 0)]) 56 rfl Try.underlying29 info28 rfl (by decide) (by omega) v409 y408 (⟨11, (⟨#[]⟩ : ByteArray), (⟨#[]⟩ : ByteArray), 0, 0⟩ : S28) [.int .i64 11, .string (⟨#[]⟩ : ByteArray), .string (⟨#[]⟩ : ByteArray), .int .i64 0, .int .i64 0] (fun _ => True) (fun _ => False) rfl rfl ?aP (fun _ hk => hk.elim) ?aF ?aO ?aB ?aS ?aL ?_; (case aP => exact k28_mkM _ _ _ (⟨11, (⟨#[]⟩ : ByteArray), (⟨#[]⟩ : ByteArray), 0, 0⟩ : S28)); (case aB => exact (by repeat (first | (with_reducible first | exact HB.out | apply below_alloc | apply pw_below_drewN | apply below_drew1) | exact HB.out))); (case aF => exact (fun _ _ => trivial)); (case aO => exact (by (with_reducible repeat (first | apply Kd.R_alloc | apply Kd.R_drewN | apply Kd.R_drew)); exact HO410.out)); (case aS => exact (below_size (by repeat (first | (with_reducible first | exact HB.out | apply below_alloc | apply pw_below_drewN | apply below_drew1) | exact HB.out)))); (case aL => have := LMc34.out; omega); intro v412 w114 ho hb hg hat; rw [← Ny411.out] at ho; have n0_ := Aside0.mk (Kd.S_over' (by (with_reducible repeat (first | apply Kd.S_alloc | apply Kd.S_drewN | apply Kd.S_drew)); exact HO399.out) (Kd.R_typed (by (with_reducible repeat (first | apply Kd.R_alloc | apply Kd.R_drewN | apply Kd.R_drew)); exact HO410.out)) (by decide) hg); have n1_ := Aside0.mk (Kd.S_over' (by (with_reducible repeat (first | apply Kd.S_alloc | apply Kd.S_drewN | apply Kd.S_drew)); exact HO404.out) (Kd.R_typed (by (with_reducible repeat (first | apply Kd.R_alloc | apply Kd.R_drewN | apply Kd.R_drew)); exact HO410.out)) (by decide) hg); have n2_ := Aside0.mk (hb); have n3_ := Aside0.mk (ho); clear HO399; clear HO404; clear HB; clear HO410; have HO399 := n0_; have HO404 := n1_; have HB := n2_; have HO413 := n3_; clear n0_ n1_ n2_ n3_; clear ho hb hg hat) | ((with_reducible refine gate_builtin (b := .append) (xs := #[.tmp 73, .tmp 74]) rfl ?_); (try (refine gate_guard (by rfl) ?_; dsimp only)); at_builtin; refine Kd.R_append_rows k28 (w0 := w) w.heap.size rfl (.tmp 73) (.tmp 74) 29 28 (.agg #[(.int .i64 0), (.string ⟨#[]⟩), (.string ⟨#[]⟩), (.int .i64 0), (.int .i64 0)]) 56 rfl Try.underlying29 info28 rfl (by decide) (by omega) v412 y411 l1 _ _ _ (fun _ => True) (fun _ => False) rfl rfl ?aO ?aR (fun _ _ h => h) (fun _ h => h.elim) ?aF ?aB ?aS ?aL ?_; (case aR => repeat (first | exact (Kd.C_below HR1.out HB.out) | (with_reducible refine Kd.C_alloc ?_ _) | (with_reducible refine Kd.C_drewN ?_ _) | (with_reducible refine Kd.C_drew ?_))); (case aB => exact (by repeat (first | (with_reducible first | exact HB.out | apply below_alloc | apply pw_below_drewN | apply below_drew1) | exact HB.out))); (case aF => exact (fun _ _ => trivial)); (case aO => exact (by (with_reducible repeat (first | apply Kd.R_alloc | apply Kd.R_drewN | apply Kd.R_drew)); exact HO413.out)); (case aS => exact (below_size (by repeat (first | (with_reducible first | exact HB.out | apply below_alloc | apply pw_below_drewN | apply below_drew1) | exact HB.out)))); (case aL => have := LMc35.out; omega); intro v415 w115 ho hb hg hat; rw [← Ny414.out] at ho; have n0_ := Aside0.mk (Kd.S_over' (by (with_reducible repeat (first | apply Kd.S_alloc | apply Kd.S_drewN | apply Kd.S_drew)); exact HO399.out) (Kd.R_typed (by (with_reducible repeat (first | apply Kd.R_alloc | apply Kd.R_drewN | apply Kd.R_drew)); exact HO413.out)) (by decide) hg); have n1_ := Aside0.mk (Kd.S_over' (by (with_reducible repeat (first | apply Kd.S_alloc | apply Kd.S_drewN | apply Kd.S_drew)); exact HO404.out) (Kd.R_typed (by (with_reducible repeat (first | apply Kd.R_alloc | apply Kd.R_drewN | apply Kd.R_drew)); exact HO413.out)) (by decide) hg); have n2_ := Aside0.mk (hb); have n3_ := Aside0.mk (ho); clear HO399; clear HO404; clear HB; clear HO413; have HO399 := n0_; have HO404 := n1_; have HB := n2_; have HO416 := n3_; clear n0_ n1_ n2_ n3_; clear ho hb hg hat; obtain ⟨Ao116, co116, eo116⟩ := Kd.R_slice HO416.out; subst eo116) | ((with_reducible refine gate_callee (f := 9) rfl ?_); refine goesL_ (some 76) rfl rfl Try.func9 (by kernel_rfl) rfl #[.slice Ao116 y414.length co116] rfl (by (try simp only [List.map_toArray, List.map_cons, List.map_nil]); first | done | rfl | (simp only [List.length_drop, List.length_take]; rfl)) ?_; (with_reducible refine (impl_TrailerScript.calls _ _ y414 t417 t418 true _ ?side1 ?side2 A36.out).mono ?_); (case side1 => repeat (first | exact (Kd.R_reads' HO416.out).2.2 | (with_reducible refine Kd.C_alloc ?_ _) | (with_reducible refine Kd.C_drewN ?_ _) | (with_reducible refine Kd.C_drew ?_))); (case side2 => exact (Kd.R_reads' HO416.out).2.1); rintro e w117 ⟨v420, rfl, ho0, hb⟩; refine ⟨_, rfl, ?_⟩; have n0_ := Aside0.mk (Kd.S_elder' (by (with_reducible repeat (first | apply Kd.S_alloc | apply Kd.S_drewN | apply Kd.S_drew)); exact HO399.out) (Kd.S_base ho0) hb); have n1_ := Aside0.mk (Kd.S_elder' (by (with_reducible repeat (first | apply Kd.S_alloc | apply Kd.S_drewN | apply Kd.S_drew)); exact HO404.out) (Kd.S_base ho0) hb); have n2_ := Aside0.mk (Kd.R_below (by (with_reducible repeat (first | apply Kd.R_alloc | apply Kd.R_drewN | apply Kd.R_drew)); exact HO416.out) hb); have n3_ := Aside0.mk (Kd.S_lower (Kd.S_new' (Kd.S_new' ho0 (Kd.S_lt (by (with_reducible repeat (first | apply Kd.S_alloc | apply Kd.S_drewN | apply Kd.S_drew)); exact HO399.out))) (Kd.S_lt (by (with_reducible repeat (first | apply Kd.S_alloc | apply Kd.S_drewN | apply Kd.S_drew)); exact HO404.out))) (below_size (by repeat (first | (with_reducible first | exact HB.out | apply below_alloc | apply pw_below_drewN | apply below_drew1) | exact HB.out)))); have n4_ := Aside0.mk (below_step (by repeat (first | (with_reducible first | exact HB.out | apply below_alloc | apply pw_below_drewN | apply below_drew1) | exact HB.out)) hb); clear HO399; clear HO404; clear HO416; clear HB; have HO399 := n0_; have HO404 := n1_; have HO416 := n2_; have HO421 := n3_; have HB := n4_; clear n0_ n1_ n2_ n3_ n4_; (try clear hb); (try clear hb2); (try clear hk); (try clear hi); (try clear ho0)))
               go_ret
               exact ⟨by first | rfl | (simp [errW_none, errW_some] <;> rfl) | (simp [*, errW_none, errW_some] <;> rfl), by repeat (first | (with_reducible first | exact HB.out | apply below_alloc | apply pw_below_drewN | apply below_drew1) | exact HB.out)⟩
              ·replace c108 := Bool.eq_false_iff.mpr c108
               subst c108
               have H1 : ((laws_sameAnswers.f kj22 t395 t417).bind fun t432 => (some t432)) = some r := by rw [if_neg (show ¬ (false = true) by decide)] at H; exact H
               clear H
               have H := H1
               clear H1
               replace H := Option.bind_eq_some_iff.mp H
               obtain ⟨t432, A1180, H⟩ := H
               replace H : (some t432) = some r := H
               have A118 := Aside0.mk A1180
               clear A1180
               obtain rfl := Option.some.inj H
               go_wp2_with (first | ((with_reducible refine gate_callee (f := 9) rfl ?_); refine goesL_ (some 57) rfl rfl Try.func9 (by kernel_rfl) rfl #[.slice A0 l0.length c0] rfl (by (try simp only [List.map_toArray, List.map_cons, List.map_nil]); first | done | rfl | (simp only [List.length_drop, List.length_take]; rfl)) ?_; (with_reducible refine (impl_TrailerScript.calls _ _ l0 t395 t396 false _ ?side1 ?side2 A31.out).mono ?_); (case side1 => repeat (first | exact (Kd.C_below HR0.out HB.out) | (with_reducible refine Kd.C_alloc ?_ _) | (with_reducible refine Kd.C_drewN ?_ _) | (with_reducible refine Kd.C_drew ?_))); (case side2 => exact HC0.out); rintro e w119 ⟨v398, rfl, ho0, hb⟩; refine ⟨_, rfl, ?_⟩; have n0_ := Aside0.mk (Kd.S_lower ho0 (below_size (by repeat (first | (with_reducible first | exact HB.out | apply below_alloc | apply pw_below_drewN | apply below_drew1) | exact HB.out)))); have n1_ := Aside0.mk (below_step (by repeat (first | (with_reducible first | exact HB.out | apply below_alloc | apply pw_below_drewN | apply below_drew1) | exact HB.out)) hb); clear HB; have HO399 := n0_; have HB := n1_; clear n0_ n1_; (try clear hb); (try clear hb2); (try clear hk); (try clear hi); (try clear ho0)) | ((with_reducible refine gate_callee (f := 9) rfl ?_); refine goesL_ (some 63) rfl rfl Try.func9 (by kernel_rfl) rfl #[.slice A1 l1.length c1] rfl (by (try simp only [List.map_toArray, List.map_cons, List.map_nil]); first | done | rfl | (simp only [List.length_drop, List.length_take]; rfl)) ?_; (with_reducible refine (impl_TrailerScript.calls _ _ l1 t400 t401 t402 _ ?side1 ?side2 A32.out).mono ?_); (case side1 => repeat (first | exact (Kd.C_below HR1.out HB.out) | (with_reducible refine Kd.C_alloc ?_ _) | (with_reducible refine Kd.C_drewN ?_ _) | (with_reducible refine Kd.C_drew ?_))); (case side2 => exact HC1.out); rintro e w120 ⟨v403, rfl, ho0, hb⟩; refine ⟨_, rfl, ?_⟩; have n0_ := Aside0.mk (Kd.S_elder' (by (with_reducible repeat (first | apply Kd.S_alloc | apply Kd.S_drewN | apply Kd.S_drew)); exact HO399.out) (Kd.S_base ho0) hb); have n1_ := Aside0.mk (Kd.S_lower (Kd.S_new' ho0 (Kd.S_lt (by (with_reducible repeat (first | apply Kd.S_alloc | apply Kd.S_drewN | apply Kd.S_drew)); exact HO399.out))) (below_size (by repeat (first | (with_reducible first | exact HB.out | apply below_alloc | apply pw_below_drewN | apply below_drew1) | exact HB.out)))); have n2_ := Aside0.mk (below_step (by repeat (first | (with_reducible first | exact HB.out | apply below_alloc | apply pw_below_drewN | apply below_drew1) | exact HB.out)) hb); clear HO399; clear HB; have HO399 := n0_; have HO404 := n1_; have HB := n2_; clear n0_ n1_ n2_; (try clear hb); (try clear hb2); (try clear hk); (try clear hi); (try clear ho0)) | ((with_reducible refine gate_dst (N := 68) rfl ?_); (try (refine gate_guard (by rfl) ?_; dsimp only)); refine Kd.R_lit k28 _ 28 ?hg (N := 68) ?hd (xs := ([] : List (S28))) (inner := []) (ok := fun _ => True) (okp := fun _ => True) ?hr ?hp (fun _ hk => hk) trivial (Below.refl _ _) (Nat.le_refl _) (by simp) ?_; (case hd => rfl); (case hg => rfl); (case hr => first | (go_simp; done) | (go_simp; rfl)); (case hp => exact (Reps.none _ _)); intro v406 w121 ho122 hb hg_ hnew_; clear hg_ hnew_; (first | rw [← Ny405.out] at ho122 | (simp only [Int.reduceToNat] at ho122; rw [← Ny405.out] at ho122)); have n0_ := Aside0.mk (Kd.S_below (by (with_reducible repeat (first | apply Kd.S_alloc | apply Kd.S_drewN | apply Kd.S_drew)); exact HO399.out) hb); have n1_ := Aside0.mk (Kd.S_below (by (with_reducible repeat (first | apply Kd.S_alloc | apply Kd.S_drewN | apply Kd.S_drew)); exact HO404.out) hb); have n2_ := Aside0.mk (Kd.R_lower ho122 (below_size (by repeat (first | (with_reducible first | exact HB.out | apply below_alloc | apply pw_below_drewN | apply below_drew1) | exact HB.out)))); have n3_ := Aside0.mk (below_step (by repeat (first | (with_reducible first | exact HB.out | apply below_alloc | apply pw_below_drewN | apply below_drew1) | exact HB.out)) hb); clear HO399; clear HO404; clear HB; have HO399 := n0_; have HO404 := n1_; have HO407 := n2_; have HB := n3_; clear n0_ n1_ n2_ n3_; clear hb ho122) | ((with_reducible refine gate_builtin (b := .append) (xs := #[.tmp 68, .tmp 69]) rfl ?_); (try (refine gate_guard (by rfl) ?_; dsimp only)); at_builtin; refine Kd.R_append_rows k28 (w0 := w) w.heap.size rfl (.tmp 68) (.tmp 69) 29 28 (.agg #[(.int .i64 0), (.string ⟨#[]⟩), (.string ⟨#[]⟩), (.int .i64 0), (.int .i64 0)]) 56 rfl Try.underlying29 info28 rfl (by decide) (by omega) v406 y405 l0 _ _ _ (fun _ => True) (fun _ => False) rfl rfl ?aO ?aR (fun _ _ h => h) (fun _ h => h.elim) ?aF ?aB ?aS ?aL ?_; (case aR => repeat (first | exact (Kd.C_below HR0.out HB.out) | (with_reducible refine Kd.C_alloc ?_ _) | (with_reducible refine Kd.C_drewN ?_ _) | (with_reducible refine Kd.C_drew ?_))); (case aB => exact (by repeat (first | (with_reducible first | exact HB.out | apply below_alloc | apply pw_below_drewN | apply below_drew1) | exact HB.out))); (case aF => exact (fun _ _ => trivial)); (case aO => exact (by (with_reducible repeat (first | apply Kd.R_alloc | apply Kd.R_drewN | apply Kd.R_drew)); exact HO407.out)); (case aS => exact (below_size (by repeat (first | (with_reducible first | exact HB.out | apply below_alloc | apply pw_below_drewN | apply below_drew1) | exact HB.out)))); (case aL => have := LMc33.out; omega); intro v409 w123 ho hb hg hat; rw [← Ny408.out] at ho; have n0_ := Aside0.mk (Kd.S_over' (by (with_reducible repeat (first | apply Kd.S_alloc | apply Kd.S_drewN | apply Kd.S_drew)); exact HO399.out) (Kd.R_typed (by (with_reducible repeat (first | apply Kd.R_alloc | apply Kd.R_drewN | apply Kd.R_drew)); exact HO407.out)) (by decide) hg); have n1_ := Aside0.mk (Kd.S_over' (by (with_reducible repeat (first | apply Kd.S_alloc | apply Kd.S_drewN | apply Kd.S_drew)); exact HO404.out) (Kd.R_typed (by (with_reducible repeat (first | apply Kd.R_alloc | apply Kd.R_drewN | apply Kd.R_drew)); exact HO407.out)) (by decide) hg); have n2_ := Aside0.mk (hb); have n3_ := Aside0.mk (ho); clear HO399; clear HO404; clear HB; clear HO407; have HO399 := n0_; have HO404 := n1_; have HB := n2_; have HO410 := n3_; clear n0_ n1_ n2_ n3_; clear ho hb hg hat) | ((with_reducible refine gate_builtin (b := .append) (xs := #[.tmp 70, .tmp 72]) rfl ?_); (try (refine gate_guard (by rfl) ?_; dsimp only)); at_builtin; refine Kd.R_append k28 (w0 := w) w.heap.size rfl (.tmp 70) (.tmp 72) 29 28 (.agg #[(.int .i64 0), (.string ⟨#[]⟩), (.string ⟨#[]⟩), (.int .i64 0), (.int .i64 0)]) 56 rfl Try.underlying29 info28 rfl (by decide) (by omega) v409 y408 (⟨11, (⟨#[]⟩ : ByteArray), (⟨#[]⟩ : ByteArray), 0, 0⟩ : S28) [.int .i64 11, .string (⟨#[]⟩ : ByteArray), .string (⟨#[]⟩ : ByteArray), .int .i64 0, .int .i64 0] (fun _ => True) (fun _ => False) rfl rfl ?aP (fun _ hk => hk.elim) ?aF ?aO ?aB ?aS ?aL ?_; (case aP => exact k28_mkM _ _ _ (⟨11, (⟨#[]⟩ : ByteArray), (⟨#[]⟩ : ByteArray), 0, 0⟩ : S28)); (case aB => exact (by repeat (first | (with_reducible first | exact HB.out | apply below_alloc | apply pw_below_drewN | apply below_drew1) | exact HB.out))); (case aF => exact (fun _ _ => trivial)); (case aO => exact (by (with_reducible repeat (first | apply Kd.R_alloc | apply Kd.R_drewN | apply Kd.R_drew)); exact HO410.out)); (case aS => exact (below_size (by repeat (first | (with_reducible first | exact HB.out | apply below_alloc | apply pw_below_drewN | apply below_drew1) | exact HB.out)))); (case aL => have := LMc34.out; omega); intro v412 w124 ho hb hg hat; rw [← Ny411.out] at ho; have n0_ := Aside0.mk (Kd.S_over' (by (with_reducible repeat (first | apply Kd.S_alloc | apply Kd.S_drewN | apply Kd.S_drew)); exact HO399.out) (Kd.R_typed (by (with_reducible repeat (first | apply Kd.R_alloc | apply Kd.R_drewN | apply Kd.R_drew)); exact HO410.out)) (by decide) hg); have n1_ := Aside0.mk (Kd.S_over' (by (with_reducible repeat (first | apply Kd.S_alloc | apply Kd.S_drewN | apply Kd.S_drew)); exact HO404.out) (Kd.R_typed (by (with_reducible repeat (first | apply Kd.R_alloc | apply Kd.R_drewN | apply Kd.R_drew)); exact HO410.out)) (by decide) hg); have n2_ := Aside0.mk (hb); have n3_ := Aside0.mk (ho); clear HO399; clear HO404; clear HB; clear HO410; have HO399 := n0_; have HO404 := n1_; have HB := n2_; have HO413 := n3_; clear n0_ n1_ n2_ n3_; clear ho hb hg hat) | ((with_reducible refine gate_builtin (b := .append) (xs := #[.tmp 73, .tmp 74]) rfl ?_); (try (refine gate_guard (by rfl) ?_; dsimp only)); at_builtin; refine Kd.R_append_rows k28 (w0 := w) w.heap.size rfl (.tmp 73) (.tmp 74) 29 28 (.agg #[(.int .i64 0), (.string ⟨#[]⟩), (.string ⟨#[]⟩), (.int .i64 0), (.int .i64 0)]) 56 rfl Try.underlying29 info28 rfl (by decide) (by omega) v412 y411 l1 _ _ _ (fun _ => True) (fun _ => False) rfl rfl ?aO ?aR (fun _ _ h => h) (fun _ h => h.elim) ?aF ?aB ?aS ?aL ?_; (case aR => repeat (first | exact (Kd.C_below HR1.out HB.out) | (with_reducible refine Kd.C_alloc ?_ _) | (with_reducible refine Kd.C_drewN ?_ _) | (with_reducible refine Kd.C_drew ?_))); (case aB => exact (by repeat (first | (with_reducible first | exact HB.out | apply below_alloc | apply pw_below_drewN | apply below_drew1) | exact HB.out))); (case aF => exact (fun _ _ => trivial)); (case aO => exact (by (with_reducible repeat (first | apply Kd.R_alloc | apply Kd.R_drewN | apply Kd.R_drew)); exact HO413.out)); (case aS => exact (below_size (by repeat (first | (with_reducible first | exact HB.out | apply below_alloc | apply pw_below_drewN | apply below_drew1) | exact HB.out)))); (case aL => have := LMc35.out; omega); intro v415 w125 ho hb hg hat; rw [← Ny414.out] at ho; have n0_ := Aside0.mk (Kd.S_over' (by (with_reducible repeat (first | apply Kd.S_alloc | apply Kd.S_drewN | apply Kd.S_drew)); exact HO399.out) (Kd.R_typed (by (with_reducible repeat (first | apply Kd.R_alloc | apply Kd.R_drewN | apply Kd.R_drew)); exact HO413.out)) (by decide) hg); have n1_ := Aside0.mk (Kd.S_over' (by (with_reducible repeat (first | apply Kd.S_alloc | apply Kd.S_drewN | apply Kd.S_drew)); exact HO404.out) (Kd.R_typed (by (with_reducible repeat (first | apply Kd.R_alloc | apply Kd.R_drewN | apply Kd.R_drew)); exact HO413.out)) (by decide) hg); have n2_ := Aside0.mk (hb); have n3_ := Aside0.mk (ho); clear HO399; clear HO404; clear HB; clear HO413; have HO399 := n0_; have HO404 := n1_; have HB := n2_; have HO416 := n3_; clear n0_ n1_ n2_ n3_; clear ho hb hg hat; obtain ⟨Ao126, co126, eo126⟩ := Kd.R_slice HO416.out; subst eo126) | ((with_reducible refine gate_callee (f := 9) rfl ?_); refine goesL_ (some 76) rfl rfl Try.func9 (by kernel_rfl) rfl #[.slice Ao126 y414.length co126] rfl (by (try simp only [List.map_toArray, List.map_cons, List.map_nil]); first | done | rfl | (simp only [List.length_drop, List.length_take]; rfl)) ?_; (with_reducible refine (impl_TrailerScript.calls _ _ y414 t417 t418 false _ ?side1 ?side2 A36.out).mono ?_); (case side1 => repeat (first | exact (Kd.R_reads' HO416.out).2.2 | (with_reducible refine Kd.C_alloc ?_ _) | (with_reducible refine Kd.C_drewN ?_ _) | (with_reducible refine Kd.C_drew ?_))); (case side2 => exact (Kd.R_reads' HO416.out).2.1); rintro e w127 ⟨v420, rfl, ho0, hb⟩; refine ⟨_, rfl, ?_⟩; have n0_ := Aside0.mk (Kd.S_elder' (by (with_reducible repeat (first | apply Kd.S_alloc | apply Kd.S_drewN | apply Kd.S_drew)); exact HO399.out) (Kd.S_base ho0) hb); have n1_ := Aside0.mk (Kd.S_elder' (by (with_reducible repeat (first | apply Kd.S_alloc | apply Kd.S_drewN | apply Kd.S_drew)); exact HO404.out) (Kd.S_base ho0) hb); have n2_ := Aside0.mk (Kd.R_below (by (with_reducible repeat (first | apply Kd.R_alloc | apply Kd.R_drewN | apply Kd.R_drew)); exact HO416.out) hb); have n3_ := Aside0.mk (Kd.S_lower (Kd.S_new' (Kd.S_new' ho0 (Kd.S_lt (by (with_reducible repeat (first | apply Kd.S_alloc | apply Kd.S_drewN | apply Kd.S_drew)); exact HO399.out))) (Kd.S_lt (by (with_reducible repeat (first | apply Kd.S_alloc | apply Kd.S_drewN | apply Kd.S_drew)); exact HO404.out))) (below_size (by repeat (first | (with_reducible first | exact HB.out | apply below_alloc | apply pw_below_drewN | apply below_drew1) | exact HB.out)))); have n4_ := Aside0.mk (below_step (by repeat (first | (with_reducible first | exact HB.out | apply below_alloc | apply pw_below_drewN | apply below_drew1) | exact HB.out)) hb); clear HO399; clear HO404; clear HO416; clear HB; have HO399 := n0_; have HO404 := n1_; have HO416 := n2_; have HO421 := n3_; have HB := n4_; clear n0_ n1_ n2_ n3_ n4_; (try clear hb); (try clear hb2); (try clear hk); (try clear hi); (try clear ho0); obtain ⟨Ao128, co128, eo128⟩ := Kd.S_slice HO399.out; subst eo128; obtain ⟨Ao129, co129, eo129⟩ := Kd.S_slice HO421.out; subst eo129) | (go_at_call 20; (with_reducible refine (laws_sameAnswers.calls kj22 _ _ t395 _ _ t417 t432 _ ?side1 ?side2 ?side3 ?side4 A118.out).mono ?_); (case side1 => repeat (first | exact (Kd.S_reads' HO399.out).2.2 | (with_reducible refine Kd.C_alloc ?_ _) | (with_reducible refine Kd.C_drewN ?_ _) | (with_reducible refine Kd.C_drew ?_))); (case side2 => exact (Kd.S_reads' HO399.out).2.1); (case side3 => repeat (first | exact (Kd.S_reads' HO421.out).2.2 | (with_reducible refine Kd.C_alloc ?_ _) | (with_reducible refine Kd.C_drewN ?_ _) | (with_reducible refine Kd.C_drew ?_))); (case side4 => exact (Kd.S_reads' HO421.out).2.1); rintro e w130 ⟨rfl, hb⟩; have n0_ := Aside0.mk (Kd.S_below (by (with_reducible repeat (first | apply Kd.S_alloc | apply Kd.S_drewN | apply Kd.S_drew)); exact HO399.out) hb); have n1_ := Aside0.mk (Kd.S_below (by (with_reducible repeat (first | apply Kd.S_alloc | apply Kd.S_drewN | apply Kd.S_drew)); exact HO404.out) hb); have n2_ := Aside0.mk (Kd.R_below (by (with_reducible repeat (first | apply Kd.R_alloc | apply Kd.R_drewN | apply Kd.R_drew)); exact HO416.out) hb); have n3_ := Aside0.mk (Kd.S_below (by (with_reducible repeat (first | apply Kd.S_alloc | apply Kd.S_drewN | apply Kd.S_drew)); exact HO421.out) hb); have n4_ := Aside0.mk (below_step (by repeat (first | (with_reducible first | exact HB.out | apply below_alloc | apply pw_below_drewN | apply below_drew1) | exact HB.out)) hb); clear HO399; clear HO404; clear HO416; clear HO421; clear HB; have HO399 := n0_; have HO404 := n1_; have HO416 := n2_; have HO421 := n3_; have HB := n4_; clear n0_ n1_ n2_ n3_ n4_; (try clear hb); (try clear hb2); (try clear hk); (try clear hi)))
               go_ret
               exact ⟨by first | rfl | (simp [errW_none, errW_some] <;> rfl) | (simp [*, errW_none, errW_some] <;> rfl), by repeat (first | (with_reducible first | exact HB.out | apply below_alloc | apply pw_below_drewN | apply below_drew1) | exact HB.out)⟩
            ·rw [if_neg c35] at H
             exact absurd H (by simp)
           ·rw [if_neg c34] at H
            exact absurd H (by simp)
          ·rw [if_neg c33] at H
           exact absurd H (by simp)
def laws_FnTrailersAhead.Pure : Prop := ∀ (l0 : List (S28)) (l1 : List (S28)), l0.length * 56 ≤ 140737488351232 → l1.length * 56 ≤ 140737488351232 → ∃ k, laws_FnTrailersAhead.f k l0 l1 = some true
theorem laws_FnTrailersAhead.walk (P : laws_FnTrailersAhead.Pure) (a0 : Option Addr) (cap0 : Nat) (l0 : List S28) (a1 : Option Addr) (cap1 : Nat) (l1 : List S28) (w : World) (w0 : Kd.C k28 w a0 l0.length l0) (y0 : l0.length ≤ cap0) (m0 : l0.length * 56 ≤ 140737488351232) (w1 : Kd.C k28 w a1 l1.length l1) (y1 : l1.length ≤ cap1) (m1 : l1.length * 56 ≤ 140737488351232) :
    Calls Try.prog 5 #[.slice a0 l0.length cap0, .slice a1 l1.length cap1] w fun e w' => e = .returned (.bool true) ∧ Below w.heap.size w w' := by
  obtain ⟨k, h⟩ := P l0 l1 m0 m1
  refine (laws_FnTrailersAhead.calls k _ _ l0 _ _ l1 true w w0 y0 w1 y1 h).mono ?_
  rintro e w' ⟨rfl, hd⟩
  exact ⟨rfl, hd⟩
end Go.Proofs.Ytoimkmoalmmooaa.QA
set_option linter.unusedVariables false
set_option linter.unusedSimpArgs false
namespace Go.Proofs.Ytoimkmoalmmooaa.Own
open Go.RowKit Go.Proofs.YtoimkmoalmmooaaW.PrintWords Go.Proofs.YtoimkmoalmmooaaW.PrintLast Go.Proofs.YtoimkmoalmmooaaW.PrintMore Go.Proofs.Ytoimkmoalmmooaa.Base Go.Proofs.Ytoimkmoalmmooaa.Gv Go.Proofs.Ytoimkmoalmmooaa.Given Go.Proofs.Ytoimkmoalmmooaa.QA
theorem badK_x {K : List Int} (h : (K.map o32).headD 0 = 120) : badK K = false := bad_x _ h
theorem stepF_4 (dn : Bool) (L : List KVx) (s : Step) (hd : s.f0 = 4) (hL : L.length ≤ 1000000) (h1 : s.f1.size ≤ 1000000) (h2 : s.f2.size ≤ 1000000) : stepF dn L s = (setGo dn s.f2.size (ns s.f2) [] false).map fun r => ((⟨#[]⟩, !r.2, []), dn, r.1) := by
  unfold stepF
  rw [if_neg (by omega), if_neg (by omega), if_neg (by omega), if_neg (by omega), if_pos hd]
theorem stepF_3 (dn : Bool) (L : List KVx) (s : Step) (hd : s.f0 = 3) (hL : L.length ≤ 1000000) (h1 : s.f1.size ≤ 1000000) (h2 : s.f2.size ≤ 1000000) : stepF dn L s = some ((strOfNums ((getKV (nkd dn (ns s.f1)) L).getD []), false, []), dn, L) := by
  unfold stepF
  rw [if_neg (by omega), if_neg (by omega), if_neg (by omega), if_pos hd]
theorem stepF_1 (dn : Bool) (L : List KVx) (s : Step) (hd : s.f0 = 1) (hL : L.length ≤ 1000000) (h0 : s.f1.size ≠ 0) (h1 : s.f1.size ≤ 1000000) (h2 : s.f2.size ≤ 1000000) (hb : badK (nkd dn (ns s.f1)) = false) : stepF dn L s = some ((⟨#[]⟩, true, []), dn, L ++ [⟨nkd dn (ns s.f1), ns s.f2, false⟩]) := by
  unfold stepF
  rw [if_neg (by omega), if_pos (by omega), if_neg h0, if_neg (show ¬ s.f0 = 9 by omega), if_neg (by rw [hb]; decide), if_neg (show ¬ s.f0 = 0 by omega), if_pos hd]
end Go.Proofs.Ytoimkmoalmmooaa.Own
set_option linter.unusedVariables false
set_option linter.unusedSimpArgs false
namespace Go.Proofs.Ytoimkmoalmmooaa.Own
open Go.RowKit Go.Proofs.YtoimkmoalmmooaaW.PrintWords Go.Proofs.YtoimkmoalmmooaaW.PrintLast Go.Proofs.YtoimkmoalmmooaaW.PrintMore Go.Proofs.Ytoimkmoalmmooaa.Base Go.Proofs.Ytoimkmoalmmooaa.Gv Go.Proofs.Ytoimkmoalmmooaa.Given Go.Proofs.Ytoimkmoalmmooaa.QA
def runF (dn : Bool) (L : List KVx) : List Step → Option (List Ans × Option (Bool × List KVx))
  | [] => some ([], some (dn, L))
  | s :: r => match stepF dn L s with
    | none => if stepX dn L s = true then some ([], none) else none
    | some ((T, is, P), dn', L') => (runF dn' L' r).map fun x => (⟨T, is, 0, [], P⟩ :: x.1, x.2)
def endF (acc : List Ans) : Option (Bool × List KVx) → Option (List Ans × ByteArray × Bool)
  | none => some (acc, ⟨#[]⟩, false)
  | some (_, L) => if L.length ≤ 1099511627775 ∧ RgK L ∧ sizeKV L + 2 ≤ 140737488355328 then some (acc, strOfNums (linesOf L ++ [13, 10]), true) else none
theorem script_run : ∀ (l : List Step) (dn : Bool) (L : List KVx) (acc : List Ans), scriptF dn L acc l = (runF dn L l).bind fun x => endF (acc ++ x.1) x.2
  | [], dn, L, acc => by
    show _ = endF (acc ++ []) (some (dn, L))
    rw [List.append_nil]; rfl
  | s :: r, dn, L, acc => by
    rw [scriptF, runF]
    cases h : stepF dn L s with
    | none =>
      show (if stepX dn L s = true then some (acc, (⟨#[]⟩ : ByteArray), false) else none) = Option.bind (if stepX dn L s = true then some ([], none) else none) _
      by_cases hx : stepX dn L s = true
      · rw [if_pos hx, if_pos hx]
        show _ = endF (acc ++ []) none
        rw [List.append_nil]; rfl
      · rw [if_neg hx, if_neg hx]; rfl
    | some y =>
      obtain ⟨⟨T, is, P⟩, dn', L'⟩ := y
      show scriptF dn' L' (acc ++ [⟨T, is, 0, [], P⟩]) r = ((runF dn' L' r).map _).bind _
      rw [script_run r dn' L' (acc ++ [(⟨T, is, 0, [], P⟩ : Ans)])]
      cases runF dn' L' r with
      | none => rfl
      | some x => show endF _ _ = endF _ _; rw [List.append_assoc]; rfl
theorem run_append : ∀ (l m : List Step) (dn : Bool) (L : List KVx), runF dn L (l ++ m) = (runF dn L l).bind fun x => match x.2 with
    | none => some (x.1, none)
    | some (dn', L') => (runF dn' L' m).map fun y => (x.1 ++ y.1, y.2)
  | [], m, dn, L => by
    show runF dn L m = (runF dn L m).map _
    cases runF dn L m <;> rfl
  | s :: r, m, dn, L => by
    rw [List.cons_append, runF, runF]
    cases h : stepF dn L s with
    | none =>
      show (if stepX dn L s = true then some (([] : List Ans), none) else none) = Option.bind (if stepX dn L s = true then some ([], none) else none) _
      by_cases hx : stepX dn L s = true
      · rw [if_pos hx]; rfl
      · rw [if_neg hx]; rfl
    | some y =>
      obtain ⟨⟨T, is, P⟩, dn', L'⟩ := y
      show (runF dn' L' (r ++ m)).map _ = ((runF dn' L' r).map _).bind _
      rw [run_append r m dn' L']
      cases runF dn' L' r with
      | none => rfl
      | some x =>
        obtain ⟨az, st⟩ := x
        cases st with
        | none => rfl
        | some z =>
          obtain ⟨dn2, L2⟩ := z
          show ((runF dn2 L2 m).map _).map _ = (runF dn2 L2 m).map _
          cases runF dn2 L2 m <;> rfl
def Small (b : Nat) (L : List KVx) : Prop := L.length ≤ b ∧ ∀ x ∈ L, x.k.length ≤ 200 ∧ x.v.length ≤ 200 ∧ ∀ y ∈ x.k, 0 ≤ y ∧ y ≤ 255
theorem Small.mono {b c : Nat} {L : List KVx} (h : Small b L) (hc : b ≤ c) : Small c L := ⟨Nat.le_trans h.1 hc, h.2⟩
theorem Small.rg {b : Nat} {L : List KVx} (h : Small b L) : RgK L := fun x hx y hy => (h.2 x hx).2.2 y hy
theorem size_le : ∀ (L : List KVx), (∀ x ∈ L, x.k.length ≤ 200 ∧ x.v.length ≤ 200) → sizeKV L ≤ L.length * 404
  | [], _ => by simp [sizeKV]
  | x :: t, h => by
    have h1 := h x (by simp)
    have h2 := size_le t (fun y hy => h y (List.mem_cons_of_mem _ hy))
    rw [sizeKV_cons, List.length_cons]
    omega
theorem Small.size {b : Nat} {L : List KVx} (h : Small b L) : sizeKV L ≤ b * 404 :=
  Nat.le_trans (size_le L (fun x hx => ⟨(h.2 x hx).1, (h.2 x hx).2.1⟩)) (Nat.mul_le_mul_right _ h.1)
theorem nkd_bytes (dn : Bool) {xs : List Int} (h : ∀ x ∈ xs, 0 ≤ x ∧ x ≤ 255) : ∀ x ∈ nkd dn xs, 0 ≤ x ∧ x ≤ 255 := by
  cases dn with
  | true => exact h
  | false => exact nk_range xs h
theorem set_small {b : Nat} {L : List KVx} {k v : List Int} (h : Small b L) (hk : k.length ≤ 200 ∧ v.length ≤ 200 ∧ ∀ y ∈ k, 0 ≤ y ∧ y ≤ 255) : Small (b + 1) (setKV k v L) := by
  induction L generalizing b with
  | nil => exact ⟨by simp [setKV], fun x hx => by simp [setKV] at hx; subst hx; exact hk⟩
  | cons z t ih =>
    have hz := h.2 z (by simp)
    have ht : Small (b - 1) t := ⟨by have := h.1; simp at this; omega, fun x hx => h.2 x (List.mem_cons_of_mem _ hx)⟩
    have hb : 1 ≤ b := by have := h.1; simp at this; omega
    unfold setKV
    split
    · refine ⟨by have := h.1; simp at this ⊢; omega, fun x hx => ?_⟩
      rcases List.mem_cons.1 hx with rfl | hx
      · exact ⟨hz.1, hk.2.1, hz.2.2⟩
      · exact ht.2 x hx
    · obtain ⟨i1, i2⟩ := ih ht
      refine ⟨by simp; omega, fun x hx => ?_⟩
      rcases List.mem_cons.1 hx with rfl | hx
      · exact hz
      · exact i2 x hx
theorem upd_small {b : Nat} {L : List KVx} {k v : List Int} (h : Small b L) (hv : v.length ≤ 200) : Small b (updKV k v L) := by
  induction L generalizing b with
  | nil => exact ⟨by simp [updKV], fun x hx => by simp [updKV] at hx⟩
  | cons z t ih =>
    have hz := h.2 z (by simp)
    have ht : Small (b - 1) t := ⟨by have := h.1; simp at this; omega, fun x hx => h.2 x (List.mem_cons_of_mem _ hx)⟩
    have hb : 1 ≤ b := by have := h.1; simp at this; omega
    unfold updKV
    split
    · refine ⟨by have := h.1; simp at this ⊢; omega, fun x hx => ?_⟩
      rcases List.mem_cons.1 hx with rfl | hx
      · exact ⟨hz.1, hv, hz.2.2⟩
      · exact ht.2 x hx
    · obtain ⟨i1, i2⟩ := ih ht
      refine ⟨by simp; omega, fun x hx => ?_⟩
      rcases List.mem_cons.1 hx with rfl | hx
      · exact hz
      · exact i2 x hx
theorem keyT_small (dn : Bool) (ys : List Int) (hr : ∀ x ∈ ys, 0 ≤ x ∧ x ≤ 255) : (keyT dn ys).length ≤ ys.length ∧ ∀ x ∈ keyT dn ys, 0 ≤ x ∧ x ≤ 255 := by
  unfold keyT
  refine ⟨?_, nkd_bytes dn (fun x hx => ?_)⟩
  · rw [nkd_length]
    have h1 := trimR_length (trimL (ys.take (cutI ys)))
    have h2 := trimL_length (ys.take (cutI ys))
    have h3 : (ys.take (cutI ys)).length ≤ ys.length := by rw [List.length_take]; omega
    omega
  · unfold trimR at hx
    have h1 : x ∈ (trimL (ys.take (cutI ys))).reverse := (List.dropWhile_suffix _).subset (List.mem_reverse.1 hx)
    have h2 : x ∈ ys.take (cutI ys) := by
      have := List.mem_reverse.1 h1
      unfold trimL at this
      exact (List.dropWhile_suffix _).subset this
    exact hr x (List.mem_of_mem_take h2)
theorem setGo_small (dn : Bool) : ∀ (f : Nat) (ys : List Int) (acc : List KVx) (b : Bool) (n : Nat) (R : List KVx) (bR : Bool), ys.length ≤ 200 → (∀ x ∈ ys, 0 ≤ x ∧ x ≤ 255) → Small n acc → setGo dn f ys acc b = some (R, bR) → Small (n + f) R
  | f, [], acc, b, n, R, bR, _, _, h, e => by
    have : setGo dn f [] acc b = some (acc, b) := by cases f <;> rfl
    rw [this] at e
    injection e with e
    injection e with e _
    subst e
    exact h.mono (by omega)
  | 0, y :: ys, acc, b, n, R, bR, _, _, _, e => by cases e
  | f + 1, y :: ys, acc, b, n, R, bR, hl, hr, h, e => by
    rw [setGo] at e
    obtain ⟨k1, k2⟩ := keyT_small dn (y :: ys) hr
    by_cases hk : keyT dn (y :: ys) = []
    · rw [if_pos hk] at e; cases e
    · rw [if_neg hk] at e
      have hacc : Small (n + 1) (if badK (keyT dn (y :: ys)) = true then acc else acc ++ [⟨keyT dn (y :: ys), [], true⟩]) := by
        split
        · exact h.mono (by omega)
        · refine ⟨by rw [List.length_append]; have := h.1; simp; omega, fun x hx => ?_⟩
          rcases List.mem_append.1 hx with hx | hx
          · exact h.2 x hx
          · rw [List.mem_singleton] at hx
            subst hx
            exact ⟨by show (keyT dn (y :: ys)).length ≤ 200; omega, by simp, k2⟩
      have := setGo_small dn f _ _ _ (n + 1) R bR (by rw [List.length_drop]; omega) (fun x hx => hr x (List.mem_of_mem_drop hx)) hacc e
      exact this.mono (by omega)
theorem step_told (dn : Bool) (L : List KVx) (s : Step) (b : Nat) (hb : b ≤ 1000000) (h : Small b L) (h1 : s.f1.size ≤ 200) (h2 : s.f2.size ≤ 200) :
    (stepF dn L s = none ∧ stepX dn L s = true) ∨ ∃ T is P dn' L', stepF dn L s = some ((T, is, P), dn', L') ∧ Small (b + 200) L' ∧ P.length ≤ b := by
  have hL := h.1
  have hsz := h.size
  have kb : (nkd dn (ns s.f1)).length ≤ 200 ∧ (ns s.f2).length ≤ 200 ∧ ∀ y ∈ nkd dn (ns s.f1), 0 ≤ y ∧ y ≤ 255 := ⟨by rw [nkd_length, ns_length]; exact h1, by rw [ns_length]; exact h2, nkd_bytes dn (fun x hx => ns_range s.f1 x hx)⟩
  unfold stepF
  rw [if_neg (by omega)]
  by_cases hd : s.f0 = 0 ∨ s.f0 = 1 ∨ s.f0 = 9
  · rw [if_pos hd]
    by_cases h0 : s.f1.size = 0
    · rw [if_pos h0]
      refine .inl ⟨rfl, ?_⟩
      unfold stepX
      rw [decide_eq_true (by omega), decide_eq_true hd, decide_eq_true h0]; rfl
    · rw [if_neg h0]
      right
      by_cases hk : badK (if s.f0 = 9 then ns s.f1 else nkd dn (ns s.f1)) = true
      · rw [if_pos hk]
        exact ⟨_, _, _, _, _, rfl, h.mono (by omega), by simp⟩
      · rw [if_neg hk]
        refine ⟨_, _, _, _, _, rfl, ?_, by simp⟩
        split
        · exact (set_small h kb).mono (by omega)
        · split
          · refine ⟨by rw [List.length_append]; simp; omega, fun x hx => ?_⟩
            rcases List.mem_append.1 hx with hx | hx
            · exact h.2 x hx
            · rw [List.mem_singleton] at hx
              subst hx
              exact kb
          · exact (upd_small h kb.2.1).mono (by omega)
  rw [if_neg hd]
  by_cases e2 : s.f0 = 2
  · rw [if_pos e2]
    refine .inr ⟨_, _, _, _, _, rfl, ?_, by simp⟩
    unfold delKV
    exact ⟨Nat.le_trans (List.length_filter_le _ _) (by omega), fun x hx => h.2 x (List.mem_filter.1 hx).1⟩
  rw [if_neg e2]
  by_cases e3 : s.f0 = 3
  · rw [if_pos e3]
    exact .inr ⟨_, _, _, _, _, rfl, h.mono (by omega), by simp⟩
  rw [if_neg e3]
  by_cases e4 : s.f0 = 4
  · rw [if_pos e4]
    cases hg : setGo dn s.f2.size (ns s.f2) [] false with
    | none =>
      refine .inl ⟨rfl, ?_⟩
      unfold stepX
      rw [decide_eq_true (by omega), decide_eq_true e4, hg]; simp
    | some r =>
      obtain ⟨R, bR⟩ := r
      refine .inr ⟨_, _, _, _, _, rfl, ?_, by simp⟩
      have := setGo_small dn _ _ [] false 0 R bR (by rw [ns_length]; exact h2) (fun x hx => ns_range s.f2 x hx) ⟨by simp, fun x hx => by simp at hx⟩ hg
      exact this.mono (by omega)
  rw [if_neg e4]
  by_cases e5 : s.f0 = 5
  · rw [if_pos e5, if_pos (by omega)]
    exact .inr ⟨_, _, _, _, _, rfl, h.mono (by omega), by simp⟩
  rw [if_neg e5]
  by_cases e6 : s.f0 = 6
  · rw [if_pos e6, if_pos ⟨h.rg, by omega⟩]
    exact .inr ⟨_, _, _, _, _, rfl, h.mono (by omega), by simp⟩
  rw [if_neg e6]
  by_cases e7 : s.f0 = 7
  · rw [if_pos e7]
    exact .inr ⟨_, _, _, _, _, rfl, h.mono (by omega), by rw [List.length_map]; omega⟩
  rw [if_neg e7]
  by_cases e8 : s.f0 = 8
  · rw [if_pos e8]
    exact .inr ⟨_, _, _, _, _, rfl, h.mono (by omega), by simp⟩
  rw [if_neg e8]
  by_cases e10 : s.f0 = 10
  · rw [if_pos e10]
    exact .inr ⟨_, _, _, _, _, rfl, h.mono (by omega), by simp⟩
  rw [if_neg e10]
  by_cases e11 : s.f0 = 11
  · rw [if_pos e11]
    exact .inr ⟨_, _, _, _, _, rfl, ⟨by simp, fun x hx => by simp at hx⟩, by simp⟩
  rw [if_neg e11]
  exact .inr ⟨_, _, _, _, _, rfl, h.mono (by omega), by simp⟩
def Few (a : Ans) : Prop := a.f3 = [] ∧ a.f4.length ≤ 1000000
theorem run_told : ∀ (l : List Step) (dn : Bool) (L : List KVx) (b : Nat), b + 200 * l.length ≤ 1000000 → Small b L → (∀ s ∈ l, s.f1.size ≤ 200 ∧ s.f2.size ≤ 200) →
    ∃ az st, runF dn L l = some (az, st) ∧ (∀ a ∈ az, Few a) ∧ az.length ≤ l.length ∧ ∀ dn' L', st = some (dn', L') → az.length = l.length ∧ Small (b + 200 * l.length) L'
  | [], dn, L, b, _, h, _ => ⟨[], some (dn, L), rfl, by simp, by simp, fun dn' L' e => by injection e with e; injection e with e1 e2; subst e1 e2; exact ⟨rfl, h.mono (by simp)⟩⟩
  | s :: r, dn, L, b, hb, h, hs => by
    have hs0 := hs s (by simp)
    rw [List.length_cons] at hb
    rw [runF]
    rcases step_told dn L s b (by omega) h hs0.1 hs0.2 with ⟨e1, e2⟩ | ⟨T, is, P, dn', L', e, hL', hP⟩
    · rw [e1]
      refine ⟨[], none, ?_, by simp, by simp, fun _ _ e => by cases e⟩
      show (if stepX dn L s = true then some (([] : List Ans), none) else none) = _
      rw [if_pos e2]
    · rw [e]
      obtain ⟨az, st, hr, hf, hl, hst⟩ := run_told r dn' L' (b + 200) (by omega) hL' (fun x hx => hs x (List.mem_cons_of_mem _ hx))
      refine ⟨⟨T, is, 0, [], P⟩ :: az, st, ?_, ?_, by simp; exact hl, fun dn2 L2 e2 => ?_⟩
      · show (runF dn' L' r).map _ = _
        rw [hr]; rfl
      · intro a ha
        rcases List.mem_cons.1 ha with rfl | ha
        · exact ⟨rfl, by show P.length ≤ _; omega⟩
        · exact hf a ha
      · obtain ⟨k1, k2⟩ := hst dn2 L2 e2
        exact ⟨by simp; exact k1, k2.mono (by simp; omega)⟩
theorem end_told {st : Option (Bool × List KVx)} {b : Nat} (hb : b ≤ 1000000) (h : ∀ dn L, st = some (dn, L) → Small b L) : ∃ t, ∀ acc, endF acc st = some (acc, t, st.isSome) := by
  cases st with
  | none => exact ⟨_, fun acc => rfl⟩
  | some y =>
    obtain ⟨dn, L⟩ := y
    have hL := h dn L rfl
    have := hL.size
    have := hL.1
    exact ⟨_, fun acc => if_pos ⟨by omega, hL.rg, by omega⟩⟩
end Go.Proofs.Ytoimkmoalmmooaa.Own
set_option linter.unusedVariables false
set_option linter.unusedSimpArgs false
namespace Go.Proofs.Ytoimkmoalmmooaa.Own
open Go.RowKit Go.Proofs.YtoimkmoalmmooaaW.PrintWords Go.Proofs.YtoimkmoalmmooaaW.PrintLast Go.Proofs.YtoimkmoalmmooaaW.PrintMore Go.Proofs.Ytoimkmoalmmooaa.Base Go.Proofs.Ytoimkmoalmmooaa.Gv Go.Proofs.Ytoimkmoalmmooaa.Given Go.Proofs.Ytoimkmoalmmooaa.QA
theorem eqB_self (k : List Int) : eqB k k = true := by unfold eqB; exact beq_self_eq_true _
theorem script_cons {dn : Bool} {L : List KVx} {acc : List Ans} {s : Step} {r : List Step} {T : ByteArray} {is : Bool} {P : List Pair} {dn' : Bool} {L' : List KVx} (h : stepF dn L s = some ((T, is, P), dn', L')) : scriptF dn L acc (s :: r) = scriptF dn' L' (acc ++ [⟨T, is, 0, [], P⟩]) r := by
  rw [scriptF, h]
end Go.Proofs.Ytoimkmoalmmooaa.Own
set_option linter.unusedVariables false
namespace Go.Proofs.Ytoimkmoalmmooaa.Pure
open Go.RowKit Go.Proofs.Ytoimkmoalmmooaa.QA Go.Proofs.YtoimkmoalmmooaaW.PrintWords Go.Proofs.YtoimkmoalmmooaaW.PrintLast Go.Proofs.YtoimkmoalmmooaaW.PrintMore Go.Proofs.Ytoimkmoalmmooaa.Base Go.Proofs.Ytoimkmoalmmooaa.Given Go.Proofs.Ytoimkmoalmmooaa.Gv Go.Proofs.Ytoimkmoalmmooaa.Own
theorem script_is {l : List Step} {r : List Ans × ByteArray × Bool} (hl : l.length ≤ 1000000000) (h : scriptF false [] [] l = some r) : impl_TrailerScript.f l = some r := by
  unfold impl_TrailerScript.f
  rw [if_pos hl]; exact h
end Go.Proofs.Ytoimkmoalmmooaa.Pure
set_option linter.unusedVariables false
namespace Go.Proofs.Ytoimkmoalmmooaa.Pure
open Go.RowKit Go.Proofs.Ytoimkmoalmmooaa.QA Go.Proofs.YtoimkmoalmmooaaW.PrintWords Go.Proofs.YtoimkmoalmmooaaW.PrintLast Go.Proofs.YtoimkmoalmmooaaW.PrintMore Go.Proofs.Ytoimkmoalmmooaa.Base Go.Proofs.Ytoimkmoalmmooaa.Given Go.Proofs.Ytoimkmoalmmooaa.Gv Go.Proofs.Ytoimkmoalmmooaa.Own
theorem add_get_script : ∃ T, scriptF false [] [] [⟨1, ⟨#[120, 45, 97]⟩, ⟨#[98]⟩, 0, 0⟩, ⟨3, ⟨#[88, 45, 65]⟩, ⟨#[]⟩, 0, 0⟩] = some ([⟨⟨#[]⟩, true, 0, [], []⟩, ⟨⟨#[98]⟩, false, 0, [], []⟩], T, true) := by
  have hk : ns (⟨#[88, 45, 65]⟩ : ByteArray) = [88, 45, 65] := by decide
  have hk2 : ns (⟨#[120, 45, 97]⟩ : ByteArray) = [120, 45, 97] := by decide
  have hb : ns (⟨#[98]⟩ : ByteArray) = [98] := by decide
  have hn : nk [88, 45, 65] = [88, 45, 65] := by decide
  have hn2 : nk [120, 45, 97] = [88, 45, 65] := by decide
  have e1 : stepF false [] ⟨1, ⟨#[120, 45, 97]⟩, ⟨#[98]⟩, 0, 0⟩ = some ((⟨#[]⟩, true, []), false, [⟨[88, 45, 65], [98], false⟩]) := by
    rw [stepF_1 false [] _ rfl (by simp) (by decide) (by decide) (by decide) (by
      show badK (nk (ns (⟨#[120, 45, 97]⟩ : ByteArray))) = false
      rw [hk2, hn2]; exact badK_x (by decide))]
    show some (_, _, [] ++ [(⟨nk (ns (⟨#[120, 45, 97]⟩ : ByteArray)), ns (⟨#[98]⟩ : ByteArray), false⟩ : KVx)]) = _
    rw [hk2, hn2, hb]; rfl
  have e3 : stepF false [⟨[88, 45, 65], [98], false⟩] ⟨3, ⟨#[88, 45, 65]⟩, ⟨#[]⟩, 0, 0⟩ = some ((⟨#[98]⟩, false, []), false, [⟨[88, 45, 65], [98], false⟩]) := by
    rw [stepF_3 _ _ _ rfl (by simp) (by decide) (by decide)]
    show some ((strOfNums ((getKV (nk (ns (⟨#[88, 45, 65]⟩ : ByteArray))) [(⟨[88, 45, 65], [98], false⟩ : KVx)]).getD []), false, ([] : List Pair)), false, [(⟨[88, 45, 65], [98], false⟩ : KVx)]) = _
    rw [hk, hn, show getKV [88, 45, 65] [⟨[88, 45, 65], [98], false⟩] = some [98] from by simp [getKV, eqB_self]]
    rfl
  rw [script_cons e1, script_cons e3, scriptF, if_pos ⟨by simp, by decide, by decide⟩]
  exact ⟨_, rfl⟩
theorem few_fits {az : List Ans} (h : ∀ a ∈ az, Few a) : ∀ x ∈ az, x.f3.length ≤ 4611686018427387904 ∧ x.f4.length ≤ 4611686018427387904 := fun x hx => by
  obtain ⟨h1, h2⟩ := h x hx
  rw [h1]
  exact ⟨by simp, by omega⟩
theorem small0 : Small 0 [] := ⟨by simp, fun x hx => by simp at hx⟩
theorem ahead (l more : List Step) (hl : l.length ≤ 40) (hm : more.length ≤ 40) (hs : ∀ s ∈ l, s.f1.size ≤ 200 ∧ s.f2.size ≤ 200) (hs2 : ∀ s ∈ more, s.f1.size ≤ 200 ∧ s.f2.size ≤ 200) :
    ∃ az t ok bz u is, scriptF false [] [] l = some (az, t, ok) ∧ scriptF false [] [] more = some (bz, u, is) ∧ (∀ a ∈ az, Few a) ∧ (∀ a ∈ bz, Few a) ∧ az.length ≤ 40 ∧ bz.length ≤ 40 ∧ (ok = true → az.length = l.length) ∧
      scriptF false [] [] ((l ++ [⟨11, ⟨#[]⟩, ⟨#[]⟩, 0, 0⟩]) ++ more) = some (if ok = true then (az ++ (⟨⟨#[]⟩, false, 0, [], []⟩ : Ans) :: bz, u, is) else (az, ⟨#[]⟩, false)) := by
  obtain ⟨az, st, hr, hf, hal, hst⟩ := run_told l false [] 0 (by omega) small0 hs
  obtain ⟨bz, st2, hr2, hf2, hbl, hst2⟩ := run_told more false [] 0 (by omega) small0 hs2
  obtain ⟨t, ht⟩ := end_told (st := st) (b := 0 + 200 * l.length) (by omega) (fun dn L e => (hst dn L e).2)
  obtain ⟨u, hu⟩ := end_told (st := st2) (b := 0 + 200 * more.length) (by omega) (fun dn L e => (hst2 dn L e).2)
  refine ⟨az, t, st.isSome, bz, u, st2.isSome, ?_, ?_, hf, hf2, by omega, by omega, fun e => ?_, ?_⟩
  · rw [script_run, hr]; exact ht az
  · rw [script_run, hr2]; exact hu bz
  · cases st with
    | none => cases e
    | some y => exact (hst y.1 y.2 rfl).1
  · rw [script_run, List.append_assoc, run_append, hr]
    cases st with
    | none => rfl
    | some y =>
      obtain ⟨dn1, L1⟩ := y
      have hL1 := (hst dn1 L1 rfl).2
      have hL1l := hL1.1
      have e11 : stepF dn1 L1 ⟨11, ⟨#[]⟩, ⟨#[]⟩, 0, 0⟩ = some ((⟨#[]⟩, false, []), false, []) := by
        have hz : (⟨#[]⟩ : ByteArray).size = 0 := rfl
        unfold stepF
        rw [if_neg (by rw [hz]; omega), if_neg (by decide), if_neg (by decide), if_neg (by decide), if_neg (by decide), if_neg (by decide), if_neg (by decide), if_neg (by decide), if_neg (by decide), if_neg (by decide), if_pos rfl]
      show ((runF dn1 L1 (⟨11, ⟨#[]⟩, ⟨#[]⟩, 0, 0⟩ :: more)).map fun y => (az ++ y.1, y.2)).bind (fun x => endF ([] ++ x.1) x.2) = _
      rw [runF, e11]
      show ((((runF false [] more).map fun x => ((⟨⟨#[]⟩, false, 0, [], []⟩ : Ans) :: x.1, x.2)).map fun y => (az ++ y.1, y.2)).bind fun x => endF ([] ++ x.1) x.2) = _
      rw [hr2]
      exact hu _
theorem FnTrailersAhead : laws_FnTrailersAhead.Pure := by
  intro l more hl0 hm0
  refine Ev.rounds ?_
  unfold laws_FnTrailersAhead.f
  have s0t : Ev (fun k => laws_FnTrailersAhead.j0 k l more true) true := Ev.step (f := fun _ => some true) (fun k => rfl) (Ev.now _)
  have s2t : Ev (fun k => laws_FnTrailersAhead.j2 k l more true) true := Ev.step (f := fun _ => some true) (fun k => rfl) (Ev.now _)
  refine Ev.bind (fits3_ends l) (Ev.ite (fun hfl => Ev.bind (fits3_ends more) ?_) (fun _ => s0t))
  cases hfm : fits3 more with
  | false => exact s0t
  | true =>
  obtain ⟨l1, l2⟩ := fits3_mem hfl
  obtain ⟨m1, m2⟩ := fits3_mem hfm
  obtain ⟨T1, x1⟩ := add_get_script
  refine Ev.step (f := _) (fun k => by simp only [laws_FnTrailersAhead.j0]; rw [if_neg (by simp)]) ?_
  refine Ev.call (script_is (by decide) x1) (Ev.if_true rfl (Ev.if_true rfl (Ev.if_true (by show (1 : Int) < ((2 : Nat) : Int); decide) ?_)))
  refine Ev.step (f := _) (fun k => by simp only [laws_FnTrailersAhead.j1]; rw [if_neg (by decide +kernel)]) ?_
  refine Ev.bind (calm_ends l l1 l2) (Ev.ite (fun hcl => Ev.bind (calm_ends more m1 m2) ?_) (fun _ => s2t))
  cases hcm : isCalm more with
  | false => exact s2t
  | true =>
  obtain ⟨c1, c2⟩ := calm_mem hcl
  obtain ⟨d1, d2⟩ := calm_mem hcm
  obtain ⟨az, t, ok, bz, u, is, h1, h2, hf1, hf2, ha40, hb40, hok, h3⟩ := ahead l more c1 d1 (fun s hs => ⟨by have := (c2 s hs).1; omega, (c2 s hs).2.1⟩) (fun s hs => ⟨by have := (d2 s hs).1; omega, (d2 s hs).2.1⟩)
  refine Ev.step (f := _) (fun k => by simp only [laws_FnTrailersAhead.j2]; rw [if_neg (by simp)]) ?_
  refine Ev.call (script_is (by omega) h1) (Ev.call (script_is (by omega) h2) (Ev.call (a := ([] : List Step)) rfl (Ev.if_true (by simp; omega) (Ev.call (a := l) rfl (Ev.if_true (by omega) (Ev.call (a := l ++ [⟨11, ⟨#[]⟩, ⟨#[]⟩, 0, 0⟩]) rfl (Ev.if_true (by rw [List.length_append]; simp; omega) (Ev.call (script_is (by rw [List.length_append, List.length_append]; simp; omega) h3) ?_))))))))
  cases ok with
  | false =>
    rw [if_neg (by simp)]
    exact Ev.if_false (by simp) (Ev.if_false (by simp) (Ev.bind (sameAnswers_self az (by omega) (few_fits hf1)) (Ev.now _)))
  | true =>
    have hal := hok rfl
    rw [if_pos rfl]
    have w1 : wrap64 ((l.length : Int) + 1) = ((l.length + 1 : Nat) : Int) := by unfold wrap64; omega
    have w2 : wrap64 (((l.length + 1 : Nat) : Int) + (bz.length : Int)) = ((l.length + 1 + bz.length : Nat) : Int) := by unfold wrap64; omega
    obtain ⟨x, hx⟩ : ∃ x : Ans, (⟨⟨#[]⟩, false, 0, [], []⟩ : Ans) = x := ⟨_, rfl⟩
    rw [hx]
    have hlen : (az ++ x :: bz).length = l.length + 1 + bz.length := by rw [List.length_append, List.length_cons]; omega
    have ht : (az ++ x :: bz).take ((l.length : Int).toNat) = az := by rw [Int.toNat_natCast, ← hal]; simp
    have hd : (az ++ x :: bz).drop (((l.length + 1 : Nat) : Int).toNat) = bz := by
      rw [Int.toNat_natCast, ← hal, show az ++ x :: bz = (az ++ [x]) ++ bz from by simp, show az.length + 1 = (az ++ [x]).length from by simp, List.drop_left]
    simp only [w1, w2]
    refine Ev.if_true trivial (Ev.if_true (by simp) (Ev.if_true trivial (Ev.if_true (by show (((az ++ x :: bz).length : Nat) : Int) = _; rw [hlen]) (Ev.if_true (by omega) (Ev.if_true (by show (l.length : Int) ≤ (((az ++ x :: bz).length : Nat) : Int); rw [hlen]; omega) ?_)))))
    show Ev (fun k => (laws_sameAnswers.f k az ((az ++ x :: bz).take ((l.length : Int).toNat))).bind _) true
    rw [ht]
    refine Ev.bind (sameAnswers_self az (by omega) (few_fits hf1)) (Ev.if_true rfl (Ev.if_true (by omega) (Ev.if_true (by show ((l.length + 1 : Nat) : Int) ≤ (((az ++ x :: bz).length : Nat) : Int); rw [hlen]; omega) ?_)))
    show Ev (fun k => (laws_sameAnswers.f k bz ((az ++ x :: bz).drop (((l.length + 1 : Nat) : Int).toNat))).bind _) true
    rw [hd]
    exact Ev.bind (sameAnswers_self bz (by omega) (few_fits hf2)) (Ev.now _)
end Go.Proofs.Ytoimkmoalmmooaa.Pure
